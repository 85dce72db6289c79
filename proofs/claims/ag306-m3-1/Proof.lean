import JvmDerived
import JvmDerived.Pilot.@@N@@Statement
import JvmDerived.Pilot.@@N@@Code
set_option linter.unusedVariables false
set_option linter.unusedSimpArgs false
namespace Jvm.RoadKit
open Sem ClassFile Op Lib Jvm.Stand Jvm.Free Jvm.LawKit
section New
variable {p : Program} {l : Launch} {e : Env} {R : Room} {s : State} {m : MethodId} {args : Array Value} {below : List Frame} {meth : Method} {c : Code} {T : State} {locs : List Loc} {cells slots : Nat}
theorem retI (X : Stand p l e R s m args below meth c T locs cells slots) (hx : p.tables.exec = Jvm.exec) {pc : Nat} {Ls : Array Slot} {z : Int32} {rest : List Value} (hret : meth.sig.returnType = some .int) (hd : decode c.code pc = .ok (.ireturn, 1)) {fs : List Frame}
    (hl : ∀ (f : JFrame) (acts : List Action), f.method = m → f.locked = none → f.entered = [] → (doReturn e (T.setTop f) acts (some (.int z))).1 = T.setFrames fs) : Steps p.tables e below (T.setTop (mkF m pc Ls (.int z :: rest))) (T.setFrames fs) := by
  have hm' : T.vm.method? m = some meth := X.method'
  have hn : narrow .int (.int z) = .int z := rfl
  show Steps p.tables e below (T.setTop { method := m, pc := pc, locals := Ls, stack := _ :: rest, locked := none }) _
  jvm_step X.here [X.here.top, hx, hd, hm', hret, hn]
  first | (intro acts; rw [hl _ acts rfl rfl rfl]) | rw [hl _ _ rfl rfl rfl]
  exact Steps.refl _
end New
end Jvm.RoadKit
namespace Jvm.Pilot.@@N@@
open Jvm Jvm.ClassFile Sem Op Lib Jvm.Free Jvm.Stand Jvm.LawKit Jvm.RoadKit Bundle Jvm.Pilot.@@N@@.Jvm.D
abbrev lv (x : Int64) : Slot := .val (.long x)
theorem im (i : Nat) {d : Jvm.Cond} (h : tables_1[i]? = some d) : d ∈ tables_1 := List.mem_of_getElem? h
theorem own_go {tb : Tables} {e : Env} {below : List Frame} {S S' S0 : State} (P : ∀ t, Steps tb e below S t → Steps tb e below S0 t) (f : ∀ t, Steps tb e below S' t → Steps tb e below S t) : ∀ t, Steps tb e below S' t → Steps tb e below S0 t := fun t k => P t (f t k)
theorem own_sn {Z : State} {a0 : Array Value} {K O n d O' n' d' : String} (L : Laid Z a0 K O n d) (L' : Laid Z a0 K O' n' d') (hn : n ≠ n' := by decide) (ht : (parseFieldDescriptor d).isSome = true := by decide) (ht' : (parseFieldDescriptor d').isSome = true := by decide) : Jvm.RoadKit.slotOf Z O n d ≠ Jvm.RoadKit.slotOf Z O' n' d' := by
  obtain ⟨t, e⟩ := Option.isSome_iff_exists.mp ht
  obtain ⟨t', e'⟩ := Option.isSome_iff_exists.mp ht'
  exact slot_ne L L' hn e e'
theorem pn_0 : plainName "com/example/millstep/millstep/BatchStatusIsRunningPinLaw" = true := by first | (simp [plainName, overriddenIn]; done) | decide +kernel
theorem d1_0 : decode prog_1_method_4_code 0 = .ok (.aload_n 0, 1) := by decide +kernel
theorem d1_1 : decode prog_1_method_4_code 1 = .ok (.invokevirtual 38, 3) := by decide +kernel
theorem d1_4 : decode prog_1_method_4_code 4 = .ok (.tableswitch 36 0 4 #[46, 46, 50, 50, 50], 36) := by decide +kernel
theorem d1_40 : decode prog_1_method_4_code 40 = .ok (.new 42, 3) := by decide +kernel
theorem d1_43 : decode prog_1_method_4_code 43 = .ok (.dup, 1) := by decide +kernel
theorem d1_44 : decode prog_1_method_4_code 44 = .ok (.aconst_null, 1) := by decide +kernel
theorem d1_45 : decode prog_1_method_4_code 45 = .ok (.aconst_null, 1) := by decide +kernel
theorem d1_46 : decode prog_1_method_4_code 46 = .ok (.invokespecial 44, 3) := by decide +kernel
theorem d1_49 : decode prog_1_method_4_code 49 = .ok (.athrow, 1) := by decide +kernel
theorem d1_50 : decode prog_1_method_4_code 50 = .ok (.iconst 1, 1) := by decide +kernel
theorem d1_51 : decode prog_1_method_4_code 51 = .ok (.goto 4, 3) := by decide +kernel
theorem d1_54 : decode prog_1_method_4_code 54 = .ok (.iconst 0, 1) := by decide +kernel
theorem d1_55 : decode prog_1_method_4_code 55 = .ok (.ireturn, 1) := by decide +kernel
theorem pn_1 : plainName "com/example/millstep/millstep/BatchStatus" = true := by first | (simp [plainName, overriddenIn]; done) | decide +kernel
theorem d2_0 : decode jdk_37_method_2_code 0 = .ok (.aload_n 0, 1) := by decide +kernel
theorem d2_1 : decode jdk_37_method_2_code 1 = .ok (.getfield 7, 3) := by decide +kernel
theorem d2_4 : decode jdk_37_method_2_code 4 = .ok (.ireturn, 1) := by decide +kernel
theorem pn_2 : plainName "java/lang/Enum" = true := by first | (simp [plainName, overriddenIn]; done) | decide +kernel
theorem pd_0 : parseMethodDescriptor "()I" = some ⟨[], some .int⟩ := by decide +kernel
theorem pd_1 : parseMethodDescriptor "()Z" = some ⟨[], some .boolean⟩ := by decide +kernel

def Q2 (Z : State) (x0 : Addr) (w : Int32) (h0 : Heap) (n0 : Nat) (v : Option Value) (h : Heap) (L : List Loc) : Prop := v = some (.int w) ∧ Fr n0 L ∧ h = h0
theorem ef_2 (m : MethodId) (x0 : Addr) : entryFrame m #[(.ref x0)] 1 = mkF m 0 #[rv x0] [] := by first | (simp [entryFrame, mkF, argsToLocals, Value.category]; done) | rfl
set_option maxRecDepth 65536 in
set_option maxHeartbeats 40000000 in
theorem rm2 (l : Launch) (Z : State) (a0 : Array Value) (hw : ∀ d ∈ tables_1, d.before a0 Z = true) (ws : List Jvm.Cond) (x0 : Addr) (w : Int32) (h0 : Heap) (n0 : Nat) (Z0 : n0 ≤ h0.size) (pre_F_x0_ordinal : Fld Z h0 x0 "java/lang/Enum" "ordinal" "I" (.int w)) :
    MetFree l (⟨"java/lang/Enum", "ordinal", "()I"⟩ : MethodName) (head1 (Jvm.Cond.code (⟨"java/lang/Enum", "ordinal", "()I"⟩ : MethodName) jdk_37_method_2_code 1 (some .int) :: ws) ({ frames := 0, cells := 0, slots := 0, locals := 0 } : Room)) (fun a U => a = #[(.ref x0)] ∧ Z.Warmed39 U.vm ∧ U.heap = h0) (fun _ _ _ _ _ => True) (fun _ U o U' => ∃ v L, o = .returned v ∧ Q2 Z x0 w h0 n0 v U'.heap L ∧ FrameEnd U o U' L ({ frames := 0, cells := 0, slots := 0, locals := 0 } : Room).cells ({ frames := 0, cells := 0, slots := 0, locals := 0 } : Room).slots) := by
  refine MetFree.of_bodySF (plainFor_of_name pn_2) hisR ?_
  intro p e s m args below meth c s₁ Bd hml0 hP hK
  obtain ⟨rfl, hZ, hh⟩ := hP
  have hx := Bd.exec
  have hby := Bd.bytes
  have hml : c.maxLocals = 1 := hml0
  have hown : s.vm.findClass "java/lang/Enum" = some m.cls := findClass_of_methodNamed Bd.named
  have hnm := (name_of_methodNamed Bd.named Bd.method).1
  have X0 : Stand p l e ({ frames := 0, cells := 0, slots := 0, locals := 0 } : Room) s m #[(.ref x0)] below meth c s₁ [] 0 0 := Stand.of_body Bd
  have e0 : s₁.heap = h0 := by rw [← hh, Bd.state]; rfl
  have N0 := Fr.nil n0
  have Kp0 := Keep.refl h0 []
  have P0 : ∀ t, Steps p.tables e below (s₁.setTop (mkF m 0 #[rv x0] [])) t → Steps p.tables e below (s₁.setTop (entryFrame m #[(.ref x0)] 1)) t := fun t k => castTop (ef_2 m x0) k
  obtain ⟨T1, X1, e1, st1⟩ := getF X0 hx hZ hown (host := "") (Or.inl (hw _ (im 16 rfl))) Via.refl e0 pre_F_x0_ordinal (g := (mkF m 1 #[rv x0] [(.ref x0)])) rfl rfl (hb hby d2_1)
  have P2 := own_go P0 (S' := T1.setTop (mkF m 4 #[rv x0] [(.int w)])) (by
    intro t k
    refine XS.aloadN X0.here hx rfl (hb hby d2_0) rfl rfl ?_
    refine st1 _ ?_
    exact k)
  obtain ⟨fs, hr, hrun, hended, hW, hsame⟩ := X1.leave (v := some (.int w)) (fun h => by rw [Bd.returns] at h; cases h)
  refine ⟨_, _, P2 _ ?_, hrun, hended, _, _, rfl, ?_, ⟨_, rfl⟩, hW, hsame.mono (by decide) (by decide)⟩
  · show Steps p.tables e below (T1.setTop (mkF m 4 #[rv x0] [(.int w)])) _
    exact retI X1 hx Bd.returns (hb hby d2_4) hr
  · show Q2 Z x0 w h0 n0 _ T1.heap _
    rw [e1]
    exact ⟨rfl, N0, rfl⟩
def Q1_0 (Z : State) (x0 : Addr) (h0 : Heap) (n0 : Nat) (v : Option Value) (h : Heap) (L : List Loc) : Prop := v = some (.int 1) ∧ Fr n0 L ∧ h = h0
theorem ef_1_0 (m : MethodId) (x0 : Addr) : entryFrame m #[(.ref x0)] 1 = mkF m 0 #[rv x0] [] := by first | (simp [entryFrame, mkF, argsToLocals, Value.category]; done) | rfl
set_option maxRecDepth 65536 in
set_option maxHeartbeats 40000000 in
theorem rm1_0 (l : Launch) (Z : State) (a0 : Array Value) (hw : ∀ d ∈ tables_1, d.before a0 Z = true) (ws : List Jvm.Cond) (x0 : Addr) (h0 : Heap) (n0 : Nat) (Z0 : n0 ≤ h0.size) (pre_E_x0 : Exa Z h0 x0 "com/example/millstep/millstep/BatchStatus") (pre_F_x0_ordinal : Fld Z h0 x0 "java/lang/Enum" "ordinal" "I" (.int 0)) :
    MetFree l (⟨"com/example/millstep/millstep/BatchStatus", "isRunning", "()Z"⟩ : MethodName) (head1 (Jvm.Cond.code (⟨"com/example/millstep/millstep/BatchStatus", "isRunning", "()Z"⟩ : MethodName) prog_1_method_4_code 1 (some .boolean) :: ws) ({ frames := 1, cells := 0, slots := 0, locals := 12 } : Room)) (fun a U => a = #[(.ref x0)] ∧ Z.Warmed39 U.vm ∧ U.heap = h0) (fun _ _ _ _ _ => True) (fun _ U o U' => ∃ v L, o = .returned v ∧ Q1_0 Z x0 h0 n0 v U'.heap L ∧ FrameEnd U o U' L ({ frames := 1, cells := 0, slots := 0, locals := 12 } : Room).cells ({ frames := 1, cells := 0, slots := 0, locals := 12 } : Room).slots) := by
  refine MetFree.of_bodySF (plainFor_of_name pn_1) hisR ?_
  intro p e s m args below meth c s₁ Bd hml0 hP hK
  obtain ⟨rfl, hZ, hh⟩ := hP
  have hx := Bd.exec
  have hby := Bd.bytes
  have hml : c.maxLocals = 1 := hml0
  have hown : s.vm.findClass "com/example/millstep/millstep/BatchStatus" = some m.cls := findClass_of_methodNamed Bd.named
  have hnm := (name_of_methodNamed Bd.named Bd.method).1
  have X0 : Stand p l e ({ frames := 1, cells := 0, slots := 0, locals := 12 } : Room) s m #[(.ref x0)] below meth c s₁ [] 0 0 := Stand.of_body Bd
  have e0 : s₁.heap = h0 := by rw [← hh, Bd.state]; rfl
  have N0 := Fr.nil n0
  have Kp0 := Keep.refl h0 []
  have P0 : ∀ t, Steps p.tables e below (s₁.setTop (mkF m 0 #[rv x0] [])) t → Steps p.tables e below (s₁.setTop (entryFrame m #[(.ref x0)] 1)) t := fun t k => castTop (ef_1_0 m x0) k
  obtain ⟨cq1, kq1, q1a, q1b, q1c⟩ := isOf hZ e0 pre_E_x0
  obtain ⟨_, _, ⟨T1, L1, k1, n1⟩, -, X1, ⟨Lc1, hQ1, l1, y1, z1⟩, st1⟩ := X0.virtualBackUp hx (C := "com/example/millstep/millstep/BatchStatus") (owner := "java/lang/Enum") (x := (⟨"com/example/millstep/millstep/BatchStatus", "ordinal", "()I"⟩ : MethodName)) (y := (⟨"java/lang/Enum", "ordinal", "()I"⟩ : MethodName)) hown (mvT hZ (hw _ (im 9 rfl))) (mvT hZ (hw _ (im 10 rfl))) (mvT hZ (hw _ (im 11 rfl))) (by decide) (mvT hZ (hw _ (im 13 rfl))) (mvT hZ (hw _ (im 12 rfl))) (backOf (W := 0) (rm2 l Z a0 hw [] x0 (0 : Int32) h0 n0 Z0 pre_F_x0_ordinal) hZ (hw _ (im 15 rfl)) (hw _ (im 14 rfl)) (by decide) (by decide)) q1a q1c (g := (mkF m 1 #[rv x0] [(.ref x0)])) rfl (by rw [hml]; rfl) (Steps.refl _) (argsL := []) (rest := []) (lenOf pd_0 rfl) rfl (by show 2 * 0 + _ ≤ _; exact Nat.le_of_eq rfl) (hb hby d1_1) (fun _ _ => ⟨rfl, e0, (by decide : 0 + 0 ≤ _), (by decide : 0 + 0 ≤ _)⟩)
  dsimp only [Pt.U, Pt.locs, Pt.cells, Pt.slots] at X1 l1 y1 z1 st1 hQ1
  subst l1 y1 z1
  obtain ⟨rfl, N1q, e1⟩ := hQ1
  have N1 := Fr.app N0 N1q
  have P2 := own_go P0 (S' := T1.setTop (mkF m 55 #[rv x0] [(.int 1)])) (by
    intro t k
    refine XS.aloadN X0.here hx rfl (hb hby d1_0) rfl rfl ?_
    refine st1.trans ?_
    refine XS.tswIn X1.here hx rfl (pc0 := 4) (pc' := 50) (o := 46) rfl (hb hby d1_4) rfl (by decide) (by decide) (by decide) (by decide) ?_
    refine XS.iconst X1.here hx rfl (hb hby d1_50) ?_
    refine XS.goto X1.here hx rfl (pc0 := 51) (pc' := 55) rfl (hb hby d1_51) (by decide) (by decide) ?_
    exact k)
  obtain ⟨fs, hr, hrun, hended, hW, hsame⟩ := X1.leave (v := some (.int 1)) (fun h => by rw [Bd.returns] at h; cases h)
  refine ⟨_, _, P2 _ ?_, hrun, hended, _, _, rfl, ?_, ⟨_, rfl⟩, hW, hsame.mono (by decide) (by decide)⟩
  · show Steps p.tables e below (T1.setTop (mkF m 55 #[rv x0] [(.int 1)])) _
    exact retN X1 hx (t := .boolean) Bd.returns (by simp) (hb hby d1_55) hr
  · show Q1_0 Z x0 h0 n0 _ T1.heap _
    rw [e1]
    exact ⟨rfl, N1, rfl⟩
def Q1_1 (Z : State) (x0 : Addr) (h0 : Heap) (n0 : Nat) (v : Option Value) (h : Heap) (L : List Loc) : Prop := v = some (.int 1) ∧ Fr n0 L ∧ h = h0
theorem ef_1_1 (m : MethodId) (x0 : Addr) : entryFrame m #[(.ref x0)] 1 = mkF m 0 #[rv x0] [] := by first | (simp [entryFrame, mkF, argsToLocals, Value.category]; done) | rfl
set_option maxRecDepth 65536 in
set_option maxHeartbeats 40000000 in
theorem rm1_1 (l : Launch) (Z : State) (a0 : Array Value) (hw : ∀ d ∈ tables_1, d.before a0 Z = true) (ws : List Jvm.Cond) (x0 : Addr) (h0 : Heap) (n0 : Nat) (Z0 : n0 ≤ h0.size) (pre_E_x0 : Exa Z h0 x0 "com/example/millstep/millstep/BatchStatus") (pre_F_x0_ordinal : Fld Z h0 x0 "java/lang/Enum" "ordinal" "I" (.int 1)) :
    MetFree l (⟨"com/example/millstep/millstep/BatchStatus", "isRunning", "()Z"⟩ : MethodName) (head1 (Jvm.Cond.code (⟨"com/example/millstep/millstep/BatchStatus", "isRunning", "()Z"⟩ : MethodName) prog_1_method_4_code 1 (some .boolean) :: ws) ({ frames := 1, cells := 0, slots := 0, locals := 12 } : Room)) (fun a U => a = #[(.ref x0)] ∧ Z.Warmed39 U.vm ∧ U.heap = h0) (fun _ _ _ _ _ => True) (fun _ U o U' => ∃ v L, o = .returned v ∧ Q1_1 Z x0 h0 n0 v U'.heap L ∧ FrameEnd U o U' L ({ frames := 1, cells := 0, slots := 0, locals := 12 } : Room).cells ({ frames := 1, cells := 0, slots := 0, locals := 12 } : Room).slots) := by
  refine MetFree.of_bodySF (plainFor_of_name pn_1) hisR ?_
  intro p e s m args below meth c s₁ Bd hml0 hP hK
  obtain ⟨rfl, hZ, hh⟩ := hP
  have hx := Bd.exec
  have hby := Bd.bytes
  have hml : c.maxLocals = 1 := hml0
  have hown : s.vm.findClass "com/example/millstep/millstep/BatchStatus" = some m.cls := findClass_of_methodNamed Bd.named
  have hnm := (name_of_methodNamed Bd.named Bd.method).1
  have X0 : Stand p l e ({ frames := 1, cells := 0, slots := 0, locals := 12 } : Room) s m #[(.ref x0)] below meth c s₁ [] 0 0 := Stand.of_body Bd
  have e0 : s₁.heap = h0 := by rw [← hh, Bd.state]; rfl
  have N0 := Fr.nil n0
  have Kp0 := Keep.refl h0 []
  have P0 : ∀ t, Steps p.tables e below (s₁.setTop (mkF m 0 #[rv x0] [])) t → Steps p.tables e below (s₁.setTop (entryFrame m #[(.ref x0)] 1)) t := fun t k => castTop (ef_1_1 m x0) k
  obtain ⟨cq1, kq1, q1a, q1b, q1c⟩ := isOf hZ e0 pre_E_x0
  obtain ⟨_, _, ⟨T1, L1, k1, n1⟩, -, X1, ⟨Lc1, hQ1, l1, y1, z1⟩, st1⟩ := X0.virtualBackUp hx (C := "com/example/millstep/millstep/BatchStatus") (owner := "java/lang/Enum") (x := (⟨"com/example/millstep/millstep/BatchStatus", "ordinal", "()I"⟩ : MethodName)) (y := (⟨"java/lang/Enum", "ordinal", "()I"⟩ : MethodName)) hown (mvT hZ (hw _ (im 9 rfl))) (mvT hZ (hw _ (im 10 rfl))) (mvT hZ (hw _ (im 11 rfl))) (by decide) (mvT hZ (hw _ (im 13 rfl))) (mvT hZ (hw _ (im 12 rfl))) (backOf (W := 0) (rm2 l Z a0 hw [] x0 (1 : Int32) h0 n0 Z0 pre_F_x0_ordinal) hZ (hw _ (im 15 rfl)) (hw _ (im 14 rfl)) (by decide) (by decide)) q1a q1c (g := (mkF m 1 #[rv x0] [(.ref x0)])) rfl (by rw [hml]; rfl) (Steps.refl _) (argsL := []) (rest := []) (lenOf pd_0 rfl) rfl (by show 2 * 0 + _ ≤ _; exact Nat.le_of_eq rfl) (hb hby d1_1) (fun _ _ => ⟨rfl, e0, (by decide : 0 + 0 ≤ _), (by decide : 0 + 0 ≤ _)⟩)
  dsimp only [Pt.U, Pt.locs, Pt.cells, Pt.slots] at X1 l1 y1 z1 st1 hQ1
  subst l1 y1 z1
  obtain ⟨rfl, N1q, e1⟩ := hQ1
  have N1 := Fr.app N0 N1q
  have P2 := own_go P0 (S' := T1.setTop (mkF m 55 #[rv x0] [(.int 1)])) (by
    intro t k
    refine XS.aloadN X0.here hx rfl (hb hby d1_0) rfl rfl ?_
    refine st1.trans ?_
    refine XS.tswIn X1.here hx rfl (pc0 := 4) (pc' := 50) (o := 46) rfl (hb hby d1_4) rfl (by decide) (by decide) (by decide) (by decide) ?_
    refine XS.iconst X1.here hx rfl (hb hby d1_50) ?_
    refine XS.goto X1.here hx rfl (pc0 := 51) (pc' := 55) rfl (hb hby d1_51) (by decide) (by decide) ?_
    exact k)
  obtain ⟨fs, hr, hrun, hended, hW, hsame⟩ := X1.leave (v := some (.int 1)) (fun h => by rw [Bd.returns] at h; cases h)
  refine ⟨_, _, P2 _ ?_, hrun, hended, _, _, rfl, ?_, ⟨_, rfl⟩, hW, hsame.mono (by decide) (by decide)⟩
  · show Steps p.tables e below (T1.setTop (mkF m 55 #[rv x0] [(.int 1)])) _
    exact retN X1 hx (t := .boolean) Bd.returns (by simp) (hb hby d1_55) hr
  · show Q1_1 Z x0 h0 n0 _ T1.heap _
    rw [e1]
    exact ⟨rfl, N1, rfl⟩
def Q1_2 (Z : State) (x0 : Addr) (h0 : Heap) (n0 : Nat) (v : Option Value) (h : Heap) (L : List Loc) : Prop := v = some (.int 0) ∧ Fr n0 L ∧ h = h0
theorem ef_1_2 (m : MethodId) (x0 : Addr) : entryFrame m #[(.ref x0)] 1 = mkF m 0 #[rv x0] [] := by first | (simp [entryFrame, mkF, argsToLocals, Value.category]; done) | rfl
set_option maxRecDepth 65536 in
set_option maxHeartbeats 40000000 in
theorem rm1_2 (l : Launch) (Z : State) (a0 : Array Value) (hw : ∀ d ∈ tables_1, d.before a0 Z = true) (ws : List Jvm.Cond) (x0 : Addr) (h0 : Heap) (n0 : Nat) (Z0 : n0 ≤ h0.size) (pre_E_x0 : Exa Z h0 x0 "com/example/millstep/millstep/BatchStatus") (pre_F_x0_ordinal : Fld Z h0 x0 "java/lang/Enum" "ordinal" "I" (.int 2)) :
    MetFree l (⟨"com/example/millstep/millstep/BatchStatus", "isRunning", "()Z"⟩ : MethodName) (head1 (Jvm.Cond.code (⟨"com/example/millstep/millstep/BatchStatus", "isRunning", "()Z"⟩ : MethodName) prog_1_method_4_code 1 (some .boolean) :: ws) ({ frames := 1, cells := 0, slots := 0, locals := 12 } : Room)) (fun a U => a = #[(.ref x0)] ∧ Z.Warmed39 U.vm ∧ U.heap = h0) (fun _ _ _ _ _ => True) (fun _ U o U' => ∃ v L, o = .returned v ∧ Q1_2 Z x0 h0 n0 v U'.heap L ∧ FrameEnd U o U' L ({ frames := 1, cells := 0, slots := 0, locals := 12 } : Room).cells ({ frames := 1, cells := 0, slots := 0, locals := 12 } : Room).slots) := by
  refine MetFree.of_bodySF (plainFor_of_name pn_1) hisR ?_
  intro p e s m args below meth c s₁ Bd hml0 hP hK
  obtain ⟨rfl, hZ, hh⟩ := hP
  have hx := Bd.exec
  have hby := Bd.bytes
  have hml : c.maxLocals = 1 := hml0
  have hown : s.vm.findClass "com/example/millstep/millstep/BatchStatus" = some m.cls := findClass_of_methodNamed Bd.named
  have hnm := (name_of_methodNamed Bd.named Bd.method).1
  have X0 : Stand p l e ({ frames := 1, cells := 0, slots := 0, locals := 12 } : Room) s m #[(.ref x0)] below meth c s₁ [] 0 0 := Stand.of_body Bd
  have e0 : s₁.heap = h0 := by rw [← hh, Bd.state]; rfl
  have N0 := Fr.nil n0
  have Kp0 := Keep.refl h0 []
  have P0 : ∀ t, Steps p.tables e below (s₁.setTop (mkF m 0 #[rv x0] [])) t → Steps p.tables e below (s₁.setTop (entryFrame m #[(.ref x0)] 1)) t := fun t k => castTop (ef_1_2 m x0) k
  obtain ⟨cq1, kq1, q1a, q1b, q1c⟩ := isOf hZ e0 pre_E_x0
  obtain ⟨_, _, ⟨T1, L1, k1, n1⟩, -, X1, ⟨Lc1, hQ1, l1, y1, z1⟩, st1⟩ := X0.virtualBackUp hx (C := "com/example/millstep/millstep/BatchStatus") (owner := "java/lang/Enum") (x := (⟨"com/example/millstep/millstep/BatchStatus", "ordinal", "()I"⟩ : MethodName)) (y := (⟨"java/lang/Enum", "ordinal", "()I"⟩ : MethodName)) hown (mvT hZ (hw _ (im 9 rfl))) (mvT hZ (hw _ (im 10 rfl))) (mvT hZ (hw _ (im 11 rfl))) (by decide) (mvT hZ (hw _ (im 13 rfl))) (mvT hZ (hw _ (im 12 rfl))) (backOf (W := 0) (rm2 l Z a0 hw [] x0 (2 : Int32) h0 n0 Z0 pre_F_x0_ordinal) hZ (hw _ (im 15 rfl)) (hw _ (im 14 rfl)) (by decide) (by decide)) q1a q1c (g := (mkF m 1 #[rv x0] [(.ref x0)])) rfl (by rw [hml]; rfl) (Steps.refl _) (argsL := []) (rest := []) (lenOf pd_0 rfl) rfl (by show 2 * 0 + _ ≤ _; exact Nat.le_of_eq rfl) (hb hby d1_1) (fun _ _ => ⟨rfl, e0, (by decide : 0 + 0 ≤ _), (by decide : 0 + 0 ≤ _)⟩)
  dsimp only [Pt.U, Pt.locs, Pt.cells, Pt.slots] at X1 l1 y1 z1 st1 hQ1
  subst l1 y1 z1
  obtain ⟨rfl, N1q, e1⟩ := hQ1
  have N1 := Fr.app N0 N1q
  have P2 := own_go P0 (S' := T1.setTop (mkF m 55 #[rv x0] [(.int 0)])) (by
    intro t k
    refine XS.aloadN X0.here hx rfl (hb hby d1_0) rfl rfl ?_
    refine st1.trans ?_
    refine XS.tswIn X1.here hx rfl (pc0 := 4) (pc' := 54) (o := 50) rfl (hb hby d1_4) rfl (by decide) (by decide) (by decide) (by decide) ?_
    refine XS.iconst X1.here hx rfl (hb hby d1_54) ?_
    exact k)
  obtain ⟨fs, hr, hrun, hended, hW, hsame⟩ := X1.leave (v := some (.int 0)) (fun h => by rw [Bd.returns] at h; cases h)
  refine ⟨_, _, P2 _ ?_, hrun, hended, _, _, rfl, ?_, ⟨_, rfl⟩, hW, hsame.mono (by decide) (by decide)⟩
  · show Steps p.tables e below (T1.setTop (mkF m 55 #[rv x0] [(.int 0)])) _
    exact retN X1 hx (t := .boolean) Bd.returns (by simp) (hb hby d1_55) hr
  · show Q1_2 Z x0 h0 n0 _ T1.heap _
    rw [e1]
    exact ⟨rfl, N1, rfl⟩
def Q1_3 (Z : State) (x0 : Addr) (h0 : Heap) (n0 : Nat) (v : Option Value) (h : Heap) (L : List Loc) : Prop := v = some (.int 0) ∧ Fr n0 L ∧ h = h0
theorem ef_1_3 (m : MethodId) (x0 : Addr) : entryFrame m #[(.ref x0)] 1 = mkF m 0 #[rv x0] [] := by first | (simp [entryFrame, mkF, argsToLocals, Value.category]; done) | rfl
set_option maxRecDepth 65536 in
set_option maxHeartbeats 40000000 in
theorem rm1_3 (l : Launch) (Z : State) (a0 : Array Value) (hw : ∀ d ∈ tables_1, d.before a0 Z = true) (ws : List Jvm.Cond) (x0 : Addr) (h0 : Heap) (n0 : Nat) (Z0 : n0 ≤ h0.size) (pre_E_x0 : Exa Z h0 x0 "com/example/millstep/millstep/BatchStatus") (pre_F_x0_ordinal : Fld Z h0 x0 "java/lang/Enum" "ordinal" "I" (.int 3)) :
    MetFree l (⟨"com/example/millstep/millstep/BatchStatus", "isRunning", "()Z"⟩ : MethodName) (head1 (Jvm.Cond.code (⟨"com/example/millstep/millstep/BatchStatus", "isRunning", "()Z"⟩ : MethodName) prog_1_method_4_code 1 (some .boolean) :: ws) ({ frames := 1, cells := 0, slots := 0, locals := 12 } : Room)) (fun a U => a = #[(.ref x0)] ∧ Z.Warmed39 U.vm ∧ U.heap = h0) (fun _ _ _ _ _ => True) (fun _ U o U' => ∃ v L, o = .returned v ∧ Q1_3 Z x0 h0 n0 v U'.heap L ∧ FrameEnd U o U' L ({ frames := 1, cells := 0, slots := 0, locals := 12 } : Room).cells ({ frames := 1, cells := 0, slots := 0, locals := 12 } : Room).slots) := by
  refine MetFree.of_bodySF (plainFor_of_name pn_1) hisR ?_
  intro p e s m args below meth c s₁ Bd hml0 hP hK
  obtain ⟨rfl, hZ, hh⟩ := hP
  have hx := Bd.exec
  have hby := Bd.bytes
  have hml : c.maxLocals = 1 := hml0
  have hown : s.vm.findClass "com/example/millstep/millstep/BatchStatus" = some m.cls := findClass_of_methodNamed Bd.named
  have hnm := (name_of_methodNamed Bd.named Bd.method).1
  have X0 : Stand p l e ({ frames := 1, cells := 0, slots := 0, locals := 12 } : Room) s m #[(.ref x0)] below meth c s₁ [] 0 0 := Stand.of_body Bd
  have e0 : s₁.heap = h0 := by rw [← hh, Bd.state]; rfl
  have N0 := Fr.nil n0
  have Kp0 := Keep.refl h0 []
  have P0 : ∀ t, Steps p.tables e below (s₁.setTop (mkF m 0 #[rv x0] [])) t → Steps p.tables e below (s₁.setTop (entryFrame m #[(.ref x0)] 1)) t := fun t k => castTop (ef_1_3 m x0) k
  obtain ⟨cq1, kq1, q1a, q1b, q1c⟩ := isOf hZ e0 pre_E_x0
  obtain ⟨_, _, ⟨T1, L1, k1, n1⟩, -, X1, ⟨Lc1, hQ1, l1, y1, z1⟩, st1⟩ := X0.virtualBackUp hx (C := "com/example/millstep/millstep/BatchStatus") (owner := "java/lang/Enum") (x := (⟨"com/example/millstep/millstep/BatchStatus", "ordinal", "()I"⟩ : MethodName)) (y := (⟨"java/lang/Enum", "ordinal", "()I"⟩ : MethodName)) hown (mvT hZ (hw _ (im 9 rfl))) (mvT hZ (hw _ (im 10 rfl))) (mvT hZ (hw _ (im 11 rfl))) (by decide) (mvT hZ (hw _ (im 13 rfl))) (mvT hZ (hw _ (im 12 rfl))) (backOf (W := 0) (rm2 l Z a0 hw [] x0 (3 : Int32) h0 n0 Z0 pre_F_x0_ordinal) hZ (hw _ (im 15 rfl)) (hw _ (im 14 rfl)) (by decide) (by decide)) q1a q1c (g := (mkF m 1 #[rv x0] [(.ref x0)])) rfl (by rw [hml]; rfl) (Steps.refl _) (argsL := []) (rest := []) (lenOf pd_0 rfl) rfl (by show 2 * 0 + _ ≤ _; exact Nat.le_of_eq rfl) (hb hby d1_1) (fun _ _ => ⟨rfl, e0, (by decide : 0 + 0 ≤ _), (by decide : 0 + 0 ≤ _)⟩)
  dsimp only [Pt.U, Pt.locs, Pt.cells, Pt.slots] at X1 l1 y1 z1 st1 hQ1
  subst l1 y1 z1
  obtain ⟨rfl, N1q, e1⟩ := hQ1
  have N1 := Fr.app N0 N1q
  have P2 := own_go P0 (S' := T1.setTop (mkF m 55 #[rv x0] [(.int 0)])) (by
    intro t k
    refine XS.aloadN X0.here hx rfl (hb hby d1_0) rfl rfl ?_
    refine st1.trans ?_
    refine XS.tswIn X1.here hx rfl (pc0 := 4) (pc' := 54) (o := 50) rfl (hb hby d1_4) rfl (by decide) (by decide) (by decide) (by decide) ?_
    refine XS.iconst X1.here hx rfl (hb hby d1_54) ?_
    exact k)
  obtain ⟨fs, hr, hrun, hended, hW, hsame⟩ := X1.leave (v := some (.int 0)) (fun h => by rw [Bd.returns] at h; cases h)
  refine ⟨_, _, P2 _ ?_, hrun, hended, _, _, rfl, ?_, ⟨_, rfl⟩, hW, hsame.mono (by decide) (by decide)⟩
  · show Steps p.tables e below (T1.setTop (mkF m 55 #[rv x0] [(.int 0)])) _
    exact retN X1 hx (t := .boolean) Bd.returns (by simp) (hb hby d1_55) hr
  · show Q1_3 Z x0 h0 n0 _ T1.heap _
    rw [e1]
    exact ⟨rfl, N1, rfl⟩
def Q1_4 (Z : State) (x0 : Addr) (h0 : Heap) (n0 : Nat) (v : Option Value) (h : Heap) (L : List Loc) : Prop := v = some (.int 0) ∧ Fr n0 L ∧ h = h0
theorem ef_1_4 (m : MethodId) (x0 : Addr) : entryFrame m #[(.ref x0)] 1 = mkF m 0 #[rv x0] [] := by first | (simp [entryFrame, mkF, argsToLocals, Value.category]; done) | rfl
set_option maxRecDepth 65536 in
set_option maxHeartbeats 40000000 in
theorem rm1_4 (l : Launch) (Z : State) (a0 : Array Value) (hw : ∀ d ∈ tables_1, d.before a0 Z = true) (ws : List Jvm.Cond) (x0 : Addr) (h0 : Heap) (n0 : Nat) (Z0 : n0 ≤ h0.size) (pre_E_x0 : Exa Z h0 x0 "com/example/millstep/millstep/BatchStatus") (pre_F_x0_ordinal : Fld Z h0 x0 "java/lang/Enum" "ordinal" "I" (.int 4)) :
    MetFree l (⟨"com/example/millstep/millstep/BatchStatus", "isRunning", "()Z"⟩ : MethodName) (head1 (Jvm.Cond.code (⟨"com/example/millstep/millstep/BatchStatus", "isRunning", "()Z"⟩ : MethodName) prog_1_method_4_code 1 (some .boolean) :: ws) ({ frames := 1, cells := 0, slots := 0, locals := 12 } : Room)) (fun a U => a = #[(.ref x0)] ∧ Z.Warmed39 U.vm ∧ U.heap = h0) (fun _ _ _ _ _ => True) (fun _ U o U' => ∃ v L, o = .returned v ∧ Q1_4 Z x0 h0 n0 v U'.heap L ∧ FrameEnd U o U' L ({ frames := 1, cells := 0, slots := 0, locals := 12 } : Room).cells ({ frames := 1, cells := 0, slots := 0, locals := 12 } : Room).slots) := by
  refine MetFree.of_bodySF (plainFor_of_name pn_1) hisR ?_
  intro p e s m args below meth c s₁ Bd hml0 hP hK
  obtain ⟨rfl, hZ, hh⟩ := hP
  have hx := Bd.exec
  have hby := Bd.bytes
  have hml : c.maxLocals = 1 := hml0
  have hown : s.vm.findClass "com/example/millstep/millstep/BatchStatus" = some m.cls := findClass_of_methodNamed Bd.named
  have hnm := (name_of_methodNamed Bd.named Bd.method).1
  have X0 : Stand p l e ({ frames := 1, cells := 0, slots := 0, locals := 12 } : Room) s m #[(.ref x0)] below meth c s₁ [] 0 0 := Stand.of_body Bd
  have e0 : s₁.heap = h0 := by rw [← hh, Bd.state]; rfl
  have N0 := Fr.nil n0
  have Kp0 := Keep.refl h0 []
  have P0 : ∀ t, Steps p.tables e below (s₁.setTop (mkF m 0 #[rv x0] [])) t → Steps p.tables e below (s₁.setTop (entryFrame m #[(.ref x0)] 1)) t := fun t k => castTop (ef_1_4 m x0) k
  obtain ⟨cq1, kq1, q1a, q1b, q1c⟩ := isOf hZ e0 pre_E_x0
  obtain ⟨_, _, ⟨T1, L1, k1, n1⟩, -, X1, ⟨Lc1, hQ1, l1, y1, z1⟩, st1⟩ := X0.virtualBackUp hx (C := "com/example/millstep/millstep/BatchStatus") (owner := "java/lang/Enum") (x := (⟨"com/example/millstep/millstep/BatchStatus", "ordinal", "()I"⟩ : MethodName)) (y := (⟨"java/lang/Enum", "ordinal", "()I"⟩ : MethodName)) hown (mvT hZ (hw _ (im 9 rfl))) (mvT hZ (hw _ (im 10 rfl))) (mvT hZ (hw _ (im 11 rfl))) (by decide) (mvT hZ (hw _ (im 13 rfl))) (mvT hZ (hw _ (im 12 rfl))) (backOf (W := 0) (rm2 l Z a0 hw [] x0 (4 : Int32) h0 n0 Z0 pre_F_x0_ordinal) hZ (hw _ (im 15 rfl)) (hw _ (im 14 rfl)) (by decide) (by decide)) q1a q1c (g := (mkF m 1 #[rv x0] [(.ref x0)])) rfl (by rw [hml]; rfl) (Steps.refl _) (argsL := []) (rest := []) (lenOf pd_0 rfl) rfl (by show 2 * 0 + _ ≤ _; exact Nat.le_of_eq rfl) (hb hby d1_1) (fun _ _ => ⟨rfl, e0, (by decide : 0 + 0 ≤ _), (by decide : 0 + 0 ≤ _)⟩)
  dsimp only [Pt.U, Pt.locs, Pt.cells, Pt.slots] at X1 l1 y1 z1 st1 hQ1
  subst l1 y1 z1
  obtain ⟨rfl, N1q, e1⟩ := hQ1
  have N1 := Fr.app N0 N1q
  have P2 := own_go P0 (S' := T1.setTop (mkF m 55 #[rv x0] [(.int 0)])) (by
    intro t k
    refine XS.aloadN X0.here hx rfl (hb hby d1_0) rfl rfl ?_
    refine st1.trans ?_
    refine XS.tswIn X1.here hx rfl (pc0 := 4) (pc' := 54) (o := 50) rfl (hb hby d1_4) rfl (by decide) (by decide) (by decide) (by decide) ?_
    refine XS.iconst X1.here hx rfl (hb hby d1_54) ?_
    exact k)
  obtain ⟨fs, hr, hrun, hended, hW, hsame⟩ := X1.leave (v := some (.int 0)) (fun h => by rw [Bd.returns] at h; cases h)
  refine ⟨_, _, P2 _ ?_, hrun, hended, _, _, rfl, ?_, ⟨_, rfl⟩, hW, hsame.mono (by decide) (by decide)⟩
  · show Steps p.tables e below (T1.setTop (mkF m 55 #[rv x0] [(.int 0)])) _
    exact retN X1 hx (t := .boolean) Bd.returns (by simp) (hb hby d1_55) hr
  · show Q1_4 Z x0 h0 n0 _ T1.heap _
    rw [e1]
    exact ⟨rfl, N1, rfl⟩
def Q0 (Z : State) (x0 : Int32) (s0 : Addr) (s1 : Addr) (s2 : Addr) (s3 : Addr) (s4 : Addr) (h0 : Heap) (n0 : Nat) (v : Option Value) (h : Heap) (L : List Loc) : Prop := v = some (.int 1) ∧ Fr n0 L
theorem ef_0 (m : MethodId) (x0 : Int32) : entryFrame m #[(.int x0)] maxLocals = mkF m 0 #[iv x0, .unset, .unset, .unset] [] := by first | (simp [entryFrame, mkF, argsToLocals, Value.category, maxLocals]; done) | rfl
set_option maxRecDepth 65536 in
set_option maxHeartbeats 40000000 in
theorem rm0 (l : Launch) (Z : State) (a0 : Array Value) (hw : ∀ d ∈ tables_1, d.before a0 Z = true) (ws : List Jvm.Cond) (x0 : Int32) (s0 : Addr) (s1 : Addr) (s2 : Addr) (s3 : Addr) (s4 : Addr) (h0 : Heap) (n0 : Nat) (Z0 : n0 ≤ h0.size) (O0 : Old Z n0 h0) (pre_S_STARTING : Sta Z Z.heap "com/example/millstep/millstep/BatchStatus" "STARTING" "Lcom/example/millstep/millstep/BatchStatus;" (.ref s0)) (pre_E_s0 : Exa Z Z.heap s0 "com/example/millstep/millstep/BatchStatus") (pre_F_s0_ordinal : Fld Z Z.heap s0 "java/lang/Enum" "ordinal" "I" (.int 0)) (pre_S_STARTED : Sta Z Z.heap "com/example/millstep/millstep/BatchStatus" "STARTED" "Lcom/example/millstep/millstep/BatchStatus;" (.ref s1)) (pre_E_s1 : Exa Z Z.heap s1 "com/example/millstep/millstep/BatchStatus") (pre_F_s1_ordinal : Fld Z Z.heap s1 "java/lang/Enum" "ordinal" "I" (.int 1)) (pre_S_COMPLETED : Sta Z Z.heap "com/example/millstep/millstep/BatchStatus" "COMPLETED" "Lcom/example/millstep/millstep/BatchStatus;" (.ref s2)) (pre_E_s2 : Exa Z Z.heap s2 "com/example/millstep/millstep/BatchStatus") (pre_F_s2_ordinal : Fld Z Z.heap s2 "java/lang/Enum" "ordinal" "I" (.int 2)) (pre_S_STOPPED : Sta Z Z.heap "com/example/millstep/millstep/BatchStatus" "STOPPED" "Lcom/example/millstep/millstep/BatchStatus;" (.ref s3)) (pre_E_s3 : Exa Z Z.heap s3 "com/example/millstep/millstep/BatchStatus") (pre_F_s3_ordinal : Fld Z Z.heap s3 "java/lang/Enum" "ordinal" "I" (.int 3)) (pre_S_FAILED : Sta Z Z.heap "com/example/millstep/millstep/BatchStatus" "FAILED" "Lcom/example/millstep/millstep/BatchStatus;" (.ref s4)) (pre_E_s4 : Exa Z Z.heap s4 "com/example/millstep/millstep/BatchStatus") (pre_F_s4_ordinal : Fld Z Z.heap s4 "java/lang/Enum" "ordinal" "I" (.int 4)) :
    MetFree l x (head1 (Jvm.Cond.code x code maxLocals ret :: ws) room_1) (fun a U => a = #[(.int x0)] ∧ Z.Warmed39 U.vm ∧ U.heap = h0) (fun _ _ _ _ _ => True) (fun _ U o U' => ∃ v L, o = .returned v ∧ Q0 Z x0 s0 s1 s2 s3 s4 h0 n0 v U'.heap L ∧ FrameEnd U o U' L room_1.cells room_1.slots) := by
  refine MetFree.of_bodySF (plainFor_of_name pn_0) hisR ?_
  intro p e s m args below meth c s₁ Bd hml0 hP hK
  obtain ⟨rfl, hZ, hh⟩ := hP
  have hx := Bd.exec
  have hby := Bd.bytes
  have hml : c.maxLocals = 4 := hml0
  have hown : s.vm.findClass "com/example/millstep/millstep/BatchStatusIsRunningPinLaw" = some m.cls := findClass_of_methodNamed Bd.named
  have hnm := (name_of_methodNamed Bd.named Bd.method).1
  have X0 : Stand p l e room_1 s m #[(.int x0)] below meth c s₁ [] 0 0 := Stand.of_body Bd
  have e0 : s₁.heap = h0 := by rw [← hh, Bd.state]; rfl
  have N0 := Fr.nil n0
  have Kp0 := Keep.refl h0 []
  have P0 : ∀ t, Steps p.tables e below (s₁.setTop (mkF m 0 #[iv x0, .unset, .unset, .unset] [])) t → Steps p.tables e below (s₁.setTop (entryFrame m #[(.int x0)] maxLocals)) t := fun t k => castTop (ef_0 m x0) k
  have P2 := own_go P0 (S' := s₁.setTop (mkF m 8 #[iv x0, iv ((x0 &&& (2147483647 : Int32)) % (5 : Int32)), .unset, .unset] [(.int ((x0 &&& (2147483647 : Int32)) % (5 : Int32)))])) (by
    intro t k
    refine XS.iloadN X0.here hx rfl (hb hby at_0) rfl ?_
    refine X0.ldcInt hx hown (mvT hZ (hw _ (im 0 rfl))) (g := (mkF m 1 #[iv x0, .unset, .unset, .unset] [(.int x0)])) rfl (hb hby at_1) _ ?_
    refine XS.iand X0.here hx rfl (hb hby at_3) rfl ?_
    refine XS.iconst X0.here hx rfl (hb hby at_4) ?_
    refine Jvm.RoadKit.iremM X0 hx rfl (hb hby at_5) rfl (by decide) ?_
    refine XS.istoreN X0.here hx rfl (hb hby at_6) rfl (l' := #[iv x0, iv ((x0 &&& (2147483647 : Int32)) % (5 : Int32)), .unset, .unset]) rfl ?_
    refine XS.iloadN X0.here hx rfl (hb hby at_7) rfl ?_
    exact k)
  by_cases hc8_1 : ((x0 &&& (2147483647 : Int32)) % (5 : Int32)) = (0 : Int32)
  · obtain ⟨T3, X3, e3, st3⟩ := getS2 X0 hx hZ hown (host := "") (Or.inl (hw _ (im 1 rfl))) Via.refl e0 (pre_S_STARTING.ext O0.2) (g := (mkF m 11 #[iv x0, iv ((x0 &&& (2147483647 : Int32)) % (5 : Int32)), .unset, .unset] [])) rfl (hb hby at_11)
    obtain ⟨cq4, kq4, q4a, q4b, q4c⟩ := isOf hZ e3 (pre_E_s0.ext O0.2)
    obtain ⟨_, _, ⟨T4, L4, k4, n4⟩, -, X4, ⟨Lc4, hQ4, l4, y4, z4⟩, st4⟩ := X3.virtualBack hx (y := (⟨"com/example/millstep/millstep/BatchStatus", "isRunning", "()Z"⟩ : MethodName)) (z := (⟨"com/example/millstep/millstep/BatchStatus", "isRunning", "()Z"⟩ : MethodName)) hown (mvT hZ (hw _ (im 4 rfl))) (mvT hZ (hw _ (im 5 rfl))) (notFace_of_selects (args := #[]) (mvT hZ (hw _ (im 7 rfl)))) (mvT hZ (hw _ (im 7 rfl))) (mvT hZ (hw _ (im 6 rfl))) (by decide) (backOf (W := 0) (rm1_0 l Z a0 hw [] s0 h0 n0 Z0 (pre_E_s0.ext O0.2) (pre_F_s0_ordinal.ext O0.2)) hZ (hw _ (im 8 rfl)) (hw _ (im 2 rfl)) (by decide) (by decide)) q4a q4c (g := (mkF m 69 #[iv x0, iv ((x0 &&& (2147483647 : Int32)) % (5 : Int32)), rv s0, iv 1] [(.ref s0)])) rfl (by rw [hml]; rfl) (Steps.refl _) (argsL := []) (rest := []) (lenOf pd_1 rfl) rfl (by show 2 * 0 + _ ≤ _; exact Nat.le_of_eq rfl) (hb hby at_69) (fun _ _ => ⟨rfl, e3, (by decide : 0 + 0 ≤ _), (by decide : 0 + 0 ≤ _)⟩)
    dsimp only [Pt.U, Pt.locs, Pt.cells, Pt.slots] at X4 l4 y4 z4 st4 hQ4
    subst l4 y4 z4
    obtain ⟨rfl, N4q, e4⟩ := hQ4
    have N4 := Fr.app N0 N4q
    have P6 := own_go P2 (S' := T4.setTop (mkF m 81 #[iv x0, iv ((x0 &&& (2147483647 : Int32)) % (5 : Int32)), rv s0, iv 1] [(.int 1)])) (by
      intro t k
      refine XS.ifNo X0.here hx rfl (hb hby at_8) rfl ((if0 _ _).trans (teq hc8_1).2) ?_
      refine st3 _ ?_
      refine XS.astoreN X3.here hx rfl (hb hby at_14) rfl rfl (l' := #[iv x0, iv ((x0 &&& (2147483647 : Int32)) % (5 : Int32)), rv s0, .unset]) rfl ?_
      refine XS.iconst X3.here hx rfl (hb hby at_15) ?_
      refine XS.istoreN X3.here hx rfl (hb hby at_16) rfl (l' := #[iv x0, iv ((x0 &&& (2147483647 : Int32)) % (5 : Int32)), rv s0, iv 1]) rfl ?_
      refine XS.goto X3.here hx rfl (pc0 := 17) (pc' := 68) rfl (hb hby at_17) (by decide) (by decide) ?_
      refine XS.aloadN X3.here hx rfl (hb hby at_68) rfl rfl ?_
      refine st4.trans ?_
      show Steps p.tables e below (T4.setTop (mkF m 72 #[iv x0, iv ((x0 &&& (2147483647 : Int32)) % (5 : Int32)), rv s0, iv 1] [(.int 1)])) _
      refine XS.iloadN X4.here hx rfl (hb hby at_72) rfl ?_
      refine XS.icmpNo X4.here hx rfl (hb hby at_73) rfl (teq (by decide)).2 ?_
      refine XS.iconst X4.here hx rfl (hb hby at_76) ?_
      refine XS.goto X4.here hx rfl (pc0 := 77) (pc' := 81) rfl (hb hby at_77) (by decide) (by decide) ?_
      exact k)
    obtain ⟨fs, hr, hrun, hended, hW, hsame⟩ := X4.leave (v := some (.int 1)) (fun h => by rw [Bd.returns] at h; cases h)
    refine ⟨_, _, P6 _ ?_, hrun, hended, _, _, rfl, ?_, ⟨_, rfl⟩, hW, hsame.mono (by decide) (by decide)⟩
    · show Steps p.tables e below (T4.setTop (mkF m 81 #[iv x0, iv ((x0 &&& (2147483647 : Int32)) % (5 : Int32)), rv s0, iv 1] [(.int 1)])) _
      exact retN X4 hx (t := .boolean) Bd.returns (by simp) (hb hby at_81) hr
    · show Q0 Z x0 s0 s1 s2 s3 s4 h0 n0 _ T4.heap _
      rw [e4]
      exact ⟨rfl, N4⟩
  · have P8 := own_go P2 (S' := s₁.setTop (mkF m 22 #[iv x0, iv ((x0 &&& (2147483647 : Int32)) % (5 : Int32)), .unset, .unset] [(.int 1), (.int ((x0 &&& (2147483647 : Int32)) % (5 : Int32)))])) (by
      intro t k
      refine XS.ifYes X0.here hx rfl (pc0 := 8) (pc' := 20) rfl (hb hby at_8) rfl ((if0 _ _).trans (feq hc8_1).2) (by decide) (by decide) ?_
      refine XS.iloadN X0.here hx rfl (hb hby at_20) rfl ?_
      refine XS.iconst X0.here hx rfl (hb hby at_21) ?_
      exact k)
    by_cases hc22_7 : ((x0 &&& (2147483647 : Int32)) % (5 : Int32)) = (1 : Int32)
    · obtain ⟨T9, X9, e9, st9⟩ := getS2 X0 hx hZ hown (host := "") (Or.inl (hw _ (im 20 rfl))) Via.refl e0 (pre_S_STARTED.ext O0.2) (g := (mkF m 25 #[iv x0, iv ((x0 &&& (2147483647 : Int32)) % (5 : Int32)), .unset, .unset] [])) rfl (hb hby at_25)
      obtain ⟨cq10, kq10, q10a, q10b, q10c⟩ := isOf hZ e9 (pre_E_s1.ext O0.2)
      obtain ⟨_, _, ⟨T10, L10, k10, n10⟩, -, X10, ⟨Lc10, hQ10, l10, y10, z10⟩, st10⟩ := X9.virtualBack hx (y := (⟨"com/example/millstep/millstep/BatchStatus", "isRunning", "()Z"⟩ : MethodName)) (z := (⟨"com/example/millstep/millstep/BatchStatus", "isRunning", "()Z"⟩ : MethodName)) hown (mvT hZ (hw _ (im 4 rfl))) (mvT hZ (hw _ (im 5 rfl))) (notFace_of_selects (args := #[]) (mvT hZ (hw _ (im 7 rfl)))) (mvT hZ (hw _ (im 7 rfl))) (mvT hZ (hw _ (im 6 rfl))) (by decide) (backOf (W := 0) (rm1_1 l Z a0 hw [] s1 h0 n0 Z0 (pre_E_s1.ext O0.2) (pre_F_s1_ordinal.ext O0.2)) hZ (hw _ (im 8 rfl)) (hw _ (im 2 rfl)) (by decide) (by decide)) q10a q10c (g := (mkF m 69 #[iv x0, iv ((x0 &&& (2147483647 : Int32)) % (5 : Int32)), rv s1, iv 1] [(.ref s1)])) rfl (by rw [hml]; rfl) (Steps.refl _) (argsL := []) (rest := []) (lenOf pd_1 rfl) rfl (by show 2 * 0 + _ ≤ _; exact Nat.le_of_eq rfl) (hb hby at_69) (fun _ _ => ⟨rfl, e9, (by decide : 0 + 0 ≤ _), (by decide : 0 + 0 ≤ _)⟩)
      dsimp only [Pt.U, Pt.locs, Pt.cells, Pt.slots] at X10 l10 y10 z10 st10 hQ10
      subst l10 y10 z10
      obtain ⟨rfl, N10q, e10⟩ := hQ10
      have N10 := Fr.app N0 N10q
      have P12 := own_go P8 (S' := T10.setTop (mkF m 81 #[iv x0, iv ((x0 &&& (2147483647 : Int32)) % (5 : Int32)), rv s1, iv 1] [(.int 1)])) (by
        intro t k
        refine XS.icmpNo X0.here hx rfl (hb hby at_22) rfl (teq hc22_7).2 ?_
        refine st9 _ ?_
        refine XS.astoreN X9.here hx rfl (hb hby at_28) rfl rfl (l' := #[iv x0, iv ((x0 &&& (2147483647 : Int32)) % (5 : Int32)), rv s1, .unset]) rfl ?_
        refine XS.iconst X9.here hx rfl (hb hby at_29) ?_
        refine XS.istoreN X9.here hx rfl (hb hby at_30) rfl (l' := #[iv x0, iv ((x0 &&& (2147483647 : Int32)) % (5 : Int32)), rv s1, iv 1]) rfl ?_
        refine XS.goto X9.here hx rfl (pc0 := 31) (pc' := 68) rfl (hb hby at_31) (by decide) (by decide) ?_
        refine XS.aloadN X9.here hx rfl (hb hby at_68) rfl rfl ?_
        refine st10.trans ?_
        show Steps p.tables e below (T10.setTop (mkF m 72 #[iv x0, iv ((x0 &&& (2147483647 : Int32)) % (5 : Int32)), rv s1, iv 1] [(.int 1)])) _
        refine XS.iloadN X10.here hx rfl (hb hby at_72) rfl ?_
        refine XS.icmpNo X10.here hx rfl (hb hby at_73) rfl (teq (by decide)).2 ?_
        refine XS.iconst X10.here hx rfl (hb hby at_76) ?_
        refine XS.goto X10.here hx rfl (pc0 := 77) (pc' := 81) rfl (hb hby at_77) (by decide) (by decide) ?_
        exact k)
      obtain ⟨fs, hr, hrun, hended, hW, hsame⟩ := X10.leave (v := some (.int 1)) (fun h => by rw [Bd.returns] at h; cases h)
      refine ⟨_, _, P12 _ ?_, hrun, hended, _, _, rfl, ?_, ⟨_, rfl⟩, hW, hsame.mono (by decide) (by decide)⟩
      · show Steps p.tables e below (T10.setTop (mkF m 81 #[iv x0, iv ((x0 &&& (2147483647 : Int32)) % (5 : Int32)), rv s1, iv 1] [(.int 1)])) _
        exact retN X10 hx (t := .boolean) Bd.returns (by simp) (hb hby at_81) hr
      · show Q0 Z x0 s0 s1 s2 s3 s4 h0 n0 _ T10.heap _
        rw [e10]
        exact ⟨rfl, N10⟩
    · have P14 := own_go P8 (S' := s₁.setTop (mkF m 36 #[iv x0, iv ((x0 &&& (2147483647 : Int32)) % (5 : Int32)), .unset, .unset] [(.int 2), (.int ((x0 &&& (2147483647 : Int32)) % (5 : Int32)))])) (by
        intro t k
        refine XS.icmpYes X0.here hx rfl (pc0 := 22) (pc' := 34) rfl (hb hby at_22) rfl (feq hc22_7).2 (by decide) (by decide) ?_
        refine XS.iloadN X0.here hx rfl (hb hby at_34) rfl ?_
        refine XS.iconst X0.here hx rfl (hb hby at_35) ?_
        exact k)
      by_cases hc36_13 : ((x0 &&& (2147483647 : Int32)) % (5 : Int32)) = (2 : Int32)
      · obtain ⟨T15, X15, e15, st15⟩ := getS2 X0 hx hZ hown (host := "") (Or.inl (hw _ (im 24 rfl))) Via.refl e0 (pre_S_COMPLETED.ext O0.2) (g := (mkF m 39 #[iv x0, iv ((x0 &&& (2147483647 : Int32)) % (5 : Int32)), .unset, .unset] [])) rfl (hb hby at_39)
        obtain ⟨cq16, kq16, q16a, q16b, q16c⟩ := isOf hZ e15 (pre_E_s2.ext O0.2)
        obtain ⟨_, _, ⟨T16, L16, k16, n16⟩, -, X16, ⟨Lc16, hQ16, l16, y16, z16⟩, st16⟩ := X15.virtualBack hx (y := (⟨"com/example/millstep/millstep/BatchStatus", "isRunning", "()Z"⟩ : MethodName)) (z := (⟨"com/example/millstep/millstep/BatchStatus", "isRunning", "()Z"⟩ : MethodName)) hown (mvT hZ (hw _ (im 4 rfl))) (mvT hZ (hw _ (im 5 rfl))) (notFace_of_selects (args := #[]) (mvT hZ (hw _ (im 7 rfl)))) (mvT hZ (hw _ (im 7 rfl))) (mvT hZ (hw _ (im 6 rfl))) (by decide) (backOf (W := 0) (rm1_2 l Z a0 hw [] s2 h0 n0 Z0 (pre_E_s2.ext O0.2) (pre_F_s2_ordinal.ext O0.2)) hZ (hw _ (im 8 rfl)) (hw _ (im 2 rfl)) (by decide) (by decide)) q16a q16c (g := (mkF m 69 #[iv x0, iv ((x0 &&& (2147483647 : Int32)) % (5 : Int32)), rv s2, iv 0] [(.ref s2)])) rfl (by rw [hml]; rfl) (Steps.refl _) (argsL := []) (rest := []) (lenOf pd_1 rfl) rfl (by show 2 * 0 + _ ≤ _; exact Nat.le_of_eq rfl) (hb hby at_69) (fun _ _ => ⟨rfl, e15, (by decide : 0 + 0 ≤ _), (by decide : 0 + 0 ≤ _)⟩)
        dsimp only [Pt.U, Pt.locs, Pt.cells, Pt.slots] at X16 l16 y16 z16 st16 hQ16
        subst l16 y16 z16
        obtain ⟨rfl, N16q, e16⟩ := hQ16
        have N16 := Fr.app N0 N16q
        have P18 := own_go P14 (S' := T16.setTop (mkF m 81 #[iv x0, iv ((x0 &&& (2147483647 : Int32)) % (5 : Int32)), rv s2, iv 0] [(.int 1)])) (by
          intro t k
          refine XS.icmpNo X0.here hx rfl (hb hby at_36) rfl (teq hc36_13).2 ?_
          refine st15 _ ?_
          refine XS.astoreN X15.here hx rfl (hb hby at_42) rfl rfl (l' := #[iv x0, iv ((x0 &&& (2147483647 : Int32)) % (5 : Int32)), rv s2, .unset]) rfl ?_
          refine XS.iconst X15.here hx rfl (hb hby at_43) ?_
          refine XS.istoreN X15.here hx rfl (hb hby at_44) rfl (l' := #[iv x0, iv ((x0 &&& (2147483647 : Int32)) % (5 : Int32)), rv s2, iv 0]) rfl ?_
          refine XS.goto X15.here hx rfl (pc0 := 45) (pc' := 68) rfl (hb hby at_45) (by decide) (by decide) ?_
          refine XS.aloadN X15.here hx rfl (hb hby at_68) rfl rfl ?_
          refine st16.trans ?_
          show Steps p.tables e below (T16.setTop (mkF m 72 #[iv x0, iv ((x0 &&& (2147483647 : Int32)) % (5 : Int32)), rv s2, iv 0] [(.int 0)])) _
          refine XS.iloadN X16.here hx rfl (hb hby at_72) rfl ?_
          refine XS.icmpNo X16.here hx rfl (hb hby at_73) rfl (teq (by decide)).2 ?_
          refine XS.iconst X16.here hx rfl (hb hby at_76) ?_
          refine XS.goto X16.here hx rfl (pc0 := 77) (pc' := 81) rfl (hb hby at_77) (by decide) (by decide) ?_
          exact k)
        obtain ⟨fs, hr, hrun, hended, hW, hsame⟩ := X16.leave (v := some (.int 1)) (fun h => by rw [Bd.returns] at h; cases h)
        refine ⟨_, _, P18 _ ?_, hrun, hended, _, _, rfl, ?_, ⟨_, rfl⟩, hW, hsame.mono (by decide) (by decide)⟩
        · show Steps p.tables e below (T16.setTop (mkF m 81 #[iv x0, iv ((x0 &&& (2147483647 : Int32)) % (5 : Int32)), rv s2, iv 0] [(.int 1)])) _
          exact retN X16 hx (t := .boolean) Bd.returns (by simp) (hb hby at_81) hr
        · show Q0 Z x0 s0 s1 s2 s3 s4 h0 n0 _ T16.heap _
          rw [e16]
          exact ⟨rfl, N16⟩
      · have P20 := own_go P14 (S' := s₁.setTop (mkF m 50 #[iv x0, iv ((x0 &&& (2147483647 : Int32)) % (5 : Int32)), .unset, .unset] [(.int 3), (.int ((x0 &&& (2147483647 : Int32)) % (5 : Int32)))])) (by
          intro t k
          refine XS.icmpYes X0.here hx rfl (pc0 := 36) (pc' := 48) rfl (hb hby at_36) rfl (feq hc36_13).2 (by decide) (by decide) ?_
          refine XS.iloadN X0.here hx rfl (hb hby at_48) rfl ?_
          refine XS.iconst X0.here hx rfl (hb hby at_49) ?_
          exact k)
        by_cases hc50_19 : ((x0 &&& (2147483647 : Int32)) % (5 : Int32)) = (3 : Int32)
        · obtain ⟨T21, X21, e21, st21⟩ := getS2 X0 hx hZ hown (host := "") (Or.inl (hw _ (im 18 rfl))) Via.refl e0 (pre_S_STOPPED.ext O0.2) (g := (mkF m 53 #[iv x0, iv ((x0 &&& (2147483647 : Int32)) % (5 : Int32)), .unset, .unset] [])) rfl (hb hby at_53)
          obtain ⟨cq22, kq22, q22a, q22b, q22c⟩ := isOf hZ e21 (pre_E_s3.ext O0.2)
          obtain ⟨_, _, ⟨T22, L22, k22, n22⟩, -, X22, ⟨Lc22, hQ22, l22, y22, z22⟩, st22⟩ := X21.virtualBack hx (y := (⟨"com/example/millstep/millstep/BatchStatus", "isRunning", "()Z"⟩ : MethodName)) (z := (⟨"com/example/millstep/millstep/BatchStatus", "isRunning", "()Z"⟩ : MethodName)) hown (mvT hZ (hw _ (im 4 rfl))) (mvT hZ (hw _ (im 5 rfl))) (notFace_of_selects (args := #[]) (mvT hZ (hw _ (im 7 rfl)))) (mvT hZ (hw _ (im 7 rfl))) (mvT hZ (hw _ (im 6 rfl))) (by decide) (backOf (W := 0) (rm1_3 l Z a0 hw [] s3 h0 n0 Z0 (pre_E_s3.ext O0.2) (pre_F_s3_ordinal.ext O0.2)) hZ (hw _ (im 8 rfl)) (hw _ (im 2 rfl)) (by decide) (by decide)) q22a q22c (g := (mkF m 69 #[iv x0, iv ((x0 &&& (2147483647 : Int32)) % (5 : Int32)), rv s3, iv 0] [(.ref s3)])) rfl (by rw [hml]; rfl) (Steps.refl _) (argsL := []) (rest := []) (lenOf pd_1 rfl) rfl (by show 2 * 0 + _ ≤ _; exact Nat.le_of_eq rfl) (hb hby at_69) (fun _ _ => ⟨rfl, e21, (by decide : 0 + 0 ≤ _), (by decide : 0 + 0 ≤ _)⟩)
          dsimp only [Pt.U, Pt.locs, Pt.cells, Pt.slots] at X22 l22 y22 z22 st22 hQ22
          subst l22 y22 z22
          obtain ⟨rfl, N22q, e22⟩ := hQ22
          have N22 := Fr.app N0 N22q
          have P24 := own_go P20 (S' := T22.setTop (mkF m 81 #[iv x0, iv ((x0 &&& (2147483647 : Int32)) % (5 : Int32)), rv s3, iv 0] [(.int 1)])) (by
            intro t k
            refine XS.icmpNo X0.here hx rfl (hb hby at_50) rfl (teq hc50_19).2 ?_
            refine st21 _ ?_
            refine XS.astoreN X21.here hx rfl (hb hby at_56) rfl rfl (l' := #[iv x0, iv ((x0 &&& (2147483647 : Int32)) % (5 : Int32)), rv s3, .unset]) rfl ?_
            refine XS.iconst X21.here hx rfl (hb hby at_57) ?_
            refine XS.istoreN X21.here hx rfl (hb hby at_58) rfl (l' := #[iv x0, iv ((x0 &&& (2147483647 : Int32)) % (5 : Int32)), rv s3, iv 0]) rfl ?_
            refine XS.goto X21.here hx rfl (pc0 := 59) (pc' := 68) rfl (hb hby at_59) (by decide) (by decide) ?_
            refine XS.aloadN X21.here hx rfl (hb hby at_68) rfl rfl ?_
            refine st22.trans ?_
            show Steps p.tables e below (T22.setTop (mkF m 72 #[iv x0, iv ((x0 &&& (2147483647 : Int32)) % (5 : Int32)), rv s3, iv 0] [(.int 0)])) _
            refine XS.iloadN X22.here hx rfl (hb hby at_72) rfl ?_
            refine XS.icmpNo X22.here hx rfl (hb hby at_73) rfl (teq (by decide)).2 ?_
            refine XS.iconst X22.here hx rfl (hb hby at_76) ?_
            refine XS.goto X22.here hx rfl (pc0 := 77) (pc' := 81) rfl (hb hby at_77) (by decide) (by decide) ?_
            exact k)
          obtain ⟨fs, hr, hrun, hended, hW, hsame⟩ := X22.leave (v := some (.int 1)) (fun h => by rw [Bd.returns] at h; cases h)
          refine ⟨_, _, P24 _ ?_, hrun, hended, _, _, rfl, ?_, ⟨_, rfl⟩, hW, hsame.mono (by decide) (by decide)⟩
          · show Steps p.tables e below (T22.setTop (mkF m 81 #[iv x0, iv ((x0 &&& (2147483647 : Int32)) % (5 : Int32)), rv s3, iv 0] [(.int 1)])) _
            exact retN X22 hx (t := .boolean) Bd.returns (by simp) (hb hby at_81) hr
          · show Q0 Z x0 s0 s1 s2 s3 s4 h0 n0 _ T22.heap _
            rw [e22]
            exact ⟨rfl, N22⟩
        · obtain ⟨T25, X25, e25, st25⟩ := getS2 X0 hx hZ hown (host := "") (Or.inl (hw _ (im 22 rfl))) Via.refl e0 (pre_S_FAILED.ext O0.2) (g := (mkF m 62 #[iv x0, iv ((x0 &&& (2147483647 : Int32)) % (5 : Int32)), .unset, .unset] [])) rfl (hb hby at_62)
          obtain ⟨cq26, kq26, q26a, q26b, q26c⟩ := isOf hZ e25 (pre_E_s4.ext O0.2)
          obtain ⟨_, _, ⟨T26, L26, k26, n26⟩, -, X26, ⟨Lc26, hQ26, l26, y26, z26⟩, st26⟩ := X25.virtualBack hx (y := (⟨"com/example/millstep/millstep/BatchStatus", "isRunning", "()Z"⟩ : MethodName)) (z := (⟨"com/example/millstep/millstep/BatchStatus", "isRunning", "()Z"⟩ : MethodName)) hown (mvT hZ (hw _ (im 4 rfl))) (mvT hZ (hw _ (im 5 rfl))) (notFace_of_selects (args := #[]) (mvT hZ (hw _ (im 7 rfl)))) (mvT hZ (hw _ (im 7 rfl))) (mvT hZ (hw _ (im 6 rfl))) (by decide) (backOf (W := 0) (rm1_4 l Z a0 hw [] s4 h0 n0 Z0 (pre_E_s4.ext O0.2) (pre_F_s4_ordinal.ext O0.2)) hZ (hw _ (im 8 rfl)) (hw _ (im 2 rfl)) (by decide) (by decide)) q26a q26c (g := (mkF m 69 #[iv x0, iv ((x0 &&& (2147483647 : Int32)) % (5 : Int32)), rv s4, iv 0] [(.ref s4)])) rfl (by rw [hml]; rfl) (Steps.refl _) (argsL := []) (rest := []) (lenOf pd_1 rfl) rfl (by show 2 * 0 + _ ≤ _; exact Nat.le_of_eq rfl) (hb hby at_69) (fun _ _ => ⟨rfl, e25, (by decide : 0 + 0 ≤ _), (by decide : 0 + 0 ≤ _)⟩)
          dsimp only [Pt.U, Pt.locs, Pt.cells, Pt.slots] at X26 l26 y26 z26 st26 hQ26
          subst l26 y26 z26
          obtain ⟨rfl, N26q, e26⟩ := hQ26
          have N26 := Fr.app N0 N26q
          have P28 := own_go P20 (S' := T26.setTop (mkF m 81 #[iv x0, iv ((x0 &&& (2147483647 : Int32)) % (5 : Int32)), rv s4, iv 0] [(.int 1)])) (by
            intro t k
            refine XS.icmpYes X0.here hx rfl (pc0 := 50) (pc' := 62) rfl (hb hby at_50) rfl (feq hc50_19).2 (by decide) (by decide) ?_
            refine st25 _ ?_
            refine XS.astoreN X25.here hx rfl (hb hby at_65) rfl rfl (l' := #[iv x0, iv ((x0 &&& (2147483647 : Int32)) % (5 : Int32)), rv s4, .unset]) rfl ?_
            refine XS.iconst X25.here hx rfl (hb hby at_66) ?_
            refine XS.istoreN X25.here hx rfl (hb hby at_67) rfl (l' := #[iv x0, iv ((x0 &&& (2147483647 : Int32)) % (5 : Int32)), rv s4, iv 0]) rfl ?_
            refine XS.aloadN X25.here hx rfl (hb hby at_68) rfl rfl ?_
            refine st26.trans ?_
            refine XS.iloadN X26.here hx rfl (hb hby at_72) rfl ?_
            show Steps p.tables e below (T26.setTop (mkF m 73 #[iv x0, iv ((x0 &&& (2147483647 : Int32)) % (5 : Int32)), rv s4, iv 0] [(.int 0), (.int 0)])) _
            refine XS.icmpNo X26.here hx rfl (hb hby at_73) rfl (teq (by decide)).2 ?_
            refine XS.iconst X26.here hx rfl (hb hby at_76) ?_
            refine XS.goto X26.here hx rfl (pc0 := 77) (pc' := 81) rfl (hb hby at_77) (by decide) (by decide) ?_
            exact k)
          obtain ⟨fs, hr, hrun, hended, hW, hsame⟩ := X26.leave (v := some (.int 1)) (fun h => by rw [Bd.returns] at h; cases h)
          refine ⟨_, _, P28 _ ?_, hrun, hended, _, _, rfl, ?_, ⟨_, rfl⟩, hW, hsame.mono (by decide) (by decide)⟩
          · show Steps p.tables e below (T26.setTop (mkF m 81 #[iv x0, iv ((x0 &&& (2147483647 : Int32)) % (5 : Int32)), rv s4, iv 0] [(.int 1)])) _
            exact retN X26 hx (t := .boolean) Bd.returns (by simp) (hb hby at_81) hr
          · show Q0 Z x0 s0 s1 s2 s3 s4 h0 n0 _ T26.heap _
            rw [e26]
            exact ⟨rfl, N26⟩

set_option maxRecDepth 65536 in
set_option maxHeartbeats 40000000 in
theorem comes_1 {Post : Tables → Env → Array Value → State → Outcome → State → Prop} (hpost : ∀ tb e args s v u, (limb_1_1.after args s (.returned v) u = true ∧ limb_1_2.after args s (.returned v) u = true ∧ True) → FrameEnd s (.returned v) u (Jvm.fieldLocs frame_1_writes args s ++ Jvm.arrayLocs frame_1_arrays args s ++ Jvm.staticLocs frame_1_statics s) 0 0 → Post tb e args s (.returned v) u) :
    ArmFor flags0 classFile x code maxLocals ret World_1 tables_1 room_1 Calls_1 rest_1 Pre_1 Post := by
  intro l hfl _ _ p e ha hc hk s m args below hf hA hF happ hP
  obtain ⟨hcalls, hrest, hpre⟩ := hP
  obtain ⟨-, -, -, hnamed, -, -, -, hat⟩ := (Spec.applies_iff hf).mp happ
  obtain ⟨hg, hn⟩ := and_e (Cond.before_iff.mp (show (Jvm.Cond.and given_1 narrow_1).before args s = true from hpre))
  obtain ⟨hcnt, hgs0⟩ := and_e hg
  obtain ⟨w0, rfl⟩ : ∃ w0 : Value, args = #[w0] := by
    have hs : args.size = 1 := by simpa [Cond.value, given_1] using hcnt
    obtain ⟨L⟩ := args
    match L, hs with
    | [w0], _ => exact ⟨w0, rfl⟩
  have hw := fun d (hd : d ∈ tables_1) => atoms_spec (ws := Jvm.Cond.code x code maxLocals ret :: tables_1) hat d (List.mem_cons_of_mem _ hd)
  have hfit : Fit s := fun {y c} hc i hi => by
    obtain ⟨ha, rfl⟩ := Array.getElem?_eq_some_iff.mp hc
    have q := List.all_eq_true.mp ((Array.all_eq_true_iff_forall_mem.mp hF) _ (Array.getElem_mem ha)) i (List.mem_range.mpr hi)
    simpa [Array.getElem?_eq_getElem hi] using q
  obtain ⟨i0, ei0⟩ := is_v hgs0
  obtain rfl : w0 = (.int i0) := Option.some.inj ei0
  obtain ⟨ha0, hb0⟩ := and_e hn
  obtain ⟨hf0, hc0⟩ := and_e hb0
  obtain ⟨s0, es0⟩ := exa_v ha0
  have S0 : Sta s s.heap "com/example/millstep/millstep/BatchStatus" "STARTING" "Lcom/example/millstep/millstep/BatchStatus;" (.ref s0) := Sta.start es0 (Or.inr ⟨(hw _ (im 2 rfl)), (hw _ (im 3 rfl))⟩)
  have E0 := Exa.start es0 ha0
  have F0 : Fld s s.heap s0 "java/lang/Enum" "ordinal" "I" (.int (0 : Int32)) := Fld.start ((fld_at es0).symm.trans (eqv_i (Term.int_eval _) hf0))
  obtain ⟨ha1, hb1⟩ := and_e hc0
  obtain ⟨hf1, hc1⟩ := and_e hb1
  obtain ⟨s3, es3⟩ := exa_v ha1
  have S3 : Sta s s.heap "com/example/millstep/millstep/BatchStatus" "STOPPED" "Lcom/example/millstep/millstep/BatchStatus;" (.ref s3) := Sta.start es3 (Or.inr ⟨(hw _ (im 2 rfl)), (hw _ (im 19 rfl))⟩)
  have E3 := Exa.start es3 ha1
  have F3 : Fld s s.heap s3 "java/lang/Enum" "ordinal" "I" (.int (3 : Int32)) := Fld.start ((fld_at es3).symm.trans (eqv_i (Term.int_eval _) hf1))
  obtain ⟨ha2, hb2⟩ := and_e hc1
  obtain ⟨hf2, hc2⟩ := and_e hb2
  obtain ⟨s1, es1⟩ := exa_v ha2
  have S1 : Sta s s.heap "com/example/millstep/millstep/BatchStatus" "STARTED" "Lcom/example/millstep/millstep/BatchStatus;" (.ref s1) := Sta.start es1 (Or.inr ⟨(hw _ (im 2 rfl)), (hw _ (im 21 rfl))⟩)
  have E1 := Exa.start es1 ha2
  have F1 : Fld s s.heap s1 "java/lang/Enum" "ordinal" "I" (.int (1 : Int32)) := Fld.start ((fld_at es1).symm.trans (eqv_i (Term.int_eval _) hf2))
  obtain ⟨ha3, hb3⟩ := and_e hc2
  obtain ⟨hf3, hc3⟩ := and_e hb3
  obtain ⟨s4, es4⟩ := exa_v ha3
  have S4 : Sta s s.heap "com/example/millstep/millstep/BatchStatus" "FAILED" "Lcom/example/millstep/millstep/BatchStatus;" (.ref s4) := Sta.start es4 (Or.inr ⟨(hw _ (im 2 rfl)), (hw _ (im 23 rfl))⟩)
  have E4 := Exa.start es4 ha3
  have F4 : Fld s s.heap s4 "java/lang/Enum" "ordinal" "I" (.int (4 : Int32)) := Fld.start ((fld_at es4).symm.trans (eqv_i (Term.int_eval _) hf3))
  obtain ⟨ha4, hb4⟩ := and_e hc3
  obtain ⟨s2, es2⟩ := exa_v ha4
  have S2 : Sta s s.heap "com/example/millstep/millstep/BatchStatus" "COMPLETED" "Lcom/example/millstep/millstep/BatchStatus;" (.ref s2) := Sta.start es2 (Or.inr ⟨(hw _ (im 2 rfl)), (hw _ (im 25 rfl))⟩)
  have E2 := Exa.start es2 ha4
  have F2 : Fld s s.heap s2 "java/lang/Enum" "ordinal" "I" (.int (2 : Int32)) := Fld.start ((fld_at es2).symm.trans (eqv_i (Term.int_eval _) hb4))
  obtain ⟨n, o, h1, h2, h3, _, L, rfl, ⟨rfl, N⟩, hq⟩ := rm0 l s _ hw tables_1 i0 s0 s1 s2 s3 s4 s.heap s.heap.size (Nat.le_refl _) (Old.start s) S0 E0 F0 S1 E1 F1 S2 E2 F2 S3 E3 F3 S4 E4 F4 p e ha hc hk s m _ below hf ((Spec.applies_iff_loose hf).mp happ).1 ⟨rfl, State.Warmed39.refl s, rfl⟩ trivial
  refine ⟨n, _, h1, h2, h3, hpost _ _ _ _ _ _ ⟨Cond.after_iff.mpr rfl, Cond.after_iff.mpr (eq_i res_at (Term.int_eval (1)) rfl), trivial⟩ ⟨hq.1, hq.2.1, (hq.2.2.sift fun y hy => Or.inr (N y hy)).mono (by decide) (by decide)⟩⟩
theorem main_1_1 : Claimed_1_1 := comes_1 fun _ _ _ _ _ _ h hF => ⟨h.1, hF⟩
theorem main_1_2 : Claimed_1_2 := comes_1 fun _ _ _ _ _ _ h hF => ⟨h.2.1, hF⟩
end Jvm.Pilot.@@N@@
namespace Jvm.Pilot.@@N@@
open Jvm Jvm.ClassFile Sem Op Lib Jvm.Free Jvm.Stand Jvm.Pilot.@@N@@.Jvm.D
/-! MADE BY PROGRAM (witnessworld.py) out of the Statement's table words and the real class files: 12 classes; the members and pool entries that the words name. The judged class is class 1, her method 1. -/
namespace start1
open Jvm.ClassFile
def u (s : String) : CpInfo := .utf8 (stringToUtf16 s)
/-- a pool by its gaps: so many unusable entries, then the entry; so many at the end -/
def gap : Nat → List CpInfo → List CpInfo
  | 0, r => r
  | n + 1, r => .unusable :: gap n r
def poolList (es : List (Nat × CpInfo)) (last : Nat) : List CpInfo := es.foldr (fun e r => gap e.1 (e.2 :: r)) (gap last [])
def pool (es : List (Nat × CpInfo)) (last : Nat) : Array CpInfo := ⟨poolList es last⟩
def fileOf (pool : Array CpInfo) (this : Nat) (attrs : Array Attribute := #[]) (ms : Array MethodInfo := #[]) (fl : Nat := 33) (sup : Nat := 0) (ifs : Array Nat := #[]) (fds : Array FieldInfo := #[]) : ClassFile where
  minorVersion := 0
  majorVersion := 65
  constantPool := pool
  accessFlags := fl
  thisClass := this
  superClass := sup
  interfaces := ifs
  fields := fds
  methods := ms
  attributes := attrs
def plain (name : String) (sup : Option ClassId) : Class where
  name := name
  kind := .ordinary
  loader := none
  accessFlags := 33
  super := sup
  interfaces := #[]
  cf := none
  fields := #[]
  methods := #[]
  instanceTypes := #[]
  staticTypes := #[]
  resolved := #[]
  callSites := []
  init := .initialized
  statics := none
  mirror := none

def pool0 : Array CpInfo := pool [(5, u "<init>"), (0, u "()V"), (1, .class_ 10), (1, u "java/lang/Object")] 113

def k0m0 : Method := { name := "<init>", desc := "()V", sig := { parameters := [], returnType := none }, accessFlags := 1, code := none }
/-- java/lang/Object -/
def k0 : Class := { plain "java/lang/Object" none with
  accessFlags := 33
  interfaces := #[]
  cf := some (fileOf pool0 8 #[] #[{ accessFlags := 1, nameIndex := 5, descriptorIndex := 6, attributes := #[] }] 33 0 #[] #[])
  fields := #[]
  methods := #[k0m0]
  instanceTypes := #[]
  staticTypes := #[]
  resolved := Array.replicate 124 none
  statics := none }

def pool1 : Array CpInfo := pool [(2, .class_ 4), (1, u "java/lang/Object"), (0, u "<init>"), (0, u "()V"), (0, .integer 2147483647), (0, .fieldref 9 10), (0, .class_ 11), (0, .nameAndType 12 13), (0, u "com/example/millstep/millstep/BatchStatus"), (0, u "STARTING"), (0, u "Lcom/example/millstep/millstep/BatchStatus;"), (0, .fieldref 9 15), (0, .nameAndType 16 13), (0, u "STARTED"), (0, .fieldref 9 18), (0, .nameAndType 19 13), (0, u "COMPLETED"), (0, .fieldref 9 21), (0, .nameAndType 22 13), (0, u "STOPPED"), (0, .fieldref 9 24), (0, .nameAndType 25 13), (0, u "FAILED"), (0, .methodref 9 27), (0, .nameAndType 28 29), (0, u "isRunning"), (0, u "()Z"), (0, .class_ 31), (0, u "com/example/millstep/millstep/BatchStatusIsRunningPinLaw"), (2, u "law"), (0, u "(I)Z")] 3

def k1m0 : Method := { name := "<init>", desc := "()V", sig := { parameters := [], returnType := none }, accessFlags := 2, code := none }
def k1c1 : Code := { maxStack := 2, maxLocals := 4, code := code, exceptionTable := #[], attributes := #[] }
def k1m1 : Method := { name := "law", desc := "(I)Z", sig := { parameters := [.int], returnType := some .boolean }, accessFlags := 9, code := some k1c1 }
/-- com/example/millstep/millstep/BatchStatusIsRunningPinLaw -/
def k1 : Class := { plain "com/example/millstep/millstep/BatchStatusIsRunningPinLaw" (some 0) with
  accessFlags := 49
  interfaces := #[]
  cf := some (fileOf pool1 30 #[] #[{ accessFlags := 2, nameIndex := 5, descriptorIndex := 6, attributes := #[] }, { accessFlags := 9, nameIndex := 34, descriptorIndex := 35, attributes := #[] }] 49 2 #[] #[])
  fields := #[]
  methods := #[k1m0, k1m1]
  instanceTypes := #[]
  staticTypes := #[]
  resolved := Array.replicate 39 none
  statics := none }

def pool2 : Array CpInfo := pool [(1, .class_ 2), (0, u "java/lang/constant/Constable"), (0, .class_ 4), (0, u "java/lang/Object")] 6

/-- java/lang/constant/Constable -/
def k2 : Class := { plain "java/lang/constant/Constable" (some 0) with
  accessFlags := 1537
  interfaces := #[]
  cf := some (fileOf pool2 1 #[] #[] 1537 3 #[] #[])
  fields := #[]
  methods := #[]
  instanceTypes := #[]
  staticTypes := #[]
  resolved := Array.replicate 11 none
  statics := none }

def pool3 : Array CpInfo := pool [(1, .class_ 2), (0, u "java/lang/Comparable"), (0, .class_ 4), (0, u "java/lang/Object")] 7

/-- java/lang/Comparable -/
def k3 : Class := { plain "java/lang/Comparable" (some 0) with
  accessFlags := 1537
  interfaces := #[]
  cf := some (fileOf pool3 1 #[] #[] 1537 3 #[] #[])
  fields := #[]
  methods := #[]
  instanceTypes := #[]
  staticTypes := #[]
  resolved := Array.replicate 12 none
  statics := none }

def pool4 : Array CpInfo := pool [(1, .class_ 2), (0, u "java/io/Serializable"), (0, .class_ 4), (0, u "java/lang/Object")] 2

/-- java/io/Serializable -/
def k4 : Class := { plain "java/io/Serializable" (some 0) with
  accessFlags := 1537
  interfaces := #[]
  cf := some (fileOf pool4 1 #[] #[] 1537 3 #[] #[])
  fields := #[]
  methods := #[]
  instanceTypes := #[]
  staticTypes := #[]
  resolved := Array.replicate 7 none
  statics := none }

def pool5 : Array CpInfo := pool [(2, .class_ 4), (1, u "java/lang/Enum"), (0, u "name"), (0, u "Ljava/lang/String;"), (0, .fieldref 2 8), (0, .nameAndType 9 10), (0, u "ordinal"), (0, u "I"), (1, .class_ 14), (1, u "java/lang/Object"), (4, u "hash"), (86, .class_ 108), (1, u "java/lang/Enum$EnumDesc"), (2, .class_ 112), (0, u "java/lang/constant/Constable"), (0, .class_ 114), (0, u "java/lang/Comparable"), (0, .class_ 116), (0, u "java/io/Serializable"), (9, u "()I")] 77

def k5c0 : Code := { maxStack := 1, maxLocals := 1, code := jdk_37_method_2_code, exceptionTable := #[], attributes := #[] }
def k5m0 : Method := { name := "ordinal", desc := "()I", sig := { parameters := [], returnType := some .int }, accessFlags := 17, code := some k5c0 }
/-- java/lang/Enum -/
def k5 : Class := { plain "java/lang/Enum" (some 0) with
  accessFlags := 1057
  interfaces := #[2, 3, 4]
  cf := some (fileOf pool5 2 #[.nestMembers #[106]] #[{ accessFlags := 17, nameIndex := 9, descriptorIndex := 126, attributes := #[] }] 1057 12 #[111, 113, 115] #[{ accessFlags := 18, nameIndex := 5, descriptorIndex := 6, attributes := #[] }, { accessFlags := 18, nameIndex := 9, descriptorIndex := 10, attributes := #[] }, { accessFlags := 2, nameIndex := 19, descriptorIndex := 10, attributes := #[] }])
  fields := #[{ name := "name", type := (.object "java/lang/String"), accessFlags := 18, slot := 0, constantValue := 0 }, { name := "ordinal", type := .int, accessFlags := 18, slot := 1, constantValue := 0 }, { name := "hash", type := .int, accessFlags := 2, slot := 2, constantValue := 0 }]
  methods := #[k5m0]
  instanceTypes := #[(.object "java/lang/String"), .int, .int]
  staticTypes := #[]
  resolved := Array.replicate 204 none
  statics := none }

def pool6 : Array CpInfo := pool [(1, .class_ 2), (0, u "com/example/millstep/millstep/BatchStatus"), (2, u "STARTING"), (0, u "Lcom/example/millstep/millstep/BatchStatus;"), (2, u "STARTED"), (2, u "COMPLETED"), (2, u "STOPPED"), (2, u "FAILED"), (2, u "$VALUES"), (0, u "[Lcom/example/millstep/millstep/BatchStatus;"), (6, .class_ 31), (1, u "java/lang/Enum"), (6, .methodref 1 39), (0, .nameAndType 40 41), (0, u "ordinal"), (0, u "()I"), (22, u "isRunning"), (0, u "()Z")] 5

def k6c0 : Code := { maxStack := 4, maxLocals := 1, code := prog_1_method_4_code, exceptionTable := #[], attributes := #[] }
def k6m0 : Method := { name := "isRunning", desc := "()Z", sig := { parameters := [], returnType := some .boolean }, accessFlags := 0, code := some k6c0 }
/-- com/example/millstep/millstep/BatchStatus -/
def k6 : Class := { plain "com/example/millstep/millstep/BatchStatus" (some 5) with
  accessFlags := 16433
  interfaces := #[]
  cf := some (fileOf pool6 1 #[] #[{ accessFlags := 0, nameIndex := 64, descriptorIndex := 65, attributes := #[] }] 16433 29 #[] #[{ accessFlags := 16409, nameIndex := 5, descriptorIndex := 6, attributes := #[] }, { accessFlags := 16409, nameIndex := 9, descriptorIndex := 6, attributes := #[] }, { accessFlags := 16409, nameIndex := 12, descriptorIndex := 6, attributes := #[] }, { accessFlags := 16409, nameIndex := 15, descriptorIndex := 6, attributes := #[] }, { accessFlags := 16409, nameIndex := 18, descriptorIndex := 6, attributes := #[] }, { accessFlags := 4122, nameIndex := 21, descriptorIndex := 22, attributes := #[] }])
  fields := #[{ name := "STARTING", type := (.object "com/example/millstep/millstep/BatchStatus"), accessFlags := 16409, slot := 0, constantValue := 0 }, { name := "STARTED", type := (.object "com/example/millstep/millstep/BatchStatus"), accessFlags := 16409, slot := 1, constantValue := 0 }, { name := "COMPLETED", type := (.object "com/example/millstep/millstep/BatchStatus"), accessFlags := 16409, slot := 2, constantValue := 0 }, { name := "STOPPED", type := (.object "com/example/millstep/millstep/BatchStatus"), accessFlags := 16409, slot := 3, constantValue := 0 }, { name := "FAILED", type := (.object "com/example/millstep/millstep/BatchStatus"), accessFlags := 16409, slot := 4, constantValue := 0 }, { name := "$VALUES", type := (.array (.object "com/example/millstep/millstep/BatchStatus")), accessFlags := 4122, slot := 5, constantValue := 0 }]
  methods := #[k6m0]
  instanceTypes := #[(.object "java/lang/String"), .int, .int]
  staticTypes := #[(.object "com/example/millstep/millstep/BatchStatus"), (.object "com/example/millstep/millstep/BatchStatus"), (.object "com/example/millstep/millstep/BatchStatus"), (.object "com/example/millstep/millstep/BatchStatus"), (.object "com/example/millstep/millstep/BatchStatus"), (.array (.object "com/example/millstep/millstep/BatchStatus"))]
  resolved := Array.replicate 71 none
  statics := some 0 }

def pool7 : Array CpInfo := pool [(1, u "java/lang/Cloneable"), (0, .class_ 1), (0, u "java/lang/Object"), (0, .class_ 3)] 3

/-- java/lang/Cloneable -/
def k7 : Class := { plain "java/lang/Cloneable" (some 0) with
  accessFlags := 1537
  interfaces := #[]
  cf := some (fileOf pool7 2 #[] #[] 1537 4 #[] #[])
  fields := #[]
  methods := #[]
  instanceTypes := #[]
  staticTypes := #[]
  resolved := Array.replicate 8 none
  statics := none }

/-- the primitive byte -/
def k8 : Class := { plain "byte" none with kind := .primitive 'B', accessFlags := 0x411 }
/-- [B -/
def k9 : Class := { plain "[B" (some 0) with kind := .array 8 .byte, interfaces := #[7, 4], accessFlags := 1041 }

/-- the primitive int -/
def k10 : Class := { plain "int" none with kind := .primitive 'I', accessFlags := 0x411 }
/-- [I -/
def k11 : Class := { plain "[I" (some 0) with kind := .array 10 .int, interfaces := #[7, 4], accessFlags := 1041 }

def heap : Heap := #[{ cls := 6, slots := #[.ref 1, .ref 2, .ref 3, .ref 4, .ref 5, .null], vm := .statics 6 },
  { cls := 6, slots := #[.null, .int 0, .int 0], vm := .none },
  { cls := 6, slots := #[.null, .int 1, .int 0], vm := .none },
  { cls := 6, slots := #[.null, .int 2, .int 0], vm := .none },
  { cls := 6, slots := #[.null, .int 3, .int 0], vm := .none },
  { cls := 6, slots := #[.null, .int 4, .int 0], vm := .none }]
def classes : Array Class := #[k0, k1, k2, k3, k4, k5, k6, k7, k8, k9, k10, k11]
def interned : List (Array UInt16 × Addr) := []
def slotsUsed : Nat := 21
def theMethod : MethodId := ⟨1, 1⟩
def args0 : Array Value := #[.int 5]
def aboutOver (below : List Frame) : State where
  vm := { classes := classes, interned := interned.toArray }
  heap := heap
  slotsUsed := slotsUsed
  threads := #[{ frames := .invoking theMethod args0 :: below }]
def below0 : List Frame := [.native { method := ⟨0, 0⟩, args := #[] }]
def about1 : State := aboutOver below0
def p0 : Program := .bare "" "" ""
def e0 : Env := launch0.env 0 0 0
theorem w_frames : about1.frames = Frame.invoking theMethod args0 :: below0 := rfl
set_option maxRecDepth 65536 in
theorem w_args : argsFit about1.vm theMethod args0 = true := by decide +kernel
set_option maxRecDepth 65536 in
theorem w_heap : heapFits about1 = true := by decide +kernel
set_option maxRecDepth 65536 in
theorem w_runnable : about1.curStatus? = some .runnable := by decide +kernel
set_option maxRecDepth 65536 in
theorem w_alone : about1.alone = true := by decide +kernel
set_option maxRecDepth 65536 in
theorem w_named : about1.methodNamed? x = some theMethod := by decide +kernel
set_option maxRecDepth 65536 in
theorem w_hears : about1.hears theMethod below0 = true := by decide +kernel
set_option maxRecDepth 65536 in
theorem w_ripe : about1.ripe theMethod args0 below0 = true := by decide +kernel
theorem w_running : about1.status = .running := rfl
set_option maxRecDepth 65536 in
theorem w_room : about1.hasRoom e0.platform room_1 = true :=
  launch0.hasRoom_least _ room_1 (by decide +kernel) (by decide +kernel) (by decide +kernel) (by decide +kernel) (by decide +kernel) (by decide +kernel)
theorem allAtoms_all (ts : List Jvm.Cond) (a : Array Jvm.Value) (st : Jvm.State) : (allAtoms ts).before a st = ts.all (fun c => c.before a st) := by
  induction ts with
  | nil => rfl
  | cons c t ih =>
    show (Jvm.Cond.and c (allAtoms t)).before a st = _
    rw [Jvm.Cond.before_and, ih, List.all_cons]
def words1 : List Jvm.Cond := Jvm.Cond.code x code maxLocals ret :: tables_1
/-- a 'code' word, met by the world's own term for the bytes: nothing is compared byte by byte -/
theorem code_word {y : MethodName} {bytes : ByteArray} {mx : Nat} {rt : Option FieldType} {a : Array Value} {s : State} {m : MethodId} {meth : Method} {c : Code} (h1 : s.methodNamed? y = some m) (h2 : s.vm.method? m = some meth) (h3 : meth.code = some c) (h4 : c.code = bytes)
    (h5 : (c.maxLocals == mx && c.exceptionTable.isEmpty && decide (c.maxStack ≤ mostOperands) && decide (meth.sig.returnType = rt) && !meth.locks && decide (parseMethodDescriptor y.desc = some meth.sig)) = true) : (Jvm.Cond.code y bytes mx rt).before a s = true := by
  simp only [Bool.and_eq_true, beq_iff_eq, Bool.not_eq_true', decide_eq_true_eq] at h5
  obtain ⟨⟨⟨⟨⟨g1, g2⟩, g3⟩, g4⟩, g5⟩, g6⟩ := h5
  simp [Cond.before, Cond.holds, Cond.value, h1, h2, h3, h4, g1, g2, g3, g4, g5, g6]
def isCode : Jvm.Cond → Bool
  | .code _ _ _ _ => true
  | _ => false
theorem all_split {L : List Jvm.Cond} {P : Jvm.Cond → Bool} (h1 : L.all (fun c => isCode c || P c) = true) (h2 : ∀ c ∈ L.filter isCode, P c = true) : L.all P = true := by
  refine List.all_eq_true.mpr fun c hc => ?_
  have h := List.all_eq_true.mp h1 c hc
  rcases Bool.eq_false_or_eq_true (isCode c) with hi | hi
  · exact h2 c (List.mem_filter.mpr ⟨hc, hi⟩)
  · simpa [hi] using h
set_option maxRecDepth 65536 in
theorem w_c0 : (Jvm.Cond.code x code maxLocals ret).before args0 about1 = true := code_word (m := ⟨1, 1⟩) (meth := k1m1) (c := k1c1) (by decide +kernel) rfl rfl rfl (by decide +kernel)
set_option maxRecDepth 65536 in
theorem w_c1 : (Jvm.Cond.code ({ cls := "com/example/millstep/millstep/BatchStatus", name := "isRunning", desc := "()Z" } : Jvm.MethodName) prog_1_method_4_code (1 : Nat) (Option.some Jvm.ClassFile.FieldType.boolean)).before args0 about1 = true := code_word (m := ⟨6, 0⟩) (meth := k6m0) (c := k6c0) (by decide +kernel) rfl rfl rfl (by decide +kernel)
set_option maxRecDepth 65536 in
theorem w_c2 : (Jvm.Cond.code ({ cls := "java/lang/Enum", name := "ordinal", desc := "()I" } : Jvm.MethodName) jdk_37_method_2_code (1 : Nat) (Option.some Jvm.ClassFile.FieldType.int)).before args0 about1 = true := code_word (m := ⟨5, 0⟩) (meth := k5m0) (c := k5c0) (by decide +kernel) rfl rfl rfl (by decide +kernel)
def codes1 : List Jvm.Cond := [Jvm.Cond.code x code maxLocals ret, Jvm.Cond.code ({ cls := "com/example/millstep/millstep/BatchStatus", name := "isRunning", desc := "()Z" } : Jvm.MethodName) prog_1_method_4_code (1 : Nat) (Option.some Jvm.ClassFile.FieldType.boolean), Jvm.Cond.code ({ cls := "java/lang/Enum", name := "ordinal", desc := "()I" } : Jvm.MethodName) jdk_37_method_2_code (1 : Nat) (Option.some Jvm.ClassFile.FieldType.int)]
set_option maxRecDepth 65536 in
theorem codes_eq : words1.filter isCode = codes1 := rfl
theorem w_codes : ∀ c ∈ words1.filter isCode, c.before args0 about1 = true := by
  rw [codes_eq]
  intro c hc
  simp only [codes1, List.mem_cons, List.not_mem_nil, or_false] at hc
  rcases hc with rfl | rfl | rfl
  · exact w_c0
  · exact w_c1
  · exact w_c2
set_option maxRecDepth 65536 in
theorem w_t1 : (words1.take 24).all (fun c => isCode c || c.before args0 about1) = true := by decide +kernel
set_option maxRecDepth 65536 in
theorem w_t2 : (words1.drop 24).all (fun c => isCode c || c.before args0 about1) = true := by decide +kernel
theorem w_tables : (allAtoms (Jvm.Cond.code x code maxLocals ret :: tables_1)).before args0 about1 = true := by
  rw [allAtoms_all]
  show words1.all (fun c => c.before args0 about1) = true
  refine all_split ?_ w_codes
  rw [← List.take_append_drop 24 words1, List.all_append, w_t1, w_t2]
  rfl
set_option maxRecDepth 65536 in
theorem w_case : (Jvm.Cond.and given_1 narrow_1).before args0 about1 = true := by decide +kernel
theorem w_applies : (headSpec (Jvm.Cond.code x code maxLocals ret :: tables_1) room_1).applies x e0.platform about1 = true :=
  (Spec.applies_iff w_frames).mpr ⟨w_running, w_runnable, w_alone, w_named, w_hears, w_ripe, w_room, w_tables⟩
theorem atStart : AtStart classFile x code maxLocals ret World_1 tables_1 room_1 Calls_1 rest_1 Pre_1 launch0 p0 e0 about1 theMethod args0 below0 :=
  ⟨lists_1, trivial, launch0.admits_env _ _ _, launch0.least_env, fairChoices_fair.cas, fairChoices_fair.clock, w_frames, w_args, w_heap, w_applies, trivial, trivial, w_case⟩
end start1
theorem witness_1 : WitnessClaimed_1 := ⟨start1.p0, start1.e0, start1.about1, start1.theMethod, start1.args0, start1.below0, start1.atStart⟩
end Jvm.Pilot.@@N@@
