import JvmDerived
import JvmDerived.Pilot.@@N@@Statement
import JvmDerived.Pilot.@@N@@Code
set_option linter.unusedVariables false
set_option linter.unusedSimpArgs false
namespace Jvm.RoadKit
open Sem ClassFile Op Lib Jvm.Stand Jvm.Free Jvm.LawKit
section New
variable {p : Program} {l : Launch} {e : Env} {R : Room} {s : State} {m : MethodId} {args : Array Value} {below : List Frame} {meth : Method} {c : Code} {T : State} {locs : List Loc} {cells slots : Nat}
theorem retI (X : Stand p l e R s m args below meth c T locs cells slots) (hx : p.tables.exec = Jvm.exec) {pc : Nat} {Ls : Array Slot} {z : Int32} {rest : List Value} (hret : meth.sig.returnType = some .int) (hd : decode c.code pc = .ok (.ireturn, 1)) {fs : List Frame}
    (hl : ∀ (f : JFrame) (acts : List Action), f.method = m → f.locked = none → f.entered = [] → (doReturn e (T.setTop f) acts (some (.int z))).1 = T.setFrames fs) : Steps p.tables e below (T.setTop (mkF m pc Ls (.int z :: rest))) (T.setFrames fs) := by
  have hm' : T.vm.method? m = some meth := X.method'
  have hn : narrow .int (.int z) = .int z := rfl
  show Steps p.tables e below (T.setTop { method := m, pc := pc, locals := Ls, stack := _ :: rest, locked := none }) _
  jvm_step X.here [X.here.top, hx, hd, hm', hret, hn]
  first | (intro acts; rw [hl _ acts rfl rfl rfl]) | rw [hl _ _ rfl rfl rfl]
  exact Steps.refl _
end New
end Jvm.RoadKit
namespace Jvm.Pilot.@@N@@
open Jvm Jvm.ClassFile Sem Op Lib Jvm.Free Jvm.Stand Jvm.LawKit Jvm.RoadKit Bundle Jvm.Pilot.@@N@@.Jvm.D
abbrev lv (x : Int64) : Slot := .val (.long x)
theorem im (i : Nat) {d : Jvm.Cond} (h : tables_1[i]? = some d) : d ∈ tables_1 := List.mem_of_getElem? h
theorem own_go {tb : Tables} {e : Env} {below : List Frame} {S S' S0 : State} (P : ∀ t, Steps tb e below S t → Steps tb e below S0 t) (f : ∀ t, Steps tb e below S' t → Steps tb e below S t) : ∀ t, Steps tb e below S' t → Steps tb e below S0 t := fun t k => P t (f t k)
theorem own_sn {Z : State} {a0 : Array Value} {K O n d O' n' d' : String} (L : Laid Z a0 K O n d) (L' : Laid Z a0 K O' n' d') (hn : n ≠ n' := by decide) (ht : (parseFieldDescriptor d).isSome = true := by decide) (ht' : (parseFieldDescriptor d').isSome = true := by decide) : Jvm.RoadKit.slotOf Z O n d ≠ Jvm.RoadKit.slotOf Z O' n' d' := by
  obtain ⟨t, e⟩ := Option.isSome_iff_exists.mp ht
  obtain ⟨t', e'⟩ := Option.isSome_iff_exists.mp ht'
  exact slot_ne L L' hn e e'
theorem pn_0 : plainName "com/example/millstep/millstep/RecordCountsSkipsPinLaw" = true := by first | (simp [plainName, overriddenIn]; done) | decide +kernel
theorem d1_0 : decode prog_51_method_1_code 0 = .ok (.aload_n 0, 1) := by decide +kernel
theorem d1_1 : decode prog_51_method_1_code 1 = .ok (.invokespecial 1, 3) := by decide +kernel
theorem d1_4 : decode prog_51_method_1_code 4 = .ok (.aload_n 0, 1) := by decide +kernel
theorem d1_5 : decode prog_51_method_1_code 5 = .ok (.lload_n 1, 1) := by decide +kernel
theorem d1_6 : decode prog_51_method_1_code 6 = .ok (.putfield 7, 3) := by decide +kernel
theorem d1_9 : decode prog_51_method_1_code 9 = .ok (.aload_n 0, 1) := by decide +kernel
theorem d1_10 : decode prog_51_method_1_code 10 = .ok (.lload_n 3, 1) := by decide +kernel
theorem d1_11 : decode prog_51_method_1_code 11 = .ok (.putfield 13, 3) := by decide +kernel
theorem d1_14 : decode prog_51_method_1_code 14 = .ok (.aload_n 0, 1) := by decide +kernel
theorem d1_15 : decode prog_51_method_1_code 15 = .ok (.lload 5, 2) := by decide +kernel
theorem d1_17 : decode prog_51_method_1_code 17 = .ok (.putfield 16, 3) := by decide +kernel
theorem d1_20 : decode prog_51_method_1_code 20 = .ok (.aload_n 0, 1) := by decide +kernel
theorem d1_21 : decode prog_51_method_1_code 21 = .ok (.lload 7, 2) := by decide +kernel
theorem d1_23 : decode prog_51_method_1_code 23 = .ok (.putfield 19, 3) := by decide +kernel
theorem d1_26 : decode prog_51_method_1_code 26 = .ok (.aload_n 0, 1) := by decide +kernel
theorem d1_27 : decode prog_51_method_1_code 27 = .ok (.lload 9, 2) := by decide +kernel
theorem d1_29 : decode prog_51_method_1_code 29 = .ok (.putfield 22, 3) := by decide +kernel
theorem d1_32 : decode prog_51_method_1_code 32 = .ok (.aload_n 0, 1) := by decide +kernel
theorem d1_33 : decode prog_51_method_1_code 33 = .ok (.lload 11, 2) := by decide +kernel
theorem d1_35 : decode prog_51_method_1_code 35 = .ok (.putfield 25, 3) := by decide +kernel
theorem d1_38 : decode prog_51_method_1_code 38 = .ok (.return_, 1) := by decide +kernel
theorem pn_1 : plainName "com/example/millstep/millstep/RecordCounts" = true := by first | (simp [plainName, overriddenIn]; done) | decide +kernel
theorem d2_0 : decode jdk_30_method_1_code 0 = .ok (.aload_n 0, 1) := by decide +kernel
theorem d2_1 : decode jdk_30_method_1_code 1 = .ok (.invokespecial 1, 3) := by decide +kernel
theorem d2_4 : decode jdk_30_method_1_code 4 = .ok (.return_, 1) := by decide +kernel
theorem pn_2 : plainName "java/lang/Record" = true := by first | (simp [plainName, overriddenIn]; done) | decide +kernel
theorem d4_0 : decode prog_51_method_2_code 0 = .ok (.aload_n 0, 1) := by decide +kernel
theorem d4_1 : decode prog_51_method_2_code 1 = .ok (.getfield 19, 3) := by decide +kernel
theorem d4_4 : decode prog_51_method_2_code 4 = .ok (.aload_n 0, 1) := by decide +kernel
theorem d4_5 : decode prog_51_method_2_code 5 = .ok (.getfield 22, 3) := by decide +kernel
theorem d4_8 : decode prog_51_method_2_code 8 = .ok (.ladd, 1) := by decide +kernel
theorem d4_9 : decode prog_51_method_2_code 9 = .ok (.aload_n 0, 1) := by decide +kernel
theorem d4_10 : decode prog_51_method_2_code 10 = .ok (.getfield 25, 3) := by decide +kernel
theorem d4_13 : decode prog_51_method_2_code 13 = .ok (.ladd, 1) := by decide +kernel
theorem d4_14 : decode prog_51_method_2_code 14 = .ok (.lreturn, 1) := by decide +kernel
theorem pn_4 : plainName "com/example/millstep/millstep/RecordCounts" = true := by first | (simp [plainName, overriddenIn]; done) | decide +kernel
theorem pd_0 : parseMethodDescriptor "()V" = some ⟨[], none⟩ := by decide +kernel
theorem la_0 {Z : State} {a0 : Array Value} (hw : ∀ d ∈ tables_1, d.before a0 Z = true) : Laid Z a0 "com/example/millstep/millstep/RecordCounts" "com/example/millstep/millstep/RecordCounts" "filtered" "J" := (Or.inr (hw _ (im 17 rfl)))
theorem la_1 {Z : State} {a0 : Array Value} (hw : ∀ d ∈ tables_1, d.before a0 Z = true) : Laid Z a0 "com/example/millstep/millstep/RecordCounts" "com/example/millstep/millstep/RecordCounts" "read" "J" := (Or.inr (hw _ (im 15 rfl)))
theorem la_2 {Z : State} {a0 : Array Value} (hw : ∀ d ∈ tables_1, d.before a0 Z = true) : Laid Z a0 "com/example/millstep/millstep/RecordCounts" "com/example/millstep/millstep/RecordCounts" "written" "J" := (Or.inr (hw _ (im 19 rfl)))
theorem la_3 {Z : State} {a0 : Array Value} (hw : ∀ d ∈ tables_1, d.before a0 Z = true) : Laid Z a0 "com/example/millstep/millstep/RecordCounts" "com/example/millstep/millstep/RecordCounts" "readSkips" "J" := (Or.inr (hw _ (im 21 rfl)))
theorem la_4 {Z : State} {a0 : Array Value} (hw : ∀ d ∈ tables_1, d.before a0 Z = true) : Laid Z a0 "com/example/millstep/millstep/RecordCounts" "com/example/millstep/millstep/RecordCounts" "processSkips" "J" := (Or.inr (hw _ (im 23 rfl)))
theorem la_5 {Z : State} {a0 : Array Value} (hw : ∀ d ∈ tables_1, d.before a0 Z = true) : Laid Z a0 "com/example/millstep/millstep/RecordCounts" "com/example/millstep/millstep/RecordCounts" "writeSkips" "J" := (Or.inr (hw _ (im 25 rfl)))
theorem pd_1 : parseMethodDescriptor "(JJJJJJ)V" = some ⟨[.long, .long, .long, .long, .long, .long], none⟩ := by decide +kernel
theorem pd_2 : parseMethodDescriptor "()J" = some ⟨[], some .long⟩ := by decide +kernel

def Q2 (Z : State) (x0 : Addr) (h0 : Heap) (n0 : Nat) (v : Option Value) (h : Heap) (L : List Loc) : Prop := v = none ∧ Fr n0 L ∧ h = h0
theorem ef_2 (m : MethodId) (x0 : Addr) : entryFrame m #[(.ref x0)] 1 = mkF m 0 #[rv x0] [] := by first | (simp [entryFrame, mkF, argsToLocals, Value.category]; done) | rfl
set_option maxRecDepth 65536 in
set_option maxHeartbeats 40000000 in
theorem rm2 (l : Launch) (Z : State) (a0 : Array Value) (hw : ∀ d ∈ tables_1, d.before a0 Z = true) (ws : List Jvm.Cond) (x0 : Addr) (h0 : Heap) (n0 : Nat) (Z0 : n0 ≤ h0.size) :
    MetFree l (⟨"java/lang/Record", "<init>", "()V"⟩ : MethodName) (head1 (Jvm.Cond.code (⟨"java/lang/Record", "<init>", "()V"⟩ : MethodName) jdk_30_method_1_code 1 none :: ws) ({ frames := 1, cells := 0, slots := 0, locals := 12 } : Room)) (fun a U => a = #[(.ref x0)] ∧ Z.Warmed39 U.vm ∧ U.heap = h0) (fun _ _ _ _ _ => True) (fun _ U o U' => ∃ v L, o = .returned v ∧ Q2 Z x0 h0 n0 v U'.heap L ∧ FrameEnd U o U' L ({ frames := 1, cells := 0, slots := 0, locals := 12 } : Room).cells ({ frames := 1, cells := 0, slots := 0, locals := 12 } : Room).slots) := by
  refine MetFree.of_bodySF (plainFor_of_name pn_2) hisR ?_
  intro p e s m args below meth c s₁ Bd hml0 hP hK
  obtain ⟨rfl, hZ, hh⟩ := hP
  have hx := Bd.exec
  have hby := Bd.bytes
  have hml : c.maxLocals = 1 := hml0
  have hown : s.vm.findClass "java/lang/Record" = some m.cls := findClass_of_methodNamed Bd.named
  have hnm := (name_of_methodNamed Bd.named Bd.method).1
  have X0 : Stand p l e ({ frames := 1, cells := 0, slots := 0, locals := 12 } : Room) s m #[(.ref x0)] below meth c s₁ [] 0 0 := Stand.of_body Bd
  have e0 : s₁.heap = h0 := by rw [← hh, Bd.state]; rfl
  have N0 := Fr.nil n0
  have Kp0 := Keep.refl h0 []
  have P0 : ∀ t, Steps p.tables e below (s₁.setTop (mkF m 0 #[rv x0] [])) t → Steps p.tables e below (s₁.setTop (entryFrame m #[(.ref x0)] 1)) t := fun t k => castTop (ef_2 m x0) k
  obtain ⟨T1, X1, e1, st1⟩ := initO X0 hx hZ hown (hw _ (im 11 rfl)) (hw _ (im 12 rfl)) (hw _ (im 13 rfl)) e0 (g := (mkF m 1 #[rv x0] [(.ref x0)])) rfl (by rw [hml]; rfl) rfl (hb hby d2_1) (by decide) (W := 0) (by show 2 * 0 + _ ≤ _; exact Nat.le_of_eq rfl) (by decide)
  have P2 := own_go P0 (S' := T1.setTop (mkF m 4 #[rv x0] [])) (by
    intro t k
    refine XS.aloadN X0.here hx rfl (hb hby d2_0) rfl rfl ?_
    refine st1 _ ?_
    exact k)
  obtain ⟨fs, hr, hrun, hended, hW, hsame⟩ := X1.leave (v := none) (fun _ => rfl)
  refine ⟨_, _, P2 _ ?_, hrun, hended, _, _, rfl, ?_, ⟨_, rfl⟩, hW, hsame.mono (by decide) (by decide)⟩
  · show Steps p.tables e below (T1.setTop (mkF m 4 #[rv x0] [])) _
    exact X1.returnOut hx Bd.returns (hb hby d2_4) hr
  · show Q2 Z x0 h0 n0 _ T1.heap _
    rw [e1]
    exact ⟨rfl, N0, rfl⟩
def Q1 (Z : State) (x0 : Addr) (x1 : Int64) (x2 : Int64) (x3 : Int64) (x4 : Int64) (x5 : Int64) (x6 : Int64) (h0 : Heap) (n0 : Nat) (v : Option Value) (h : Heap) (L : List Loc) : Prop := v = none ∧ Fr n0 L ∧ Keep h0 h [x0] ∧ Exa Z h x0 "com/example/millstep/millstep/RecordCounts" ∧ Fld Z h x0 "com/example/millstep/millstep/RecordCounts" "read" "J" (.long x1) ∧ Fld Z h x0 "com/example/millstep/millstep/RecordCounts" "filtered" "J" (.long x2) ∧ Fld Z h x0 "com/example/millstep/millstep/RecordCounts" "written" "J" (.long x3) ∧ Fld Z h x0 "com/example/millstep/millstep/RecordCounts" "readSkips" "J" (.long x4) ∧ Fld Z h x0 "com/example/millstep/millstep/RecordCounts" "processSkips" "J" (.long x5) ∧ Fld Z h x0 "com/example/millstep/millstep/RecordCounts" "writeSkips" "J" (.long x6)
theorem ef_1 (m : MethodId) (x0 : Addr) (x1 : Int64) (x2 : Int64) (x3 : Int64) (x4 : Int64) (x5 : Int64) (x6 : Int64) : entryFrame m #[(.ref x0), (.long x1), (.long x2), (.long x3), (.long x4), (.long x5), (.long x6)] 13 = mkF m 0 #[rv x0, lv x1, .second, lv x2, .second, lv x3, .second, lv x4, .second, lv x5, .second, lv x6, .second] [] := by first | (simp [entryFrame, mkF, argsToLocals, Value.category]; done) | rfl
set_option maxRecDepth 65536 in
set_option maxHeartbeats 40000000 in
theorem rm1 (l : Launch) (Z : State) (a0 : Array Value) (hw : ∀ d ∈ tables_1, d.before a0 Z = true) (ws : List Jvm.Cond) (x0 : Addr) (x1 : Int64) (x2 : Int64) (x3 : Int64) (x4 : Int64) (x5 : Int64) (x6 : Int64) (h0 : Heap) (n0 : Nat) (Z0 : n0 ≤ h0.size) (pre_E_x0 : Exa Z h0 x0 "com/example/millstep/millstep/RecordCounts") (pre_F_x0_read : Fld Z h0 x0 "com/example/millstep/millstep/RecordCounts" "read" "J" (.long 0)) (pre_F_x0_filtered : Fld Z h0 x0 "com/example/millstep/millstep/RecordCounts" "filtered" "J" (.long 0)) (pre_F_x0_written : Fld Z h0 x0 "com/example/millstep/millstep/RecordCounts" "written" "J" (.long 0)) (pre_F_x0_readSkips : Fld Z h0 x0 "com/example/millstep/millstep/RecordCounts" "readSkips" "J" (.long 0)) (pre_F_x0_processSkips : Fld Z h0 x0 "com/example/millstep/millstep/RecordCounts" "processSkips" "J" (.long 0)) (pre_F_x0_writeSkips : Fld Z h0 x0 "com/example/millstep/millstep/RecordCounts" "writeSkips" "J" (.long 0)) (g_x0 : n0 ≤ x0) :
    MetFree l (⟨"com/example/millstep/millstep/RecordCounts", "<init>", "(JJJJJJ)V"⟩ : MethodName) (head1 (Jvm.Cond.code (⟨"com/example/millstep/millstep/RecordCounts", "<init>", "(JJJJJJ)V"⟩ : MethodName) prog_51_method_1_code 13 none :: ws) ({ frames := 2, cells := 0, slots := 0, locals := 24 } : Room)) (fun a U => a = #[(.ref x0), (.long x1), (.long x2), (.long x3), (.long x4), (.long x5), (.long x6)] ∧ Z.Warmed39 U.vm ∧ U.heap = h0) (fun _ _ _ _ _ => True) (fun _ U o U' => ∃ v L, o = .returned v ∧ Q1 Z x0 x1 x2 x3 x4 x5 x6 h0 n0 v U'.heap L ∧ FrameEnd U o U' L ({ frames := 2, cells := 0, slots := 0, locals := 24 } : Room).cells ({ frames := 2, cells := 0, slots := 0, locals := 24 } : Room).slots) := by
  refine MetFree.of_bodySF (plainFor_of_name pn_1) hisR ?_
  intro p e s m args below meth c s₁ Bd hml0 hP hK
  obtain ⟨rfl, hZ, hh⟩ := hP
  have hx := Bd.exec
  have hby := Bd.bytes
  have hml : c.maxLocals = 13 := hml0
  have hown : s.vm.findClass "com/example/millstep/millstep/RecordCounts" = some m.cls := findClass_of_methodNamed Bd.named
  have hnm := (name_of_methodNamed Bd.named Bd.method).1
  have X0 : Stand p l e ({ frames := 2, cells := 0, slots := 0, locals := 24 } : Room) s m #[(.ref x0), (.long x1), (.long x2), (.long x3), (.long x4), (.long x5), (.long x6)] below meth c s₁ [] 0 0 := Stand.of_body Bd
  have e0 : s₁.heap = h0 := by rw [← hh, Bd.state]; rfl
  have N0 := Fr.nil n0
  have Kp0 := Keep.refl h0 [x0]
  have P0 : ∀ t, Steps p.tables e below (s₁.setTop (mkF m 0 #[rv x0, lv x1, .second, lv x2, .second, lv x3, .second, lv x4, .second, lv x5, .second, lv x6, .second] [])) t → Steps p.tables e below (s₁.setTop (entryFrame m #[(.ref x0), (.long x1), (.long x2), (.long x3), (.long x4), (.long x5), (.long x6)] 13)) t := fun t k => castTop (ef_1 m x0 x1 x2 x3 x4 x5 x6) k
  obtain ⟨_, _, ⟨T1, L1, k1, n1⟩, -, X1, ⟨Lc1, hQ1, l1, y1, z1⟩, st1⟩ := X0.specialBack hx (y := (⟨"java/lang/Record", "<init>", "()V"⟩ : MethodName)) rfl hown (mvT hZ (hw _ (im 6 rfl))) (mvT hZ (hw _ (im 7 rfl))) (mvT hZ (hw _ (im 10 rfl))) (by decide) (backOf (W := 0) (rm2 l Z a0 hw [] x0 h0 n0 Z0 ) hZ (hw _ (im 10 rfl)) (hw _ (im 9 rfl)) (by decide) (by decide)) (g := (mkF m 1 #[rv x0, lv x1, .second, lv x2, .second, lv x3, .second, lv x4, .second, lv x5, .second, lv x6, .second] [(.ref x0)])) rfl (by rw [hml]; rfl) (Steps.refl _) (a := x0) (argsL := []) (rest := []) (lenOf pd_0 rfl) rfl (by show 2 * 0 + _ ≤ _; exact Nat.le_of_eq rfl) (hb hby d1_1) (fun _ _ => ⟨rfl, e0, (by decide : 0 + 0 ≤ _), (by decide : 0 + 0 ≤ _)⟩)
  dsimp only [Pt.U, Pt.locs, Pt.cells, Pt.slots] at X1 l1 y1 z1 st1 hQ1
  subst l1 y1 z1
  obtain ⟨rfl, N1q, e1⟩ := hQ1
  have N1 := Fr.app N0 N1q
  obtain ⟨T2, h2, X2, e2, W2, st2⟩ := putF X1 hx hZ hown (host := "") (Or.inl (hw _ (im 14 rfl))) Via.refl e1 pre_F_x0_read pre_E_x0 (Or.inr ⟨(hw _ (im 15 rfl)), rfl, hnm⟩) (hw _ (im 1 rfl)) (ty := .long) (by decide) rfl rfl (g := (mkF m 6 #[rv x0, lv x1, .second, lv x2, .second, lv x3, .second, lv x4, .second, lv x5, .second, lv x6, .second] [(.long x1), (.ref x0)])) rfl rfl (hb hby d1_6)
  have Fw2 := pre_F_x0_read.same W2
  have Z2_ : n0 ≤ h2.size := Nat.le_trans Z0 (Nat.le_of_eq W2.size.symm)
  have N2 := Fr.snoc X2 N1 g_x0
  have KK2 := Kp0.wr W2 (Or.inl (List.mem_of_getElem? (i := 0) rfl))
  have q3 := (pre_F_x0_filtered.other W2 (Or.inr (own_sn (la_0 hw) (la_1 hw))))
  have q4 := (pre_E_x0.wr W2)
  obtain ⟨T5, h5, X5, e5, W5, st5⟩ := putF X2 hx hZ hown (host := "") (Or.inl (hw _ (im 16 rfl))) Via.refl e2 q3 q4 (Or.inr ⟨(hw _ (im 17 rfl)), rfl, hnm⟩) (hw _ (im 1 rfl)) (ty := .long) (by decide) rfl rfl (g := (mkF m 11 #[rv x0, lv x1, .second, lv x2, .second, lv x3, .second, lv x4, .second, lv x5, .second, lv x6, .second] [(.long x2), (.ref x0)])) rfl rfl (hb hby d1_11)
  have Fw5 := q3.same W5
  have Z5_ : n0 ≤ h5.size := Nat.le_trans Z2_ (Nat.le_of_eq W5.size.symm)
  have N5 := Fr.snoc X5 N2 g_x0
  have KK5 := KK2.wr W5 (Or.inl (List.mem_of_getElem? (i := 0) rfl))
  have q6 := ((pre_F_x0_written.other W2 (Or.inr (own_sn (la_2 hw) (la_1 hw)))).other W5 (Or.inr (own_sn (la_2 hw) (la_0 hw))))
  have q7 := (q4.wr W5)
  obtain ⟨T8, h8, X8, e8, W8, st8⟩ := putF X5 hx hZ hown (host := "") (Or.inl (hw _ (im 18 rfl))) Via.refl e5 q6 q7 (Or.inr ⟨(hw _ (im 19 rfl)), rfl, hnm⟩) (hw _ (im 1 rfl)) (ty := .long) (by decide) rfl rfl (g := (mkF m 17 #[rv x0, lv x1, .second, lv x2, .second, lv x3, .second, lv x4, .second, lv x5, .second, lv x6, .second] [(.long x3), (.ref x0)])) rfl rfl (hb hby d1_17)
  have Fw8 := q6.same W8
  have Z8_ : n0 ≤ h8.size := Nat.le_trans Z5_ (Nat.le_of_eq W8.size.symm)
  have N8 := Fr.snoc X8 N5 g_x0
  have KK8 := KK5.wr W8 (Or.inl (List.mem_of_getElem? (i := 0) rfl))
  have q9 := (((pre_F_x0_readSkips.other W2 (Or.inr (own_sn (la_3 hw) (la_1 hw)))).other W5 (Or.inr (own_sn (la_3 hw) (la_0 hw)))).other W8 (Or.inr (own_sn (la_3 hw) (la_2 hw))))
  have q10 := (q7.wr W8)
  obtain ⟨T11, h11, X11, e11, W11, st11⟩ := putF X8 hx hZ hown (host := "") (Or.inl (hw _ (im 20 rfl))) Via.refl e8 q9 q10 (Or.inr ⟨(hw _ (im 21 rfl)), rfl, hnm⟩) (hw _ (im 1 rfl)) (ty := .long) (by decide) rfl rfl (g := (mkF m 23 #[rv x0, lv x1, .second, lv x2, .second, lv x3, .second, lv x4, .second, lv x5, .second, lv x6, .second] [(.long x4), (.ref x0)])) rfl rfl (hb hby d1_23)
  have Fw11 := q9.same W11
  have Z11_ : n0 ≤ h11.size := Nat.le_trans Z8_ (Nat.le_of_eq W11.size.symm)
  have N11 := Fr.snoc X11 N8 g_x0
  have KK11 := KK8.wr W11 (Or.inl (List.mem_of_getElem? (i := 0) rfl))
  have q12 := ((((pre_F_x0_processSkips.other W2 (Or.inr (own_sn (la_4 hw) (la_1 hw)))).other W5 (Or.inr (own_sn (la_4 hw) (la_0 hw)))).other W8 (Or.inr (own_sn (la_4 hw) (la_2 hw)))).other W11 (Or.inr (own_sn (la_4 hw) (la_3 hw))))
  have q13 := (q10.wr W11)
  obtain ⟨T14, h14, X14, e14, W14, st14⟩ := putF X11 hx hZ hown (host := "") (Or.inl (hw _ (im 22 rfl))) Via.refl e11 q12 q13 (Or.inr ⟨(hw _ (im 23 rfl)), rfl, hnm⟩) (hw _ (im 1 rfl)) (ty := .long) (by decide) rfl rfl (g := (mkF m 29 #[rv x0, lv x1, .second, lv x2, .second, lv x3, .second, lv x4, .second, lv x5, .second, lv x6, .second] [(.long x5), (.ref x0)])) rfl rfl (hb hby d1_29)
  have Fw14 := q12.same W14
  have Z14_ : n0 ≤ h14.size := Nat.le_trans Z11_ (Nat.le_of_eq W14.size.symm)
  have N14 := Fr.snoc X14 N11 g_x0
  have KK14 := KK11.wr W14 (Or.inl (List.mem_of_getElem? (i := 0) rfl))
  have q15 := (((((pre_F_x0_writeSkips.other W2 (Or.inr (own_sn (la_5 hw) (la_1 hw)))).other W5 (Or.inr (own_sn (la_5 hw) (la_0 hw)))).other W8 (Or.inr (own_sn (la_5 hw) (la_2 hw)))).other W11 (Or.inr (own_sn (la_5 hw) (la_3 hw)))).other W14 (Or.inr (own_sn (la_5 hw) (la_4 hw))))
  have q16 := (q13.wr W14)
  obtain ⟨T17, h17, X17, e17, W17, st17⟩ := putF X14 hx hZ hown (host := "") (Or.inl (hw _ (im 24 rfl))) Via.refl e14 q15 q16 (Or.inr ⟨(hw _ (im 25 rfl)), rfl, hnm⟩) (hw _ (im 1 rfl)) (ty := .long) (by decide) rfl rfl (g := (mkF m 35 #[rv x0, lv x1, .second, lv x2, .second, lv x3, .second, lv x4, .second, lv x5, .second, lv x6, .second] [(.long x6), (.ref x0)])) rfl rfl (hb hby d1_35)
  have Fw17 := q15.same W17
  have Z17_ : n0 ≤ h17.size := Nat.le_trans Z14_ (Nat.le_of_eq W17.size.symm)
  have N17 := Fr.snoc X17 N14 g_x0
  have KK17 := KK14.wr W17 (Or.inl (List.mem_of_getElem? (i := 0) rfl))
  have P18 := own_go P0 (S' := T17.setTop (mkF m 38 #[rv x0, lv x1, .second, lv x2, .second, lv x3, .second, lv x4, .second, lv x5, .second, lv x6, .second] [])) (by
    intro t k
    refine XS.aloadN X0.here hx rfl (hb hby d1_0) rfl rfl ?_
    refine st1.trans ?_
    refine XS.aloadN X1.here hx rfl (hb hby d1_4) rfl rfl ?_
    refine XS.lloadN X1.here hx rfl (hb hby d1_5) rfl ?_
    refine st2 _ ?_
    refine XS.aloadN X2.here hx rfl (hb hby d1_9) rfl rfl ?_
    refine XS.lloadN X2.here hx rfl (hb hby d1_10) rfl ?_
    refine st5 _ ?_
    show Steps p.tables e below (T5.setTop (mkF m 14 #[rv x0, lv x1, .second, lv x2, .second, lv x3, .second, lv x4, .second, lv x5, .second, lv x6, .second] [])) _
    refine XS.aloadN X5.here hx rfl (hb hby d1_14) rfl rfl ?_
    refine XS.lload X5.here hx rfl (hb hby d1_15) rfl ?_
    refine st8 _ ?_
    refine XS.aloadN X8.here hx rfl (hb hby d1_20) rfl rfl ?_
    refine XS.lload X8.here hx rfl (hb hby d1_21) rfl ?_
    refine st11 _ ?_
    refine XS.aloadN X11.here hx rfl (hb hby d1_26) rfl rfl ?_
    refine XS.lload X11.here hx rfl (hb hby d1_27) rfl ?_
    show Steps p.tables e below (T11.setTop (mkF m 29 #[rv x0, lv x1, .second, lv x2, .second, lv x3, .second, lv x4, .second, lv x5, .second, lv x6, .second] [(.long x5), (.ref x0)])) _
    refine st14 _ ?_
    refine XS.aloadN X14.here hx rfl (hb hby d1_32) rfl rfl ?_
    refine XS.lload X14.here hx rfl (hb hby d1_33) rfl ?_
    refine st17 _ ?_
    exact k)
  have q19 := (q16.wr W17)
  have q20 := (((((Fw2.other W5 (Or.inr (own_sn (la_1 hw) (la_0 hw)))).other W8 (Or.inr (own_sn (la_1 hw) (la_2 hw)))).other W11 (Or.inr (own_sn (la_1 hw) (la_3 hw)))).other W14 (Or.inr (own_sn (la_1 hw) (la_4 hw)))).other W17 (Or.inr (own_sn (la_1 hw) (la_5 hw))))
  have q21 := ((((Fw5.other W8 (Or.inr (own_sn (la_0 hw) (la_2 hw)))).other W11 (Or.inr (own_sn (la_0 hw) (la_3 hw)))).other W14 (Or.inr (own_sn (la_0 hw) (la_4 hw)))).other W17 (Or.inr (own_sn (la_0 hw) (la_5 hw))))
  have q22 := (((Fw8.other W11 (Or.inr (own_sn (la_2 hw) (la_3 hw)))).other W14 (Or.inr (own_sn (la_2 hw) (la_4 hw)))).other W17 (Or.inr (own_sn (la_2 hw) (la_5 hw))))
  have q23 := ((Fw11.other W14 (Or.inr (own_sn (la_3 hw) (la_4 hw)))).other W17 (Or.inr (own_sn (la_3 hw) (la_5 hw))))
  have q24 := (Fw14.other W17 (Or.inr (own_sn (la_4 hw) (la_5 hw))))
  obtain ⟨fs, hr, hrun, hended, hW, hsame⟩ := X17.leave (v := none) (fun _ => rfl)
  refine ⟨_, _, P18 _ ?_, hrun, hended, _, _, rfl, ?_, ⟨_, rfl⟩, hW, hsame.mono (by decide) (by decide)⟩
  · show Steps p.tables e below (T17.setTop (mkF m 38 #[rv x0, lv x1, .second, lv x2, .second, lv x3, .second, lv x4, .second, lv x5, .second, lv x6, .second] [])) _
    exact X17.returnOut hx Bd.returns (hb hby d1_38) hr
  · show Q1 Z x0 x1 x2 x3 x4 x5 x6 h0 n0 _ T17.heap _
    rw [e17]
    exact ⟨rfl, N17, KK17, q19, q20, q21, q22, q23, q24, Fw17⟩
def Q4 (Z : State) (x0 : Addr) (rr : Int64) (pp : Int64) (ww : Int64) (h0 : Heap) (n0 : Nat) (v : Option Value) (h : Heap) (L : List Loc) : Prop := v = some (.long ((rr + pp) + ww)) ∧ Fr n0 L ∧ h = h0
theorem ef_4 (m : MethodId) (x0 : Addr) : entryFrame m #[(.ref x0)] 1 = mkF m 0 #[rv x0] [] := by first | (simp [entryFrame, mkF, argsToLocals, Value.category]; done) | rfl
set_option maxRecDepth 65536 in
set_option maxHeartbeats 40000000 in
theorem rm4 (l : Launch) (Z : State) (a0 : Array Value) (hw : ∀ d ∈ tables_1, d.before a0 Z = true) (ws : List Jvm.Cond) (x0 : Addr) (rr : Int64) (pp : Int64) (ww : Int64) (h0 : Heap) (n0 : Nat) (Z0 : n0 ≤ h0.size) (pre_F_x0_readSkips : Fld Z h0 x0 "com/example/millstep/millstep/RecordCounts" "readSkips" "J" (.long rr)) (pre_F_x0_processSkips : Fld Z h0 x0 "com/example/millstep/millstep/RecordCounts" "processSkips" "J" (.long pp)) (pre_F_x0_writeSkips : Fld Z h0 x0 "com/example/millstep/millstep/RecordCounts" "writeSkips" "J" (.long ww)) :
    MetFree l (⟨"com/example/millstep/millstep/RecordCounts", "skips", "()J"⟩ : MethodName) (head1 (Jvm.Cond.code (⟨"com/example/millstep/millstep/RecordCounts", "skips", "()J"⟩ : MethodName) prog_51_method_2_code 1 (some .long) :: ws) ({ frames := 0, cells := 0, slots := 0, locals := 0 } : Room)) (fun a U => a = #[(.ref x0)] ∧ Z.Warmed39 U.vm ∧ U.heap = h0) (fun _ _ _ _ _ => True) (fun _ U o U' => ∃ v L, o = .returned v ∧ Q4 Z x0 rr pp ww h0 n0 v U'.heap L ∧ FrameEnd U o U' L ({ frames := 0, cells := 0, slots := 0, locals := 0 } : Room).cells ({ frames := 0, cells := 0, slots := 0, locals := 0 } : Room).slots) := by
  refine MetFree.of_bodySF (plainFor_of_name pn_4) hisR ?_
  intro p e s m args below meth c s₁ Bd hml0 hP hK
  obtain ⟨rfl, hZ, hh⟩ := hP
  have hx := Bd.exec
  have hby := Bd.bytes
  have hml : c.maxLocals = 1 := hml0
  have hown : s.vm.findClass "com/example/millstep/millstep/RecordCounts" = some m.cls := findClass_of_methodNamed Bd.named
  have hnm := (name_of_methodNamed Bd.named Bd.method).1
  have X0 : Stand p l e ({ frames := 0, cells := 0, slots := 0, locals := 0 } : Room) s m #[(.ref x0)] below meth c s₁ [] 0 0 := Stand.of_body Bd
  have e0 : s₁.heap = h0 := by rw [← hh, Bd.state]; rfl
  have N0 := Fr.nil n0
  have Kp0 := Keep.refl h0 []
  have P0 : ∀ t, Steps p.tables e below (s₁.setTop (mkF m 0 #[rv x0] [])) t → Steps p.tables e below (s₁.setTop (entryFrame m #[(.ref x0)] 1)) t := fun t k => castTop (ef_4 m x0) k
  obtain ⟨T1, X1, e1, st1⟩ := getF X0 hx hZ hown (host := "") (Or.inl (hw _ (im 20 rfl))) Via.refl e0 pre_F_x0_readSkips (g := (mkF m 1 #[rv x0] [(.ref x0)])) rfl rfl (hb hby d4_1)
  obtain ⟨T2, X2, e2, st2⟩ := getF X1 hx hZ hown (host := "") (Or.inl (hw _ (im 22 rfl))) Via.refl e1 pre_F_x0_processSkips (g := (mkF m 5 #[rv x0] [(.ref x0), (.long rr)])) rfl rfl (hb hby d4_5)
  obtain ⟨T3, X3, e3, st3⟩ := getF X2 hx hZ hown (host := "") (Or.inl (hw _ (im 24 rfl))) Via.refl e2 pre_F_x0_writeSkips (g := (mkF m 10 #[rv x0] [(.ref x0), (.long (rr + pp))])) rfl rfl (hb hby d4_10)
  have P4 := own_go P0 (S' := T3.setTop (mkF m 14 #[rv x0] [(.long ((rr + pp) + ww))])) (by
    intro t k
    refine XS.aloadN X0.here hx rfl (hb hby d4_0) rfl rfl ?_
    refine st1 _ ?_
    refine XS.aloadN X1.here hx rfl (hb hby d4_4) rfl rfl ?_
    refine st2 _ ?_
    refine XS.ladd X2.here hx rfl (hb hby d4_8) rfl ?_
    refine XS.aloadN X2.here hx rfl (hb hby d4_9) rfl rfl ?_
    refine st3 _ ?_
    refine XS.ladd X3.here hx rfl (hb hby d4_13) rfl ?_
    show Steps p.tables e below (T3.setTop (mkF m 14 #[rv x0] [(.long ((rr + pp) + ww))])) _
    exact k)
  obtain ⟨fs, hr, hrun, hended, hW, hsame⟩ := X3.leave (v := some (.long ((rr + pp) + ww))) (fun h => by rw [Bd.returns] at h; cases h)
  refine ⟨_, _, P4 _ ?_, hrun, hended, _, _, rfl, ?_, ⟨_, rfl⟩, hW, hsame.mono (by decide) (by decide)⟩
  · show Steps p.tables e below (T3.setTop (mkF m 14 #[rv x0] [(.long ((rr + pp) + ww))])) _
    exact retOut X3 hx (t := .long) Bd.returns rfl (Or.inr (Or.inl ⟨rfl, rfl, _, rfl⟩)) (hb hby d4_14) hr
  · show Q4 Z x0 rr pp ww h0 n0 _ T3.heap _
    rw [e3]
    exact ⟨rfl, N0, rfl⟩
def Q0 (Z : State) (x0 : Int64) (x1 : Int64) (x2 : Int64) (x3 : Int64) (x4 : Int64) (x5 : Int64) (h0 : Heap) (n0 : Nat) (v : Option Value) (h : Heap) (L : List Loc) : Prop := v = some (.int 1) ∧ Fr n0 L
theorem ef_0 (m : MethodId) (x0 : Int64) (x1 : Int64) (x2 : Int64) (x3 : Int64) (x4 : Int64) (x5 : Int64) : entryFrame m #[(.long x0), (.long x1), (.long x2), (.long x3), (.long x4), (.long x5)] maxLocals = mkF m 0 #[lv x0, .second, lv x1, .second, lv x2, .second, lv x3, .second, lv x4, .second, lv x5, .second, .unset, .unset, .unset, .unset, .unset, .unset, .unset, .unset, .unset, .unset, .unset, .unset] [] := by first | (simp [entryFrame, mkF, argsToLocals, Value.category, maxLocals]; done) | rfl
set_option maxRecDepth 65536 in
set_option maxHeartbeats 40000000 in
theorem rm0 (l : Launch) (Z : State) (a0 : Array Value) (hw : ∀ d ∈ tables_1, d.before a0 Z = true) (ws : List Jvm.Cond) (x0 : Int64) (x1 : Int64) (x2 : Int64) (x3 : Int64) (x4 : Int64) (x5 : Int64) (h0 : Heap) (n0 : Nat) (Z0 : n0 ≤ h0.size) :
    MetFree l x (head1 (Jvm.Cond.code x code maxLocals ret :: ws) room_1) (fun a U => a = #[(.long x0), (.long x1), (.long x2), (.long x3), (.long x4), (.long x5)] ∧ Z.Warmed39 U.vm ∧ U.heap = h0) (fun _ _ _ _ _ => True) (fun _ U o U' => ∃ v L, o = .returned v ∧ Q0 Z x0 x1 x2 x3 x4 x5 h0 n0 v U'.heap L ∧ FrameEnd U o U' L room_1.cells room_1.slots) := by
  refine MetFree.of_bodySF (plainFor_of_name pn_0) hisR ?_
  intro p e s m args below meth c s₁ Bd hml0 hP hK
  obtain ⟨rfl, hZ, hh⟩ := hP
  have hx := Bd.exec
  have hby := Bd.bytes
  have hml : c.maxLocals = 24 := hml0
  have hown : s.vm.findClass "com/example/millstep/millstep/RecordCountsSkipsPinLaw" = some m.cls := findClass_of_methodNamed Bd.named
  have hnm := (name_of_methodNamed Bd.named Bd.method).1
  have X0 : Stand p l e room_1 s m #[(.long x0), (.long x1), (.long x2), (.long x3), (.long x4), (.long x5)] below meth c s₁ [] 0 0 := Stand.of_body Bd
  have e0 : s₁.heap = h0 := by rw [← hh, Bd.state]; rfl
  have N0 := Fr.nil n0
  have Kp0 := Keep.refl h0 []
  have P0 : ∀ t, Steps p.tables e below (s₁.setTop (mkF m 0 #[lv x0, .second, lv x1, .second, lv x2, .second, lv x3, .second, lv x4, .second, lv x5, .second, .unset, .unset, .unset, .unset, .unset, .unset, .unset, .unset, .unset, .unset, .unset, .unset] [])) t → Steps p.tables e below (s₁.setTop (entryFrame m #[(.long x0), (.long x1), (.long x2), (.long x3), (.long x4), (.long x5)] maxLocals)) t := fun t k => castTop (ef_0 m x0 x1 x2 x3 x4 x5) k
  obtain ⟨T1, h1, X1, e1, E1, A1, D1, -, st1⟩ := newO X0 hx hZ hown (hw _ (im 0 rfl)) (hw _ (im 1 rfl)) (hw _ (im 2 rfl)) e0 (g := (mkF m 0 #[lv x0, .second, lv x1, .second, lv x2, .second, lv x3, .second, lv x4, .second, lv x5, .second, .unset, .unset, .unset, .unset, .unset, .unset, .unset, .unset, .unset, .unset, .unset, .unset] [])) rfl (hb hby at_0) (by decide) (by decide)
  obtain ⟨b1, g1⟩ : ∃ z, z = h0.size := ⟨_, rfl⟩
  rw [← g1] at A1 D1 st1
  have ge_b1 : n0 ≤ b1 := Nat.le_trans Z0 (Nat.le_of_eq g1.symm)
  have Z1_ : n0 ≤ h1.size := Nat.le_trans Z0 E1.1
  have F1_read : Fld Z h1 b1 "com/example/millstep/millstep/RecordCounts" "read" "J" (.long 0) := D1 (Or.inr (hw _ (im 15 rfl))) (ty := .long) (by decide)
  have F1_filtered : Fld Z h1 b1 "com/example/millstep/millstep/RecordCounts" "filtered" "J" (.long 0) := D1 (Or.inr (hw _ (im 17 rfl))) (ty := .long) (by decide)
  have F1_written : Fld Z h1 b1 "com/example/millstep/millstep/RecordCounts" "written" "J" (.long 0) := D1 (Or.inr (hw _ (im 19 rfl))) (ty := .long) (by decide)
  have F1_readSkips : Fld Z h1 b1 "com/example/millstep/millstep/RecordCounts" "readSkips" "J" (.long 0) := D1 (Or.inr (hw _ (im 21 rfl))) (ty := .long) (by decide)
  have F1_processSkips : Fld Z h1 b1 "com/example/millstep/millstep/RecordCounts" "processSkips" "J" (.long 0) := D1 (Or.inr (hw _ (im 23 rfl))) (ty := .long) (by decide)
  have F1_writeSkips : Fld Z h1 b1 "com/example/millstep/millstep/RecordCounts" "writeSkips" "J" (.long 0) := D1 (Or.inr (hw _ (im 25 rfl))) (ty := .long) (by decide)
  obtain ⟨_, _, ⟨T2, L2, k2, n2⟩, -, X2, ⟨Lc2, hQ2, l2, y2, z2⟩, st2⟩ := X1.specialBack hx (y := (⟨"com/example/millstep/millstep/RecordCounts", "<init>", "(JJJJJJ)V"⟩ : MethodName)) rfl hown (mvT hZ (hw _ (im 3 rfl))) (mvT hZ (hw _ (im 4 rfl))) (mvT hZ (hw _ (im 5 rfl))) (by decide) (backOf (W := 1) (rm1 l Z a0 hw [] b1 x0 x1 x2 x3 x4 x5 h1 n0 Z1_ A1 F1_read F1_filtered F1_written F1_readSkips F1_processSkips F1_writeSkips ge_b1) hZ (hw _ (im 5 rfl)) (hw _ (im 2 rfl)) (by decide) (by decide)) (g := (mkF m 14 #[lv x0, .second, lv x1, .second, lv x2, .second, lv x3, .second, lv x4, .second, lv x5, .second, .unset, .unset, .unset, .unset, .unset, .unset, .unset, .unset, .unset, .unset, .unset, .unset] [(.long x5), (.long x4), (.long x3), (.long x2), (.long x1), (.long x0), (.ref b1), (.ref b1)])) rfl (by rw [hml]; rfl) (Steps.refl _) (a := b1) (argsL := [(.long x0), (.long x1), (.long x2), (.long x3), (.long x4), (.long x5)]) (rest := [(.ref b1)]) (lenOf pd_1 rfl) rfl (by show 2 * 0 + _ ≤ _; exact Nat.le_of_eq rfl) (hb hby at_14) (fun _ _ => ⟨rfl, e1, (by decide : 1 + 0 ≤ _), (by decide : 6 + 0 ≤ _)⟩)
  dsimp only [Pt.U, Pt.locs, Pt.cells, Pt.slots] at X2 l2 y2 z2 st2 hQ2
  subst l2 y2 z2
  obtain ⟨rfl, N2q, K2, r2_0, r2_1, r2_2, r2_3, r2_4, r2_5, r2_6⟩ := hQ2
  have N2 := Fr.app N0 N2q
  have Z2_ : n0 ≤ T2.heap.size := Nat.le_trans Z1_ K2.1
  obtain ⟨T3, h3, X3, e3, E3, A3, D3, -, st3⟩ := newO X2 hx hZ hown (hw _ (im 0 rfl)) (hw _ (im 1 rfl)) (hw _ (im 2 rfl)) rfl (g := (mkF m 19 #[lv x0, .second, lv x1, .second, lv x2, .second, lv x3, .second, lv x4, .second, lv x5, .second, rv b1, .unset, .unset, .unset, .unset, .unset, .unset, .unset, .unset, .unset, .unset, .unset] [])) rfl (hb hby at_19) (by decide) (by decide)
  obtain ⟨b3, g3⟩ : ∃ z, z = T2.heap.size := ⟨_, rfl⟩
  rw [← g3] at A3 D3 st3
  have ge_b3 : n0 ≤ b3 := Nat.le_trans Z2_ (Nat.le_of_eq g3.symm)
  have Z3_ : n0 ≤ h3.size := Nat.le_trans Z2_ E3.1
  have F3_read : Fld Z h3 b3 "com/example/millstep/millstep/RecordCounts" "read" "J" (.long 0) := D3 (Or.inr (hw _ (im 15 rfl))) (ty := .long) (by decide)
  have F3_filtered : Fld Z h3 b3 "com/example/millstep/millstep/RecordCounts" "filtered" "J" (.long 0) := D3 (Or.inr (hw _ (im 17 rfl))) (ty := .long) (by decide)
  have F3_written : Fld Z h3 b3 "com/example/millstep/millstep/RecordCounts" "written" "J" (.long 0) := D3 (Or.inr (hw _ (im 19 rfl))) (ty := .long) (by decide)
  have F3_readSkips : Fld Z h3 b3 "com/example/millstep/millstep/RecordCounts" "readSkips" "J" (.long 0) := D3 (Or.inr (hw _ (im 21 rfl))) (ty := .long) (by decide)
  have F3_processSkips : Fld Z h3 b3 "com/example/millstep/millstep/RecordCounts" "processSkips" "J" (.long 0) := D3 (Or.inr (hw _ (im 23 rfl))) (ty := .long) (by decide)
  have F3_writeSkips : Fld Z h3 b3 "com/example/millstep/millstep/RecordCounts" "writeSkips" "J" (.long 0) := D3 (Or.inr (hw _ (im 25 rfl))) (ty := .long) (by decide)
  obtain ⟨_, _, ⟨T4, L4, k4, n4⟩, -, X4, ⟨Lc4, hQ4, l4, y4, z4⟩, st4⟩ := X3.specialBack hx (y := (⟨"com/example/millstep/millstep/RecordCounts", "<init>", "(JJJJJJ)V"⟩ : MethodName)) rfl hown (mvT hZ (hw _ (im 3 rfl))) (mvT hZ (hw _ (im 4 rfl))) (mvT hZ (hw _ (im 5 rfl))) (by decide) (backOf (W := 1) (rm1 l Z a0 hw [] b3 (0 : Int64) (0 : Int64) (0 : Int64) x3 (0 : Int64) (0 : Int64) h3 n0 Z3_ A3 F3_read F3_filtered F3_written F3_readSkips F3_processSkips F3_writeSkips ge_b3) hZ (hw _ (im 5 rfl)) (hw _ (im 2 rfl)) (by decide) (by decide)) (g := (mkF m 30 #[lv x0, .second, lv x1, .second, lv x2, .second, lv x3, .second, lv x4, .second, lv x5, .second, rv b1, .unset, .unset, .unset, .unset, .unset, .unset, .unset, .unset, .unset, .unset, .unset] [(.long 0), (.long 0), (.long x3), (.long 0), (.long 0), (.long 0), (.ref b3), (.ref b3)])) rfl (by rw [hml]; rfl) (Steps.refl _) (a := b3) (argsL := [(.long 0), (.long 0), (.long 0), (.long x3), (.long 0), (.long 0)]) (rest := [(.ref b3)]) (lenOf pd_1 rfl) rfl (by show 2 * 0 + _ ≤ _; exact Nat.le_of_eq rfl) (hb hby at_30) (fun _ _ => ⟨rfl, e3, (by decide : 2 + 0 ≤ _), (by decide : 12 + 0 ≤ _)⟩)
  dsimp only [Pt.U, Pt.locs, Pt.cells, Pt.slots] at X4 l4 y4 z4 st4 hQ4
  subst l4 y4 z4
  obtain ⟨rfl, N4q, K4, r4_0, r4_1, r4_2, r4_3, r4_4, r4_5, r4_6⟩ := hQ4
  have N4 := Fr.app N2 N4q
  have Z4_ : n0 ≤ T4.heap.size := Nat.le_trans Z3_ K4.1
  obtain ⟨T5, h5, X5, e5, E5, A5, D5, -, st5⟩ := newO X4 hx hZ hown (hw _ (im 0 rfl)) (hw _ (im 1 rfl)) (hw _ (im 2 rfl)) rfl (g := (mkF m 35 #[lv x0, .second, lv x1, .second, lv x2, .second, lv x3, .second, lv x4, .second, lv x5, .second, rv b1, rv b3, .unset, .unset, .unset, .unset, .unset, .unset, .unset, .unset, .unset, .unset] [])) rfl (hb hby at_35) (by decide) (by decide)
  obtain ⟨b5, g5⟩ : ∃ z, z = T4.heap.size := ⟨_, rfl⟩
  rw [← g5] at A5 D5 st5
  have ge_b5 : n0 ≤ b5 := Nat.le_trans Z4_ (Nat.le_of_eq g5.symm)
  have Z5_ : n0 ≤ h5.size := Nat.le_trans Z4_ E5.1
  have F5_read : Fld Z h5 b5 "com/example/millstep/millstep/RecordCounts" "read" "J" (.long 0) := D5 (Or.inr (hw _ (im 15 rfl))) (ty := .long) (by decide)
  have F5_filtered : Fld Z h5 b5 "com/example/millstep/millstep/RecordCounts" "filtered" "J" (.long 0) := D5 (Or.inr (hw _ (im 17 rfl))) (ty := .long) (by decide)
  have F5_written : Fld Z h5 b5 "com/example/millstep/millstep/RecordCounts" "written" "J" (.long 0) := D5 (Or.inr (hw _ (im 19 rfl))) (ty := .long) (by decide)
  have F5_readSkips : Fld Z h5 b5 "com/example/millstep/millstep/RecordCounts" "readSkips" "J" (.long 0) := D5 (Or.inr (hw _ (im 21 rfl))) (ty := .long) (by decide)
  have F5_processSkips : Fld Z h5 b5 "com/example/millstep/millstep/RecordCounts" "processSkips" "J" (.long 0) := D5 (Or.inr (hw _ (im 23 rfl))) (ty := .long) (by decide)
  have F5_writeSkips : Fld Z h5 b5 "com/example/millstep/millstep/RecordCounts" "writeSkips" "J" (.long 0) := D5 (Or.inr (hw _ (im 25 rfl))) (ty := .long) (by decide)
  have P6 := own_go P0 (S' := T5.setTop (mkF m 42 #[lv x0, .second, lv x1, .second, lv x2, .second, lv x3, .second, lv x4, .second, lv x5, .second, rv b1, rv b3, .unset, .unset, .unset, .unset, .unset, .unset, .unset, .unset, .unset, .unset] [(.long 0), (.long 0), (.long 0), (.ref b5), (.ref b5)])) (by
    intro t k
    refine st1 _ ?_
    refine XS.dup X1.here hx rfl (hb hby at_3) rfl rfl ?_
    refine XS.lloadN X1.here hx rfl (hb hby at_4) rfl ?_
    refine XS.lloadN X1.here hx rfl (hb hby at_5) rfl ?_
    refine XS.lload X1.here hx rfl (hb hby at_6) rfl ?_
    refine XS.lload X1.here hx rfl (hb hby at_8) rfl ?_
    refine XS.lload X1.here hx rfl (hb hby at_10) rfl ?_
    refine XS.lload X1.here hx rfl (hb hby at_12) rfl ?_
    show Steps p.tables e below (T1.setTop (mkF m 14 #[lv x0, .second, lv x1, .second, lv x2, .second, lv x3, .second, lv x4, .second, lv x5, .second, .unset, .unset, .unset, .unset, .unset, .unset, .unset, .unset, .unset, .unset, .unset, .unset] [(.long x5), (.long x4), (.long x3), (.long x2), (.long x1), (.long x0), (.ref b1), (.ref b1)])) _
    refine st2.trans ?_
    refine XS.astore X2.here hx rfl (hb hby at_17) rfl rfl (l' := #[lv x0, .second, lv x1, .second, lv x2, .second, lv x3, .second, lv x4, .second, lv x5, .second, rv b1, .unset, .unset, .unset, .unset, .unset, .unset, .unset, .unset, .unset, .unset, .unset]) rfl ?_
    refine st3 _ ?_
    refine XS.dup X3.here hx rfl (hb hby at_22) rfl rfl ?_
    refine XS.lconst X3.here hx rfl (hb hby at_23) ?_
    refine XS.lconst X3.here hx rfl (hb hby at_24) ?_
    refine XS.lconst X3.here hx rfl (hb hby at_25) ?_
    refine XS.lload X3.here hx rfl (hb hby at_26) rfl ?_
    show Steps p.tables e below (T3.setTop (mkF m 28 #[lv x0, .second, lv x1, .second, lv x2, .second, lv x3, .second, lv x4, .second, lv x5, .second, rv b1, .unset, .unset, .unset, .unset, .unset, .unset, .unset, .unset, .unset, .unset, .unset] [(.long x3), (.long 0), (.long 0), (.long 0), (.ref b3), (.ref b3)])) _
    refine XS.lconst X3.here hx rfl (hb hby at_28) ?_
    refine XS.lconst X3.here hx rfl (hb hby at_29) ?_
    refine st4.trans ?_
    refine XS.astore X4.here hx rfl (hb hby at_33) rfl rfl (l' := #[lv x0, .second, lv x1, .second, lv x2, .second, lv x3, .second, lv x4, .second, lv x5, .second, rv b1, rv b3, .unset, .unset, .unset, .unset, .unset, .unset, .unset, .unset, .unset, .unset]) rfl ?_
    refine st5 _ ?_
    refine XS.dup X5.here hx rfl (hb hby at_38) rfl rfl ?_
    refine XS.lconst X5.here hx rfl (hb hby at_39) ?_
    refine XS.lconst X5.here hx rfl (hb hby at_40) ?_
    show Steps p.tables e below (T5.setTop (mkF m 41 #[lv x0, .second, lv x1, .second, lv x2, .second, lv x3, .second, lv x4, .second, lv x5, .second, rv b1, rv b3, .unset, .unset, .unset, .unset, .unset, .unset, .unset, .unset, .unset, .unset] [(.long 0), (.long 0), (.ref b5), (.ref b5)])) _
    refine XS.lconst X5.here hx rfl (hb hby at_41) ?_
    exact k)
  obtain ⟨_, _, ⟨T7, L7, k7, n7⟩, -, X7, ⟨Lc7, hQ7, l7, y7, z7⟩, st7⟩ := X5.specialBack hx (y := (⟨"com/example/millstep/millstep/RecordCounts", "<init>", "(JJJJJJ)V"⟩ : MethodName)) rfl hown (mvT hZ (hw _ (im 3 rfl))) (mvT hZ (hw _ (im 4 rfl))) (mvT hZ (hw _ (im 5 rfl))) (by decide) (backOf (W := 1) (rm1 l Z a0 hw [] b5 (0 : Int64) (0 : Int64) (0 : Int64) (0 : Int64) x4 (0 : Int64) h5 n0 Z5_ A5 F5_read F5_filtered F5_written F5_readSkips F5_processSkips F5_writeSkips ge_b5) hZ (hw _ (im 5 rfl)) (hw _ (im 2 rfl)) (by decide) (by decide)) (g := (mkF m 46 #[lv x0, .second, lv x1, .second, lv x2, .second, lv x3, .second, lv x4, .second, lv x5, .second, rv b1, rv b3, .unset, .unset, .unset, .unset, .unset, .unset, .unset, .unset, .unset, .unset] [(.long 0), (.long x4), (.long 0), (.long 0), (.long 0), (.long 0), (.ref b5), (.ref b5)])) rfl (by rw [hml]; rfl) (Steps.refl _) (a := b5) (argsL := [(.long 0), (.long 0), (.long 0), (.long 0), (.long x4), (.long 0)]) (rest := [(.ref b5)]) (lenOf pd_1 rfl) rfl (by show 2 * 0 + _ ≤ _; exact Nat.le_of_eq rfl) (hb hby at_46) (fun _ _ => ⟨rfl, e5, (by decide : 3 + 0 ≤ _), (by decide : 18 + 0 ≤ _)⟩)
  dsimp only [Pt.U, Pt.locs, Pt.cells, Pt.slots] at X7 l7 y7 z7 st7 hQ7
  subst l7 y7 z7
  obtain ⟨rfl, N7q, K7, r7_0, r7_1, r7_2, r7_3, r7_4, r7_5, r7_6⟩ := hQ7
  have N7 := Fr.app N4 N7q
  have Z7_ : n0 ≤ T7.heap.size := Nat.le_trans Z5_ K7.1
  obtain ⟨T8, h8, X8, e8, E8, A8, D8, -, st8⟩ := newO X7 hx hZ hown (hw _ (im 0 rfl)) (hw _ (im 1 rfl)) (hw _ (im 2 rfl)) rfl (g := (mkF m 51 #[lv x0, .second, lv x1, .second, lv x2, .second, lv x3, .second, lv x4, .second, lv x5, .second, rv b1, rv b3, rv b5, .unset, .unset, .unset, .unset, .unset, .unset, .unset, .unset, .unset] [])) rfl (hb hby at_51) (by decide) (by decide)
  obtain ⟨b8, g8⟩ : ∃ z, z = T7.heap.size := ⟨_, rfl⟩
  rw [← g8] at A8 D8 st8
  have ge_b8 : n0 ≤ b8 := Nat.le_trans Z7_ (Nat.le_of_eq g8.symm)
  have Z8_ : n0 ≤ h8.size := Nat.le_trans Z7_ E8.1
  have F8_read : Fld Z h8 b8 "com/example/millstep/millstep/RecordCounts" "read" "J" (.long 0) := D8 (Or.inr (hw _ (im 15 rfl))) (ty := .long) (by decide)
  have F8_filtered : Fld Z h8 b8 "com/example/millstep/millstep/RecordCounts" "filtered" "J" (.long 0) := D8 (Or.inr (hw _ (im 17 rfl))) (ty := .long) (by decide)
  have F8_written : Fld Z h8 b8 "com/example/millstep/millstep/RecordCounts" "written" "J" (.long 0) := D8 (Or.inr (hw _ (im 19 rfl))) (ty := .long) (by decide)
  have F8_readSkips : Fld Z h8 b8 "com/example/millstep/millstep/RecordCounts" "readSkips" "J" (.long 0) := D8 (Or.inr (hw _ (im 21 rfl))) (ty := .long) (by decide)
  have F8_processSkips : Fld Z h8 b8 "com/example/millstep/millstep/RecordCounts" "processSkips" "J" (.long 0) := D8 (Or.inr (hw _ (im 23 rfl))) (ty := .long) (by decide)
  have F8_writeSkips : Fld Z h8 b8 "com/example/millstep/millstep/RecordCounts" "writeSkips" "J" (.long 0) := D8 (Or.inr (hw _ (im 25 rfl))) (ty := .long) (by decide)
  obtain ⟨_, _, ⟨T9, L9, k9, n9⟩, -, X9, ⟨Lc9, hQ9, l9, y9, z9⟩, st9⟩ := X8.specialBack hx (y := (⟨"com/example/millstep/millstep/RecordCounts", "<init>", "(JJJJJJ)V"⟩ : MethodName)) rfl hown (mvT hZ (hw _ (im 3 rfl))) (mvT hZ (hw _ (im 4 rfl))) (mvT hZ (hw _ (im 5 rfl))) (by decide) (backOf (W := 1) (rm1 l Z a0 hw [] b8 x0 x1 x2 (0 : Int64) (0 : Int64) x5 h8 n0 Z8_ A8 F8_read F8_filtered F8_written F8_readSkips F8_processSkips F8_writeSkips ge_b8) hZ (hw _ (im 5 rfl)) (hw _ (im 2 rfl)) (by decide) (by decide)) (g := (mkF m 63 #[lv x0, .second, lv x1, .second, lv x2, .second, lv x3, .second, lv x4, .second, lv x5, .second, rv b1, rv b3, rv b5, .unset, .unset, .unset, .unset, .unset, .unset, .unset, .unset, .unset] [(.long x5), (.long 0), (.long 0), (.long x2), (.long x1), (.long x0), (.ref b8), (.ref b8)])) rfl (by rw [hml]; rfl) (Steps.refl _) (a := b8) (argsL := [(.long x0), (.long x1), (.long x2), (.long 0), (.long 0), (.long x5)]) (rest := [(.ref b8)]) (lenOf pd_1 rfl) rfl (by show 2 * 0 + _ ≤ _; exact Nat.le_of_eq rfl) (hb hby at_63) (fun _ _ => ⟨rfl, e8, (by decide : 4 + 0 ≤ _), (by decide : 24 + 0 ≤ _)⟩)
  dsimp only [Pt.U, Pt.locs, Pt.cells, Pt.slots] at X9 l9 y9 z9 st9 hQ9
  subst l9 y9 z9
  obtain ⟨rfl, N9q, K9, r9_0, r9_1, r9_2, r9_3, r9_4, r9_5, r9_6⟩ := hQ9
  have N9 := Fr.app N7 N9q
  have Z9_ : n0 ≤ T9.heap.size := Nat.le_trans Z8_ K9.1
  have q11 := (Nat.lt_of_lt_of_le A3.lt K4.1)
  have ne10 : b3 ≠ b5 := Nat.ne_of_lt (Nat.lt_of_lt_of_le q11 (Nat.le_of_eq g5.symm))
  have ni12 := (ninS ne10 nin0)
  have q14 := (Nat.lt_of_lt_of_le (Nat.lt_of_lt_of_le q11 E5.1) K7.1)
  have ne13 : b3 ≠ b8 := Nat.ne_of_lt (Nat.lt_of_lt_of_le q14 (Nat.le_of_eq g8.symm))
  have ni15 := (ninS ne13 nin0)
  have q16 := ((((r4_4.ext E5).keep K7 ni12).ext E8).keep K9 ni15)
  have q17 := ((((r4_5.ext E5).keep K7 ni12).ext E8).keep K9 ni15)
  have q18 := ((((r4_6.ext E5).keep K7 ni12).ext E8).keep K9 ni15)
  have q20 := ((((r4_0.ext E5).keep K7).ext E8).keep K9)
  obtain ⟨cq19, kq19, q19a, q19b, q19c⟩ := isOf hZ rfl q20
  obtain ⟨_, _, ⟨T19, L19, k19, n19⟩, -, X19, ⟨Lc19, hQ19, l19, y19, z19⟩, st19⟩ := X9.virtualBack hx (y := (⟨"com/example/millstep/millstep/RecordCounts", "skips", "()J"⟩ : MethodName)) (z := (⟨"com/example/millstep/millstep/RecordCounts", "skips", "()J"⟩ : MethodName)) hown (mvT hZ (hw _ (im 26 rfl))) (mvT hZ (hw _ (im 27 rfl))) (notFace_of_selects (args := #[]) (mvT hZ (hw _ (im 29 rfl)))) (mvT hZ (hw _ (im 29 rfl))) (mvT hZ (hw _ (im 28 rfl))) (by decide) (backOf (W := 0) (rm4 l Z a0 hw [] b3 x3 (0 : Int64) (0 : Int64) T9.heap n0 Z9_ q16 q17 q18) hZ (hw _ (im 30 rfl)) (hw _ (im 2 rfl)) (by decide) (by decide)) q19a q19c (g := (mkF m 70 #[lv x0, .second, lv x1, .second, lv x2, .second, lv x3, .second, lv x4, .second, lv x5, .second, rv b1, rv b3, rv b5, rv b8, .unset, .unset, .unset, .unset, .unset, .unset, .unset, .unset] [(.ref b3)])) rfl (by rw [hml]; rfl) (Steps.refl _) (argsL := []) (rest := []) (lenOf pd_2 rfl) rfl (by show 2 * 0 + _ ≤ _; exact Nat.le_of_eq rfl) (hb hby at_70) (fun _ _ => ⟨rfl, rfl, (by decide : 4 + 0 ≤ _), (by decide : 24 + 0 ≤ _)⟩)
  dsimp only [Pt.U, Pt.locs, Pt.cells, Pt.slots] at X19 l19 y19 z19 st19 hQ19
  subst l19 y19 z19
  obtain ⟨rfl, N19q, e19⟩ := hQ19
  have N19 := Fr.app N9 N19q
  have q22 := (Nat.lt_of_lt_of_le A5.lt K7.1)
  have ne21 : b5 ≠ b8 := Nat.ne_of_lt (Nat.lt_of_lt_of_le q22 (Nat.le_of_eq g8.symm))
  have ni23 := (ninS ne21 nin0)
  have q24 := ((r7_4.ext E8).keep K9 ni23)
  have q25 := ((r7_5.ext E8).keep K9 ni23)
  have q26 := ((r7_6.ext E8).keep K9 ni23)
  have q28 := ((r7_0.ext E8).keep K9)
  obtain ⟨cq27, kq27, q27a, q27b, q27c⟩ := isOf hZ e19 q28
  obtain ⟨_, _, ⟨T27, L27, k27, n27⟩, -, X27, ⟨Lc27, hQ27, l27, y27, z27⟩, st27⟩ := X19.virtualBack hx (y := (⟨"com/example/millstep/millstep/RecordCounts", "skips", "()J"⟩ : MethodName)) (z := (⟨"com/example/millstep/millstep/RecordCounts", "skips", "()J"⟩ : MethodName)) hown (mvT hZ (hw _ (im 26 rfl))) (mvT hZ (hw _ (im 27 rfl))) (notFace_of_selects (args := #[]) (mvT hZ (hw _ (im 29 rfl)))) (mvT hZ (hw _ (im 29 rfl))) (mvT hZ (hw _ (im 28 rfl))) (by decide) (backOf (W := 0) (rm4 l Z a0 hw [] b5 (0 : Int64) x4 (0 : Int64) T9.heap n0 Z9_ q24 q25 q26) hZ (hw _ (im 30 rfl)) (hw _ (im 2 rfl)) (by decide) (by decide)) q27a q27c (g := (mkF m 77 #[lv x0, .second, lv x1, .second, lv x2, .second, lv x3, .second, lv x4, .second, lv x5, .second, rv b1, rv b3, rv b5, rv b8, lv ((x3 + (0 : Int64)) + (0 : Int64)), .second, .unset, .unset, .unset, .unset, .unset, .unset] [(.ref b5)])) rfl (by rw [hml]; rfl) (Steps.refl _) (argsL := []) (rest := []) (lenOf pd_2 rfl) rfl (by show 2 * 0 + _ ≤ _; exact Nat.le_of_eq rfl) (hb hby at_77) (fun _ _ => ⟨rfl, e19, (by decide : 4 + 0 ≤ _), (by decide : 24 + 0 ≤ _)⟩)
  dsimp only [Pt.U, Pt.locs, Pt.cells, Pt.slots] at X27 l27 y27 z27 st27 hQ27
  subst l27 y27 z27
  obtain ⟨rfl, N27q, e27⟩ := hQ27
  have N27 := Fr.app N19 N27q
  obtain ⟨cq29, kq29, q29a, q29b, q29c⟩ := isOf hZ e27 r9_0
  obtain ⟨_, _, ⟨T29, L29, k29, n29⟩, -, X29, ⟨Lc29, hQ29, l29, y29, z29⟩, st29⟩ := X27.virtualBack hx (y := (⟨"com/example/millstep/millstep/RecordCounts", "skips", "()J"⟩ : MethodName)) (z := (⟨"com/example/millstep/millstep/RecordCounts", "skips", "()J"⟩ : MethodName)) hown (mvT hZ (hw _ (im 26 rfl))) (mvT hZ (hw _ (im 27 rfl))) (notFace_of_selects (args := #[]) (mvT hZ (hw _ (im 29 rfl)))) (mvT hZ (hw _ (im 29 rfl))) (mvT hZ (hw _ (im 28 rfl))) (by decide) (backOf (W := 0) (rm4 l Z a0 hw [] b8 (0 : Int64) (0 : Int64) x5 T9.heap n0 Z9_ r9_4 r9_5 r9_6) hZ (hw _ (im 30 rfl)) (hw _ (im 2 rfl)) (by decide) (by decide)) q29a q29c (g := (mkF m 84 #[lv x0, .second, lv x1, .second, lv x2, .second, lv x3, .second, lv x4, .second, lv x5, .second, rv b1, rv b3, rv b5, rv b8, lv ((x3 + (0 : Int64)) + (0 : Int64)), .second, lv (((0 : Int64) + x4) + (0 : Int64)), .second, .unset, .unset, .unset, .unset] [(.ref b8)])) rfl (by rw [hml]; rfl) (Steps.refl _) (argsL := []) (rest := []) (lenOf pd_2 rfl) rfl (by show 2 * 0 + _ ≤ _; exact Nat.le_of_eq rfl) (hb hby at_84) (fun _ _ => ⟨rfl, e27, (by decide : 4 + 0 ≤ _), (by decide : 24 + 0 ≤ _)⟩)
  dsimp only [Pt.U, Pt.locs, Pt.cells, Pt.slots] at X29 l29 y29 z29 st29 hQ29
  subst l29 y29 z29
  obtain ⟨rfl, N29q, e29⟩ := hQ29
  have N29 := Fr.app N27 N29q
  have P30 := own_go P6 (S' := T29.setTop (mkF m 91 #[lv x0, .second, lv x1, .second, lv x2, .second, lv x3, .second, lv x4, .second, lv x5, .second, rv b1, rv b3, rv b5, rv b8, lv ((x3 + (0 : Int64)) + (0 : Int64)), .second, lv (((0 : Int64) + x4) + (0 : Int64)), .second, lv (((0 : Int64) + (0 : Int64)) + x5), .second, .unset, .unset] [(.ref b1)])) (by
    intro t k
    refine XS.lconst X5.here hx rfl (hb hby at_42) ?_
    refine XS.lload X5.here hx rfl (hb hby at_43) rfl ?_
    refine XS.lconst X5.here hx rfl (hb hby at_45) ?_
    refine st7.trans ?_
    refine XS.astore X7.here hx rfl (hb hby at_49) rfl rfl (l' := #[lv x0, .second, lv x1, .second, lv x2, .second, lv x3, .second, lv x4, .second, lv x5, .second, rv b1, rv b3, rv b5, .unset, .unset, .unset, .unset, .unset, .unset, .unset, .unset, .unset]) rfl ?_
    refine st8 _ ?_
    refine XS.dup X8.here hx rfl (hb hby at_54) rfl rfl ?_
    refine XS.lloadN X8.here hx rfl (hb hby at_55) rfl ?_
    show Steps p.tables e below (T8.setTop (mkF m 56 #[lv x0, .second, lv x1, .second, lv x2, .second, lv x3, .second, lv x4, .second, lv x5, .second, rv b1, rv b3, rv b5, .unset, .unset, .unset, .unset, .unset, .unset, .unset, .unset, .unset] [(.long x0), (.ref b8), (.ref b8)])) _
    refine XS.lloadN X8.here hx rfl (hb hby at_56) rfl ?_
    refine XS.lload X8.here hx rfl (hb hby at_57) rfl ?_
    refine XS.lconst X8.here hx rfl (hb hby at_59) ?_
    refine XS.lconst X8.here hx rfl (hb hby at_60) ?_
    refine XS.lload X8.here hx rfl (hb hby at_61) rfl ?_
    refine st9.trans ?_
    refine XS.astore X9.here hx rfl (hb hby at_66) rfl rfl (l' := #[lv x0, .second, lv x1, .second, lv x2, .second, lv x3, .second, lv x4, .second, lv x5, .second, rv b1, rv b3, rv b5, rv b8, .unset, .unset, .unset, .unset, .unset, .unset, .unset, .unset]) rfl ?_
    refine XS.aload X9.here hx rfl (hb hby at_68) rfl rfl ?_
    show Steps p.tables e below (T9.setTop (mkF m 70 #[lv x0, .second, lv x1, .second, lv x2, .second, lv x3, .second, lv x4, .second, lv x5, .second, rv b1, rv b3, rv b5, rv b8, .unset, .unset, .unset, .unset, .unset, .unset, .unset, .unset] [(.ref b3)])) _
    refine st19.trans ?_
    refine XS.lstore X19.here hx rfl (hb hby at_73) rfl (l' := #[lv x0, .second, lv x1, .second, lv x2, .second, lv x3, .second, lv x4, .second, lv x5, .second, rv b1, rv b3, rv b5, rv b8, lv ((x3 + (0 : Int64)) + (0 : Int64)), .second, .unset, .unset, .unset, .unset, .unset, .unset]) rfl ?_
    refine XS.aload X19.here hx rfl (hb hby at_75) rfl rfl ?_
    refine st27.trans ?_
    refine XS.lstore X27.here hx rfl (hb hby at_80) rfl (l' := #[lv x0, .second, lv x1, .second, lv x2, .second, lv x3, .second, lv x4, .second, lv x5, .second, rv b1, rv b3, rv b5, rv b8, lv ((x3 + (0 : Int64)) + (0 : Int64)), .second, lv (((0 : Int64) + x4) + (0 : Int64)), .second, .unset, .unset, .unset, .unset]) rfl ?_
    refine XS.aload X27.here hx rfl (hb hby at_82) rfl rfl ?_
    refine st29.trans ?_
    refine XS.lstore X29.here hx rfl (hb hby at_87) rfl (l' := #[lv x0, .second, lv x1, .second, lv x2, .second, lv x3, .second, lv x4, .second, lv x5, .second, rv b1, rv b3, rv b5, rv b8, lv ((x3 + (0 : Int64)) + (0 : Int64)), .second, lv (((0 : Int64) + x4) + (0 : Int64)), .second, lv (((0 : Int64) + (0 : Int64)) + x5), .second, .unset, .unset]) rfl ?_
    show Steps p.tables e below (T29.setTop (mkF m 89 #[lv x0, .second, lv x1, .second, lv x2, .second, lv x3, .second, lv x4, .second, lv x5, .second, rv b1, rv b3, rv b5, rv b8, lv ((x3 + (0 : Int64)) + (0 : Int64)), .second, lv (((0 : Int64) + x4) + (0 : Int64)), .second, lv (((0 : Int64) + (0 : Int64)) + x5), .second, .unset, .unset] [])) _
    refine XS.aload X29.here hx rfl (hb hby at_89) rfl rfl ?_
    exact k)
  have q32 := (Nat.lt_of_lt_of_le A1.lt K2.1)
  have ne31 : b1 ≠ b3 := Nat.ne_of_lt (Nat.lt_of_lt_of_le q32 (Nat.le_of_eq g3.symm))
  have ni33 := (ninS ne31 nin0)
  have q35 := (Nat.lt_of_lt_of_le (Nat.lt_of_lt_of_le q32 E3.1) K4.1)
  have ne34 : b1 ≠ b5 := Nat.ne_of_lt (Nat.lt_of_lt_of_le q35 (Nat.le_of_eq g5.symm))
  have ni36 := (ninS ne34 nin0)
  have q38 := (Nat.lt_of_lt_of_le (Nat.lt_of_lt_of_le q35 E5.1) K7.1)
  have ne37 : b1 ≠ b8 := Nat.ne_of_lt (Nat.lt_of_lt_of_le q38 (Nat.le_of_eq g8.symm))
  have ni39 := (ninS ne37 nin0)
  have q40 := ((((((r2_4.ext E3).keep K4 ni33).ext E5).keep K7 ni36).ext E8).keep K9 ni39)
  have q41 := ((((((r2_5.ext E3).keep K4 ni33).ext E5).keep K7 ni36).ext E8).keep K9 ni39)
  have q42 := ((((((r2_6.ext E3).keep K4 ni33).ext E5).keep K7 ni36).ext E8).keep K9 ni39)
  have q44 := ((((((r2_0.ext E3).keep K4).ext E5).keep K7).ext E8).keep K9)
  obtain ⟨cq43, kq43, q43a, q43b, q43c⟩ := isOf hZ e29 q44
  obtain ⟨_, _, ⟨T43, L43, k43, n43⟩, -, X43, ⟨Lc43, hQ43, l43, y43, z43⟩, st43⟩ := X29.virtualBack hx (y := (⟨"com/example/millstep/millstep/RecordCounts", "skips", "()J"⟩ : MethodName)) (z := (⟨"com/example/millstep/millstep/RecordCounts", "skips", "()J"⟩ : MethodName)) hown (mvT hZ (hw _ (im 26 rfl))) (mvT hZ (hw _ (im 27 rfl))) (notFace_of_selects (args := #[]) (mvT hZ (hw _ (im 29 rfl)))) (mvT hZ (hw _ (im 29 rfl))) (mvT hZ (hw _ (im 28 rfl))) (by decide) (backOf (W := 0) (rm4 l Z a0 hw [] b1 x3 x4 x5 T9.heap n0 Z9_ q40 q41 q42) hZ (hw _ (im 30 rfl)) (hw _ (im 2 rfl)) (by decide) (by decide)) q43a q43c (g := (mkF m 91 #[lv x0, .second, lv x1, .second, lv x2, .second, lv x3, .second, lv x4, .second, lv x5, .second, rv b1, rv b3, rv b5, rv b8, lv ((x3 + (0 : Int64)) + (0 : Int64)), .second, lv (((0 : Int64) + x4) + (0 : Int64)), .second, lv (((0 : Int64) + (0 : Int64)) + x5), .second, .unset, .unset] [(.ref b1)])) rfl (by rw [hml]; rfl) (Steps.refl _) (argsL := []) (rest := []) (lenOf pd_2 rfl) rfl (by show 2 * 0 + _ ≤ _; exact Nat.le_of_eq rfl) (hb hby at_91) (fun _ _ => ⟨rfl, e29, (by decide : 4 + 0 ≤ _), (by decide : 24 + 0 ≤ _)⟩)
  dsimp only [Pt.U, Pt.locs, Pt.cells, Pt.slots] at X43 l43 y43 z43 st43 hQ43
  subst l43 y43 z43
  obtain ⟨rfl, N43q, e43⟩ := hQ43
  have N43 := Fr.app N29 N43q
  have hc101_45 : ((x3 + (0 : Int64)) + (0 : Int64)) = x3 := by simp
  have hc109_46 : (((0 : Int64) + x4) + (0 : Int64)) = x4 := by simp
  have hc117_47 : (((0 : Int64) + (0 : Int64)) + x5) = x5 := by simp
  have hc131_48 : ((x3 + x4) + x5) = ((((x3 + (0 : Int64)) + (0 : Int64)) + (((0 : Int64) + x4) + (0 : Int64))) + (((0 : Int64) + (0 : Int64)) + x5)) := by simp
  have P49 := own_go P30 (S' := T43.setTop (mkF m 139 #[lv x0, .second, lv x1, .second, lv x2, .second, lv x3, .second, lv x4, .second, lv x5, .second, rv b1, rv b3, rv b5, rv b8, lv ((x3 + (0 : Int64)) + (0 : Int64)), .second, lv (((0 : Int64) + x4) + (0 : Int64)), .second, lv (((0 : Int64) + (0 : Int64)) + x5), .second, lv ((x3 + x4) + x5), .second] [(.int 1)])) (by
    intro t k
    refine st43.trans ?_
    refine XS.lstore X43.here hx rfl (hb hby at_94) rfl (l' := #[lv x0, .second, lv x1, .second, lv x2, .second, lv x3, .second, lv x4, .second, lv x5, .second, rv b1, rv b3, rv b5, rv b8, lv ((x3 + (0 : Int64)) + (0 : Int64)), .second, lv (((0 : Int64) + x4) + (0 : Int64)), .second, lv (((0 : Int64) + (0 : Int64)) + x5), .second, lv ((x3 + x4) + x5), .second]) rfl ?_
    refine XS.lload X43.here hx rfl (hb hby at_96) rfl ?_
    refine XS.lload X43.here hx rfl (hb hby at_98) rfl ?_
    refine XS.lcmp X43.here hx rfl (hb hby at_100) rfl ?_
    refine XS.ifNo X43.here hx rfl (hb hby at_101) rfl ((if0 _ _).trans (teq ((lw_eq ((x3 + (0 : Int64)) + (0 : Int64)) x3).mpr hc101_45)).2) ?_
    refine XS.lload X43.here hx rfl (hb hby at_104) rfl ?_
    refine XS.lload X43.here hx rfl (hb hby at_106) rfl ?_
    show Steps p.tables e below (T43.setTop (mkF m 108 #[lv x0, .second, lv x1, .second, lv x2, .second, lv x3, .second, lv x4, .second, lv x5, .second, rv b1, rv b3, rv b5, rv b8, lv ((x3 + (0 : Int64)) + (0 : Int64)), .second, lv (((0 : Int64) + x4) + (0 : Int64)), .second, lv (((0 : Int64) + (0 : Int64)) + x5), .second, lv ((x3 + x4) + x5), .second] [(.long x4), (.long (((0 : Int64) + x4) + (0 : Int64)))])) _
    refine XS.lcmp X43.here hx rfl (hb hby at_108) rfl ?_
    refine XS.ifNo X43.here hx rfl (hb hby at_109) rfl ((if0 _ _).trans (teq ((lw_eq (((0 : Int64) + x4) + (0 : Int64)) x4).mpr hc109_46)).2) ?_
    refine XS.lload X43.here hx rfl (hb hby at_112) rfl ?_
    refine XS.lload X43.here hx rfl (hb hby at_114) rfl ?_
    refine XS.lcmp X43.here hx rfl (hb hby at_116) rfl ?_
    refine XS.ifNo X43.here hx rfl (hb hby at_117) rfl ((if0 _ _).trans (teq ((lw_eq (((0 : Int64) + (0 : Int64)) + x5) x5).mpr hc117_47)).2) ?_
    refine XS.lload X43.here hx rfl (hb hby at_120) rfl ?_
    refine XS.lload X43.here hx rfl (hb hby at_122) rfl ?_
    show Steps p.tables e below (T43.setTop (mkF m 124 #[lv x0, .second, lv x1, .second, lv x2, .second, lv x3, .second, lv x4, .second, lv x5, .second, rv b1, rv b3, rv b5, rv b8, lv ((x3 + (0 : Int64)) + (0 : Int64)), .second, lv (((0 : Int64) + x4) + (0 : Int64)), .second, lv (((0 : Int64) + (0 : Int64)) + x5), .second, lv ((x3 + x4) + x5), .second] [(.long ((x3 + (0 : Int64)) + (0 : Int64))), (.long ((x3 + x4) + x5))])) _
    refine XS.lload X43.here hx rfl (hb hby at_124) rfl ?_
    refine XS.ladd X43.here hx rfl (hb hby at_126) rfl ?_
    refine XS.lload X43.here hx rfl (hb hby at_127) rfl ?_
    refine XS.ladd X43.here hx rfl (hb hby at_129) rfl ?_
    refine XS.lcmp X43.here hx rfl (hb hby at_130) rfl ?_
    refine XS.ifNo X43.here hx rfl (hb hby at_131) rfl ((if0 _ _).trans (teq ((lw_eq ((x3 + x4) + x5) ((((x3 + (0 : Int64)) + (0 : Int64)) + (((0 : Int64) + x4) + (0 : Int64))) + (((0 : Int64) + (0 : Int64)) + x5))).mpr hc131_48)).2) ?_
    refine XS.iconst X43.here hx rfl (hb hby at_134) ?_
    refine XS.goto X43.here hx rfl (pc0 := 135) (pc' := 139) rfl (hb hby at_135) (by decide) (by decide) ?_
    show Steps p.tables e below (T43.setTop (mkF m 139 #[lv x0, .second, lv x1, .second, lv x2, .second, lv x3, .second, lv x4, .second, lv x5, .second, rv b1, rv b3, rv b5, rv b8, lv ((x3 + (0 : Int64)) + (0 : Int64)), .second, lv (((0 : Int64) + x4) + (0 : Int64)), .second, lv (((0 : Int64) + (0 : Int64)) + x5), .second, lv ((x3 + x4) + x5), .second] [(.int 1)])) _
    exact k)
  obtain ⟨fs, hr, hrun, hended, hW, hsame⟩ := X43.leave (v := some (.int 1)) (fun h => by rw [Bd.returns] at h; cases h)
  refine ⟨_, _, P49 _ ?_, hrun, hended, _, _, rfl, ?_, ⟨_, rfl⟩, hW, hsame.mono (by decide) (by decide)⟩
  · show Steps p.tables e below (T43.setTop (mkF m 139 #[lv x0, .second, lv x1, .second, lv x2, .second, lv x3, .second, lv x4, .second, lv x5, .second, rv b1, rv b3, rv b5, rv b8, lv ((x3 + (0 : Int64)) + (0 : Int64)), .second, lv (((0 : Int64) + x4) + (0 : Int64)), .second, lv (((0 : Int64) + (0 : Int64)) + x5), .second, lv ((x3 + x4) + x5), .second] [(.int 1)])) _
    exact retN X43 hx (t := .boolean) Bd.returns (by simp) (hb hby at_139) hr
  · show Q0 Z x0 x1 x2 x3 x4 x5 h0 n0 _ T43.heap _
    rw [e43]
    exact ⟨rfl, N43⟩

set_option maxRecDepth 65536 in
set_option maxHeartbeats 40000000 in
theorem comes_1 {Post : Tables → Env → Array Value → State → Outcome → State → Prop} (hpost : ∀ tb e args s v u, (limb_1_1.after args s (.returned v) u = true ∧ limb_1_2.after args s (.returned v) u = true ∧ True) → FrameEnd s (.returned v) u (Jvm.fieldLocs frame_1_writes args s ++ Jvm.arrayLocs frame_1_arrays args s ++ Jvm.staticLocs frame_1_statics s) 16 128 → Post tb e args s (.returned v) u) :
    ArmFor flags0 classFile x code maxLocals ret World_1 tables_1 room_1 Calls_1 rest_1 Pre_1 Post := by
  intro l hfl _ _ p e ha hc hk s m args below hf hA hF happ hP
  obtain ⟨hcalls, hrest, hpre⟩ := hP
  obtain ⟨-, -, -, hnamed, -, -, -, hat⟩ := (Spec.applies_iff hf).mp happ
  obtain ⟨hg, hn⟩ := and_e (Cond.before_iff.mp (show (Jvm.Cond.and given_1 narrow_1).before args s = true from hpre))
  obtain ⟨hcnt, hgs0⟩ := and_e hg
  obtain ⟨hk0, hgs1⟩ := and_e hgs0
  obtain ⟨hk1, hgs2⟩ := and_e hgs1
  obtain ⟨hk2, hgs3⟩ := and_e hgs2
  obtain ⟨hk3, hgs4⟩ := and_e hgs3
  obtain ⟨hk4, hgs5⟩ := and_e hgs4
  obtain ⟨w0, w1, w2, w3, w4, w5, rfl⟩ : ∃ w0 w1 w2 w3 w4 w5 : Value, args = #[w0, w1, w2, w3, w4, w5] := by
    have hs : args.size = 6 := by simpa [Cond.value, given_1] using hcnt
    obtain ⟨L⟩ := args
    match L, hs with
    | [w0, w1, w2, w3, w4, w5], _ => exact ⟨w0, w1, w2, w3, w4, w5, rfl⟩
  have hw := fun d (hd : d ∈ tables_1) => atoms_spec (ws := Jvm.Cond.code x code maxLocals ret :: tables_1) hat d (List.mem_cons_of_mem _ hd)
  have hfit : Fit s := fun {y c} hc i hi => by
    obtain ⟨ha, rfl⟩ := Array.getElem?_eq_some_iff.mp hc
    have q := List.all_eq_true.mp ((Array.all_eq_true_iff_forall_mem.mp hF) _ (Array.getElem_mem ha)) i (List.mem_range.mpr hi)
    simpa [Array.getElem?_eq_getElem hi] using q
  obtain ⟨i0, ei0⟩ := isL_v hk0
  obtain rfl : w0 = (.long i0) := Option.some.inj ei0
  obtain ⟨i1, ei1⟩ := isL_v hk1
  obtain rfl : w1 = (.long i1) := Option.some.inj ei1
  obtain ⟨i2, ei2⟩ := isL_v hk2
  obtain rfl : w2 = (.long i2) := Option.some.inj ei2
  obtain ⟨i3, ei3⟩ := isL_v hk3
  obtain rfl : w3 = (.long i3) := Option.some.inj ei3
  obtain ⟨i4, ei4⟩ := isL_v hk4
  obtain rfl : w4 = (.long i4) := Option.some.inj ei4
  obtain ⟨i5, ei5⟩ := isL_v hgs5
  obtain rfl : w5 = (.long i5) := Option.some.inj ei5
  obtain ⟨n, o, h1, h2, h3, _, L, rfl, ⟨rfl, N⟩, hq⟩ := rm0 l s _ hw tables_1 i0 i1 i2 i3 i4 i5 s.heap s.heap.size (Nat.le_refl _)  p e ha hc hk s m _ below hf ((Spec.applies_iff_loose hf).mp happ).1 ⟨rfl, State.Warmed39.refl s, rfl⟩ trivial
  refine ⟨n, _, h1, h2, h3, hpost _ _ _ _ _ _ ⟨Cond.after_iff.mpr rfl, Cond.after_iff.mpr (eq_i res_at (Term.int_eval (1)) rfl), trivial⟩ ⟨hq.1, hq.2.1, (hq.2.2.sift fun y hy => Or.inr (N y hy)).mono (by decide) (by decide)⟩⟩
theorem main_1_1 : Claimed_1_1 := comes_1 fun _ _ _ _ _ _ h hF => ⟨h.1, hF⟩
theorem main_1_2 : Claimed_1_2 := comes_1 fun _ _ _ _ _ _ h hF => ⟨h.2.1, hF⟩
end Jvm.Pilot.@@N@@
namespace Jvm.Pilot.@@N@@
open Jvm Jvm.ClassFile Sem Op Lib Jvm.Free Jvm.Stand Jvm.Pilot.@@N@@.Jvm.D
/-! MADE BY PROGRAM (witnessworld.py) out of the Statement's table words and the real class files: 10 classes; the members and pool entries that the words name. The judged class is class 1, her method 1. -/
namespace start1
open Jvm.ClassFile
def u (s : String) : CpInfo := .utf8 (stringToUtf16 s)
/-- a pool by its gaps: so many unusable entries, then the entry; so many at the end -/
def gap : Nat → List CpInfo → List CpInfo
  | 0, r => r
  | n + 1, r => .unusable :: gap n r
def poolList (es : List (Nat × CpInfo)) (last : Nat) : List CpInfo := es.foldr (fun e r => gap e.1 (e.2 :: r)) (gap last [])
def pool (es : List (Nat × CpInfo)) (last : Nat) : Array CpInfo := ⟨poolList es last⟩
def fileOf (pool : Array CpInfo) (this : Nat) (attrs : Array Attribute := #[]) (ms : Array MethodInfo := #[]) (fl : Nat := 33) (sup : Nat := 0) (ifs : Array Nat := #[]) (fds : Array FieldInfo := #[]) : ClassFile where
  minorVersion := 0
  majorVersion := 65
  constantPool := pool
  accessFlags := fl
  thisClass := this
  superClass := sup
  interfaces := ifs
  fields := fds
  methods := ms
  attributes := attrs
def plain (name : String) (sup : Option ClassId) : Class where
  name := name
  kind := .ordinary
  loader := none
  accessFlags := 33
  super := sup
  interfaces := #[]
  cf := none
  fields := #[]
  methods := #[]
  instanceTypes := #[]
  staticTypes := #[]
  resolved := #[]
  callSites := []
  init := .initialized
  statics := none
  mirror := none

def pool0 : Array CpInfo := pool [(5, u "<init>"), (0, u "()V"), (1, .class_ 10), (1, u "java/lang/Object")] 113

def k0c0 : Code := { maxStack := 0, maxLocals := 1, code := object_method_1_code, exceptionTable := #[], attributes := #[] }
def k0m0 : Method := { name := "<init>", desc := "()V", sig := { parameters := [], returnType := none }, accessFlags := 1, code := some k0c0 }
/-- java/lang/Object -/
def k0 : Class := { plain "java/lang/Object" none with
  accessFlags := 33
  interfaces := #[]
  cf := some (fileOf pool0 8 #[] #[{ accessFlags := 1, nameIndex := 5, descriptorIndex := 6, attributes := #[] }] 33 0 #[] #[])
  fields := #[]
  methods := #[k0m0]
  instanceTypes := #[]
  staticTypes := #[]
  resolved := Array.replicate 124 none
  statics := none }

def pool1 : Array CpInfo := pool [(2, .class_ 4), (1, u "java/lang/Object"), (0, u "<init>"), (0, u "()V"), (0, .class_ 8), (0, u "com/example/millstep/millstep/RecordCounts"), (0, .methodref 7 10), (0, .nameAndType 5 11), (0, u "(JJJJJJ)V"), (0, .methodref 7 13), (0, .nameAndType 14 15), (0, u "skips"), (0, u "()J"), (0, .class_ 17), (0, u "com/example/millstep/millstep/RecordCountsSkipsPinLaw"), (2, u "law"), (0, u "(JJJJJJ)Z")] 3

def k1m0 : Method := { name := "<init>", desc := "()V", sig := { parameters := [], returnType := none }, accessFlags := 1, code := none }
def k1c1 : Code := { maxStack := 14, maxLocals := 24, code := code, exceptionTable := #[], attributes := #[] }
def k1m1 : Method := { name := "law", desc := "(JJJJJJ)Z", sig := { parameters := [.long, .long, .long, .long, .long, .long], returnType := some .boolean }, accessFlags := 9, code := some k1c1 }
/-- com/example/millstep/millstep/RecordCountsSkipsPinLaw -/
def k1 : Class := { plain "com/example/millstep/millstep/RecordCountsSkipsPinLaw" (some 0) with
  accessFlags := 49
  interfaces := #[]
  cf := some (fileOf pool1 16 #[] #[{ accessFlags := 1, nameIndex := 5, descriptorIndex := 6, attributes := #[] }, { accessFlags := 9, nameIndex := 20, descriptorIndex := 21, attributes := #[] }] 49 2 #[] #[])
  fields := #[]
  methods := #[k1m0, k1m1]
  instanceTypes := #[]
  staticTypes := #[]
  resolved := Array.replicate 25 none
  statics := none }

def pool2 : Array CpInfo := pool [(1, .methodref 2 3), (0, .class_ 4), (0, .nameAndType 5 6), (0, u "java/lang/Object"), (0, u "<init>"), (0, u "()V"), (0, .class_ 8), (0, u "java/lang/Record")] 13

def k2c0 : Code := { maxStack := 1, maxLocals := 1, code := jdk_30_method_1_code, exceptionTable := #[], attributes := #[] }
def k2m0 : Method := { name := "<init>", desc := "()V", sig := { parameters := [], returnType := none }, accessFlags := 4, code := some k2c0 }
/-- java/lang/Record -/
def k2 : Class := { plain "java/lang/Record" (some 0) with
  accessFlags := 1057
  interfaces := #[]
  cf := some (fileOf pool2 7 #[] #[{ accessFlags := 4, nameIndex := 5, descriptorIndex := 6, attributes := #[] }] 1057 2 #[] #[])
  fields := #[]
  methods := #[k2m0]
  instanceTypes := #[]
  staticTypes := #[]
  resolved := Array.replicate 22 none
  statics := none }

def pool3 : Array CpInfo := pool [(1, .methodref 2 3), (0, .class_ 4), (0, .nameAndType 5 6), (0, u "java/lang/Record"), (0, u "<init>"), (0, u "()V"), (0, .fieldref 8 9), (0, .class_ 10), (0, .nameAndType 11 12), (0, u "com/example/millstep/millstep/RecordCounts"), (0, u "read"), (0, u "J"), (0, .fieldref 8 14), (0, .nameAndType 15 12), (0, u "filtered"), (0, .fieldref 8 17), (0, .nameAndType 18 12), (0, u "written"), (0, .fieldref 8 20), (0, .nameAndType 21 12), (0, u "readSkips"), (0, .fieldref 8 23), (0, .nameAndType 24 12), (0, u "processSkips"), (0, .fieldref 8 26), (0, .nameAndType 27 12), (0, u "writeSkips"), (2, u "(JJJJJJ)V"), (14, u "NONE"), (0, u "Lcom/example/millstep/millstep/RecordCounts;"), (3, u "skips"), (0, u "()J")] 32

def k3c0 : Code := { maxStack := 3, maxLocals := 13, code := prog_51_method_1_code, exceptionTable := #[], attributes := #[] }
def k3m0 : Method := { name := "<init>", desc := "(JJJJJJ)V", sig := { parameters := [.long, .long, .long, .long, .long, .long], returnType := none }, accessFlags := 0, code := some k3c0 }
def k3c1 : Code := { maxStack := 4, maxLocals := 1, code := prog_51_method_2_code, exceptionTable := #[], attributes := #[] }
def k3m1 : Method := { name := "skips", desc := "()J", sig := { parameters := [], returnType := some .long }, accessFlags := 0, code := some k3c1 }
/-- com/example/millstep/millstep/RecordCounts -/
def k3 : Class := { plain "com/example/millstep/millstep/RecordCounts" (some 2) with
  accessFlags := 48
  interfaces := #[]
  cf := some (fileOf pool3 8 #[] #[{ accessFlags := 0, nameIndex := 5, descriptorIndex := 30, attributes := #[] }, { accessFlags := 0, nameIndex := 50, descriptorIndex := 51, attributes := #[] }] 48 2 #[] #[{ accessFlags := 18, nameIndex := 11, descriptorIndex := 12, attributes := #[] }, { accessFlags := 18, nameIndex := 15, descriptorIndex := 12, attributes := #[] }, { accessFlags := 18, nameIndex := 18, descriptorIndex := 12, attributes := #[] }, { accessFlags := 18, nameIndex := 21, descriptorIndex := 12, attributes := #[] }, { accessFlags := 18, nameIndex := 24, descriptorIndex := 12, attributes := #[] }, { accessFlags := 18, nameIndex := 27, descriptorIndex := 12, attributes := #[] }, { accessFlags := 24, nameIndex := 45, descriptorIndex := 46, attributes := #[] }])
  fields := #[{ name := "read", type := .long, accessFlags := 18, slot := 0, constantValue := 0 }, { name := "filtered", type := .long, accessFlags := 18, slot := 1, constantValue := 0 }, { name := "written", type := .long, accessFlags := 18, slot := 2, constantValue := 0 }, { name := "readSkips", type := .long, accessFlags := 18, slot := 3, constantValue := 0 }, { name := "processSkips", type := .long, accessFlags := 18, slot := 4, constantValue := 0 }, { name := "writeSkips", type := .long, accessFlags := 18, slot := 5, constantValue := 0 }, { name := "NONE", type := (.object "com/example/millstep/millstep/RecordCounts"), accessFlags := 24, slot := 0, constantValue := 0 }]
  methods := #[k3m0, k3m1]
  instanceTypes := #[.long, .long, .long, .long, .long, .long]
  staticTypes := #[(.object "com/example/millstep/millstep/RecordCounts")]
  resolved := Array.replicate 84 none
  statics := none }

def pool4 : Array CpInfo := pool [(1, u "java/lang/Cloneable"), (0, .class_ 1), (0, u "java/lang/Object"), (0, .class_ 3)] 3

/-- java/lang/Cloneable -/
def k4 : Class := { plain "java/lang/Cloneable" (some 0) with
  accessFlags := 1537
  interfaces := #[]
  cf := some (fileOf pool4 2 #[] #[] 1537 4 #[] #[])
  fields := #[]
  methods := #[]
  instanceTypes := #[]
  staticTypes := #[]
  resolved := Array.replicate 8 none
  statics := none }

def pool5 : Array CpInfo := pool [(1, u "java/io/Serializable"), (0, .class_ 1), (0, u "java/lang/Object"), (0, .class_ 3)] 3

/-- java/io/Serializable -/
def k5 : Class := { plain "java/io/Serializable" (some 0) with
  accessFlags := 1537
  interfaces := #[]
  cf := some (fileOf pool5 2 #[] #[] 1537 4 #[] #[])
  fields := #[]
  methods := #[]
  instanceTypes := #[]
  staticTypes := #[]
  resolved := Array.replicate 8 none
  statics := none }

/-- the primitive byte -/
def k6 : Class := { plain "byte" none with kind := .primitive 'B', accessFlags := 0x411 }
/-- [B -/
def k7 : Class := { plain "[B" (some 0) with kind := .array 6 .byte, interfaces := #[4, 5], accessFlags := 1041 }

/-- the primitive int -/
def k8 : Class := { plain "int" none with kind := .primitive 'I', accessFlags := 0x411 }
/-- [I -/
def k9 : Class := { plain "[I" (some 0) with kind := .array 8 .int, interfaces := #[4, 5], accessFlags := 1041 }

def heap : Heap := #[]
def classes : Array Class := #[k0, k1, k2, k3, k4, k5, k6, k7, k8, k9]
def interned : List (Array UInt16 × Addr) := []
def slotsUsed : Nat := 0
def theMethod : MethodId := ⟨1, 1⟩
def args0 : Array Value := #[.long 1, .long 2, .long 3, .long 4, .long 5, .long 6]
def aboutOver (below : List Frame) : State where
  vm := { classes := classes, interned := interned.toArray }
  heap := heap
  slotsUsed := slotsUsed
  threads := #[{ frames := .invoking theMethod args0 :: below }]
def below0 : List Frame := [.native { method := ⟨0, 0⟩, args := #[] }]
def about1 : State := aboutOver below0
def p0 : Program := .bare "" "" ""
def e0 : Env := launch0.env 0 0 0
theorem w_frames : about1.frames = Frame.invoking theMethod args0 :: below0 := rfl
set_option maxRecDepth 65536 in
theorem w_args : argsFit about1.vm theMethod args0 = true := by decide +kernel
set_option maxRecDepth 65536 in
theorem w_heap : heapFits about1 = true := by decide +kernel
set_option maxRecDepth 65536 in
theorem w_runnable : about1.curStatus? = some .runnable := by decide +kernel
set_option maxRecDepth 65536 in
theorem w_alone : about1.alone = true := by decide +kernel
set_option maxRecDepth 65536 in
theorem w_named : about1.methodNamed? x = some theMethod := by decide +kernel
set_option maxRecDepth 65536 in
theorem w_hears : about1.hears theMethod below0 = true := by decide +kernel
set_option maxRecDepth 65536 in
theorem w_ripe : about1.ripe theMethod args0 below0 = true := by decide +kernel
theorem w_running : about1.status = .running := rfl
set_option maxRecDepth 65536 in
theorem w_room : about1.hasRoom e0.platform room_1 = true :=
  launch0.hasRoom_least _ room_1 (by decide +kernel) (by decide +kernel) (by decide +kernel) (by decide +kernel) (by decide +kernel) (by decide +kernel)
theorem allAtoms_all (ts : List Jvm.Cond) (a : Array Jvm.Value) (st : Jvm.State) : (allAtoms ts).before a st = ts.all (fun c => c.before a st) := by
  induction ts with
  | nil => rfl
  | cons c t ih =>
    show (Jvm.Cond.and c (allAtoms t)).before a st = _
    rw [Jvm.Cond.before_and, ih, List.all_cons]
def words1 : List Jvm.Cond := Jvm.Cond.code x code maxLocals ret :: tables_1
/-- a 'code' word, met by the world's own term for the bytes: nothing is compared byte by byte -/
theorem code_word {y : MethodName} {bytes : ByteArray} {mx : Nat} {rt : Option FieldType} {a : Array Value} {s : State} {m : MethodId} {meth : Method} {c : Code} (h1 : s.methodNamed? y = some m) (h2 : s.vm.method? m = some meth) (h3 : meth.code = some c) (h4 : c.code = bytes)
    (h5 : (c.maxLocals == mx && c.exceptionTable.isEmpty && decide (c.maxStack ≤ mostOperands) && decide (meth.sig.returnType = rt) && !meth.locks && decide (parseMethodDescriptor y.desc = some meth.sig)) = true) : (Jvm.Cond.code y bytes mx rt).before a s = true := by
  simp only [Bool.and_eq_true, beq_iff_eq, Bool.not_eq_true', decide_eq_true_eq] at h5
  obtain ⟨⟨⟨⟨⟨g1, g2⟩, g3⟩, g4⟩, g5⟩, g6⟩ := h5
  simp [Cond.before, Cond.holds, Cond.value, h1, h2, h3, h4, g1, g2, g3, g4, g5, g6]
def isCode : Jvm.Cond → Bool
  | .code _ _ _ _ => true
  | _ => false
theorem all_split {L : List Jvm.Cond} {P : Jvm.Cond → Bool} (h1 : L.all (fun c => isCode c || P c) = true) (h2 : ∀ c ∈ L.filter isCode, P c = true) : L.all P = true := by
  refine List.all_eq_true.mpr fun c hc => ?_
  have h := List.all_eq_true.mp h1 c hc
  rcases Bool.eq_false_or_eq_true (isCode c) with hi | hi
  · exact h2 c (List.mem_filter.mpr ⟨hc, hi⟩)
  · simpa [hi] using h
set_option maxRecDepth 65536 in
theorem w_c0 : (Jvm.Cond.code x code maxLocals ret).before args0 about1 = true := code_word (m := ⟨1, 1⟩) (meth := k1m1) (c := k1c1) (by decide +kernel) rfl rfl rfl (by decide +kernel)
set_option maxRecDepth 65536 in
theorem w_c1 : (Jvm.Cond.code ({ cls := "com/example/millstep/millstep/RecordCounts", name := "<init>", desc := "(JJJJJJ)V" } : Jvm.MethodName) prog_51_method_1_code (13 : Nat) (Option.none : Option Jvm.ClassFile.FieldType)).before args0 about1 = true := code_word (m := ⟨3, 0⟩) (meth := k3m0) (c := k3c0) (by decide +kernel) rfl rfl rfl (by decide +kernel)
set_option maxRecDepth 65536 in
theorem w_c2 : (Jvm.Cond.code ({ cls := "java/lang/Record", name := "<init>", desc := "()V" } : Jvm.MethodName) jdk_30_method_1_code (1 : Nat) (Option.none : Option Jvm.ClassFile.FieldType)).before args0 about1 = true := code_word (m := ⟨2, 0⟩) (meth := k2m0) (c := k2c0) (by decide +kernel) rfl rfl rfl (by decide +kernel)
set_option maxRecDepth 65536 in
theorem w_c3 : (Jvm.Cond.code ({ cls := "java/lang/Object", name := "<init>", desc := "()V" } : Jvm.MethodName) object_method_1_code (1 : Nat) (Option.none : Option Jvm.ClassFile.FieldType)).before args0 about1 = true := code_word (m := ⟨0, 0⟩) (meth := k0m0) (c := k0c0) (by decide +kernel) rfl rfl rfl (by decide +kernel)
set_option maxRecDepth 65536 in
theorem w_c4 : (Jvm.Cond.code ({ cls := "com/example/millstep/millstep/RecordCounts", name := "skips", desc := "()J" } : Jvm.MethodName) prog_51_method_2_code (1 : Nat) (Option.some Jvm.ClassFile.FieldType.long)).before args0 about1 = true := code_word (m := ⟨3, 1⟩) (meth := k3m1) (c := k3c1) (by decide +kernel) rfl rfl rfl (by decide +kernel)
def codes1 : List Jvm.Cond := [Jvm.Cond.code x code maxLocals ret, Jvm.Cond.code ({ cls := "com/example/millstep/millstep/RecordCounts", name := "<init>", desc := "(JJJJJJ)V" } : Jvm.MethodName) prog_51_method_1_code (13 : Nat) (Option.none : Option Jvm.ClassFile.FieldType), Jvm.Cond.code ({ cls := "java/lang/Record", name := "<init>", desc := "()V" } : Jvm.MethodName) jdk_30_method_1_code (1 : Nat) (Option.none : Option Jvm.ClassFile.FieldType), Jvm.Cond.code ({ cls := "java/lang/Object", name := "<init>", desc := "()V" } : Jvm.MethodName) object_method_1_code (1 : Nat) (Option.none : Option Jvm.ClassFile.FieldType), Jvm.Cond.code ({ cls := "com/example/millstep/millstep/RecordCounts", name := "skips", desc := "()J" } : Jvm.MethodName) prog_51_method_2_code (1 : Nat) (Option.some Jvm.ClassFile.FieldType.long)]
set_option maxRecDepth 65536 in
theorem codes_eq : words1.filter isCode = codes1 := rfl
theorem w_codes : ∀ c ∈ words1.filter isCode, c.before args0 about1 = true := by
  rw [codes_eq]
  intro c hc
  simp only [codes1, List.mem_cons, List.not_mem_nil, or_false] at hc
  rcases hc with rfl | rfl | rfl | rfl | rfl
  · exact w_c0
  · exact w_c1
  · exact w_c2
  · exact w_c3
  · exact w_c4
set_option maxRecDepth 65536 in
theorem w_t1 : (words1.take 24).all (fun c => isCode c || c.before args0 about1) = true := by decide +kernel
set_option maxRecDepth 65536 in
theorem w_t2 : (words1.drop 24).all (fun c => isCode c || c.before args0 about1) = true := by decide +kernel
theorem w_tables : (allAtoms (Jvm.Cond.code x code maxLocals ret :: tables_1)).before args0 about1 = true := by
  rw [allAtoms_all]
  show words1.all (fun c => c.before args0 about1) = true
  refine all_split ?_ w_codes
  rw [← List.take_append_drop 24 words1, List.all_append, w_t1, w_t2]
  rfl
set_option maxRecDepth 65536 in
theorem w_case : (Jvm.Cond.and given_1 narrow_1).before args0 about1 = true := by decide +kernel
theorem w_applies : (headSpec (Jvm.Cond.code x code maxLocals ret :: tables_1) room_1).applies x e0.platform about1 = true :=
  (Spec.applies_iff w_frames).mpr ⟨w_running, w_runnable, w_alone, w_named, w_hears, w_ripe, w_room, w_tables⟩
theorem atStart : AtStart classFile x code maxLocals ret World_1 tables_1 room_1 Calls_1 rest_1 Pre_1 launch0 p0 e0 about1 theMethod args0 below0 :=
  ⟨lists_1, trivial, launch0.admits_env _ _ _, launch0.least_env, fairChoices_fair.cas, fairChoices_fair.clock, w_frames, w_args, w_heap, w_applies, trivial, trivial, w_case⟩
end start1
theorem witness_1 : WitnessClaimed_1 := ⟨start1.p0, start1.e0, start1.about1, start1.theMethod, start1.args0, start1.below0, start1.atStart⟩
end Jvm.Pilot.@@N@@
