import JvmDerived
import JvmDerived.Pilot.@@N@@Statement
import JvmDerived.Pilot.@@N@@Code
set_option linter.unusedVariables false
set_option linter.unusedSimpArgs false
namespace Jvm.RoadKit
open Sem ClassFile Op Lib Jvm.Stand Jvm.Free Jvm.LawKit
section New
variable {p : Program} {l : Launch} {e : Env} {R : Room} {s : State} {m : MethodId} {args : Array Value} {below : List Frame} {meth : Method} {c : Code} {T : State} {locs : List Loc} {cells slots : Nat}
theorem retI (X : Stand p l e R s m args below meth c T locs cells slots) (hx : p.tables.exec = Jvm.exec) {pc : Nat} {Ls : Array Slot} {z : Int32} {rest : List Value} (hret : meth.sig.returnType = some .int) (hd : decode c.code pc = .ok (.ireturn, 1)) {fs : List Frame}
    (hl : ∀ (f : JFrame) (acts : List Action), f.method = m → f.locked = none → f.entered = [] → (doReturn e (T.setTop f) acts (some (.int z))).1 = T.setFrames fs) : Steps p.tables e below (T.setTop (mkF m pc Ls (.int z :: rest))) (T.setFrames fs) := by
  have hm' : T.vm.method? m = some meth := X.method'
  have hn : narrow .int (.int z) = .int z := rfl
  show Steps p.tables e below (T.setTop { method := m, pc := pc, locals := Ls, stack := _ :: rest, locked := none }) _
  jvm_step X.here [X.here.top, hx, hd, hm', hret, hn]
  first | (intro acts; rw [hl _ acts rfl rfl rfl]) | rw [hl _ _ rfl rfl rfl]
  exact Steps.refl _
end New
end Jvm.RoadKit
namespace Jvm.Pilot.@@N@@
open Jvm Jvm.ClassFile Sem Op Lib Jvm.Free Jvm.Stand Jvm.LawKit Jvm.RoadKit Bundle Jvm.Pilot.@@N@@.Jvm.D
abbrev lv (x : Int64) : Slot := .val (.long x)
theorem im (i : Nat) {d : Jvm.Cond} (h : tables_1[i]? = some d) : d ∈ tables_1 := List.mem_of_getElem? h
theorem own_go {tb : Tables} {e : Env} {below : List Frame} {S S' S0 : State} (P : ∀ t, Steps tb e below S t → Steps tb e below S0 t) (f : ∀ t, Steps tb e below S' t → Steps tb e below S t) : ∀ t, Steps tb e below S' t → Steps tb e below S0 t := fun t k => P t (f t k)
theorem own_sn {Z : State} {a0 : Array Value} {K O n d O' n' d' : String} (L : Laid Z a0 K O n d) (L' : Laid Z a0 K O' n' d') (hn : n ≠ n' := by decide) (ht : (parseFieldDescriptor d).isSome = true := by decide) (ht' : (parseFieldDescriptor d').isSome = true := by decide) : Jvm.RoadKit.slotOf Z O n d ≠ Jvm.RoadKit.slotOf Z O' n' d' := by
  obtain ⟨t, e⟩ := Option.isSome_iff_exists.mp ht
  obtain ⟨t', e'⟩ := Option.isSome_iff_exists.mp ht'
  exact slot_ne L L' hn e e'
theorem pn_0 : plainName "com/example/wardflow/wardflow/analysis/CheckLimitsCarryPinLaw" = true := by first | (simp [plainName, overriddenIn]; done) | decide +kernel
theorem d1_0 : decode prog_7_method_1_code 0 = .ok (.aload_n 0, 1) := by decide +kernel
theorem d1_1 : decode prog_7_method_1_code 1 = .ok (.invokespecial 1, 3) := by decide +kernel
theorem d1_4 : decode prog_7_method_1_code 4 = .ok (.return_, 1) := by decide +kernel
theorem pn_1 : plainName "com/example/wardflow/wardflow/analysis/CheckLimits" = true := by first | (simp [plainName, overriddenIn]; done) | decide +kernel
theorem d3_0 : decode prog_7_method_8_code 0 = .ok (.aload_n 0, 1) := by decide +kernel
theorem d3_1 : decode prog_7_method_8_code 1 = .ok (.getfield 30, 3) := by decide +kernel
theorem d3_4 : decode prog_7_method_8_code 4 = .ok (.lreturn, 1) := by decide +kernel
theorem pn_3 : plainName "com/example/wardflow/wardflow/analysis/CheckLimits" = true := by first | (simp [plainName, overriddenIn]; done) | decide +kernel
theorem d4_0 : decode prog_7_method_6_code 0 = .ok (.aload_n 0, 1) := by decide +kernel
theorem d4_1 : decode prog_7_method_6_code 1 = .ok (.dup, 1) := by decide +kernel
theorem d4_2 : decode prog_7_method_6_code 2 = .ok (.getfield 30, 3) := by decide +kernel
theorem d4_5 : decode prog_7_method_6_code 5 = .ok (.bipush 50, 2) := by decide +kernel
theorem d4_7 : decode prog_7_method_6_code 7 = .ok (.iload_n 1, 1) := by decide +kernel
theorem d4_8 : decode prog_7_method_6_code 8 = .ok (.iadd, 1) := by decide +kernel
theorem d4_9 : decode prog_7_method_6_code 9 = .ok (.i2l, 1) := by decide +kernel
theorem d4_10 : decode prog_7_method_6_code 10 = .ok (.lload_n 2, 1) := by decide +kernel
theorem d4_11 : decode prog_7_method_6_code 11 = .ok (.ladd, 1) := by decide +kernel
theorem d4_12 : decode prog_7_method_6_code 12 = .ok (.ladd, 1) := by decide +kernel
theorem d4_13 : decode prog_7_method_6_code 13 = .ok (.putfield 30, 3) := by decide +kernel
theorem d4_16 : decode prog_7_method_6_code 16 = .ok (.aload_n 0, 1) := by decide +kernel
theorem d4_17 : decode prog_7_method_6_code 17 = .ok (.getfield 30, 3) := by decide +kernel
theorem d4_20 : decode prog_7_method_6_code 20 = .ok (.ldc2_w 33, 3) := by decide +kernel
theorem d4_23 : decode prog_7_method_6_code 23 = .ok (.lcmp, 1) := by decide +kernel
theorem d4_24 : decode prog_7_method_6_code 24 = .ok (.ifCond .gt 7, 3) := by decide +kernel
theorem d4_27 : decode prog_7_method_6_code 27 = .ok (.iconst 1, 1) := by decide +kernel
theorem d4_28 : decode prog_7_method_6_code 28 = .ok (.goto 4, 3) := by decide +kernel
theorem d4_31 : decode prog_7_method_6_code 31 = .ok (.iconst 0, 1) := by decide +kernel
theorem d4_32 : decode prog_7_method_6_code 32 = .ok (.ireturn, 1) := by decide +kernel
theorem pn_4 : plainName "com/example/wardflow/wardflow/analysis/CheckLimits" = true := by first | (simp [plainName, overriddenIn]; done) | decide +kernel
theorem pd_0 : parseMethodDescriptor "()V" = some ⟨[], none⟩ := by decide +kernel
theorem pd_1 : parseMethodDescriptor "()J" = some ⟨[], some .long⟩ := by decide +kernel
theorem pd_2 : parseMethodDescriptor "(IJ)Z" = some ⟨[.int, .long], some .boolean⟩ := by decide +kernel
theorem own_m30 (x : Int32) : 0 ≤ (x &&& (1073741823 : Int32)).toInt ∧ (x &&& (1073741823 : Int32)).toInt < 1073741824 := by
  have h := c_mask x 1073741823 30 (by decide) (by decide)
  rw [h]; omega
theorem own_m16 (x : Int32) : 0 ≤ (x &&& (65535 : Int32)).toInt ∧ (x &&& (65535 : Int32)).toInt < 1073741824 := by
  have h := c_mask x 65535 16 (by decide) (by decide)
  rw [h]; omega
theorem own_50 (a : Int32) (h : 0 ≤ a.toInt ∧ a.toInt < 1073741824) : ((50 : Int32) + a).toInt64 = (50 : Int64) + a.toInt64 := by
  apply Int64.toInt_inj.mp
  have h1 := c_iadd 50 a
  have h2 := c_ladd 50 a.toInt64
  have k1 : (50 : Int32).toInt = 50 := by decide
  have k2 : (50 : Int64).toInt = 50 := by decide
  have r1 := rng32 ((50 : Int32) + a)
  have r2 := rng64 ((50 : Int64) + a.toInt64)
  rw [k1] at h1
  rw [k2, c_i2l] at h2
  rw [c_i2l]
  omega
theorem own_t1 (a : Int32) (f : Int64) (h : 0 ≤ a.toInt ∧ a.toInt < 1073741824) : ((0 : Int64) + ((((50 : Int32) + a).toInt64) + f)) = (((50 : Int64) + (a.toInt64)) + f) := by
  rw [own_50 a h, Int64.zero_add]
theorem own_t2 (X t : Int64) (a : Int32) (f : Int64) (e : X = t) (h : 0 ≤ a.toInt ∧ a.toInt < 1073741824) : (X + ((((50 : Int32) + a).toInt64) + f)) = (((t + (50 : Int64)) + (a.toInt64)) + f) := by
  rw [own_50 a h, e, Int64.add_assoc, Int64.add_assoc, Int64.add_assoc]
theorem own_b (X t : Int64) (v : Int32) (e : X = t) (hv : v = (if (30000000 : Int64) < t then (0 : Int32) else (1 : Int32))) : (if (¬ ((30000000 : Int64) < X)) then (1 : Int32) else (0 : Int32)) = v := by
  subst e; subst hv
  by_cases h : (30000000 : Int64) < X <;> simp [h]
def Q1 (Z : State) (x0 : Addr) (h0 : Heap) (n0 : Nat) (v : Option Value) (h : Heap) (L : List Loc) : Prop := v = none ∧ Fr n0 L ∧ h = h0
theorem ef_1 (m : MethodId) (x0 : Addr) : entryFrame m #[(.ref x0)] 1 = mkF m 0 #[rv x0] [] := by first | (simp [entryFrame, mkF, argsToLocals, Value.category]; done) | rfl
set_option maxRecDepth 65536 in
set_option maxHeartbeats 40000000 in
theorem rm1 (l : Launch) (Z : State) (a0 : Array Value) (hw : ∀ d ∈ tables_1, d.before a0 Z = true) (ws : List Jvm.Cond) (x0 : Addr) (h0 : Heap) (n0 : Nat) (Z0 : n0 ≤ h0.size) :
    MetFree l (⟨"com/example/wardflow/wardflow/analysis/CheckLimits", "<init>", "()V"⟩ : MethodName) (head1 (Jvm.Cond.code (⟨"com/example/wardflow/wardflow/analysis/CheckLimits", "<init>", "()V"⟩ : MethodName) prog_7_method_1_code 1 none :: ws) ({ frames := 1, cells := 0, slots := 0, locals := 12 } : Room)) (fun a U => a = #[(.ref x0)] ∧ Z.Warmed39 U.vm ∧ U.heap = h0) (fun _ _ _ _ _ => True) (fun _ U o U' => ∃ v L, o = .returned v ∧ Q1 Z x0 h0 n0 v U'.heap L ∧ FrameEnd U o U' L ({ frames := 1, cells := 0, slots := 0, locals := 12 } : Room).cells ({ frames := 1, cells := 0, slots := 0, locals := 12 } : Room).slots) := by
  refine MetFree.of_bodySF (plainFor_of_name pn_1) hisR ?_
  intro p e s m args below meth c s₁ Bd hml0 hP hK
  obtain ⟨rfl, hZ, hh⟩ := hP
  have hx := Bd.exec
  have hby := Bd.bytes
  have hml : c.maxLocals = 1 := hml0
  have hown : s.vm.findClass "com/example/wardflow/wardflow/analysis/CheckLimits" = some m.cls := findClass_of_methodNamed Bd.named
  have hnm := (name_of_methodNamed Bd.named Bd.method).1
  have X0 : Stand p l e ({ frames := 1, cells := 0, slots := 0, locals := 12 } : Room) s m #[(.ref x0)] below meth c s₁ [] 0 0 := Stand.of_body Bd
  have e0 : s₁.heap = h0 := by rw [← hh, Bd.state]; rfl
  have N0 := Fr.nil n0
  have Kp0 := Keep.refl h0 []
  have P0 : ∀ t, Steps p.tables e below (s₁.setTop (mkF m 0 #[rv x0] [])) t → Steps p.tables e below (s₁.setTop (entryFrame m #[(.ref x0)] 1)) t := fun t k => castTop (ef_1 m x0) k
  obtain ⟨T1, X1, e1, st1⟩ := initO X0 hx hZ hown (hw _ (im 6 rfl)) (hw _ (im 7 rfl)) (hw _ (im 8 rfl)) e0 (g := (mkF m 1 #[rv x0] [(.ref x0)])) rfl (by rw [hml]; rfl) rfl (hb hby d1_1) (by decide) (W := 0) (by show 2 * 0 + _ ≤ _; exact Nat.le_of_eq rfl) (by decide)
  have P2 := own_go P0 (S' := T1.setTop (mkF m 4 #[rv x0] [])) (by
    intro t k
    refine XS.aloadN X0.here hx rfl (hb hby d1_0) rfl rfl ?_
    refine st1 _ ?_
    exact k)
  obtain ⟨fs, hr, hrun, hended, hW, hsame⟩ := X1.leave (v := none) (fun _ => rfl)
  refine ⟨_, _, P2 _ ?_, hrun, hended, _, _, rfl, ?_, ⟨_, rfl⟩, hW, hsame.mono (by decide) (by decide)⟩
  · show Steps p.tables e below (T1.setTop (mkF m 4 #[rv x0] [])) _
    exact X1.returnOut hx Bd.returns (hb hby d1_4) hr
  · show Q1 Z x0 h0 n0 _ T1.heap _
    rw [e1]
    exact ⟨rfl, N0, rfl⟩
def Q3 (Z : State) (x0 : Addr) (w : Int64) (h0 : Heap) (n0 : Nat) (v : Option Value) (h : Heap) (L : List Loc) : Prop := v = some (.long w) ∧ Fr n0 L ∧ h = h0
theorem ef_3 (m : MethodId) (x0 : Addr) : entryFrame m #[(.ref x0)] 1 = mkF m 0 #[rv x0] [] := by first | (simp [entryFrame, mkF, argsToLocals, Value.category]; done) | rfl
set_option maxRecDepth 65536 in
set_option maxHeartbeats 40000000 in
theorem rm3 (l : Launch) (Z : State) (a0 : Array Value) (hw : ∀ d ∈ tables_1, d.before a0 Z = true) (ws : List Jvm.Cond) (x0 : Addr) (w : Int64) (h0 : Heap) (n0 : Nat) (Z0 : n0 ≤ h0.size) (pre_F_x0_loopSteps : Fld Z h0 x0 "com/example/wardflow/wardflow/analysis/CheckLimits" "loopSteps" "J" (.long w)) :
    MetFree l (⟨"com/example/wardflow/wardflow/analysis/CheckLimits", "loopSteps", "()J"⟩ : MethodName) (head1 (Jvm.Cond.code (⟨"com/example/wardflow/wardflow/analysis/CheckLimits", "loopSteps", "()J"⟩ : MethodName) prog_7_method_8_code 1 (some .long) :: ws) ({ frames := 0, cells := 0, slots := 0, locals := 0 } : Room)) (fun a U => a = #[(.ref x0)] ∧ Z.Warmed39 U.vm ∧ U.heap = h0) (fun _ _ _ _ _ => True) (fun _ U o U' => ∃ v L, o = .returned v ∧ Q3 Z x0 w h0 n0 v U'.heap L ∧ FrameEnd U o U' L ({ frames := 0, cells := 0, slots := 0, locals := 0 } : Room).cells ({ frames := 0, cells := 0, slots := 0, locals := 0 } : Room).slots) := by
  refine MetFree.of_bodySF (plainFor_of_name pn_3) hisR ?_
  intro p e s m args below meth c s₁ Bd hml0 hP hK
  obtain ⟨rfl, hZ, hh⟩ := hP
  have hx := Bd.exec
  have hby := Bd.bytes
  have hml : c.maxLocals = 1 := hml0
  have hown : s.vm.findClass "com/example/wardflow/wardflow/analysis/CheckLimits" = some m.cls := findClass_of_methodNamed Bd.named
  have hnm := (name_of_methodNamed Bd.named Bd.method).1
  have X0 : Stand p l e ({ frames := 0, cells := 0, slots := 0, locals := 0 } : Room) s m #[(.ref x0)] below meth c s₁ [] 0 0 := Stand.of_body Bd
  have e0 : s₁.heap = h0 := by rw [← hh, Bd.state]; rfl
  have N0 := Fr.nil n0
  have Kp0 := Keep.refl h0 []
  have P0 : ∀ t, Steps p.tables e below (s₁.setTop (mkF m 0 #[rv x0] [])) t → Steps p.tables e below (s₁.setTop (entryFrame m #[(.ref x0)] 1)) t := fun t k => castTop (ef_3 m x0) k
  obtain ⟨T1, X1, e1, st1⟩ := getF X0 hx hZ hown (host := "") (Or.inl (hw _ (im 14 rfl))) Via.refl e0 pre_F_x0_loopSteps (g := (mkF m 1 #[rv x0] [(.ref x0)])) rfl rfl (hb hby d3_1)
  have P2 := own_go P0 (S' := T1.setTop (mkF m 4 #[rv x0] [(.long w)])) (by
    intro t k
    refine XS.aloadN X0.here hx rfl (hb hby d3_0) rfl rfl ?_
    refine st1 _ ?_
    exact k)
  obtain ⟨fs, hr, hrun, hended, hW, hsame⟩ := X1.leave (v := some (.long w)) (fun h => by rw [Bd.returns] at h; cases h)
  refine ⟨_, _, P2 _ ?_, hrun, hended, _, _, rfl, ?_, ⟨_, rfl⟩, hW, hsame.mono (by decide) (by decide)⟩
  · show Steps p.tables e below (T1.setTop (mkF m 4 #[rv x0] [(.long w)])) _
    exact retOut X1 hx (t := .long) Bd.returns rfl (Or.inr (Or.inl ⟨rfl, rfl, _, rfl⟩)) (hb hby d3_4) hr
  · show Q3 Z x0 w h0 n0 _ T1.heap _
    rw [e1]
    exact ⟨rfl, N0, rfl⟩
def Q4 (Z : State) (x0 : Addr) (x1 : Int32) (x2 : Int64) (w : Int64) (h0 : Heap) (n0 : Nat) (v : Option Value) (h : Heap) (L : List Loc) : Prop := v = some (.int (if (¬ ((30000000 : Int64) < (w + ((((50 : Int32) + x1).toInt64) + x2)))) then (1 : Int32) else (0 : Int32))) ∧ Fr n0 L ∧ Keep h0 h [x0] ∧ Exa Z h x0 "com/example/wardflow/wardflow/analysis/CheckLimits" ∧ Fld Z h x0 "com/example/wardflow/wardflow/analysis/CheckLimits" "loopSteps" "J" (.long (w + ((((50 : Int32) + x1).toInt64) + x2)))
theorem ef_4 (m : MethodId) (x0 : Addr) (x1 : Int32) (x2 : Int64) : entryFrame m #[(.ref x0), (.int x1), (.long x2)] 4 = mkF m 0 #[rv x0, iv x1, lv x2, .second] [] := by first | (simp [entryFrame, mkF, argsToLocals, Value.category]; done) | rfl
set_option maxRecDepth 65536 in
set_option maxHeartbeats 40000000 in
theorem rm4 (l : Launch) (Z : State) (a0 : Array Value) (hw : ∀ d ∈ tables_1, d.before a0 Z = true) (ws : List Jvm.Cond) (x0 : Addr) (x1 : Int32) (x2 : Int64) (w : Int64) (h0 : Heap) (n0 : Nat) (Z0 : n0 ≤ h0.size) (pre_E_x0 : Exa Z h0 x0 "com/example/wardflow/wardflow/analysis/CheckLimits") (pre_F_x0_loopSteps : Fld Z h0 x0 "com/example/wardflow/wardflow/analysis/CheckLimits" "loopSteps" "J" (.long w)) (g_x0 : n0 ≤ x0) :
    MetFree l (⟨"com/example/wardflow/wardflow/analysis/CheckLimits", "carry", "(IJ)Z"⟩ : MethodName) (head1 (Jvm.Cond.code (⟨"com/example/wardflow/wardflow/analysis/CheckLimits", "carry", "(IJ)Z"⟩ : MethodName) prog_7_method_6_code 4 (some .boolean) :: ws) ({ frames := 0, cells := 0, slots := 0, locals := 0 } : Room)) (fun a U => a = #[(.ref x0), (.int x1), (.long x2)] ∧ Z.Warmed39 U.vm ∧ U.heap = h0) (fun _ _ _ _ _ => True) (fun _ U o U' => ∃ v L, o = .returned v ∧ Q4 Z x0 x1 x2 w h0 n0 v U'.heap L ∧ FrameEnd U o U' L ({ frames := 0, cells := 0, slots := 0, locals := 0 } : Room).cells ({ frames := 0, cells := 0, slots := 0, locals := 0 } : Room).slots) := by
  refine MetFree.of_bodySF (plainFor_of_name pn_4) hisR ?_
  intro p e s m args below meth c s₁ Bd hml0 hP hK
  obtain ⟨rfl, hZ, hh⟩ := hP
  have hx := Bd.exec
  have hby := Bd.bytes
  have hml : c.maxLocals = 4 := hml0
  have hown : s.vm.findClass "com/example/wardflow/wardflow/analysis/CheckLimits" = some m.cls := findClass_of_methodNamed Bd.named
  have hnm := (name_of_methodNamed Bd.named Bd.method).1
  have X0 : Stand p l e ({ frames := 0, cells := 0, slots := 0, locals := 0 } : Room) s m #[(.ref x0), (.int x1), (.long x2)] below meth c s₁ [] 0 0 := Stand.of_body Bd
  have e0 : s₁.heap = h0 := by rw [← hh, Bd.state]; rfl
  have N0 := Fr.nil n0
  have Kp0 := Keep.refl h0 [x0]
  have P0 : ∀ t, Steps p.tables e below (s₁.setTop (mkF m 0 #[rv x0, iv x1, lv x2, .second] [])) t → Steps p.tables e below (s₁.setTop (entryFrame m #[(.ref x0), (.int x1), (.long x2)] 4)) t := fun t k => castTop (ef_4 m x0 x1 x2) k
  obtain ⟨T1, X1, e1, st1⟩ := getF X0 hx hZ hown (host := "") (Or.inl (hw _ (im 14 rfl))) Via.refl e0 pre_F_x0_loopSteps (g := (mkF m 2 #[rv x0, iv x1, lv x2, .second] [(.ref x0), (.ref x0)])) rfl rfl (hb hby d4_2)
  obtain ⟨T2, h2, X2, e2, W2, st2⟩ := putF X1 hx hZ hown (host := "") (Or.inl (hw _ (im 14 rfl))) Via.refl e1 pre_F_x0_loopSteps pre_E_x0 (Or.inl (hw _ (im 15 rfl))) (hw _ (im 1 rfl)) (ty := .long) (by decide) rfl rfl (g := (mkF m 13 #[rv x0, iv x1, lv x2, .second] [(.long (w + ((((50 : Int32) + x1).toInt64) + x2))), (.ref x0)])) rfl rfl (hb hby d4_13)
  have Fw2 := pre_F_x0_loopSteps.same W2
  have Z2_ : n0 ≤ h2.size := Nat.le_trans Z0 (Nat.le_of_eq W2.size.symm)
  have N2 := Fr.snoc X2 N0 g_x0
  have KK2 := Kp0.wr W2 (Or.inl (List.mem_of_getElem? (i := 0) rfl))
  obtain ⟨T3, X3, e3, st3⟩ := getF X2 hx hZ hown (host := "") (Or.inl (hw _ (im 14 rfl))) Via.refl e2 Fw2 (g := (mkF m 17 #[rv x0, iv x1, lv x2, .second] [(.ref x0)])) rfl rfl (hb hby d4_17)
  have P5 := own_go P0 (S' := T3.setTop (mkF m 24 #[rv x0, iv x1, lv x2, .second] [(.int (lcmpW (w + ((((50 : Int32) + x1).toInt64) + x2)) (30000000 : Int64)))])) (by
    intro t k
    refine XS.aloadN X0.here hx rfl (hb hby d4_0) rfl rfl ?_
    refine XS.dup X0.here hx rfl (hb hby d4_1) rfl rfl ?_
    refine st1 _ ?_
    refine XS.bipush X1.here hx rfl (hb hby d4_5) ?_
    refine XS.iloadN X1.here hx rfl (hb hby d4_7) rfl ?_
    refine XS.iadd X1.here hx rfl (hb hby d4_8) rfl ?_
    refine XS.i2l X1.here hx rfl (hb hby d4_9) rfl ?_
    refine XS.lloadN X1.here hx rfl (hb hby d4_10) rfl ?_
    show Steps p.tables e below (T1.setTop (mkF m 11 #[rv x0, iv x1, lv x2, .second] [(.long x2), (.long (((50 : Int32) + x1).toInt64)), (.long w), (.ref x0)])) _
    refine XS.ladd X1.here hx rfl (hb hby d4_11) rfl ?_
    refine XS.ladd X1.here hx rfl (hb hby d4_12) rfl ?_
    refine st2 _ ?_
    refine XS.aloadN X2.here hx rfl (hb hby d4_16) rfl rfl ?_
    refine st3 _ ?_
    refine X3.ldc2Long hx hown (mvT hZ (hw _ (im 23 rfl))) (g := (mkF m 20 #[rv x0, iv x1, lv x2, .second] [(.long (w + ((((50 : Int32) + x1).toInt64) + x2)))])) rfl (hb hby d4_20) _ ?_
    refine XS.lcmp X3.here hx rfl (hb hby d4_23) rfl ?_
    exact k)
  by_cases hc24_4 : (30000000 : Int64) < (w + ((((50 : Int32) + x1).toInt64) + x2))
  · have P6 := own_go P5 (S' := T3.setTop (mkF m 32 #[rv x0, iv x1, lv x2, .second] [(.int 0)])) (by
      intro t k
      refine XS.ifYes X3.here hx rfl (pc0 := 24) (pc' := 31) rfl (hb hby d4_24) rfl ((if0 _ _).trans (tlt ((lw_gt (w + ((((50 : Int32) + x1).toInt64) + x2)) (30000000 : Int64)).mpr hc24_4)).2.2.1) (by decide) (by decide) ?_
      refine XS.iconst X3.here hx rfl (hb hby d4_31) ?_
      exact k)
    have q7 := (pre_E_x0.wr W2)
    obtain ⟨fs, hr, hrun, hended, hW, hsame⟩ := X3.leave (v := some (.int 0)) (fun h => by rw [Bd.returns] at h; cases h)
    refine ⟨_, _, P6 _ ?_, hrun, hended, _, _, rfl, ?_, ⟨_, rfl⟩, hW, hsame.mono (by decide) (by decide)⟩
    · show Steps p.tables e below (T3.setTop (mkF m 32 #[rv x0, iv x1, lv x2, .second] [(.int 0)])) _
      exact retN X3 hx (t := .boolean) Bd.returns (by simp) (hb hby d4_32) hr
    · show Q4 Z x0 x1 x2 w h0 n0 _ T3.heap _
      rw [e3]
      exact ⟨(by first | rfl | simp [hc24_4]), N2, KK2, q7, Fw2⟩
  · have P8 := own_go P5 (S' := T3.setTop (mkF m 32 #[rv x0, iv x1, lv x2, .second] [(.int 1)])) (by
      intro t k
      refine XS.ifNo X3.here hx rfl (hb hby d4_24) rfl ((if0 _ _).trans (flt (fun q => hc24_4 ((lw_gt (w + ((((50 : Int32) + x1).toInt64) + x2)) (30000000 : Int64)).mp q))).2.2.1) ?_
      refine XS.iconst X3.here hx rfl (hb hby d4_27) ?_
      refine XS.goto X3.here hx rfl (pc0 := 28) (pc' := 32) rfl (hb hby d4_28) (by decide) (by decide) ?_
      exact k)
    have q9 := (pre_E_x0.wr W2)
    obtain ⟨fs, hr, hrun, hended, hW, hsame⟩ := X3.leave (v := some (.int 1)) (fun h => by rw [Bd.returns] at h; cases h)
    refine ⟨_, _, P8 _ ?_, hrun, hended, _, _, rfl, ?_, ⟨_, rfl⟩, hW, hsame.mono (by decide) (by decide)⟩
    · show Steps p.tables e below (T3.setTop (mkF m 32 #[rv x0, iv x1, lv x2, .second] [(.int 1)])) _
      exact retN X3 hx (t := .boolean) Bd.returns (by simp) (hb hby d4_32) hr
    · show Q4 Z x0 x1 x2 w h0 n0 _ T3.heap _
      rw [e3]
      exact ⟨(by first | rfl | simp [hc24_4]), N2, KK2, q9, Fw2⟩
def Q0 (Z : State) (x0 : Int32) (x1 : Int64) (x2 : Int32) (x3 : Int64) (x4 : Int32) (h0 : Heap) (n0 : Nat) (v : Option Value) (h : Heap) (L : List Loc) : Prop := v = some (.int 1) ∧ Fr n0 L
theorem ef_0 (m : MethodId) (x0 : Int32) (x1 : Int64) (x2 : Int32) (x3 : Int64) (x4 : Int32) : entryFrame m #[(.int x0), (.long x1), (.int x2), (.long x3), (.int x4)] maxLocals = mkF m 0 #[iv x0, lv x1, .second, iv x2, lv x3, .second, iv x4, .unset, .unset, .unset, .unset, .unset, .unset, .unset, .unset, .unset, .unset, .unset, .unset, .unset] [] := by first | (simp [entryFrame, mkF, argsToLocals, Value.category, maxLocals]; done) | rfl
set_option maxRecDepth 65536 in
set_option maxHeartbeats 40000000 in
theorem rm0 (l : Launch) (Z : State) (a0 : Array Value) (hw : ∀ d ∈ tables_1, d.before a0 Z = true) (ws : List Jvm.Cond) (x0 : Int32) (x1 : Int64) (x2 : Int32) (x3 : Int64) (x4 : Int32) (h0 : Heap) (n0 : Nat) (Z0 : n0 ≤ h0.size) :
    MetFree l x (head1 (Jvm.Cond.code x code maxLocals ret :: ws) room_1) (fun a U => a = #[(.int x0), (.long x1), (.int x2), (.long x3), (.int x4)] ∧ Z.Warmed39 U.vm ∧ U.heap = h0) (fun _ _ _ _ _ => True) (fun _ U o U' => ∃ v L, o = .returned v ∧ Q0 Z x0 x1 x2 x3 x4 h0 n0 v U'.heap L ∧ FrameEnd U o U' L room_1.cells room_1.slots) := by
  refine MetFree.of_bodySF (plainFor_of_name pn_0) hisR ?_
  intro p e s m args below meth c s₁ Bd hml0 hP hK
  obtain ⟨rfl, hZ, hh⟩ := hP
  have hx := Bd.exec
  have hby := Bd.bytes
  have hml : c.maxLocals = 20 := hml0
  have hown : s.vm.findClass "com/example/wardflow/wardflow/analysis/CheckLimitsCarryPinLaw" = some m.cls := findClass_of_methodNamed Bd.named
  have hnm := (name_of_methodNamed Bd.named Bd.method).1
  have X0 : Stand p l e room_1 s m #[(.int x0), (.long x1), (.int x2), (.long x3), (.int x4)] below meth c s₁ [] 0 0 := Stand.of_body Bd
  have e0 : s₁.heap = h0 := by rw [← hh, Bd.state]; rfl
  have N0 := Fr.nil n0
  have Kp0 := Keep.refl h0 []
  have P0 : ∀ t, Steps p.tables e below (s₁.setTop (mkF m 0 #[iv x0, lv x1, .second, iv x2, lv x3, .second, iv x4, .unset, .unset, .unset, .unset, .unset, .unset, .unset, .unset, .unset, .unset, .unset, .unset, .unset] [])) t → Steps p.tables e below (s₁.setTop (entryFrame m #[(.int x0), (.long x1), (.int x2), (.long x3), (.int x4)] maxLocals)) t := fun t k => castTop (ef_0 m x0 x1 x2 x3 x4) k
  obtain ⟨T1, h1, X1, e1, E1, A1, D1, -, st1⟩ := newO X0 hx hZ hown (hw _ (im 0 rfl)) (hw _ (im 1 rfl)) (hw _ (im 2 rfl)) e0 (g := (mkF m 0 #[iv x0, lv x1, .second, iv x2, lv x3, .second, iv x4, .unset, .unset, .unset, .unset, .unset, .unset, .unset, .unset, .unset, .unset, .unset, .unset, .unset] [])) rfl (hb hby at_0) (by decide) (by decide)
  obtain ⟨b1, g1⟩ : ∃ z, z = h0.size := ⟨_, rfl⟩
  rw [← g1] at A1 D1 st1
  have ge_b1 : n0 ≤ b1 := Nat.le_trans Z0 (Nat.le_of_eq g1.symm)
  have Z1_ : n0 ≤ h1.size := Nat.le_trans Z0 E1.1
  have F1_loopSteps : Fld Z h1 b1 "com/example/wardflow/wardflow/analysis/CheckLimits" "loopSteps" "J" (.long 0) := D1 (Or.inl (hw _ (im 15 rfl))) (ty := .long) (by decide)
  obtain ⟨_, _, ⟨T2, L2, k2, n2⟩, -, X2, ⟨Lc2, hQ2, l2, y2, z2⟩, st2⟩ := X1.specialBack hx (y := (⟨"com/example/wardflow/wardflow/analysis/CheckLimits", "<init>", "()V"⟩ : MethodName)) rfl hown (mvT hZ (hw _ (im 3 rfl))) (mvT hZ (hw _ (im 4 rfl))) (mvT hZ (hw _ (im 5 rfl))) (by decide) (backOf (W := 1) (rm1 l Z a0 hw [] b1 h1 n0 Z1_ ) hZ (hw _ (im 5 rfl)) (hw _ (im 2 rfl)) (by decide) (by decide)) (g := (mkF m 4 #[iv x0, lv x1, .second, iv x2, lv x3, .second, iv x4, .unset, .unset, .unset, .unset, .unset, .unset, .unset, .unset, .unset, .unset, .unset, .unset, .unset] [(.ref b1), (.ref b1)])) rfl (by rw [hml]; rfl) (Steps.refl _) (a := b1) (argsL := []) (rest := [(.ref b1)]) (lenOf pd_0 rfl) rfl (by show 2 * 0 + _ ≤ _; exact Nat.le_of_eq rfl) (hb hby at_4) (fun _ _ => ⟨rfl, e1, (by decide : 1 + 0 ≤ _), (by decide : 3 + 0 ≤ _)⟩)
  dsimp only [Pt.U, Pt.locs, Pt.cells, Pt.slots] at X2 l2 y2 z2 st2 hQ2
  subst l2 y2 z2
  obtain ⟨rfl, N2q, e2⟩ := hQ2
  have N2 := Fr.app N0 N2q
  obtain ⟨cq3, kq3, q3a, q3b, q3c⟩ := isOf hZ e2 A1
  obtain ⟨_, _, ⟨T3, L3, k3, n3⟩, -, X3, ⟨Lc3, hQ3, l3, y3, z3⟩, st3⟩ := X2.virtualBack hx (y := (⟨"com/example/wardflow/wardflow/analysis/CheckLimits", "loopSteps", "()J"⟩ : MethodName)) (z := (⟨"com/example/wardflow/wardflow/analysis/CheckLimits", "loopSteps", "()J"⟩ : MethodName)) hown (mvT hZ (hw _ (im 9 rfl))) (mvT hZ (hw _ (im 10 rfl))) (notFace_of_selects (args := #[]) (mvT hZ (hw _ (im 12 rfl)))) (mvT hZ (hw _ (im 12 rfl))) (mvT hZ (hw _ (im 11 rfl))) (by decide) (backOf (W := 0) (rm3 l Z a0 hw [] b1 (0 : Int64) h1 n0 Z1_ F1_loopSteps) hZ (hw _ (im 13 rfl)) (hw _ (im 2 rfl)) (by decide) (by decide)) q3a q3c (g := (mkF m 11 #[iv x0, lv x1, .second, iv x2, lv x3, .second, iv x4, rv b1, .unset, .unset, .unset, .unset, .unset, .unset, .unset, .unset, .unset, .unset, .unset, .unset] [(.ref b1)])) rfl (by rw [hml]; rfl) (Steps.refl _) (argsL := []) (rest := []) (lenOf pd_1 rfl) rfl (by show 2 * 0 + _ ≤ _; exact Nat.le_of_eq rfl) (hb hby at_11) (fun _ _ => ⟨rfl, e2, (by decide : 1 + 0 ≤ _), (by decide : 3 + 0 ≤ _)⟩)
  dsimp only [Pt.U, Pt.locs, Pt.cells, Pt.slots] at X3 l3 y3 z3 st3 hQ3
  subst l3 y3 z3
  obtain ⟨rfl, N3q, e3⟩ := hQ3
  have N3 := Fr.app N2 N3q
  have P6 := own_go P0 (S' := T3.setTop (mkF m 25 #[iv x0, lv x1, .second, iv x2, lv x3, .second, iv x4, rv b1, .unset, .unset, .unset, .unset, .unset, .unset, .unset, .unset, .unset, .unset, .unset, .unset] [(.int (x4 &&& (1 : Int32)))])) (by
    intro t k
    refine st1 _ ?_
    refine XS.dup X1.here hx rfl (hb hby at_3) rfl rfl ?_
    refine st2.trans ?_
    refine XS.astore X2.here hx rfl (hb hby at_7) rfl rfl (l' := #[iv x0, lv x1, .second, iv x2, lv x3, .second, iv x4, rv b1, .unset, .unset, .unset, .unset, .unset, .unset, .unset, .unset, .unset, .unset, .unset, .unset]) rfl ?_
    refine XS.aload X2.here hx rfl (hb hby at_9) rfl rfl ?_
    refine st3.trans ?_
    refine XS.lconst X3.here hx rfl (hb hby at_14) ?_
    refine XS.lcmp X3.here hx rfl (hb hby at_15) rfl ?_
    show Steps p.tables e below (T3.setTop (mkF m 16 #[iv x0, lv x1, .second, iv x2, lv x3, .second, iv x4, rv b1, .unset, .unset, .unset, .unset, .unset, .unset, .unset, .unset, .unset, .unset, .unset, .unset] [(.int 0)])) _
    refine XS.ifYes X3.here hx rfl (pc0 := 16) (pc' := 21) rfl (hb hby at_16) rfl ((if0 _ _).trans (teq (by decide)).1) (by decide) (by decide) ?_
    refine XS.iload X3.here hx rfl (hb hby at_21) rfl ?_
    refine XS.iconst X3.here hx rfl (hb hby at_23) ?_
    refine XS.iand X3.here hx rfl (hb hby at_24) rfl ?_
    exact k)
  by_cases hc25_5 : (x4 &&& (1 : Int32)) = (0 : Int32)
  · obtain ⟨cq7, kq7, q7a, q7b, q7c⟩ := isOf hZ e3 A1
    obtain ⟨_, _, ⟨T7, L7, k7, n7⟩, -, X7, ⟨Lc7, hQ7, l7, y7, z7⟩, st7⟩ := X3.virtualBack hx (y := (⟨"com/example/wardflow/wardflow/analysis/CheckLimits", "carry", "(IJ)Z"⟩ : MethodName)) (z := (⟨"com/example/wardflow/wardflow/analysis/CheckLimits", "carry", "(IJ)Z"⟩ : MethodName)) hown (mvT hZ (hw _ (im 18 rfl))) (mvT hZ (hw _ (im 19 rfl))) (notFace_of_selects (args := #[]) (mvT hZ (hw _ (im 21 rfl)))) (mvT hZ (hw _ (im 21 rfl))) (mvT hZ (hw _ (im 20 rfl))) (by decide) (backOf (W := 0) (rm4 l Z a0 hw [] b1 (x0 &&& (65535 : Int32)) (((29999950 : Int64) - ((x0 &&& (65535 : Int32)).toInt64)) + (((((x4.toUInt32 >>> ((1 : Int32) &&& 31).toUInt32).toInt32) &&& (3 : Int32)) - (1 : Int32)).toInt64)) (0 : Int64) h1 n0 Z1_ A1 F1_loopSteps ge_b1) hZ (hw _ (im 22 rfl)) (hw _ (im 2 rfl)) (by decide) (by decide)) q7a q7c (g := (mkF m 79 #[iv x0, lv x1, .second, iv x2, lv x3, .second, iv x4, rv b1, iv (x0 &&& (65535 : Int32)), lv (((29999950 : Int64) - ((x0 &&& (65535 : Int32)).toInt64)) + (((((x4.toUInt32 >>> ((1 : Int32) &&& 31).toUInt32).toInt32) &&& (3 : Int32)) - (1 : Int32)).toInt64)), .second, iv ((((x4.toUInt32 >>> ((1 : Int32) &&& 31).toUInt32).toInt32) &&& (3 : Int32)) - (1 : Int32)), .unset, .unset, .unset, .unset, .unset, .unset, .unset, .unset] [(.long (((29999950 : Int64) - ((x0 &&& (65535 : Int32)).toInt64)) + (((((x4.toUInt32 >>> ((1 : Int32) &&& 31).toUInt32).toInt32) &&& (3 : Int32)) - (1 : Int32)).toInt64))), (.int (x0 &&& (65535 : Int32))), (.ref b1)])) rfl (by rw [hml]; rfl) (Steps.refl _) (argsL := [(.int (x0 &&& (65535 : Int32))), (.long (((29999950 : Int64) - ((x0 &&& (65535 : Int32)).toInt64)) + (((((x4.toUInt32 >>> ((1 : Int32) &&& 31).toUInt32).toInt32) &&& (3 : Int32)) - (1 : Int32)).toInt64)))]) (rest := []) (lenOf pd_2 rfl) rfl (by show 2 * 0 + _ ≤ _; exact Nat.le_of_eq rfl) (hb hby at_79) (fun _ _ => ⟨rfl, e3, (by decide : 1 + 0 ≤ _), (by decide : 3 + 0 ≤ _)⟩)
    dsimp only [Pt.U, Pt.locs, Pt.cells, Pt.slots] at X7 l7 y7 z7 st7 hQ7
    subst l7 y7 z7
    obtain ⟨rfl, N7q, K7, r7_0, r7_1⟩ := hQ7
    have N7 := Fr.app N3 N7q
    have Z7_ : n0 ≤ T7.heap.size := Nat.le_trans Z1_ K7.1
    have P8 := own_go P6 (S' := T7.setTop (mkF m 84 #[iv x0, lv x1, .second, iv x2, lv x3, .second, iv x4, rv b1, iv (x0 &&& (65535 : Int32)), lv (((29999950 : Int64) - ((x0 &&& (65535 : Int32)).toInt64)) + (((((x4.toUInt32 >>> ((1 : Int32) &&& 31).toUInt32).toInt32) &&& (3 : Int32)) - (1 : Int32)).toInt64)), .second, iv (if (¬ ((30000000 : Int64) < ((0 : Int64) + ((((50 : Int32) + (x0 &&& (65535 : Int32))).toInt64) + (((29999950 : Int64) - ((x0 &&& (65535 : Int32)).toInt64)) + (((((x4.toUInt32 >>> ((1 : Int32) &&& 31).toUInt32).toInt32) &&& (3 : Int32)) - (1 : Int32)).toInt64)))))) then (1 : Int32) else (0 : Int32)), .unset, .unset, .unset, .unset, .unset, .unset, .unset, .unset] [])) (by
      intro t k
      refine XS.ifYes X3.here hx rfl (pc0 := 25) (pc' := 44) rfl (hb hby at_25) rfl ((if0 _ _).trans (teq hc25_5).1) (by decide) (by decide) ?_
      refine XS.iload X3.here hx rfl (hb hby at_44) rfl ?_
      refine XS.iconst X3.here hx rfl (hb hby at_46) ?_
      refine XS.iushr X3.here hx rfl (hb hby at_47) rfl ?_
      refine XS.iconst X3.here hx rfl (hb hby at_48) ?_
      refine XS.iand X3.here hx rfl (hb hby at_49) rfl ?_
      refine XS.iconst X3.here hx rfl (hb hby at_50) ?_
      refine XS.isub X3.here hx rfl (hb hby at_51) rfl ?_
      show Steps p.tables e below (T3.setTop (mkF m 52 #[iv x0, lv x1, .second, iv x2, lv x3, .second, iv x4, rv b1, .unset, .unset, .unset, .unset, .unset, .unset, .unset, .unset, .unset, .unset, .unset, .unset] [(.int ((((x4.toUInt32 >>> ((1 : Int32) &&& 31).toUInt32).toInt32) &&& (3 : Int32)) - (1 : Int32)))])) _
      refine XS.istore X3.here hx rfl (hb hby at_52) rfl (l' := #[iv x0, lv x1, .second, iv x2, lv x3, .second, iv x4, rv b1, .unset, .unset, .unset, iv ((((x4.toUInt32 >>> ((1 : Int32) &&& 31).toUInt32).toInt32) &&& (3 : Int32)) - (1 : Int32)), .unset, .unset, .unset, .unset, .unset, .unset, .unset, .unset]) rfl ?_
      refine XS.iloadN X3.here hx rfl (hb hby at_54) rfl ?_
      refine X3.ldcInt hx hown (mvT hZ (hw _ (im 16 rfl))) (g := (mkF m 55 #[iv x0, lv x1, .second, iv x2, lv x3, .second, iv x4, rv b1, .unset, .unset, .unset, iv ((((x4.toUInt32 >>> ((1 : Int32) &&& 31).toUInt32).toInt32) &&& (3 : Int32)) - (1 : Int32)), .unset, .unset, .unset, .unset, .unset, .unset, .unset, .unset] [(.int x0)])) rfl (hb hby at_55) _ ?_
      refine XS.iand X3.here hx rfl (hb hby at_57) rfl ?_
      refine XS.istore X3.here hx rfl (hb hby at_58) rfl (l' := #[iv x0, lv x1, .second, iv x2, lv x3, .second, iv x4, rv b1, iv (x0 &&& (65535 : Int32)), .unset, .unset, iv ((((x4.toUInt32 >>> ((1 : Int32) &&& 31).toUInt32).toInt32) &&& (3 : Int32)) - (1 : Int32)), .unset, .unset, .unset, .unset, .unset, .unset, .unset, .unset]) rfl ?_
      refine X3.ldc2Long hx hown (mvT hZ (hw _ (im 17 rfl))) (g := (mkF m 60 #[iv x0, lv x1, .second, iv x2, lv x3, .second, iv x4, rv b1, iv (x0 &&& (65535 : Int32)), .unset, .unset, iv ((((x4.toUInt32 >>> ((1 : Int32) &&& 31).toUInt32).toInt32) &&& (3 : Int32)) - (1 : Int32)), .unset, .unset, .unset, .unset, .unset, .unset, .unset, .unset] [])) rfl (hb hby at_60) _ ?_
      refine XS.iload X3.here hx rfl (hb hby at_63) rfl ?_
      refine XS.i2l X3.here hx rfl (hb hby at_65) rfl ?_
      show Steps p.tables e below (T3.setTop (mkF m 66 #[iv x0, lv x1, .second, iv x2, lv x3, .second, iv x4, rv b1, iv (x0 &&& (65535 : Int32)), .unset, .unset, iv ((((x4.toUInt32 >>> ((1 : Int32) &&& 31).toUInt32).toInt32) &&& (3 : Int32)) - (1 : Int32)), .unset, .unset, .unset, .unset, .unset, .unset, .unset, .unset] [(.long ((x0 &&& (65535 : Int32)).toInt64)), (.long 29999950)])) _
      refine XS.lsub X3.here hx rfl (hb hby at_66) rfl ?_
      refine XS.iload X3.here hx rfl (hb hby at_67) rfl ?_
      refine XS.i2l X3.here hx rfl (hb hby at_69) rfl ?_
      refine XS.ladd X3.here hx rfl (hb hby at_70) rfl ?_
      refine XS.lstore X3.here hx rfl (hb hby at_71) rfl (l' := #[iv x0, lv x1, .second, iv x2, lv x3, .second, iv x4, rv b1, iv (x0 &&& (65535 : Int32)), lv (((29999950 : Int64) - ((x0 &&& (65535 : Int32)).toInt64)) + (((((x4.toUInt32 >>> ((1 : Int32) &&& 31).toUInt32).toInt32) &&& (3 : Int32)) - (1 : Int32)).toInt64)), .second, iv ((((x4.toUInt32 >>> ((1 : Int32) &&& 31).toUInt32).toInt32) &&& (3 : Int32)) - (1 : Int32)), .unset, .unset, .unset, .unset, .unset, .unset, .unset, .unset]) rfl ?_
      refine XS.aload X3.here hx rfl (hb hby at_73) rfl rfl ?_
      refine XS.iload X3.here hx rfl (hb hby at_75) rfl ?_
      refine XS.lload X3.here hx rfl (hb hby at_77) rfl ?_
      show Steps p.tables e below (T3.setTop (mkF m 79 #[iv x0, lv x1, .second, iv x2, lv x3, .second, iv x4, rv b1, iv (x0 &&& (65535 : Int32)), lv (((29999950 : Int64) - ((x0 &&& (65535 : Int32)).toInt64)) + (((((x4.toUInt32 >>> ((1 : Int32) &&& 31).toUInt32).toInt32) &&& (3 : Int32)) - (1 : Int32)).toInt64)), .second, iv ((((x4.toUInt32 >>> ((1 : Int32) &&& 31).toUInt32).toInt32) &&& (3 : Int32)) - (1 : Int32)), .unset, .unset, .unset, .unset, .unset, .unset, .unset, .unset] [(.long (((29999950 : Int64) - ((x0 &&& (65535 : Int32)).toInt64)) + (((((x4.toUInt32 >>> ((1 : Int32) &&& 31).toUInt32).toInt32) &&& (3 : Int32)) - (1 : Int32)).toInt64))), (.int (x0 &&& (65535 : Int32))), (.ref b1)])) _
      refine st7.trans ?_
      refine XS.istore X7.here hx rfl (hb hby at_82) rfl (l' := #[iv x0, lv x1, .second, iv x2, lv x3, .second, iv x4, rv b1, iv (x0 &&& (65535 : Int32)), lv (((29999950 : Int64) - ((x0 &&& (65535 : Int32)).toInt64)) + (((((x4.toUInt32 >>> ((1 : Int32) &&& 31).toUInt32).toInt32) &&& (3 : Int32)) - (1 : Int32)).toInt64)), .second, iv (if (¬ ((30000000 : Int64) < ((0 : Int64) + ((((50 : Int32) + (x0 &&& (65535 : Int32))).toInt64) + (((29999950 : Int64) - ((x0 &&& (65535 : Int32)).toInt64)) + (((((x4.toUInt32 >>> ((1 : Int32) &&& 31).toUInt32).toInt32) &&& (3 : Int32)) - (1 : Int32)).toInt64)))))) then (1 : Int32) else (0 : Int32)), .unset, .unset, .unset, .unset, .unset, .unset, .unset, .unset]) rfl ?_
      exact k)
    obtain ⟨cq9, kq9, q9a, q9b, q9c⟩ := isOf hZ rfl r7_0
    obtain ⟨_, _, ⟨T9, L9, k9, n9⟩, -, X9, ⟨Lc9, hQ9, l9, y9, z9⟩, st9⟩ := X7.virtualBack hx (y := (⟨"com/example/wardflow/wardflow/analysis/CheckLimits", "loopSteps", "()J"⟩ : MethodName)) (z := (⟨"com/example/wardflow/wardflow/analysis/CheckLimits", "loopSteps", "()J"⟩ : MethodName)) hown (mvT hZ (hw _ (im 9 rfl))) (mvT hZ (hw _ (im 10 rfl))) (notFace_of_selects (args := #[]) (mvT hZ (hw _ (im 12 rfl)))) (mvT hZ (hw _ (im 12 rfl))) (mvT hZ (hw _ (im 11 rfl))) (by decide) (backOf (W := 0) (rm3 l Z a0 hw [] b1 ((0 : Int64) + ((((50 : Int32) + (x0 &&& (65535 : Int32))).toInt64) + (((29999950 : Int64) - ((x0 &&& (65535 : Int32)).toInt64)) + (((((x4.toUInt32 >>> ((1 : Int32) &&& 31).toUInt32).toInt32) &&& (3 : Int32)) - (1 : Int32)).toInt64)))) T7.heap n0 Z7_ r7_1) hZ (hw _ (im 13 rfl)) (hw _ (im 2 rfl)) (by decide) (by decide)) q9a q9c (g := (mkF m 98 #[iv x0, lv x1, .second, iv x2, lv x3, .second, iv x4, rv b1, iv (x0 &&& (65535 : Int32)), lv (((29999950 : Int64) - ((x0 &&& (65535 : Int32)).toInt64)) + (((((x4.toUInt32 >>> ((1 : Int32) &&& 31).toUInt32).toInt32) &&& (3 : Int32)) - (1 : Int32)).toInt64)), .second, iv (if (¬ ((30000000 : Int64) < ((0 : Int64) + ((((50 : Int32) + (x0 &&& (65535 : Int32))).toInt64) + (((29999950 : Int64) - ((x0 &&& (65535 : Int32)).toInt64)) + (((((x4.toUInt32 >>> ((1 : Int32) &&& 31).toUInt32).toInt32) &&& (3 : Int32)) - (1 : Int32)).toInt64)))))) then (1 : Int32) else (0 : Int32)), lv (((50 : Int64) + ((x0 &&& (65535 : Int32)).toInt64)) + (((29999950 : Int64) - ((x0 &&& (65535 : Int32)).toInt64)) + (((((x4.toUInt32 >>> ((1 : Int32) &&& 31).toUInt32).toInt32) &&& (3 : Int32)) - (1 : Int32)).toInt64))), .second, .unset, .unset, .unset, .unset, .unset, .unset] [(.ref b1)])) rfl (by rw [hml]; rfl) (Steps.refl _) (argsL := []) (rest := []) (lenOf pd_1 rfl) rfl (by show 2 * 0 + _ ≤ _; exact Nat.le_of_eq rfl) (hb hby at_98) (fun _ _ => ⟨rfl, rfl, (by decide : 1 + 0 ≤ _), (by decide : 3 + 0 ≤ _)⟩)
    dsimp only [Pt.U, Pt.locs, Pt.cells, Pt.slots] at X9 l9 y9 z9 st9 hQ9
    subst l9 y9 z9
    obtain ⟨rfl, N9q, e9⟩ := hQ9
    have N9 := Fr.app N7 N9q
    have hc104_10 : ((0 : Int64) + ((((50 : Int32) + (x0 &&& (65535 : Int32))).toInt64) + (((29999950 : Int64) - ((x0 &&& (65535 : Int32)).toInt64)) + (((((x4.toUInt32 >>> ((1 : Int32) &&& 31).toUInt32).toInt32) &&& (3 : Int32)) - (1 : Int32)).toInt64)))) = (((50 : Int64) + ((x0 &&& (65535 : Int32)).toInt64)) + (((29999950 : Int64) - ((x0 &&& (65535 : Int32)).toInt64)) + (((((x4.toUInt32 >>> ((1 : Int32) &&& 31).toUInt32).toInt32) &&& (3 : Int32)) - (1 : Int32)).toInt64))) := own_t1 _ _ (own_m16 x0)
    have P13 := own_go P8 (S' := T9.setTop (mkF m 117 #[iv x0, lv x1, .second, iv x2, lv x3, .second, iv x4, rv b1, iv (x0 &&& (65535 : Int32)), lv (((29999950 : Int64) - ((x0 &&& (65535 : Int32)).toInt64)) + (((((x4.toUInt32 >>> ((1 : Int32) &&& 31).toUInt32).toInt32) &&& (3 : Int32)) - (1 : Int32)).toInt64)), .second, iv (if (¬ ((30000000 : Int64) < ((0 : Int64) + ((((50 : Int32) + (x0 &&& (65535 : Int32))).toInt64) + (((29999950 : Int64) - ((x0 &&& (65535 : Int32)).toInt64)) + (((((x4.toUInt32 >>> ((1 : Int32) &&& 31).toUInt32).toInt32) &&& (3 : Int32)) - (1 : Int32)).toInt64)))))) then (1 : Int32) else (0 : Int32)), lv (((50 : Int64) + ((x0 &&& (65535 : Int32)).toInt64)) + (((29999950 : Int64) - ((x0 &&& (65535 : Int32)).toInt64)) + (((((x4.toUInt32 >>> ((1 : Int32) &&& 31).toUInt32).toInt32) &&& (3 : Int32)) - (1 : Int32)).toInt64))), .second, .unset, .unset, .unset, .unset, .unset, .unset] [(.int (lcmpW (((50 : Int64) + ((x0 &&& (65535 : Int32)).toInt64)) + (((29999950 : Int64) - ((x0 &&& (65535 : Int32)).toInt64)) + (((((x4.toUInt32 >>> ((1 : Int32) &&& 31).toUInt32).toInt32) &&& (3 : Int32)) - (1 : Int32)).toInt64))) (30000000 : Int64))), (.int (if (¬ ((30000000 : Int64) < ((0 : Int64) + ((((50 : Int32) + (x0 &&& (65535 : Int32))).toInt64) + (((29999950 : Int64) - ((x0 &&& (65535 : Int32)).toInt64)) + (((((x4.toUInt32 >>> ((1 : Int32) &&& 31).toUInt32).toInt32) &&& (3 : Int32)) - (1 : Int32)).toInt64)))))) then (1 : Int32) else (0 : Int32)))])) (by
      intro t k
      refine X7.ldc2Long hx hown (mvT hZ (hw _ (im 24 rfl))) (g := (mkF m 84 #[iv x0, lv x1, .second, iv x2, lv x3, .second, iv x4, rv b1, iv (x0 &&& (65535 : Int32)), lv (((29999950 : Int64) - ((x0 &&& (65535 : Int32)).toInt64)) + (((((x4.toUInt32 >>> ((1 : Int32) &&& 31).toUInt32).toInt32) &&& (3 : Int32)) - (1 : Int32)).toInt64)), .second, iv (if (¬ ((30000000 : Int64) < ((0 : Int64) + ((((50 : Int32) + (x0 &&& (65535 : Int32))).toInt64) + (((29999950 : Int64) - ((x0 &&& (65535 : Int32)).toInt64)) + (((((x4.toUInt32 >>> ((1 : Int32) &&& 31).toUInt32).toInt32) &&& (3 : Int32)) - (1 : Int32)).toInt64)))))) then (1 : Int32) else (0 : Int32)), .unset, .unset, .unset, .unset, .unset, .unset, .unset, .unset] [])) rfl (hb hby at_84) _ ?_
      refine XS.iload X7.here hx rfl (hb hby at_87) rfl ?_
      refine XS.i2l X7.here hx rfl (hb hby at_89) rfl ?_
      refine XS.ladd X7.here hx rfl (hb hby at_90) rfl ?_
      refine XS.lload X7.here hx rfl (hb hby at_91) rfl ?_
      refine XS.ladd X7.here hx rfl (hb hby at_93) rfl ?_
      refine XS.lstore X7.here hx rfl (hb hby at_94) rfl (l' := #[iv x0, lv x1, .second, iv x2, lv x3, .second, iv x4, rv b1, iv (x0 &&& (65535 : Int32)), lv (((29999950 : Int64) - ((x0 &&& (65535 : Int32)).toInt64)) + (((((x4.toUInt32 >>> ((1 : Int32) &&& 31).toUInt32).toInt32) &&& (3 : Int32)) - (1 : Int32)).toInt64)), .second, iv (if (¬ ((30000000 : Int64) < ((0 : Int64) + ((((50 : Int32) + (x0 &&& (65535 : Int32))).toInt64) + (((29999950 : Int64) - ((x0 &&& (65535 : Int32)).toInt64)) + (((((x4.toUInt32 >>> ((1 : Int32) &&& 31).toUInt32).toInt32) &&& (3 : Int32)) - (1 : Int32)).toInt64)))))) then (1 : Int32) else (0 : Int32)), lv (((50 : Int64) + ((x0 &&& (65535 : Int32)).toInt64)) + (((29999950 : Int64) - ((x0 &&& (65535 : Int32)).toInt64)) + (((((x4.toUInt32 >>> ((1 : Int32) &&& 31).toUInt32).toInt32) &&& (3 : Int32)) - (1 : Int32)).toInt64))), .second, .unset, .unset, .unset, .unset, .unset, .unset]) rfl ?_
      refine XS.aload X7.here hx rfl (hb hby at_96) rfl rfl ?_
      show Steps p.tables e below (T7.setTop (mkF m 98 #[iv x0, lv x1, .second, iv x2, lv x3, .second, iv x4, rv b1, iv (x0 &&& (65535 : Int32)), lv (((29999950 : Int64) - ((x0 &&& (65535 : Int32)).toInt64)) + (((((x4.toUInt32 >>> ((1 : Int32) &&& 31).toUInt32).toInt32) &&& (3 : Int32)) - (1 : Int32)).toInt64)), .second, iv (if (¬ ((30000000 : Int64) < ((0 : Int64) + ((((50 : Int32) + (x0 &&& (65535 : Int32))).toInt64) + (((29999950 : Int64) - ((x0 &&& (65535 : Int32)).toInt64)) + (((((x4.toUInt32 >>> ((1 : Int32) &&& 31).toUInt32).toInt32) &&& (3 : Int32)) - (1 : Int32)).toInt64)))))) then (1 : Int32) else (0 : Int32)), lv (((50 : Int64) + ((x0 &&& (65535 : Int32)).toInt64)) + (((29999950 : Int64) - ((x0 &&& (65535 : Int32)).toInt64)) + (((((x4.toUInt32 >>> ((1 : Int32) &&& 31).toUInt32).toInt32) &&& (3 : Int32)) - (1 : Int32)).toInt64))), .second, .unset, .unset, .unset, .unset, .unset, .unset] [(.ref b1)])) _
      refine st9.trans ?_
      refine XS.lload X9.here hx rfl (hb hby at_101) rfl ?_
      refine XS.lcmp X9.here hx rfl (hb hby at_103) rfl ?_
      refine XS.ifYes X9.here hx rfl (pc0 := 104) (pc' := 109) rfl (hb hby at_104) rfl ((if0 _ _).trans (teq ((lw_eq ((0 : Int64) + ((((50 : Int32) + (x0 &&& (65535 : Int32))).toInt64) + (((29999950 : Int64) - ((x0 &&& (65535 : Int32)).toInt64)) + (((((x4.toUInt32 >>> ((1 : Int32) &&& 31).toUInt32).toInt32) &&& (3 : Int32)) - (1 : Int32)).toInt64)))) (((50 : Int64) + ((x0 &&& (65535 : Int32)).toInt64)) + (((29999950 : Int64) - ((x0 &&& (65535 : Int32)).toInt64)) + (((((x4.toUInt32 >>> ((1 : Int32) &&& 31).toUInt32).toInt32) &&& (3 : Int32)) - (1 : Int32)).toInt64)))).mpr hc104_10)).1) (by decide) (by decide) ?_
      refine XS.iload X9.here hx rfl (hb hby at_109) rfl ?_
      refine XS.lload X9.here hx rfl (hb hby at_111) rfl ?_
      refine X9.ldc2Long hx hown (mvT hZ (hw _ (im 25 rfl))) (g := (mkF m 113 #[iv x0, lv x1, .second, iv x2, lv x3, .second, iv x4, rv b1, iv (x0 &&& (65535 : Int32)), lv (((29999950 : Int64) - ((x0 &&& (65535 : Int32)).toInt64)) + (((((x4.toUInt32 >>> ((1 : Int32) &&& 31).toUInt32).toInt32) &&& (3 : Int32)) - (1 : Int32)).toInt64)), .second, iv (if (¬ ((30000000 : Int64) < ((0 : Int64) + ((((50 : Int32) + (x0 &&& (65535 : Int32))).toInt64) + (((29999950 : Int64) - ((x0 &&& (65535 : Int32)).toInt64)) + (((((x4.toUInt32 >>> ((1 : Int32) &&& 31).toUInt32).toInt32) &&& (3 : Int32)) - (1 : Int32)).toInt64)))))) then (1 : Int32) else (0 : Int32)), lv (((50 : Int64) + ((x0 &&& (65535 : Int32)).toInt64)) + (((29999950 : Int64) - ((x0 &&& (65535 : Int32)).toInt64)) + (((((x4.toUInt32 >>> ((1 : Int32) &&& 31).toUInt32).toInt32) &&& (3 : Int32)) - (1 : Int32)).toInt64))), .second, .unset, .unset, .unset, .unset, .unset, .unset] [(.long (((50 : Int64) + ((x0 &&& (65535 : Int32)).toInt64)) + (((29999950 : Int64) - ((x0 &&& (65535 : Int32)).toInt64)) + (((((x4.toUInt32 >>> ((1 : Int32) &&& 31).toUInt32).toInt32) &&& (3 : Int32)) - (1 : Int32)).toInt64)))), (.int (if (¬ ((30000000 : Int64) < ((0 : Int64) + ((((50 : Int32) + (x0 &&& (65535 : Int32))).toInt64) + (((29999950 : Int64) - ((x0 &&& (65535 : Int32)).toInt64)) + (((((x4.toUInt32 >>> ((1 : Int32) &&& 31).toUInt32).toInt32) &&& (3 : Int32)) - (1 : Int32)).toInt64)))))) then (1 : Int32) else (0 : Int32)))])) rfl (hb hby at_113) _ ?_
      refine XS.lcmp X9.here hx rfl (hb hby at_116) rfl ?_
      show Steps p.tables e below (T9.setTop (mkF m 117 #[iv x0, lv x1, .second, iv x2, lv x3, .second, iv x4, rv b1, iv (x0 &&& (65535 : Int32)), lv (((29999950 : Int64) - ((x0 &&& (65535 : Int32)).toInt64)) + (((((x4.toUInt32 >>> ((1 : Int32) &&& 31).toUInt32).toInt32) &&& (3 : Int32)) - (1 : Int32)).toInt64)), .second, iv (if (¬ ((30000000 : Int64) < ((0 : Int64) + ((((50 : Int32) + (x0 &&& (65535 : Int32))).toInt64) + (((29999950 : Int64) - ((x0 &&& (65535 : Int32)).toInt64)) + (((((x4.toUInt32 >>> ((1 : Int32) &&& 31).toUInt32).toInt32) &&& (3 : Int32)) - (1 : Int32)).toInt64)))))) then (1 : Int32) else (0 : Int32)), lv (((50 : Int64) + ((x0 &&& (65535 : Int32)).toInt64)) + (((29999950 : Int64) - ((x0 &&& (65535 : Int32)).toInt64)) + (((((x4.toUInt32 >>> ((1 : Int32) &&& 31).toUInt32).toInt32) &&& (3 : Int32)) - (1 : Int32)).toInt64))), .second, .unset, .unset, .unset, .unset, .unset, .unset] [(.int (lcmpW (((50 : Int64) + ((x0 &&& (65535 : Int32)).toInt64)) + (((29999950 : Int64) - ((x0 &&& (65535 : Int32)).toInt64)) + (((((x4.toUInt32 >>> ((1 : Int32) &&& 31).toUInt32).toInt32) &&& (3 : Int32)) - (1 : Int32)).toInt64))) (30000000 : Int64))), (.int (if (¬ ((30000000 : Int64) < ((0 : Int64) + ((((50 : Int32) + (x0 &&& (65535 : Int32))).toInt64) + (((29999950 : Int64) - ((x0 &&& (65535 : Int32)).toInt64)) + (((((x4.toUInt32 >>> ((1 : Int32) &&& 31).toUInt32).toInt32) &&& (3 : Int32)) - (1 : Int32)).toInt64)))))) then (1 : Int32) else (0 : Int32)))])) _
      exact k)
    obtain ⟨v12_0, hv12_0⟩ : ∃ z : Int32, z = (if (30000000 : Int64) < (((50 : Int64) + ((x0 &&& (65535 : Int32)).toInt64)) + (((29999950 : Int64) - ((x0 &&& (65535 : Int32)).toInt64)) + (((((x4.toUInt32 >>> ((1 : Int32) &&& 31).toUInt32).toInt32) &&& (3 : Int32)) - (1 : Int32)).toInt64))) then (0 : Int32) else (1 : Int32)) := ⟨_, rfl⟩
    have P15 := own_go P13 (S' := T9.setTop (mkF m 125 #[iv x0, lv x1, .second, iv x2, lv x3, .second, iv x4, rv b1, iv (x0 &&& (65535 : Int32)), lv (((29999950 : Int64) - ((x0 &&& (65535 : Int32)).toInt64)) + (((((x4.toUInt32 >>> ((1 : Int32) &&& 31).toUInt32).toInt32) &&& (3 : Int32)) - (1 : Int32)).toInt64)), .second, iv (if (¬ ((30000000 : Int64) < ((0 : Int64) + ((((50 : Int32) + (x0 &&& (65535 : Int32))).toInt64) + (((29999950 : Int64) - ((x0 &&& (65535 : Int32)).toInt64)) + (((((x4.toUInt32 >>> ((1 : Int32) &&& 31).toUInt32).toInt32) &&& (3 : Int32)) - (1 : Int32)).toInt64)))))) then (1 : Int32) else (0 : Int32)), lv (((50 : Int64) + ((x0 &&& (65535 : Int32)).toInt64)) + (((29999950 : Int64) - ((x0 &&& (65535 : Int32)).toInt64)) + (((((x4.toUInt32 >>> ((1 : Int32) &&& 31).toUInt32).toInt32) &&& (3 : Int32)) - (1 : Int32)).toInt64))), .second, .unset, .unset, .unset, .unset, .unset, .unset] [(.int v12_0), (.int (if (¬ ((30000000 : Int64) < ((0 : Int64) + ((((50 : Int32) + (x0 &&& (65535 : Int32))).toInt64) + (((29999950 : Int64) - ((x0 &&& (65535 : Int32)).toInt64)) + (((((x4.toUInt32 >>> ((1 : Int32) &&& 31).toUInt32).toInt32) &&& (3 : Int32)) - (1 : Int32)).toInt64)))))) then (1 : Int32) else (0 : Int32)))])) (by
      intro t k
      by_cases hc117_14 : (30000000 : Int64) < (((50 : Int64) + ((x0 &&& (65535 : Int32)).toInt64)) + (((29999950 : Int64) - ((x0 &&& (65535 : Int32)).toInt64)) + (((((x4.toUInt32 >>> ((1 : Int32) &&& 31).toUInt32).toInt32) &&& (3 : Int32)) - (1 : Int32)).toInt64)))
      · refine XS.ifYes X9.here hx rfl (pc0 := 117) (pc' := 124) rfl (hb hby at_117) rfl ((if0 _ _).trans (tlt ((lw_gt (((50 : Int64) + ((x0 &&& (65535 : Int32)).toInt64)) + (((29999950 : Int64) - ((x0 &&& (65535 : Int32)).toInt64)) + (((((x4.toUInt32 >>> ((1 : Int32) &&& 31).toUInt32).toInt32) &&& (3 : Int32)) - (1 : Int32)).toInt64))) (30000000 : Int64)).mpr hc117_14)).2.2.1) (by decide) (by decide) ?_
        refine XS.iconst X9.here hx rfl (hb hby at_124) ?_
        have q_v12_0 : v12_0 = (0 : Int32) := by rw [hv12_0, if_pos hc117_14]
        subst q_v12_0
        exact k
      · refine XS.ifNo X9.here hx rfl (hb hby at_117) rfl ((if0 _ _).trans (flt (fun q => hc117_14 ((lw_gt (((50 : Int64) + ((x0 &&& (65535 : Int32)).toInt64)) + (((29999950 : Int64) - ((x0 &&& (65535 : Int32)).toInt64)) + (((((x4.toUInt32 >>> ((1 : Int32) &&& 31).toUInt32).toInt32) &&& (3 : Int32)) - (1 : Int32)).toInt64))) (30000000 : Int64)).mp q))).2.2.1) ?_
        refine XS.iconst X9.here hx rfl (hb hby at_120) ?_
        refine XS.goto X9.here hx rfl (pc0 := 121) (pc' := 125) rfl (hb hby at_121) (by decide) (by decide) ?_
        have q_v12_0 : v12_0 = (1 : Int32) := by rw [hv12_0, if_neg hc117_14]
        subst q_v12_0
        exact k)
    have hc125_16 : (if (¬ ((30000000 : Int64) < ((0 : Int64) + ((((50 : Int32) + (x0 &&& (65535 : Int32))).toInt64) + (((29999950 : Int64) - ((x0 &&& (65535 : Int32)).toInt64)) + (((((x4.toUInt32 >>> ((1 : Int32) &&& 31).toUInt32).toInt32) &&& (3 : Int32)) - (1 : Int32)).toInt64)))))) then (1 : Int32) else (0 : Int32)) = v12_0 := own_b _ _ _ hc104_10 hv12_0
    obtain ⟨cq17, kq17, q17a, q17b, q17c⟩ := isOf hZ e9 r7_0
    obtain ⟨_, _, ⟨T17, L17, k17, n17⟩, -, X17, ⟨Lc17, hQ17, l17, y17, z17⟩, st17⟩ := X9.virtualBack hx (y := (⟨"com/example/wardflow/wardflow/analysis/CheckLimits", "carry", "(IJ)Z"⟩ : MethodName)) (z := (⟨"com/example/wardflow/wardflow/analysis/CheckLimits", "carry", "(IJ)Z"⟩ : MethodName)) hown (mvT hZ (hw _ (im 18 rfl))) (mvT hZ (hw _ (im 19 rfl))) (notFace_of_selects (args := #[]) (mvT hZ (hw _ (im 21 rfl)))) (mvT hZ (hw _ (im 21 rfl))) (mvT hZ (hw _ (im 20 rfl))) (by decide) (backOf (W := 0) (rm4 l Z a0 hw [] b1 (x2 &&& (1073741823 : Int32)) (x3 &&& (281474976710655 : Int64)) ((0 : Int64) + ((((50 : Int32) + (x0 &&& (65535 : Int32))).toInt64) + (((29999950 : Int64) - ((x0 &&& (65535 : Int32)).toInt64)) + (((((x4.toUInt32 >>> ((1 : Int32) &&& 31).toUInt32).toInt32) &&& (3 : Int32)) - (1 : Int32)).toInt64)))) T7.heap n0 Z7_ r7_0 r7_1 ge_b1) hZ (hw _ (im 22 rfl)) (hw _ (im 2 rfl)) (by decide) (by decide)) q17a q17c (g := (mkF m 150 #[iv x0, lv x1, .second, iv x2, lv x3, .second, iv x4, rv b1, iv (x0 &&& (65535 : Int32)), lv (((29999950 : Int64) - ((x0 &&& (65535 : Int32)).toInt64)) + (((((x4.toUInt32 >>> ((1 : Int32) &&& 31).toUInt32).toInt32) &&& (3 : Int32)) - (1 : Int32)).toInt64)), .second, iv (if (¬ ((30000000 : Int64) < ((0 : Int64) + ((((50 : Int32) + (x0 &&& (65535 : Int32))).toInt64) + (((29999950 : Int64) - ((x0 &&& (65535 : Int32)).toInt64)) + (((((x4.toUInt32 >>> ((1 : Int32) &&& 31).toUInt32).toInt32) &&& (3 : Int32)) - (1 : Int32)).toInt64)))))) then (1 : Int32) else (0 : Int32)), lv (((50 : Int64) + ((x0 &&& (65535 : Int32)).toInt64)) + (((29999950 : Int64) - ((x0 &&& (65535 : Int32)).toInt64)) + (((((x4.toUInt32 >>> ((1 : Int32) &&& 31).toUInt32).toInt32) &&& (3 : Int32)) - (1 : Int32)).toInt64))), .second, iv (x2 &&& (1073741823 : Int32)), lv (x3 &&& (281474976710655 : Int64)), .second, .unset, .unset, .unset] [(.long (x3 &&& (281474976710655 : Int64))), (.int (x2 &&& (1073741823 : Int32))), (.ref b1)])) rfl (by rw [hml]; rfl) (Steps.refl _) (argsL := [(.int (x2 &&& (1073741823 : Int32))), (.long (x3 &&& (281474976710655 : Int64)))]) (rest := []) (lenOf pd_2 rfl) rfl (by show 2 * 0 + _ ≤ _; exact Nat.le_of_eq rfl) (hb hby at_150) (fun _ _ => ⟨rfl, e9, (by decide : 1 + 0 ≤ _), (by decide : 3 + 0 ≤ _)⟩)
    dsimp only [Pt.U, Pt.locs, Pt.cells, Pt.slots] at X17 l17 y17 z17 st17 hQ17
    subst l17 y17 z17
    obtain ⟨rfl, N17q, K17, r17_0, r17_1⟩ := hQ17
    have N17 := Fr.app N9 N17q
    have Z17_ : n0 ≤ T17.heap.size := Nat.le_trans Z7_ K17.1
    obtain ⟨cq18, kq18, q18a, q18b, q18c⟩ := isOf hZ rfl r17_0
    obtain ⟨_, _, ⟨T18, L18, k18, n18⟩, -, X18, ⟨Lc18, hQ18, l18, y18, z18⟩, st18⟩ := X17.virtualBack hx (y := (⟨"com/example/wardflow/wardflow/analysis/CheckLimits", "loopSteps", "()J"⟩ : MethodName)) (z := (⟨"com/example/wardflow/wardflow/analysis/CheckLimits", "loopSteps", "()J"⟩ : MethodName)) hown (mvT hZ (hw _ (im 9 rfl))) (mvT hZ (hw _ (im 10 rfl))) (notFace_of_selects (args := #[]) (mvT hZ (hw _ (im 12 rfl)))) (mvT hZ (hw _ (im 12 rfl))) (mvT hZ (hw _ (im 11 rfl))) (by decide) (backOf (W := 0) (rm3 l Z a0 hw [] b1 (((0 : Int64) + ((((50 : Int32) + (x0 &&& (65535 : Int32))).toInt64) + (((29999950 : Int64) - ((x0 &&& (65535 : Int32)).toInt64)) + (((((x4.toUInt32 >>> ((1 : Int32) &&& 31).toUInt32).toInt32) &&& (3 : Int32)) - (1 : Int32)).toInt64)))) + ((((50 : Int32) + (x2 &&& (1073741823 : Int32))).toInt64) + (x3 &&& (281474976710655 : Int64)))) T17.heap n0 Z17_ r17_1) hZ (hw _ (im 13 rfl)) (hw _ (im 2 rfl)) (by decide) (by decide)) q18a q18c (g := (mkF m 172 #[iv x0, lv x1, .second, iv x2, lv x3, .second, iv x4, rv b1, iv (x0 &&& (65535 : Int32)), lv (((29999950 : Int64) - ((x0 &&& (65535 : Int32)).toInt64)) + (((((x4.toUInt32 >>> ((1 : Int32) &&& 31).toUInt32).toInt32) &&& (3 : Int32)) - (1 : Int32)).toInt64)), .second, iv (if (¬ ((30000000 : Int64) < ((0 : Int64) + ((((50 : Int32) + (x0 &&& (65535 : Int32))).toInt64) + (((29999950 : Int64) - ((x0 &&& (65535 : Int32)).toInt64)) + (((((x4.toUInt32 >>> ((1 : Int32) &&& 31).toUInt32).toInt32) &&& (3 : Int32)) - (1 : Int32)).toInt64)))))) then (1 : Int32) else (0 : Int32)), lv (((50 : Int64) + ((x0 &&& (65535 : Int32)).toInt64)) + (((29999950 : Int64) - ((x0 &&& (65535 : Int32)).toInt64)) + (((((x4.toUInt32 >>> ((1 : Int32) &&& 31).toUInt32).toInt32) &&& (3 : Int32)) - (1 : Int32)).toInt64))), .second, iv (x2 &&& (1073741823 : Int32)), lv (x3 &&& (281474976710655 : Int64)), .second, iv (if (¬ ((30000000 : Int64) < (((0 : Int64) + ((((50 : Int32) + (x0 &&& (65535 : Int32))).toInt64) + (((29999950 : Int64) - ((x0 &&& (65535 : Int32)).toInt64)) + (((((x4.toUInt32 >>> ((1 : Int32) &&& 31).toUInt32).toInt32) &&& (3 : Int32)) - (1 : Int32)).toInt64)))) + ((((50 : Int32) + (x2 &&& (1073741823 : Int32))).toInt64) + (x3 &&& (281474976710655 : Int64)))))) then (1 : Int32) else (0 : Int32)), lv ((((((50 : Int64) + ((x0 &&& (65535 : Int32)).toInt64)) + (((29999950 : Int64) - ((x0 &&& (65535 : Int32)).toInt64)) + (((((x4.toUInt32 >>> ((1 : Int32) &&& 31).toUInt32).toInt32) &&& (3 : Int32)) - (1 : Int32)).toInt64))) + (50 : Int64)) + ((x2 &&& (1073741823 : Int32)).toInt64)) + (x3 &&& (281474976710655 : Int64))), .second] [(.ref b1)])) rfl (by rw [hml]; rfl) (Steps.refl _) (argsL := []) (rest := []) (lenOf pd_1 rfl) rfl (by show 2 * 0 + _ ≤ _; exact Nat.le_of_eq rfl) (hb hby at_172) (fun _ _ => ⟨rfl, rfl, (by decide : 1 + 0 ≤ _), (by decide : 3 + 0 ≤ _)⟩)
    dsimp only [Pt.U, Pt.locs, Pt.cells, Pt.slots] at X18 l18 y18 z18 st18 hQ18
    subst l18 y18 z18
    obtain ⟨rfl, N18q, e18⟩ := hQ18
    have N18 := Fr.app N17 N18q
    have P19 := own_go P15 (S' := T18.setTop (mkF m 177 #[iv x0, lv x1, .second, iv x2, lv x3, .second, iv x4, rv b1, iv (x0 &&& (65535 : Int32)), lv (((29999950 : Int64) - ((x0 &&& (65535 : Int32)).toInt64)) + (((((x4.toUInt32 >>> ((1 : Int32) &&& 31).toUInt32).toInt32) &&& (3 : Int32)) - (1 : Int32)).toInt64)), .second, iv (if (¬ ((30000000 : Int64) < ((0 : Int64) + ((((50 : Int32) + (x0 &&& (65535 : Int32))).toInt64) + (((29999950 : Int64) - ((x0 &&& (65535 : Int32)).toInt64)) + (((((x4.toUInt32 >>> ((1 : Int32) &&& 31).toUInt32).toInt32) &&& (3 : Int32)) - (1 : Int32)).toInt64)))))) then (1 : Int32) else (0 : Int32)), lv (((50 : Int64) + ((x0 &&& (65535 : Int32)).toInt64)) + (((29999950 : Int64) - ((x0 &&& (65535 : Int32)).toInt64)) + (((((x4.toUInt32 >>> ((1 : Int32) &&& 31).toUInt32).toInt32) &&& (3 : Int32)) - (1 : Int32)).toInt64))), .second, iv (x2 &&& (1073741823 : Int32)), lv (x3 &&& (281474976710655 : Int64)), .second, iv (if (¬ ((30000000 : Int64) < (((0 : Int64) + ((((50 : Int32) + (x0 &&& (65535 : Int32))).toInt64) + (((29999950 : Int64) - ((x0 &&& (65535 : Int32)).toInt64)) + (((((x4.toUInt32 >>> ((1 : Int32) &&& 31).toUInt32).toInt32) &&& (3 : Int32)) - (1 : Int32)).toInt64)))) + ((((50 : Int32) + (x2 &&& (1073741823 : Int32))).toInt64) + (x3 &&& (281474976710655 : Int64)))))) then (1 : Int32) else (0 : Int32)), lv ((((((50 : Int64) + ((x0 &&& (65535 : Int32)).toInt64)) + (((29999950 : Int64) - ((x0 &&& (65535 : Int32)).toInt64)) + (((((x4.toUInt32 >>> ((1 : Int32) &&& 31).toUInt32).toInt32) &&& (3 : Int32)) - (1 : Int32)).toInt64))) + (50 : Int64)) + ((x2 &&& (1073741823 : Int32)).toInt64)) + (x3 &&& (281474976710655 : Int64))), .second] [(.long ((((((50 : Int64) + ((x0 &&& (65535 : Int32)).toInt64)) + (((29999950 : Int64) - ((x0 &&& (65535 : Int32)).toInt64)) + (((((x4.toUInt32 >>> ((1 : Int32) &&& 31).toUInt32).toInt32) &&& (3 : Int32)) - (1 : Int32)).toInt64))) + (50 : Int64)) + ((x2 &&& (1073741823 : Int32)).toInt64)) + (x3 &&& (281474976710655 : Int64)))), (.long (((0 : Int64) + ((((50 : Int32) + (x0 &&& (65535 : Int32))).toInt64) + (((29999950 : Int64) - ((x0 &&& (65535 : Int32)).toInt64)) + (((((x4.toUInt32 >>> ((1 : Int32) &&& 31).toUInt32).toInt32) &&& (3 : Int32)) - (1 : Int32)).toInt64)))) + ((((50 : Int32) + (x2 &&& (1073741823 : Int32))).toInt64) + (x3 &&& (281474976710655 : Int64)))))])) (by
      intro t k
      refine XS.icmpYes X9.here hx rfl (pc0 := 125) (pc' := 130) rfl (hb hby at_125) rfl (teq hc125_16).1 (by decide) (by decide) ?_
      refine XS.iloadN X9.here hx rfl (hb hby at_130) rfl ?_
      refine X9.ldcInt hx hown (mvT hZ (hw _ (im 26 rfl))) (g := (mkF m 131 #[iv x0, lv x1, .second, iv x2, lv x3, .second, iv x4, rv b1, iv (x0 &&& (65535 : Int32)), lv (((29999950 : Int64) - ((x0 &&& (65535 : Int32)).toInt64)) + (((((x4.toUInt32 >>> ((1 : Int32) &&& 31).toUInt32).toInt32) &&& (3 : Int32)) - (1 : Int32)).toInt64)), .second, iv (if (¬ ((30000000 : Int64) < ((0 : Int64) + ((((50 : Int32) + (x0 &&& (65535 : Int32))).toInt64) + (((29999950 : Int64) - ((x0 &&& (65535 : Int32)).toInt64)) + (((((x4.toUInt32 >>> ((1 : Int32) &&& 31).toUInt32).toInt32) &&& (3 : Int32)) - (1 : Int32)).toInt64)))))) then (1 : Int32) else (0 : Int32)), lv (((50 : Int64) + ((x0 &&& (65535 : Int32)).toInt64)) + (((29999950 : Int64) - ((x0 &&& (65535 : Int32)).toInt64)) + (((((x4.toUInt32 >>> ((1 : Int32) &&& 31).toUInt32).toInt32) &&& (3 : Int32)) - (1 : Int32)).toInt64))), .second, .unset, .unset, .unset, .unset, .unset, .unset] [(.int x2)])) rfl (hb hby at_131) _ ?_
      refine XS.iand X9.here hx rfl (hb hby at_133) rfl ?_
      refine XS.istore X9.here hx rfl (hb hby at_134) rfl (l' := #[iv x0, lv x1, .second, iv x2, lv x3, .second, iv x4, rv b1, iv (x0 &&& (65535 : Int32)), lv (((29999950 : Int64) - ((x0 &&& (65535 : Int32)).toInt64)) + (((((x4.toUInt32 >>> ((1 : Int32) &&& 31).toUInt32).toInt32) &&& (3 : Int32)) - (1 : Int32)).toInt64)), .second, iv (if (¬ ((30000000 : Int64) < ((0 : Int64) + ((((50 : Int32) + (x0 &&& (65535 : Int32))).toInt64) + (((29999950 : Int64) - ((x0 &&& (65535 : Int32)).toInt64)) + (((((x4.toUInt32 >>> ((1 : Int32) &&& 31).toUInt32).toInt32) &&& (3 : Int32)) - (1 : Int32)).toInt64)))))) then (1 : Int32) else (0 : Int32)), lv (((50 : Int64) + ((x0 &&& (65535 : Int32)).toInt64)) + (((29999950 : Int64) - ((x0 &&& (65535 : Int32)).toInt64)) + (((((x4.toUInt32 >>> ((1 : Int32) &&& 31).toUInt32).toInt32) &&& (3 : Int32)) - (1 : Int32)).toInt64))), .second, iv (x2 &&& (1073741823 : Int32)), .unset, .unset, .unset, .unset, .unset]) rfl ?_
      refine XS.lload X9.here hx rfl (hb hby at_136) rfl ?_
      refine X9.ldc2Long hx hown (mvT hZ (hw _ (im 27 rfl))) (g := (mkF m 138 #[iv x0, lv x1, .second, iv x2, lv x3, .second, iv x4, rv b1, iv (x0 &&& (65535 : Int32)), lv (((29999950 : Int64) - ((x0 &&& (65535 : Int32)).toInt64)) + (((((x4.toUInt32 >>> ((1 : Int32) &&& 31).toUInt32).toInt32) &&& (3 : Int32)) - (1 : Int32)).toInt64)), .second, iv (if (¬ ((30000000 : Int64) < ((0 : Int64) + ((((50 : Int32) + (x0 &&& (65535 : Int32))).toInt64) + (((29999950 : Int64) - ((x0 &&& (65535 : Int32)).toInt64)) + (((((x4.toUInt32 >>> ((1 : Int32) &&& 31).toUInt32).toInt32) &&& (3 : Int32)) - (1 : Int32)).toInt64)))))) then (1 : Int32) else (0 : Int32)), lv (((50 : Int64) + ((x0 &&& (65535 : Int32)).toInt64)) + (((29999950 : Int64) - ((x0 &&& (65535 : Int32)).toInt64)) + (((((x4.toUInt32 >>> ((1 : Int32) &&& 31).toUInt32).toInt32) &&& (3 : Int32)) - (1 : Int32)).toInt64))), .second, iv (x2 &&& (1073741823 : Int32)), .unset, .unset, .unset, .unset, .unset] [(.long x3)])) rfl (hb hby at_138) _ ?_
      refine XS.land X9.here hx rfl (hb hby at_141) rfl ?_
      show Steps p.tables e below (T9.setTop (mkF m 142 #[iv x0, lv x1, .second, iv x2, lv x3, .second, iv x4, rv b1, iv (x0 &&& (65535 : Int32)), lv (((29999950 : Int64) - ((x0 &&& (65535 : Int32)).toInt64)) + (((((x4.toUInt32 >>> ((1 : Int32) &&& 31).toUInt32).toInt32) &&& (3 : Int32)) - (1 : Int32)).toInt64)), .second, iv (if (¬ ((30000000 : Int64) < ((0 : Int64) + ((((50 : Int32) + (x0 &&& (65535 : Int32))).toInt64) + (((29999950 : Int64) - ((x0 &&& (65535 : Int32)).toInt64)) + (((((x4.toUInt32 >>> ((1 : Int32) &&& 31).toUInt32).toInt32) &&& (3 : Int32)) - (1 : Int32)).toInt64)))))) then (1 : Int32) else (0 : Int32)), lv (((50 : Int64) + ((x0 &&& (65535 : Int32)).toInt64)) + (((29999950 : Int64) - ((x0 &&& (65535 : Int32)).toInt64)) + (((((x4.toUInt32 >>> ((1 : Int32) &&& 31).toUInt32).toInt32) &&& (3 : Int32)) - (1 : Int32)).toInt64))), .second, iv (x2 &&& (1073741823 : Int32)), .unset, .unset, .unset, .unset, .unset] [(.long (x3 &&& (281474976710655 : Int64)))])) _
      refine XS.lstore X9.here hx rfl (hb hby at_142) rfl (l' := #[iv x0, lv x1, .second, iv x2, lv x3, .second, iv x4, rv b1, iv (x0 &&& (65535 : Int32)), lv (((29999950 : Int64) - ((x0 &&& (65535 : Int32)).toInt64)) + (((((x4.toUInt32 >>> ((1 : Int32) &&& 31).toUInt32).toInt32) &&& (3 : Int32)) - (1 : Int32)).toInt64)), .second, iv (if (¬ ((30000000 : Int64) < ((0 : Int64) + ((((50 : Int32) + (x0 &&& (65535 : Int32))).toInt64) + (((29999950 : Int64) - ((x0 &&& (65535 : Int32)).toInt64)) + (((((x4.toUInt32 >>> ((1 : Int32) &&& 31).toUInt32).toInt32) &&& (3 : Int32)) - (1 : Int32)).toInt64)))))) then (1 : Int32) else (0 : Int32)), lv (((50 : Int64) + ((x0 &&& (65535 : Int32)).toInt64)) + (((29999950 : Int64) - ((x0 &&& (65535 : Int32)).toInt64)) + (((((x4.toUInt32 >>> ((1 : Int32) &&& 31).toUInt32).toInt32) &&& (3 : Int32)) - (1 : Int32)).toInt64))), .second, iv (x2 &&& (1073741823 : Int32)), lv (x3 &&& (281474976710655 : Int64)), .second, .unset, .unset, .unset]) rfl ?_
      refine XS.aload X9.here hx rfl (hb hby at_144) rfl rfl ?_
      refine XS.iload X9.here hx rfl (hb hby at_146) rfl ?_
      refine XS.lload X9.here hx rfl (hb hby at_148) rfl ?_
      refine st17.trans ?_
      refine XS.istore X17.here hx rfl (hb hby at_153) rfl (l' := #[iv x0, lv x1, .second, iv x2, lv x3, .second, iv x4, rv b1, iv (x0 &&& (65535 : Int32)), lv (((29999950 : Int64) - ((x0 &&& (65535 : Int32)).toInt64)) + (((((x4.toUInt32 >>> ((1 : Int32) &&& 31).toUInt32).toInt32) &&& (3 : Int32)) - (1 : Int32)).toInt64)), .second, iv (if (¬ ((30000000 : Int64) < ((0 : Int64) + ((((50 : Int32) + (x0 &&& (65535 : Int32))).toInt64) + (((29999950 : Int64) - ((x0 &&& (65535 : Int32)).toInt64)) + (((((x4.toUInt32 >>> ((1 : Int32) &&& 31).toUInt32).toInt32) &&& (3 : Int32)) - (1 : Int32)).toInt64)))))) then (1 : Int32) else (0 : Int32)), lv (((50 : Int64) + ((x0 &&& (65535 : Int32)).toInt64)) + (((29999950 : Int64) - ((x0 &&& (65535 : Int32)).toInt64)) + (((((x4.toUInt32 >>> ((1 : Int32) &&& 31).toUInt32).toInt32) &&& (3 : Int32)) - (1 : Int32)).toInt64))), .second, iv (x2 &&& (1073741823 : Int32)), lv (x3 &&& (281474976710655 : Int64)), .second, iv (if (¬ ((30000000 : Int64) < (((0 : Int64) + ((((50 : Int32) + (x0 &&& (65535 : Int32))).toInt64) + (((29999950 : Int64) - ((x0 &&& (65535 : Int32)).toInt64)) + (((((x4.toUInt32 >>> ((1 : Int32) &&& 31).toUInt32).toInt32) &&& (3 : Int32)) - (1 : Int32)).toInt64)))) + ((((50 : Int32) + (x2 &&& (1073741823 : Int32))).toInt64) + (x3 &&& (281474976710655 : Int64)))))) then (1 : Int32) else (0 : Int32)), .unset, .unset]) rfl ?_
      refine XS.lload X17.here hx rfl (hb hby at_155) rfl ?_
      refine X17.ldc2Long hx hown (mvT hZ (hw _ (im 24 rfl))) (g := (mkF m 157 #[iv x0, lv x1, .second, iv x2, lv x3, .second, iv x4, rv b1, iv (x0 &&& (65535 : Int32)), lv (((29999950 : Int64) - ((x0 &&& (65535 : Int32)).toInt64)) + (((((x4.toUInt32 >>> ((1 : Int32) &&& 31).toUInt32).toInt32) &&& (3 : Int32)) - (1 : Int32)).toInt64)), .second, iv (if (¬ ((30000000 : Int64) < ((0 : Int64) + ((((50 : Int32) + (x0 &&& (65535 : Int32))).toInt64) + (((29999950 : Int64) - ((x0 &&& (65535 : Int32)).toInt64)) + (((((x4.toUInt32 >>> ((1 : Int32) &&& 31).toUInt32).toInt32) &&& (3 : Int32)) - (1 : Int32)).toInt64)))))) then (1 : Int32) else (0 : Int32)), lv (((50 : Int64) + ((x0 &&& (65535 : Int32)).toInt64)) + (((29999950 : Int64) - ((x0 &&& (65535 : Int32)).toInt64)) + (((((x4.toUInt32 >>> ((1 : Int32) &&& 31).toUInt32).toInt32) &&& (3 : Int32)) - (1 : Int32)).toInt64))), .second, iv (x2 &&& (1073741823 : Int32)), lv (x3 &&& (281474976710655 : Int64)), .second, iv (if (¬ ((30000000 : Int64) < (((0 : Int64) + ((((50 : Int32) + (x0 &&& (65535 : Int32))).toInt64) + (((29999950 : Int64) - ((x0 &&& (65535 : Int32)).toInt64)) + (((((x4.toUInt32 >>> ((1 : Int32) &&& 31).toUInt32).toInt32) &&& (3 : Int32)) - (1 : Int32)).toInt64)))) + ((((50 : Int32) + (x2 &&& (1073741823 : Int32))).toInt64) + (x3 &&& (281474976710655 : Int64)))))) then (1 : Int32) else (0 : Int32)), .unset, .unset] [(.long (((50 : Int64) + ((x0 &&& (65535 : Int32)).toInt64)) + (((29999950 : Int64) - ((x0 &&& (65535 : Int32)).toInt64)) + (((((x4.toUInt32 >>> ((1 : Int32) &&& 31).toUInt32).toInt32) &&& (3 : Int32)) - (1 : Int32)).toInt64))))])) rfl (hb hby at_157) _ ?_
      show Steps p.tables e below (T17.setTop (mkF m 160 #[iv x0, lv x1, .second, iv x2, lv x3, .second, iv x4, rv b1, iv (x0 &&& (65535 : Int32)), lv (((29999950 : Int64) - ((x0 &&& (65535 : Int32)).toInt64)) + (((((x4.toUInt32 >>> ((1 : Int32) &&& 31).toUInt32).toInt32) &&& (3 : Int32)) - (1 : Int32)).toInt64)), .second, iv (if (¬ ((30000000 : Int64) < ((0 : Int64) + ((((50 : Int32) + (x0 &&& (65535 : Int32))).toInt64) + (((29999950 : Int64) - ((x0 &&& (65535 : Int32)).toInt64)) + (((((x4.toUInt32 >>> ((1 : Int32) &&& 31).toUInt32).toInt32) &&& (3 : Int32)) - (1 : Int32)).toInt64)))))) then (1 : Int32) else (0 : Int32)), lv (((50 : Int64) + ((x0 &&& (65535 : Int32)).toInt64)) + (((29999950 : Int64) - ((x0 &&& (65535 : Int32)).toInt64)) + (((((x4.toUInt32 >>> ((1 : Int32) &&& 31).toUInt32).toInt32) &&& (3 : Int32)) - (1 : Int32)).toInt64))), .second, iv (x2 &&& (1073741823 : Int32)), lv (x3 &&& (281474976710655 : Int64)), .second, iv (if (¬ ((30000000 : Int64) < (((0 : Int64) + ((((50 : Int32) + (x0 &&& (65535 : Int32))).toInt64) + (((29999950 : Int64) - ((x0 &&& (65535 : Int32)).toInt64)) + (((((x4.toUInt32 >>> ((1 : Int32) &&& 31).toUInt32).toInt32) &&& (3 : Int32)) - (1 : Int32)).toInt64)))) + ((((50 : Int32) + (x2 &&& (1073741823 : Int32))).toInt64) + (x3 &&& (281474976710655 : Int64)))))) then (1 : Int32) else (0 : Int32)), .unset, .unset] [(.long 50), (.long (((50 : Int64) + ((x0 &&& (65535 : Int32)).toInt64)) + (((29999950 : Int64) - ((x0 &&& (65535 : Int32)).toInt64)) + (((((x4.toUInt32 >>> ((1 : Int32) &&& 31).toUInt32).toInt32) &&& (3 : Int32)) - (1 : Int32)).toInt64))))])) _
      refine XS.ladd X17.here hx rfl (hb hby at_160) rfl ?_
      refine XS.iload X17.here hx rfl (hb hby at_161) rfl ?_
      refine XS.i2l X17.here hx rfl (hb hby at_163) rfl ?_
      refine XS.ladd X17.here hx rfl (hb hby at_164) rfl ?_
      refine XS.lload X17.here hx rfl (hb hby at_165) rfl ?_
      refine XS.ladd X17.here hx rfl (hb hby at_167) rfl ?_
      refine XS.lstore X17.here hx rfl (hb hby at_168) rfl (l' := #[iv x0, lv x1, .second, iv x2, lv x3, .second, iv x4, rv b1, iv (x0 &&& (65535 : Int32)), lv (((29999950 : Int64) - ((x0 &&& (65535 : Int32)).toInt64)) + (((((x4.toUInt32 >>> ((1 : Int32) &&& 31).toUInt32).toInt32) &&& (3 : Int32)) - (1 : Int32)).toInt64)), .second, iv (if (¬ ((30000000 : Int64) < ((0 : Int64) + ((((50 : Int32) + (x0 &&& (65535 : Int32))).toInt64) + (((29999950 : Int64) - ((x0 &&& (65535 : Int32)).toInt64)) + (((((x4.toUInt32 >>> ((1 : Int32) &&& 31).toUInt32).toInt32) &&& (3 : Int32)) - (1 : Int32)).toInt64)))))) then (1 : Int32) else (0 : Int32)), lv (((50 : Int64) + ((x0 &&& (65535 : Int32)).toInt64)) + (((29999950 : Int64) - ((x0 &&& (65535 : Int32)).toInt64)) + (((((x4.toUInt32 >>> ((1 : Int32) &&& 31).toUInt32).toInt32) &&& (3 : Int32)) - (1 : Int32)).toInt64))), .second, iv (x2 &&& (1073741823 : Int32)), lv (x3 &&& (281474976710655 : Int64)), .second, iv (if (¬ ((30000000 : Int64) < (((0 : Int64) + ((((50 : Int32) + (x0 &&& (65535 : Int32))).toInt64) + (((29999950 : Int64) - ((x0 &&& (65535 : Int32)).toInt64)) + (((((x4.toUInt32 >>> ((1 : Int32) &&& 31).toUInt32).toInt32) &&& (3 : Int32)) - (1 : Int32)).toInt64)))) + ((((50 : Int32) + (x2 &&& (1073741823 : Int32))).toInt64) + (x3 &&& (281474976710655 : Int64)))))) then (1 : Int32) else (0 : Int32)), lv ((((((50 : Int64) + ((x0 &&& (65535 : Int32)).toInt64)) + (((29999950 : Int64) - ((x0 &&& (65535 : Int32)).toInt64)) + (((((x4.toUInt32 >>> ((1 : Int32) &&& 31).toUInt32).toInt32) &&& (3 : Int32)) - (1 : Int32)).toInt64))) + (50 : Int64)) + ((x2 &&& (1073741823 : Int32)).toInt64)) + (x3 &&& (281474976710655 : Int64))), .second]) rfl ?_
      refine XS.aload X17.here hx rfl (hb hby at_170) rfl rfl ?_
      show Steps p.tables e below (T17.setTop (mkF m 172 #[iv x0, lv x1, .second, iv x2, lv x3, .second, iv x4, rv b1, iv (x0 &&& (65535 : Int32)), lv (((29999950 : Int64) - ((x0 &&& (65535 : Int32)).toInt64)) + (((((x4.toUInt32 >>> ((1 : Int32) &&& 31).toUInt32).toInt32) &&& (3 : Int32)) - (1 : Int32)).toInt64)), .second, iv (if (¬ ((30000000 : Int64) < ((0 : Int64) + ((((50 : Int32) + (x0 &&& (65535 : Int32))).toInt64) + (((29999950 : Int64) - ((x0 &&& (65535 : Int32)).toInt64)) + (((((x4.toUInt32 >>> ((1 : Int32) &&& 31).toUInt32).toInt32) &&& (3 : Int32)) - (1 : Int32)).toInt64)))))) then (1 : Int32) else (0 : Int32)), lv (((50 : Int64) + ((x0 &&& (65535 : Int32)).toInt64)) + (((29999950 : Int64) - ((x0 &&& (65535 : Int32)).toInt64)) + (((((x4.toUInt32 >>> ((1 : Int32) &&& 31).toUInt32).toInt32) &&& (3 : Int32)) - (1 : Int32)).toInt64))), .second, iv (x2 &&& (1073741823 : Int32)), lv (x3 &&& (281474976710655 : Int64)), .second, iv (if (¬ ((30000000 : Int64) < (((0 : Int64) + ((((50 : Int32) + (x0 &&& (65535 : Int32))).toInt64) + (((29999950 : Int64) - ((x0 &&& (65535 : Int32)).toInt64)) + (((((x4.toUInt32 >>> ((1 : Int32) &&& 31).toUInt32).toInt32) &&& (3 : Int32)) - (1 : Int32)).toInt64)))) + ((((50 : Int32) + (x2 &&& (1073741823 : Int32))).toInt64) + (x3 &&& (281474976710655 : Int64)))))) then (1 : Int32) else (0 : Int32)), lv ((((((50 : Int64) + ((x0 &&& (65535 : Int32)).toInt64)) + (((29999950 : Int64) - ((x0 &&& (65535 : Int32)).toInt64)) + (((((x4.toUInt32 >>> ((1 : Int32) &&& 31).toUInt32).toInt32) &&& (3 : Int32)) - (1 : Int32)).toInt64))) + (50 : Int64)) + ((x2 &&& (1073741823 : Int32)).toInt64)) + (x3 &&& (281474976710655 : Int64))), .second] [(.ref b1)])) _
      refine st18.trans ?_
      refine XS.lload X18.here hx rfl (hb hby at_175) rfl ?_
      exact k)
    have hc178_20 : (((0 : Int64) + ((((50 : Int32) + (x0 &&& (65535 : Int32))).toInt64) + (((29999950 : Int64) - ((x0 &&& (65535 : Int32)).toInt64)) + (((((x4.toUInt32 >>> ((1 : Int32) &&& 31).toUInt32).toInt32) &&& (3 : Int32)) - (1 : Int32)).toInt64)))) + ((((50 : Int32) + (x2 &&& (1073741823 : Int32))).toInt64) + (x3 &&& (281474976710655 : Int64)))) = ((((((50 : Int64) + ((x0 &&& (65535 : Int32)).toInt64)) + (((29999950 : Int64) - ((x0 &&& (65535 : Int32)).toInt64)) + (((((x4.toUInt32 >>> ((1 : Int32) &&& 31).toUInt32).toInt32) &&& (3 : Int32)) - (1 : Int32)).toInt64))) + (50 : Int64)) + ((x2 &&& (1073741823 : Int32)).toInt64)) + (x3 &&& (281474976710655 : Int64))) := own_t2 _ _ _ _ hc104_10 (own_m30 x2)
    have P23 := own_go P19 (S' := T18.setTop (mkF m 191 #[iv x0, lv x1, .second, iv x2, lv x3, .second, iv x4, rv b1, iv (x0 &&& (65535 : Int32)), lv (((29999950 : Int64) - ((x0 &&& (65535 : Int32)).toInt64)) + (((((x4.toUInt32 >>> ((1 : Int32) &&& 31).toUInt32).toInt32) &&& (3 : Int32)) - (1 : Int32)).toInt64)), .second, iv (if (¬ ((30000000 : Int64) < ((0 : Int64) + ((((50 : Int32) + (x0 &&& (65535 : Int32))).toInt64) + (((29999950 : Int64) - ((x0 &&& (65535 : Int32)).toInt64)) + (((((x4.toUInt32 >>> ((1 : Int32) &&& 31).toUInt32).toInt32) &&& (3 : Int32)) - (1 : Int32)).toInt64)))))) then (1 : Int32) else (0 : Int32)), lv (((50 : Int64) + ((x0 &&& (65535 : Int32)).toInt64)) + (((29999950 : Int64) - ((x0 &&& (65535 : Int32)).toInt64)) + (((((x4.toUInt32 >>> ((1 : Int32) &&& 31).toUInt32).toInt32) &&& (3 : Int32)) - (1 : Int32)).toInt64))), .second, iv (x2 &&& (1073741823 : Int32)), lv (x3 &&& (281474976710655 : Int64)), .second, iv (if (¬ ((30000000 : Int64) < (((0 : Int64) + ((((50 : Int32) + (x0 &&& (65535 : Int32))).toInt64) + (((29999950 : Int64) - ((x0 &&& (65535 : Int32)).toInt64)) + (((((x4.toUInt32 >>> ((1 : Int32) &&& 31).toUInt32).toInt32) &&& (3 : Int32)) - (1 : Int32)).toInt64)))) + ((((50 : Int32) + (x2 &&& (1073741823 : Int32))).toInt64) + (x3 &&& (281474976710655 : Int64)))))) then (1 : Int32) else (0 : Int32)), lv ((((((50 : Int64) + ((x0 &&& (65535 : Int32)).toInt64)) + (((29999950 : Int64) - ((x0 &&& (65535 : Int32)).toInt64)) + (((((x4.toUInt32 >>> ((1 : Int32) &&& 31).toUInt32).toInt32) &&& (3 : Int32)) - (1 : Int32)).toInt64))) + (50 : Int64)) + ((x2 &&& (1073741823 : Int32)).toInt64)) + (x3 &&& (281474976710655 : Int64))), .second] [(.int (lcmpW ((((((50 : Int64) + ((x0 &&& (65535 : Int32)).toInt64)) + (((29999950 : Int64) - ((x0 &&& (65535 : Int32)).toInt64)) + (((((x4.toUInt32 >>> ((1 : Int32) &&& 31).toUInt32).toInt32) &&& (3 : Int32)) - (1 : Int32)).toInt64))) + (50 : Int64)) + ((x2 &&& (1073741823 : Int32)).toInt64)) + (x3 &&& (281474976710655 : Int64))) (30000000 : Int64))), (.int (if (¬ ((30000000 : Int64) < (((0 : Int64) + ((((50 : Int32) + (x0 &&& (65535 : Int32))).toInt64) + (((29999950 : Int64) - ((x0 &&& (65535 : Int32)).toInt64)) + (((((x4.toUInt32 >>> ((1 : Int32) &&& 31).toUInt32).toInt32) &&& (3 : Int32)) - (1 : Int32)).toInt64)))) + ((((50 : Int32) + (x2 &&& (1073741823 : Int32))).toInt64) + (x3 &&& (281474976710655 : Int64)))))) then (1 : Int32) else (0 : Int32)))])) (by
      intro t k
      refine XS.lcmp X18.here hx rfl (hb hby at_177) rfl ?_
      refine XS.ifYes X18.here hx rfl (pc0 := 178) (pc' := 183) rfl (hb hby at_178) rfl ((if0 _ _).trans (teq ((lw_eq (((0 : Int64) + ((((50 : Int32) + (x0 &&& (65535 : Int32))).toInt64) + (((29999950 : Int64) - ((x0 &&& (65535 : Int32)).toInt64)) + (((((x4.toUInt32 >>> ((1 : Int32) &&& 31).toUInt32).toInt32) &&& (3 : Int32)) - (1 : Int32)).toInt64)))) + ((((50 : Int32) + (x2 &&& (1073741823 : Int32))).toInt64) + (x3 &&& (281474976710655 : Int64)))) ((((((50 : Int64) + ((x0 &&& (65535 : Int32)).toInt64)) + (((29999950 : Int64) - ((x0 &&& (65535 : Int32)).toInt64)) + (((((x4.toUInt32 >>> ((1 : Int32) &&& 31).toUInt32).toInt32) &&& (3 : Int32)) - (1 : Int32)).toInt64))) + (50 : Int64)) + ((x2 &&& (1073741823 : Int32)).toInt64)) + (x3 &&& (281474976710655 : Int64)))).mpr hc178_20)).1) (by decide) (by decide) ?_
      refine XS.iload X18.here hx rfl (hb hby at_183) rfl ?_
      refine XS.lload X18.here hx rfl (hb hby at_185) rfl ?_
      refine X18.ldc2Long hx hown (mvT hZ (hw _ (im 25 rfl))) (g := (mkF m 187 #[iv x0, lv x1, .second, iv x2, lv x3, .second, iv x4, rv b1, iv (x0 &&& (65535 : Int32)), lv (((29999950 : Int64) - ((x0 &&& (65535 : Int32)).toInt64)) + (((((x4.toUInt32 >>> ((1 : Int32) &&& 31).toUInt32).toInt32) &&& (3 : Int32)) - (1 : Int32)).toInt64)), .second, iv (if (¬ ((30000000 : Int64) < ((0 : Int64) + ((((50 : Int32) + (x0 &&& (65535 : Int32))).toInt64) + (((29999950 : Int64) - ((x0 &&& (65535 : Int32)).toInt64)) + (((((x4.toUInt32 >>> ((1 : Int32) &&& 31).toUInt32).toInt32) &&& (3 : Int32)) - (1 : Int32)).toInt64)))))) then (1 : Int32) else (0 : Int32)), lv (((50 : Int64) + ((x0 &&& (65535 : Int32)).toInt64)) + (((29999950 : Int64) - ((x0 &&& (65535 : Int32)).toInt64)) + (((((x4.toUInt32 >>> ((1 : Int32) &&& 31).toUInt32).toInt32) &&& (3 : Int32)) - (1 : Int32)).toInt64))), .second, iv (x2 &&& (1073741823 : Int32)), lv (x3 &&& (281474976710655 : Int64)), .second, iv (if (¬ ((30000000 : Int64) < (((0 : Int64) + ((((50 : Int32) + (x0 &&& (65535 : Int32))).toInt64) + (((29999950 : Int64) - ((x0 &&& (65535 : Int32)).toInt64)) + (((((x4.toUInt32 >>> ((1 : Int32) &&& 31).toUInt32).toInt32) &&& (3 : Int32)) - (1 : Int32)).toInt64)))) + ((((50 : Int32) + (x2 &&& (1073741823 : Int32))).toInt64) + (x3 &&& (281474976710655 : Int64)))))) then (1 : Int32) else (0 : Int32)), lv ((((((50 : Int64) + ((x0 &&& (65535 : Int32)).toInt64)) + (((29999950 : Int64) - ((x0 &&& (65535 : Int32)).toInt64)) + (((((x4.toUInt32 >>> ((1 : Int32) &&& 31).toUInt32).toInt32) &&& (3 : Int32)) - (1 : Int32)).toInt64))) + (50 : Int64)) + ((x2 &&& (1073741823 : Int32)).toInt64)) + (x3 &&& (281474976710655 : Int64))), .second] [(.long ((((((50 : Int64) + ((x0 &&& (65535 : Int32)).toInt64)) + (((29999950 : Int64) - ((x0 &&& (65535 : Int32)).toInt64)) + (((((x4.toUInt32 >>> ((1 : Int32) &&& 31).toUInt32).toInt32) &&& (3 : Int32)) - (1 : Int32)).toInt64))) + (50 : Int64)) + ((x2 &&& (1073741823 : Int32)).toInt64)) + (x3 &&& (281474976710655 : Int64)))), (.int (if (¬ ((30000000 : Int64) < (((0 : Int64) + ((((50 : Int32) + (x0 &&& (65535 : Int32))).toInt64) + (((29999950 : Int64) - ((x0 &&& (65535 : Int32)).toInt64)) + (((((x4.toUInt32 >>> ((1 : Int32) &&& 31).toUInt32).toInt32) &&& (3 : Int32)) - (1 : Int32)).toInt64)))) + ((((50 : Int32) + (x2 &&& (1073741823 : Int32))).toInt64) + (x3 &&& (281474976710655 : Int64)))))) then (1 : Int32) else (0 : Int32)))])) rfl (hb hby at_187) _ ?_
      refine XS.lcmp X18.here hx rfl (hb hby at_190) rfl ?_
      exact k)
    obtain ⟨v22_0, hv22_0⟩ : ∃ z : Int32, z = (if (30000000 : Int64) < ((((((50 : Int64) + ((x0 &&& (65535 : Int32)).toInt64)) + (((29999950 : Int64) - ((x0 &&& (65535 : Int32)).toInt64)) + (((((x4.toUInt32 >>> ((1 : Int32) &&& 31).toUInt32).toInt32) &&& (3 : Int32)) - (1 : Int32)).toInt64))) + (50 : Int64)) + ((x2 &&& (1073741823 : Int32)).toInt64)) + (x3 &&& (281474976710655 : Int64))) then (0 : Int32) else (1 : Int32)) := ⟨_, rfl⟩
    have P25 := own_go P23 (S' := T18.setTop (mkF m 199 #[iv x0, lv x1, .second, iv x2, lv x3, .second, iv x4, rv b1, iv (x0 &&& (65535 : Int32)), lv (((29999950 : Int64) - ((x0 &&& (65535 : Int32)).toInt64)) + (((((x4.toUInt32 >>> ((1 : Int32) &&& 31).toUInt32).toInt32) &&& (3 : Int32)) - (1 : Int32)).toInt64)), .second, iv (if (¬ ((30000000 : Int64) < ((0 : Int64) + ((((50 : Int32) + (x0 &&& (65535 : Int32))).toInt64) + (((29999950 : Int64) - ((x0 &&& (65535 : Int32)).toInt64)) + (((((x4.toUInt32 >>> ((1 : Int32) &&& 31).toUInt32).toInt32) &&& (3 : Int32)) - (1 : Int32)).toInt64)))))) then (1 : Int32) else (0 : Int32)), lv (((50 : Int64) + ((x0 &&& (65535 : Int32)).toInt64)) + (((29999950 : Int64) - ((x0 &&& (65535 : Int32)).toInt64)) + (((((x4.toUInt32 >>> ((1 : Int32) &&& 31).toUInt32).toInt32) &&& (3 : Int32)) - (1 : Int32)).toInt64))), .second, iv (x2 &&& (1073741823 : Int32)), lv (x3 &&& (281474976710655 : Int64)), .second, iv (if (¬ ((30000000 : Int64) < (((0 : Int64) + ((((50 : Int32) + (x0 &&& (65535 : Int32))).toInt64) + (((29999950 : Int64) - ((x0 &&& (65535 : Int32)).toInt64)) + (((((x4.toUInt32 >>> ((1 : Int32) &&& 31).toUInt32).toInt32) &&& (3 : Int32)) - (1 : Int32)).toInt64)))) + ((((50 : Int32) + (x2 &&& (1073741823 : Int32))).toInt64) + (x3 &&& (281474976710655 : Int64)))))) then (1 : Int32) else (0 : Int32)), lv ((((((50 : Int64) + ((x0 &&& (65535 : Int32)).toInt64)) + (((29999950 : Int64) - ((x0 &&& (65535 : Int32)).toInt64)) + (((((x4.toUInt32 >>> ((1 : Int32) &&& 31).toUInt32).toInt32) &&& (3 : Int32)) - (1 : Int32)).toInt64))) + (50 : Int64)) + ((x2 &&& (1073741823 : Int32)).toInt64)) + (x3 &&& (281474976710655 : Int64))), .second] [(.int v22_0), (.int (if (¬ ((30000000 : Int64) < (((0 : Int64) + ((((50 : Int32) + (x0 &&& (65535 : Int32))).toInt64) + (((29999950 : Int64) - ((x0 &&& (65535 : Int32)).toInt64)) + (((((x4.toUInt32 >>> ((1 : Int32) &&& 31).toUInt32).toInt32) &&& (3 : Int32)) - (1 : Int32)).toInt64)))) + ((((50 : Int32) + (x2 &&& (1073741823 : Int32))).toInt64) + (x3 &&& (281474976710655 : Int64)))))) then (1 : Int32) else (0 : Int32)))])) (by
      intro t k
      by_cases hc191_24 : (30000000 : Int64) < ((((((50 : Int64) + ((x0 &&& (65535 : Int32)).toInt64)) + (((29999950 : Int64) - ((x0 &&& (65535 : Int32)).toInt64)) + (((((x4.toUInt32 >>> ((1 : Int32) &&& 31).toUInt32).toInt32) &&& (3 : Int32)) - (1 : Int32)).toInt64))) + (50 : Int64)) + ((x2 &&& (1073741823 : Int32)).toInt64)) + (x3 &&& (281474976710655 : Int64)))
      · refine XS.ifYes X18.here hx rfl (pc0 := 191) (pc' := 198) rfl (hb hby at_191) rfl ((if0 _ _).trans (tlt ((lw_gt ((((((50 : Int64) + ((x0 &&& (65535 : Int32)).toInt64)) + (((29999950 : Int64) - ((x0 &&& (65535 : Int32)).toInt64)) + (((((x4.toUInt32 >>> ((1 : Int32) &&& 31).toUInt32).toInt32) &&& (3 : Int32)) - (1 : Int32)).toInt64))) + (50 : Int64)) + ((x2 &&& (1073741823 : Int32)).toInt64)) + (x3 &&& (281474976710655 : Int64))) (30000000 : Int64)).mpr hc191_24)).2.2.1) (by decide) (by decide) ?_
        refine XS.iconst X18.here hx rfl (hb hby at_198) ?_
        have q_v22_0 : v22_0 = (0 : Int32) := by rw [hv22_0, if_pos hc191_24]
        subst q_v22_0
        exact k
      · refine XS.ifNo X18.here hx rfl (hb hby at_191) rfl ((if0 _ _).trans (flt (fun q => hc191_24 ((lw_gt ((((((50 : Int64) + ((x0 &&& (65535 : Int32)).toInt64)) + (((29999950 : Int64) - ((x0 &&& (65535 : Int32)).toInt64)) + (((((x4.toUInt32 >>> ((1 : Int32) &&& 31).toUInt32).toInt32) &&& (3 : Int32)) - (1 : Int32)).toInt64))) + (50 : Int64)) + ((x2 &&& (1073741823 : Int32)).toInt64)) + (x3 &&& (281474976710655 : Int64))) (30000000 : Int64)).mp q))).2.2.1) ?_
        refine XS.iconst X18.here hx rfl (hb hby at_194) ?_
        refine XS.goto X18.here hx rfl (pc0 := 195) (pc' := 199) rfl (hb hby at_195) (by decide) (by decide) ?_
        have q_v22_0 : v22_0 = (1 : Int32) := by rw [hv22_0, if_neg hc191_24]
        subst q_v22_0
        exact k)
    have hc199_26 : (if (¬ ((30000000 : Int64) < (((0 : Int64) + ((((50 : Int32) + (x0 &&& (65535 : Int32))).toInt64) + (((29999950 : Int64) - ((x0 &&& (65535 : Int32)).toInt64)) + (((((x4.toUInt32 >>> ((1 : Int32) &&& 31).toUInt32).toInt32) &&& (3 : Int32)) - (1 : Int32)).toInt64)))) + ((((50 : Int32) + (x2 &&& (1073741823 : Int32))).toInt64) + (x3 &&& (281474976710655 : Int64)))))) then (1 : Int32) else (0 : Int32)) = v22_0 := own_b _ _ _ hc178_20 hv22_0
    have P27 := own_go P25 (S' := T18.setTop (mkF m 207 #[iv x0, lv x1, .second, iv x2, lv x3, .second, iv x4, rv b1, iv (x0 &&& (65535 : Int32)), lv (((29999950 : Int64) - ((x0 &&& (65535 : Int32)).toInt64)) + (((((x4.toUInt32 >>> ((1 : Int32) &&& 31).toUInt32).toInt32) &&& (3 : Int32)) - (1 : Int32)).toInt64)), .second, iv (if (¬ ((30000000 : Int64) < ((0 : Int64) + ((((50 : Int32) + (x0 &&& (65535 : Int32))).toInt64) + (((29999950 : Int64) - ((x0 &&& (65535 : Int32)).toInt64)) + (((((x4.toUInt32 >>> ((1 : Int32) &&& 31).toUInt32).toInt32) &&& (3 : Int32)) - (1 : Int32)).toInt64)))))) then (1 : Int32) else (0 : Int32)), lv (((50 : Int64) + ((x0 &&& (65535 : Int32)).toInt64)) + (((29999950 : Int64) - ((x0 &&& (65535 : Int32)).toInt64)) + (((((x4.toUInt32 >>> ((1 : Int32) &&& 31).toUInt32).toInt32) &&& (3 : Int32)) - (1 : Int32)).toInt64))), .second, iv (x2 &&& (1073741823 : Int32)), lv (x3 &&& (281474976710655 : Int64)), .second, iv (if (¬ ((30000000 : Int64) < (((0 : Int64) + ((((50 : Int32) + (x0 &&& (65535 : Int32))).toInt64) + (((29999950 : Int64) - ((x0 &&& (65535 : Int32)).toInt64)) + (((((x4.toUInt32 >>> ((1 : Int32) &&& 31).toUInt32).toInt32) &&& (3 : Int32)) - (1 : Int32)).toInt64)))) + ((((50 : Int32) + (x2 &&& (1073741823 : Int32))).toInt64) + (x3 &&& (281474976710655 : Int64)))))) then (1 : Int32) else (0 : Int32)), lv ((((((50 : Int64) + ((x0 &&& (65535 : Int32)).toInt64)) + (((29999950 : Int64) - ((x0 &&& (65535 : Int32)).toInt64)) + (((((x4.toUInt32 >>> ((1 : Int32) &&& 31).toUInt32).toInt32) &&& (3 : Int32)) - (1 : Int32)).toInt64))) + (50 : Int64)) + ((x2 &&& (1073741823 : Int32)).toInt64)) + (x3 &&& (281474976710655 : Int64))), .second] [(.int 1)])) (by
      intro t k
      refine XS.icmpNo X18.here hx rfl (hb hby at_199) rfl (teq hc199_26).2 ?_
      refine XS.iconst X18.here hx rfl (hb hby at_202) ?_
      refine XS.goto X18.here hx rfl (pc0 := 203) (pc' := 207) rfl (hb hby at_203) (by decide) (by decide) ?_
      exact k)
    obtain ⟨fs, hr, hrun, hended, hW, hsame⟩ := X18.leave (v := some (.int 1)) (fun h => by rw [Bd.returns] at h; cases h)
    refine ⟨_, _, P27 _ ?_, hrun, hended, _, _, rfl, ?_, ⟨_, rfl⟩, hW, hsame.mono (by decide) (by decide)⟩
    · show Steps p.tables e below (T18.setTop (mkF m 207 #[iv x0, lv x1, .second, iv x2, lv x3, .second, iv x4, rv b1, iv (x0 &&& (65535 : Int32)), lv (((29999950 : Int64) - ((x0 &&& (65535 : Int32)).toInt64)) + (((((x4.toUInt32 >>> ((1 : Int32) &&& 31).toUInt32).toInt32) &&& (3 : Int32)) - (1 : Int32)).toInt64)), .second, iv (if (¬ ((30000000 : Int64) < ((0 : Int64) + ((((50 : Int32) + (x0 &&& (65535 : Int32))).toInt64) + (((29999950 : Int64) - ((x0 &&& (65535 : Int32)).toInt64)) + (((((x4.toUInt32 >>> ((1 : Int32) &&& 31).toUInt32).toInt32) &&& (3 : Int32)) - (1 : Int32)).toInt64)))))) then (1 : Int32) else (0 : Int32)), lv (((50 : Int64) + ((x0 &&& (65535 : Int32)).toInt64)) + (((29999950 : Int64) - ((x0 &&& (65535 : Int32)).toInt64)) + (((((x4.toUInt32 >>> ((1 : Int32) &&& 31).toUInt32).toInt32) &&& (3 : Int32)) - (1 : Int32)).toInt64))), .second, iv (x2 &&& (1073741823 : Int32)), lv (x3 &&& (281474976710655 : Int64)), .second, iv (if (¬ ((30000000 : Int64) < (((0 : Int64) + ((((50 : Int32) + (x0 &&& (65535 : Int32))).toInt64) + (((29999950 : Int64) - ((x0 &&& (65535 : Int32)).toInt64)) + (((((x4.toUInt32 >>> ((1 : Int32) &&& 31).toUInt32).toInt32) &&& (3 : Int32)) - (1 : Int32)).toInt64)))) + ((((50 : Int32) + (x2 &&& (1073741823 : Int32))).toInt64) + (x3 &&& (281474976710655 : Int64)))))) then (1 : Int32) else (0 : Int32)), lv ((((((50 : Int64) + ((x0 &&& (65535 : Int32)).toInt64)) + (((29999950 : Int64) - ((x0 &&& (65535 : Int32)).toInt64)) + (((((x4.toUInt32 >>> ((1 : Int32) &&& 31).toUInt32).toInt32) &&& (3 : Int32)) - (1 : Int32)).toInt64))) + (50 : Int64)) + ((x2 &&& (1073741823 : Int32)).toInt64)) + (x3 &&& (281474976710655 : Int64))), .second] [(.int 1)])) _
      exact retN X18 hx (t := .boolean) Bd.returns (by simp) (hb hby at_207) hr
    · show Q0 Z x0 x1 x2 x3 x4 h0 n0 _ T18.heap _
      rw [e18]
      exact ⟨rfl, N18⟩
  · obtain ⟨cq28, kq28, q28a, q28b, q28c⟩ := isOf hZ e3 A1
    obtain ⟨_, _, ⟨T28, L28, k28, n28⟩, -, X28, ⟨Lc28, hQ28, l28, y28, z28⟩, st28⟩ := X3.virtualBack hx (y := (⟨"com/example/wardflow/wardflow/analysis/CheckLimits", "carry", "(IJ)Z"⟩ : MethodName)) (z := (⟨"com/example/wardflow/wardflow/analysis/CheckLimits", "carry", "(IJ)Z"⟩ : MethodName)) hown (mvT hZ (hw _ (im 18 rfl))) (mvT hZ (hw _ (im 19 rfl))) (notFace_of_selects (args := #[]) (mvT hZ (hw _ (im 21 rfl)))) (mvT hZ (hw _ (im 21 rfl))) (mvT hZ (hw _ (im 20 rfl))) (by decide) (backOf (W := 0) (rm4 l Z a0 hw [] b1 (x0 &&& (1073741823 : Int32)) (x1 &&& (281474976710655 : Int64)) (0 : Int64) h1 n0 Z1_ A1 F1_loopSteps ge_b1) hZ (hw _ (im 22 rfl)) (hw _ (im 2 rfl)) (by decide) (by decide)) q28a q28c (g := (mkF m 79 #[iv x0, lv x1, .second, iv x2, lv x3, .second, iv x4, rv b1, iv (x0 &&& (1073741823 : Int32)), lv (x1 &&& (281474976710655 : Int64)), .second, .unset, .unset, .unset, .unset, .unset, .unset, .unset, .unset, .unset] [(.long (x1 &&& (281474976710655 : Int64))), (.int (x0 &&& (1073741823 : Int32))), (.ref b1)])) rfl (by rw [hml]; rfl) (Steps.refl _) (argsL := [(.int (x0 &&& (1073741823 : Int32))), (.long (x1 &&& (281474976710655 : Int64)))]) (rest := []) (lenOf pd_2 rfl) rfl (by show 2 * 0 + _ ≤ _; exact Nat.le_of_eq rfl) (hb hby at_79) (fun _ _ => ⟨rfl, e3, (by decide : 1 + 0 ≤ _), (by decide : 3 + 0 ≤ _)⟩)
    dsimp only [Pt.U, Pt.locs, Pt.cells, Pt.slots] at X28 l28 y28 z28 st28 hQ28
    subst l28 y28 z28
    obtain ⟨rfl, N28q, K28, r28_0, r28_1⟩ := hQ28
    have N28 := Fr.app N3 N28q
    have Z28_ : n0 ≤ T28.heap.size := Nat.le_trans Z1_ K28.1
    obtain ⟨cq29, kq29, q29a, q29b, q29c⟩ := isOf hZ rfl r28_0
    obtain ⟨_, _, ⟨T29, L29, k29, n29⟩, -, X29, ⟨Lc29, hQ29, l29, y29, z29⟩, st29⟩ := X28.virtualBack hx (y := (⟨"com/example/wardflow/wardflow/analysis/CheckLimits", "loopSteps", "()J"⟩ : MethodName)) (z := (⟨"com/example/wardflow/wardflow/analysis/CheckLimits", "loopSteps", "()J"⟩ : MethodName)) hown (mvT hZ (hw _ (im 9 rfl))) (mvT hZ (hw _ (im 10 rfl))) (notFace_of_selects (args := #[]) (mvT hZ (hw _ (im 12 rfl)))) (mvT hZ (hw _ (im 12 rfl))) (mvT hZ (hw _ (im 11 rfl))) (by decide) (backOf (W := 0) (rm3 l Z a0 hw [] b1 ((0 : Int64) + ((((50 : Int32) + (x0 &&& (1073741823 : Int32))).toInt64) + (x1 &&& (281474976710655 : Int64)))) T28.heap n0 Z28_ r28_1) hZ (hw _ (im 13 rfl)) (hw _ (im 2 rfl)) (by decide) (by decide)) q29a q29c (g := (mkF m 98 #[iv x0, lv x1, .second, iv x2, lv x3, .second, iv x4, rv b1, iv (x0 &&& (1073741823 : Int32)), lv (x1 &&& (281474976710655 : Int64)), .second, iv (if (¬ ((30000000 : Int64) < ((0 : Int64) + ((((50 : Int32) + (x0 &&& (1073741823 : Int32))).toInt64) + (x1 &&& (281474976710655 : Int64)))))) then (1 : Int32) else (0 : Int32)), lv (((50 : Int64) + ((x0 &&& (1073741823 : Int32)).toInt64)) + (x1 &&& (281474976710655 : Int64))), .second, .unset, .unset, .unset, .unset, .unset, .unset] [(.ref b1)])) rfl (by rw [hml]; rfl) (Steps.refl _) (argsL := []) (rest := []) (lenOf pd_1 rfl) rfl (by show 2 * 0 + _ ≤ _; exact Nat.le_of_eq rfl) (hb hby at_98) (fun _ _ => ⟨rfl, rfl, (by decide : 1 + 0 ≤ _), (by decide : 3 + 0 ≤ _)⟩)
    dsimp only [Pt.U, Pt.locs, Pt.cells, Pt.slots] at X29 l29 y29 z29 st29 hQ29
    subst l29 y29 z29
    obtain ⟨rfl, N29q, e29⟩ := hQ29
    have N29 := Fr.app N28 N29q
    have P30 := own_go P6 (S' := T29.setTop (mkF m 104 #[iv x0, lv x1, .second, iv x2, lv x3, .second, iv x4, rv b1, iv (x0 &&& (1073741823 : Int32)), lv (x1 &&& (281474976710655 : Int64)), .second, iv (if (¬ ((30000000 : Int64) < ((0 : Int64) + ((((50 : Int32) + (x0 &&& (1073741823 : Int32))).toInt64) + (x1 &&& (281474976710655 : Int64)))))) then (1 : Int32) else (0 : Int32)), lv (((50 : Int64) + ((x0 &&& (1073741823 : Int32)).toInt64)) + (x1 &&& (281474976710655 : Int64))), .second, .unset, .unset, .unset, .unset, .unset, .unset] [(.int (lcmpW ((0 : Int64) + ((((50 : Int32) + (x0 &&& (1073741823 : Int32))).toInt64) + (x1 &&& (281474976710655 : Int64)))) (((50 : Int64) + ((x0 &&& (1073741823 : Int32)).toInt64)) + (x1 &&& (281474976710655 : Int64)))))])) (by
      intro t k
      refine XS.ifNo X3.here hx rfl (hb hby at_25) rfl ((if0 _ _).trans (feq hc25_5).1) ?_
      refine XS.iloadN X3.here hx rfl (hb hby at_28) rfl ?_
      refine X3.ldcInt hx hown (mvT hZ (hw _ (im 26 rfl))) (g := (mkF m 29 #[iv x0, lv x1, .second, iv x2, lv x3, .second, iv x4, rv b1, .unset, .unset, .unset, .unset, .unset, .unset, .unset, .unset, .unset, .unset, .unset, .unset] [(.int x0)])) rfl (hb hby at_29) _ ?_
      refine XS.iand X3.here hx rfl (hb hby at_31) rfl ?_
      refine XS.istore X3.here hx rfl (hb hby at_32) rfl (l' := #[iv x0, lv x1, .second, iv x2, lv x3, .second, iv x4, rv b1, iv (x0 &&& (1073741823 : Int32)), .unset, .unset, .unset, .unset, .unset, .unset, .unset, .unset, .unset, .unset, .unset]) rfl ?_
      refine XS.lloadN X3.here hx rfl (hb hby at_34) rfl ?_
      refine X3.ldc2Long hx hown (mvT hZ (hw _ (im 27 rfl))) (g := (mkF m 35 #[iv x0, lv x1, .second, iv x2, lv x3, .second, iv x4, rv b1, iv (x0 &&& (1073741823 : Int32)), .unset, .unset, .unset, .unset, .unset, .unset, .unset, .unset, .unset, .unset, .unset] [(.long x1)])) rfl (hb hby at_35) _ ?_
      refine XS.land X3.here hx rfl (hb hby at_38) rfl ?_
      show Steps p.tables e below (T3.setTop (mkF m 39 #[iv x0, lv x1, .second, iv x2, lv x3, .second, iv x4, rv b1, iv (x0 &&& (1073741823 : Int32)), .unset, .unset, .unset, .unset, .unset, .unset, .unset, .unset, .unset, .unset, .unset] [(.long (x1 &&& (281474976710655 : Int64)))])) _
      refine XS.lstore X3.here hx rfl (hb hby at_39) rfl (l' := #[iv x0, lv x1, .second, iv x2, lv x3, .second, iv x4, rv b1, iv (x0 &&& (1073741823 : Int32)), lv (x1 &&& (281474976710655 : Int64)), .second, .unset, .unset, .unset, .unset, .unset, .unset, .unset, .unset, .unset]) rfl ?_
      refine XS.goto X3.here hx rfl (pc0 := 41) (pc' := 73) rfl (hb hby at_41) (by decide) (by decide) ?_
      refine XS.aload X3.here hx rfl (hb hby at_73) rfl rfl ?_
      refine XS.iload X3.here hx rfl (hb hby at_75) rfl ?_
      refine XS.lload X3.here hx rfl (hb hby at_77) rfl ?_
      refine st28.trans ?_
      refine XS.istore X28.here hx rfl (hb hby at_82) rfl (l' := #[iv x0, lv x1, .second, iv x2, lv x3, .second, iv x4, rv b1, iv (x0 &&& (1073741823 : Int32)), lv (x1 &&& (281474976710655 : Int64)), .second, iv (if (¬ ((30000000 : Int64) < ((0 : Int64) + ((((50 : Int32) + (x0 &&& (1073741823 : Int32))).toInt64) + (x1 &&& (281474976710655 : Int64)))))) then (1 : Int32) else (0 : Int32)), .unset, .unset, .unset, .unset, .unset, .unset, .unset, .unset]) rfl ?_
      refine X28.ldc2Long hx hown (mvT hZ (hw _ (im 24 rfl))) (g := (mkF m 84 #[iv x0, lv x1, .second, iv x2, lv x3, .second, iv x4, rv b1, iv (x0 &&& (1073741823 : Int32)), lv (x1 &&& (281474976710655 : Int64)), .second, iv (if (¬ ((30000000 : Int64) < ((0 : Int64) + ((((50 : Int32) + (x0 &&& (1073741823 : Int32))).toInt64) + (x1 &&& (281474976710655 : Int64)))))) then (1 : Int32) else (0 : Int32)), .unset, .unset, .unset, .unset, .unset, .unset, .unset, .unset] [])) rfl (hb hby at_84) _ ?_
      show Steps p.tables e below (T28.setTop (mkF m 87 #[iv x0, lv x1, .second, iv x2, lv x3, .second, iv x4, rv b1, iv (x0 &&& (1073741823 : Int32)), lv (x1 &&& (281474976710655 : Int64)), .second, iv (if (¬ ((30000000 : Int64) < ((0 : Int64) + ((((50 : Int32) + (x0 &&& (1073741823 : Int32))).toInt64) + (x1 &&& (281474976710655 : Int64)))))) then (1 : Int32) else (0 : Int32)), .unset, .unset, .unset, .unset, .unset, .unset, .unset, .unset] [(.long 50)])) _
      refine XS.iload X28.here hx rfl (hb hby at_87) rfl ?_
      refine XS.i2l X28.here hx rfl (hb hby at_89) rfl ?_
      refine XS.ladd X28.here hx rfl (hb hby at_90) rfl ?_
      refine XS.lload X28.here hx rfl (hb hby at_91) rfl ?_
      refine XS.ladd X28.here hx rfl (hb hby at_93) rfl ?_
      refine XS.lstore X28.here hx rfl (hb hby at_94) rfl (l' := #[iv x0, lv x1, .second, iv x2, lv x3, .second, iv x4, rv b1, iv (x0 &&& (1073741823 : Int32)), lv (x1 &&& (281474976710655 : Int64)), .second, iv (if (¬ ((30000000 : Int64) < ((0 : Int64) + ((((50 : Int32) + (x0 &&& (1073741823 : Int32))).toInt64) + (x1 &&& (281474976710655 : Int64)))))) then (1 : Int32) else (0 : Int32)), lv (((50 : Int64) + ((x0 &&& (1073741823 : Int32)).toInt64)) + (x1 &&& (281474976710655 : Int64))), .second, .unset, .unset, .unset, .unset, .unset, .unset]) rfl ?_
      refine XS.aload X28.here hx rfl (hb hby at_96) rfl rfl ?_
      refine st29.trans ?_
      show Steps p.tables e below (T29.setTop (mkF m 101 #[iv x0, lv x1, .second, iv x2, lv x3, .second, iv x4, rv b1, iv (x0 &&& (1073741823 : Int32)), lv (x1 &&& (281474976710655 : Int64)), .second, iv (if (¬ ((30000000 : Int64) < ((0 : Int64) + ((((50 : Int32) + (x0 &&& (1073741823 : Int32))).toInt64) + (x1 &&& (281474976710655 : Int64)))))) then (1 : Int32) else (0 : Int32)), lv (((50 : Int64) + ((x0 &&& (1073741823 : Int32)).toInt64)) + (x1 &&& (281474976710655 : Int64))), .second, .unset, .unset, .unset, .unset, .unset, .unset] [(.long ((0 : Int64) + ((((50 : Int32) + (x0 &&& (1073741823 : Int32))).toInt64) + (x1 &&& (281474976710655 : Int64)))))])) _
      refine XS.lload X29.here hx rfl (hb hby at_101) rfl ?_
      refine XS.lcmp X29.here hx rfl (hb hby at_103) rfl ?_
      exact k)
    have hc104_31 : ((0 : Int64) + ((((50 : Int32) + (x0 &&& (1073741823 : Int32))).toInt64) + (x1 &&& (281474976710655 : Int64)))) = (((50 : Int64) + ((x0 &&& (1073741823 : Int32)).toInt64)) + (x1 &&& (281474976710655 : Int64))) := own_t1 _ _ (own_m30 x0)
    have P34 := own_go P30 (S' := T29.setTop (mkF m 117 #[iv x0, lv x1, .second, iv x2, lv x3, .second, iv x4, rv b1, iv (x0 &&& (1073741823 : Int32)), lv (x1 &&& (281474976710655 : Int64)), .second, iv (if (¬ ((30000000 : Int64) < ((0 : Int64) + ((((50 : Int32) + (x0 &&& (1073741823 : Int32))).toInt64) + (x1 &&& (281474976710655 : Int64)))))) then (1 : Int32) else (0 : Int32)), lv (((50 : Int64) + ((x0 &&& (1073741823 : Int32)).toInt64)) + (x1 &&& (281474976710655 : Int64))), .second, .unset, .unset, .unset, .unset, .unset, .unset] [(.int (lcmpW (((50 : Int64) + ((x0 &&& (1073741823 : Int32)).toInt64)) + (x1 &&& (281474976710655 : Int64))) (30000000 : Int64))), (.int (if (¬ ((30000000 : Int64) < ((0 : Int64) + ((((50 : Int32) + (x0 &&& (1073741823 : Int32))).toInt64) + (x1 &&& (281474976710655 : Int64)))))) then (1 : Int32) else (0 : Int32)))])) (by
      intro t k
      refine XS.ifYes X29.here hx rfl (pc0 := 104) (pc' := 109) rfl (hb hby at_104) rfl ((if0 _ _).trans (teq ((lw_eq ((0 : Int64) + ((((50 : Int32) + (x0 &&& (1073741823 : Int32))).toInt64) + (x1 &&& (281474976710655 : Int64)))) (((50 : Int64) + ((x0 &&& (1073741823 : Int32)).toInt64)) + (x1 &&& (281474976710655 : Int64)))).mpr hc104_31)).1) (by decide) (by decide) ?_
      refine XS.iload X29.here hx rfl (hb hby at_109) rfl ?_
      refine XS.lload X29.here hx rfl (hb hby at_111) rfl ?_
      refine X29.ldc2Long hx hown (mvT hZ (hw _ (im 25 rfl))) (g := (mkF m 113 #[iv x0, lv x1, .second, iv x2, lv x3, .second, iv x4, rv b1, iv (x0 &&& (1073741823 : Int32)), lv (x1 &&& (281474976710655 : Int64)), .second, iv (if (¬ ((30000000 : Int64) < ((0 : Int64) + ((((50 : Int32) + (x0 &&& (1073741823 : Int32))).toInt64) + (x1 &&& (281474976710655 : Int64)))))) then (1 : Int32) else (0 : Int32)), lv (((50 : Int64) + ((x0 &&& (1073741823 : Int32)).toInt64)) + (x1 &&& (281474976710655 : Int64))), .second, .unset, .unset, .unset, .unset, .unset, .unset] [(.long (((50 : Int64) + ((x0 &&& (1073741823 : Int32)).toInt64)) + (x1 &&& (281474976710655 : Int64)))), (.int (if (¬ ((30000000 : Int64) < ((0 : Int64) + ((((50 : Int32) + (x0 &&& (1073741823 : Int32))).toInt64) + (x1 &&& (281474976710655 : Int64)))))) then (1 : Int32) else (0 : Int32)))])) rfl (hb hby at_113) _ ?_
      refine XS.lcmp X29.here hx rfl (hb hby at_116) rfl ?_
      exact k)
    obtain ⟨v33_0, hv33_0⟩ : ∃ z : Int32, z = (if (30000000 : Int64) < (((50 : Int64) + ((x0 &&& (1073741823 : Int32)).toInt64)) + (x1 &&& (281474976710655 : Int64))) then (0 : Int32) else (1 : Int32)) := ⟨_, rfl⟩
    have P36 := own_go P34 (S' := T29.setTop (mkF m 125 #[iv x0, lv x1, .second, iv x2, lv x3, .second, iv x4, rv b1, iv (x0 &&& (1073741823 : Int32)), lv (x1 &&& (281474976710655 : Int64)), .second, iv (if (¬ ((30000000 : Int64) < ((0 : Int64) + ((((50 : Int32) + (x0 &&& (1073741823 : Int32))).toInt64) + (x1 &&& (281474976710655 : Int64)))))) then (1 : Int32) else (0 : Int32)), lv (((50 : Int64) + ((x0 &&& (1073741823 : Int32)).toInt64)) + (x1 &&& (281474976710655 : Int64))), .second, .unset, .unset, .unset, .unset, .unset, .unset] [(.int v33_0), (.int (if (¬ ((30000000 : Int64) < ((0 : Int64) + ((((50 : Int32) + (x0 &&& (1073741823 : Int32))).toInt64) + (x1 &&& (281474976710655 : Int64)))))) then (1 : Int32) else (0 : Int32)))])) (by
      intro t k
      by_cases hc117_35 : (30000000 : Int64) < (((50 : Int64) + ((x0 &&& (1073741823 : Int32)).toInt64)) + (x1 &&& (281474976710655 : Int64)))
      · refine XS.ifYes X29.here hx rfl (pc0 := 117) (pc' := 124) rfl (hb hby at_117) rfl ((if0 _ _).trans (tlt ((lw_gt (((50 : Int64) + ((x0 &&& (1073741823 : Int32)).toInt64)) + (x1 &&& (281474976710655 : Int64))) (30000000 : Int64)).mpr hc117_35)).2.2.1) (by decide) (by decide) ?_
        refine XS.iconst X29.here hx rfl (hb hby at_124) ?_
        have q_v33_0 : v33_0 = (0 : Int32) := by rw [hv33_0, if_pos hc117_35]
        subst q_v33_0
        exact k
      · refine XS.ifNo X29.here hx rfl (hb hby at_117) rfl ((if0 _ _).trans (flt (fun q => hc117_35 ((lw_gt (((50 : Int64) + ((x0 &&& (1073741823 : Int32)).toInt64)) + (x1 &&& (281474976710655 : Int64))) (30000000 : Int64)).mp q))).2.2.1) ?_
        refine XS.iconst X29.here hx rfl (hb hby at_120) ?_
        refine XS.goto X29.here hx rfl (pc0 := 121) (pc' := 125) rfl (hb hby at_121) (by decide) (by decide) ?_
        have q_v33_0 : v33_0 = (1 : Int32) := by rw [hv33_0, if_neg hc117_35]
        subst q_v33_0
        exact k)
    have hc125_37 : (if (¬ ((30000000 : Int64) < ((0 : Int64) + ((((50 : Int32) + (x0 &&& (1073741823 : Int32))).toInt64) + (x1 &&& (281474976710655 : Int64)))))) then (1 : Int32) else (0 : Int32)) = v33_0 := own_b _ _ _ hc104_31 hv33_0
    obtain ⟨cq38, kq38, q38a, q38b, q38c⟩ := isOf hZ e29 r28_0
    obtain ⟨_, _, ⟨T38, L38, k38, n38⟩, -, X38, ⟨Lc38, hQ38, l38, y38, z38⟩, st38⟩ := X29.virtualBack hx (y := (⟨"com/example/wardflow/wardflow/analysis/CheckLimits", "carry", "(IJ)Z"⟩ : MethodName)) (z := (⟨"com/example/wardflow/wardflow/analysis/CheckLimits", "carry", "(IJ)Z"⟩ : MethodName)) hown (mvT hZ (hw _ (im 18 rfl))) (mvT hZ (hw _ (im 19 rfl))) (notFace_of_selects (args := #[]) (mvT hZ (hw _ (im 21 rfl)))) (mvT hZ (hw _ (im 21 rfl))) (mvT hZ (hw _ (im 20 rfl))) (by decide) (backOf (W := 0) (rm4 l Z a0 hw [] b1 (x2 &&& (1073741823 : Int32)) (x3 &&& (281474976710655 : Int64)) ((0 : Int64) + ((((50 : Int32) + (x0 &&& (1073741823 : Int32))).toInt64) + (x1 &&& (281474976710655 : Int64)))) T28.heap n0 Z28_ r28_0 r28_1 ge_b1) hZ (hw _ (im 22 rfl)) (hw _ (im 2 rfl)) (by decide) (by decide)) q38a q38c (g := (mkF m 150 #[iv x0, lv x1, .second, iv x2, lv x3, .second, iv x4, rv b1, iv (x0 &&& (1073741823 : Int32)), lv (x1 &&& (281474976710655 : Int64)), .second, iv (if (¬ ((30000000 : Int64) < ((0 : Int64) + ((((50 : Int32) + (x0 &&& (1073741823 : Int32))).toInt64) + (x1 &&& (281474976710655 : Int64)))))) then (1 : Int32) else (0 : Int32)), lv (((50 : Int64) + ((x0 &&& (1073741823 : Int32)).toInt64)) + (x1 &&& (281474976710655 : Int64))), .second, iv (x2 &&& (1073741823 : Int32)), lv (x3 &&& (281474976710655 : Int64)), .second, .unset, .unset, .unset] [(.long (x3 &&& (281474976710655 : Int64))), (.int (x2 &&& (1073741823 : Int32))), (.ref b1)])) rfl (by rw [hml]; rfl) (Steps.refl _) (argsL := [(.int (x2 &&& (1073741823 : Int32))), (.long (x3 &&& (281474976710655 : Int64)))]) (rest := []) (lenOf pd_2 rfl) rfl (by show 2 * 0 + _ ≤ _; exact Nat.le_of_eq rfl) (hb hby at_150) (fun _ _ => ⟨rfl, e29, (by decide : 1 + 0 ≤ _), (by decide : 3 + 0 ≤ _)⟩)
    dsimp only [Pt.U, Pt.locs, Pt.cells, Pt.slots] at X38 l38 y38 z38 st38 hQ38
    subst l38 y38 z38
    obtain ⟨rfl, N38q, K38, r38_0, r38_1⟩ := hQ38
    have N38 := Fr.app N29 N38q
    have Z38_ : n0 ≤ T38.heap.size := Nat.le_trans Z28_ K38.1
    obtain ⟨cq39, kq39, q39a, q39b, q39c⟩ := isOf hZ rfl r38_0
    obtain ⟨_, _, ⟨T39, L39, k39, n39⟩, -, X39, ⟨Lc39, hQ39, l39, y39, z39⟩, st39⟩ := X38.virtualBack hx (y := (⟨"com/example/wardflow/wardflow/analysis/CheckLimits", "loopSteps", "()J"⟩ : MethodName)) (z := (⟨"com/example/wardflow/wardflow/analysis/CheckLimits", "loopSteps", "()J"⟩ : MethodName)) hown (mvT hZ (hw _ (im 9 rfl))) (mvT hZ (hw _ (im 10 rfl))) (notFace_of_selects (args := #[]) (mvT hZ (hw _ (im 12 rfl)))) (mvT hZ (hw _ (im 12 rfl))) (mvT hZ (hw _ (im 11 rfl))) (by decide) (backOf (W := 0) (rm3 l Z a0 hw [] b1 (((0 : Int64) + ((((50 : Int32) + (x0 &&& (1073741823 : Int32))).toInt64) + (x1 &&& (281474976710655 : Int64)))) + ((((50 : Int32) + (x2 &&& (1073741823 : Int32))).toInt64) + (x3 &&& (281474976710655 : Int64)))) T38.heap n0 Z38_ r38_1) hZ (hw _ (im 13 rfl)) (hw _ (im 2 rfl)) (by decide) (by decide)) q39a q39c (g := (mkF m 172 #[iv x0, lv x1, .second, iv x2, lv x3, .second, iv x4, rv b1, iv (x0 &&& (1073741823 : Int32)), lv (x1 &&& (281474976710655 : Int64)), .second, iv (if (¬ ((30000000 : Int64) < ((0 : Int64) + ((((50 : Int32) + (x0 &&& (1073741823 : Int32))).toInt64) + (x1 &&& (281474976710655 : Int64)))))) then (1 : Int32) else (0 : Int32)), lv (((50 : Int64) + ((x0 &&& (1073741823 : Int32)).toInt64)) + (x1 &&& (281474976710655 : Int64))), .second, iv (x2 &&& (1073741823 : Int32)), lv (x3 &&& (281474976710655 : Int64)), .second, iv (if (¬ ((30000000 : Int64) < (((0 : Int64) + ((((50 : Int32) + (x0 &&& (1073741823 : Int32))).toInt64) + (x1 &&& (281474976710655 : Int64)))) + ((((50 : Int32) + (x2 &&& (1073741823 : Int32))).toInt64) + (x3 &&& (281474976710655 : Int64)))))) then (1 : Int32) else (0 : Int32)), lv ((((((50 : Int64) + ((x0 &&& (1073741823 : Int32)).toInt64)) + (x1 &&& (281474976710655 : Int64))) + (50 : Int64)) + ((x2 &&& (1073741823 : Int32)).toInt64)) + (x3 &&& (281474976710655 : Int64))), .second] [(.ref b1)])) rfl (by rw [hml]; rfl) (Steps.refl _) (argsL := []) (rest := []) (lenOf pd_1 rfl) rfl (by show 2 * 0 + _ ≤ _; exact Nat.le_of_eq rfl) (hb hby at_172) (fun _ _ => ⟨rfl, rfl, (by decide : 1 + 0 ≤ _), (by decide : 3 + 0 ≤ _)⟩)
    dsimp only [Pt.U, Pt.locs, Pt.cells, Pt.slots] at X39 l39 y39 z39 st39 hQ39
    subst l39 y39 z39
    obtain ⟨rfl, N39q, e39⟩ := hQ39
    have N39 := Fr.app N38 N39q
    have P40 := own_go P36 (S' := T39.setTop (mkF m 177 #[iv x0, lv x1, .second, iv x2, lv x3, .second, iv x4, rv b1, iv (x0 &&& (1073741823 : Int32)), lv (x1 &&& (281474976710655 : Int64)), .second, iv (if (¬ ((30000000 : Int64) < ((0 : Int64) + ((((50 : Int32) + (x0 &&& (1073741823 : Int32))).toInt64) + (x1 &&& (281474976710655 : Int64)))))) then (1 : Int32) else (0 : Int32)), lv (((50 : Int64) + ((x0 &&& (1073741823 : Int32)).toInt64)) + (x1 &&& (281474976710655 : Int64))), .second, iv (x2 &&& (1073741823 : Int32)), lv (x3 &&& (281474976710655 : Int64)), .second, iv (if (¬ ((30000000 : Int64) < (((0 : Int64) + ((((50 : Int32) + (x0 &&& (1073741823 : Int32))).toInt64) + (x1 &&& (281474976710655 : Int64)))) + ((((50 : Int32) + (x2 &&& (1073741823 : Int32))).toInt64) + (x3 &&& (281474976710655 : Int64)))))) then (1 : Int32) else (0 : Int32)), lv ((((((50 : Int64) + ((x0 &&& (1073741823 : Int32)).toInt64)) + (x1 &&& (281474976710655 : Int64))) + (50 : Int64)) + ((x2 &&& (1073741823 : Int32)).toInt64)) + (x3 &&& (281474976710655 : Int64))), .second] [(.long ((((((50 : Int64) + ((x0 &&& (1073741823 : Int32)).toInt64)) + (x1 &&& (281474976710655 : Int64))) + (50 : Int64)) + ((x2 &&& (1073741823 : Int32)).toInt64)) + (x3 &&& (281474976710655 : Int64)))), (.long (((0 : Int64) + ((((50 : Int32) + (x0 &&& (1073741823 : Int32))).toInt64) + (x1 &&& (281474976710655 : Int64)))) + ((((50 : Int32) + (x2 &&& (1073741823 : Int32))).toInt64) + (x3 &&& (281474976710655 : Int64)))))])) (by
      intro t k
      refine XS.icmpYes X29.here hx rfl (pc0 := 125) (pc' := 130) rfl (hb hby at_125) rfl (teq hc125_37).1 (by decide) (by decide) ?_
      refine XS.iloadN X29.here hx rfl (hb hby at_130) rfl ?_
      refine X29.ldcInt hx hown (mvT hZ (hw _ (im 26 rfl))) (g := (mkF m 131 #[iv x0, lv x1, .second, iv x2, lv x3, .second, iv x4, rv b1, iv (x0 &&& (1073741823 : Int32)), lv (x1 &&& (281474976710655 : Int64)), .second, iv (if (¬ ((30000000 : Int64) < ((0 : Int64) + ((((50 : Int32) + (x0 &&& (1073741823 : Int32))).toInt64) + (x1 &&& (281474976710655 : Int64)))))) then (1 : Int32) else (0 : Int32)), lv (((50 : Int64) + ((x0 &&& (1073741823 : Int32)).toInt64)) + (x1 &&& (281474976710655 : Int64))), .second, .unset, .unset, .unset, .unset, .unset, .unset] [(.int x2)])) rfl (hb hby at_131) _ ?_
      refine XS.iand X29.here hx rfl (hb hby at_133) rfl ?_
      refine XS.istore X29.here hx rfl (hb hby at_134) rfl (l' := #[iv x0, lv x1, .second, iv x2, lv x3, .second, iv x4, rv b1, iv (x0 &&& (1073741823 : Int32)), lv (x1 &&& (281474976710655 : Int64)), .second, iv (if (¬ ((30000000 : Int64) < ((0 : Int64) + ((((50 : Int32) + (x0 &&& (1073741823 : Int32))).toInt64) + (x1 &&& (281474976710655 : Int64)))))) then (1 : Int32) else (0 : Int32)), lv (((50 : Int64) + ((x0 &&& (1073741823 : Int32)).toInt64)) + (x1 &&& (281474976710655 : Int64))), .second, iv (x2 &&& (1073741823 : Int32)), .unset, .unset, .unset, .unset, .unset]) rfl ?_
      refine XS.lload X29.here hx rfl (hb hby at_136) rfl ?_
      refine X29.ldc2Long hx hown (mvT hZ (hw _ (im 27 rfl))) (g := (mkF m 138 #[iv x0, lv x1, .second, iv x2, lv x3, .second, iv x4, rv b1, iv (x0 &&& (1073741823 : Int32)), lv (x1 &&& (281474976710655 : Int64)), .second, iv (if (¬ ((30000000 : Int64) < ((0 : Int64) + ((((50 : Int32) + (x0 &&& (1073741823 : Int32))).toInt64) + (x1 &&& (281474976710655 : Int64)))))) then (1 : Int32) else (0 : Int32)), lv (((50 : Int64) + ((x0 &&& (1073741823 : Int32)).toInt64)) + (x1 &&& (281474976710655 : Int64))), .second, iv (x2 &&& (1073741823 : Int32)), .unset, .unset, .unset, .unset, .unset] [(.long x3)])) rfl (hb hby at_138) _ ?_
      refine XS.land X29.here hx rfl (hb hby at_141) rfl ?_
      show Steps p.tables e below (T29.setTop (mkF m 142 #[iv x0, lv x1, .second, iv x2, lv x3, .second, iv x4, rv b1, iv (x0 &&& (1073741823 : Int32)), lv (x1 &&& (281474976710655 : Int64)), .second, iv (if (¬ ((30000000 : Int64) < ((0 : Int64) + ((((50 : Int32) + (x0 &&& (1073741823 : Int32))).toInt64) + (x1 &&& (281474976710655 : Int64)))))) then (1 : Int32) else (0 : Int32)), lv (((50 : Int64) + ((x0 &&& (1073741823 : Int32)).toInt64)) + (x1 &&& (281474976710655 : Int64))), .second, iv (x2 &&& (1073741823 : Int32)), .unset, .unset, .unset, .unset, .unset] [(.long (x3 &&& (281474976710655 : Int64)))])) _
      refine XS.lstore X29.here hx rfl (hb hby at_142) rfl (l' := #[iv x0, lv x1, .second, iv x2, lv x3, .second, iv x4, rv b1, iv (x0 &&& (1073741823 : Int32)), lv (x1 &&& (281474976710655 : Int64)), .second, iv (if (¬ ((30000000 : Int64) < ((0 : Int64) + ((((50 : Int32) + (x0 &&& (1073741823 : Int32))).toInt64) + (x1 &&& (281474976710655 : Int64)))))) then (1 : Int32) else (0 : Int32)), lv (((50 : Int64) + ((x0 &&& (1073741823 : Int32)).toInt64)) + (x1 &&& (281474976710655 : Int64))), .second, iv (x2 &&& (1073741823 : Int32)), lv (x3 &&& (281474976710655 : Int64)), .second, .unset, .unset, .unset]) rfl ?_
      refine XS.aload X29.here hx rfl (hb hby at_144) rfl rfl ?_
      refine XS.iload X29.here hx rfl (hb hby at_146) rfl ?_
      refine XS.lload X29.here hx rfl (hb hby at_148) rfl ?_
      refine st38.trans ?_
      refine XS.istore X38.here hx rfl (hb hby at_153) rfl (l' := #[iv x0, lv x1, .second, iv x2, lv x3, .second, iv x4, rv b1, iv (x0 &&& (1073741823 : Int32)), lv (x1 &&& (281474976710655 : Int64)), .second, iv (if (¬ ((30000000 : Int64) < ((0 : Int64) + ((((50 : Int32) + (x0 &&& (1073741823 : Int32))).toInt64) + (x1 &&& (281474976710655 : Int64)))))) then (1 : Int32) else (0 : Int32)), lv (((50 : Int64) + ((x0 &&& (1073741823 : Int32)).toInt64)) + (x1 &&& (281474976710655 : Int64))), .second, iv (x2 &&& (1073741823 : Int32)), lv (x3 &&& (281474976710655 : Int64)), .second, iv (if (¬ ((30000000 : Int64) < (((0 : Int64) + ((((50 : Int32) + (x0 &&& (1073741823 : Int32))).toInt64) + (x1 &&& (281474976710655 : Int64)))) + ((((50 : Int32) + (x2 &&& (1073741823 : Int32))).toInt64) + (x3 &&& (281474976710655 : Int64)))))) then (1 : Int32) else (0 : Int32)), .unset, .unset]) rfl ?_
      refine XS.lload X38.here hx rfl (hb hby at_155) rfl ?_
      refine X38.ldc2Long hx hown (mvT hZ (hw _ (im 24 rfl))) (g := (mkF m 157 #[iv x0, lv x1, .second, iv x2, lv x3, .second, iv x4, rv b1, iv (x0 &&& (1073741823 : Int32)), lv (x1 &&& (281474976710655 : Int64)), .second, iv (if (¬ ((30000000 : Int64) < ((0 : Int64) + ((((50 : Int32) + (x0 &&& (1073741823 : Int32))).toInt64) + (x1 &&& (281474976710655 : Int64)))))) then (1 : Int32) else (0 : Int32)), lv (((50 : Int64) + ((x0 &&& (1073741823 : Int32)).toInt64)) + (x1 &&& (281474976710655 : Int64))), .second, iv (x2 &&& (1073741823 : Int32)), lv (x3 &&& (281474976710655 : Int64)), .second, iv (if (¬ ((30000000 : Int64) < (((0 : Int64) + ((((50 : Int32) + (x0 &&& (1073741823 : Int32))).toInt64) + (x1 &&& (281474976710655 : Int64)))) + ((((50 : Int32) + (x2 &&& (1073741823 : Int32))).toInt64) + (x3 &&& (281474976710655 : Int64)))))) then (1 : Int32) else (0 : Int32)), .unset, .unset] [(.long (((50 : Int64) + ((x0 &&& (1073741823 : Int32)).toInt64)) + (x1 &&& (281474976710655 : Int64))))])) rfl (hb hby at_157) _ ?_
      show Steps p.tables e below (T38.setTop (mkF m 160 #[iv x0, lv x1, .second, iv x2, lv x3, .second, iv x4, rv b1, iv (x0 &&& (1073741823 : Int32)), lv (x1 &&& (281474976710655 : Int64)), .second, iv (if (¬ ((30000000 : Int64) < ((0 : Int64) + ((((50 : Int32) + (x0 &&& (1073741823 : Int32))).toInt64) + (x1 &&& (281474976710655 : Int64)))))) then (1 : Int32) else (0 : Int32)), lv (((50 : Int64) + ((x0 &&& (1073741823 : Int32)).toInt64)) + (x1 &&& (281474976710655 : Int64))), .second, iv (x2 &&& (1073741823 : Int32)), lv (x3 &&& (281474976710655 : Int64)), .second, iv (if (¬ ((30000000 : Int64) < (((0 : Int64) + ((((50 : Int32) + (x0 &&& (1073741823 : Int32))).toInt64) + (x1 &&& (281474976710655 : Int64)))) + ((((50 : Int32) + (x2 &&& (1073741823 : Int32))).toInt64) + (x3 &&& (281474976710655 : Int64)))))) then (1 : Int32) else (0 : Int32)), .unset, .unset] [(.long 50), (.long (((50 : Int64) + ((x0 &&& (1073741823 : Int32)).toInt64)) + (x1 &&& (281474976710655 : Int64))))])) _
      refine XS.ladd X38.here hx rfl (hb hby at_160) rfl ?_
      refine XS.iload X38.here hx rfl (hb hby at_161) rfl ?_
      refine XS.i2l X38.here hx rfl (hb hby at_163) rfl ?_
      refine XS.ladd X38.here hx rfl (hb hby at_164) rfl ?_
      refine XS.lload X38.here hx rfl (hb hby at_165) rfl ?_
      refine XS.ladd X38.here hx rfl (hb hby at_167) rfl ?_
      refine XS.lstore X38.here hx rfl (hb hby at_168) rfl (l' := #[iv x0, lv x1, .second, iv x2, lv x3, .second, iv x4, rv b1, iv (x0 &&& (1073741823 : Int32)), lv (x1 &&& (281474976710655 : Int64)), .second, iv (if (¬ ((30000000 : Int64) < ((0 : Int64) + ((((50 : Int32) + (x0 &&& (1073741823 : Int32))).toInt64) + (x1 &&& (281474976710655 : Int64)))))) then (1 : Int32) else (0 : Int32)), lv (((50 : Int64) + ((x0 &&& (1073741823 : Int32)).toInt64)) + (x1 &&& (281474976710655 : Int64))), .second, iv (x2 &&& (1073741823 : Int32)), lv (x3 &&& (281474976710655 : Int64)), .second, iv (if (¬ ((30000000 : Int64) < (((0 : Int64) + ((((50 : Int32) + (x0 &&& (1073741823 : Int32))).toInt64) + (x1 &&& (281474976710655 : Int64)))) + ((((50 : Int32) + (x2 &&& (1073741823 : Int32))).toInt64) + (x3 &&& (281474976710655 : Int64)))))) then (1 : Int32) else (0 : Int32)), lv ((((((50 : Int64) + ((x0 &&& (1073741823 : Int32)).toInt64)) + (x1 &&& (281474976710655 : Int64))) + (50 : Int64)) + ((x2 &&& (1073741823 : Int32)).toInt64)) + (x3 &&& (281474976710655 : Int64))), .second]) rfl ?_
      refine XS.aload X38.here hx rfl (hb hby at_170) rfl rfl ?_
      show Steps p.tables e below (T38.setTop (mkF m 172 #[iv x0, lv x1, .second, iv x2, lv x3, .second, iv x4, rv b1, iv (x0 &&& (1073741823 : Int32)), lv (x1 &&& (281474976710655 : Int64)), .second, iv (if (¬ ((30000000 : Int64) < ((0 : Int64) + ((((50 : Int32) + (x0 &&& (1073741823 : Int32))).toInt64) + (x1 &&& (281474976710655 : Int64)))))) then (1 : Int32) else (0 : Int32)), lv (((50 : Int64) + ((x0 &&& (1073741823 : Int32)).toInt64)) + (x1 &&& (281474976710655 : Int64))), .second, iv (x2 &&& (1073741823 : Int32)), lv (x3 &&& (281474976710655 : Int64)), .second, iv (if (¬ ((30000000 : Int64) < (((0 : Int64) + ((((50 : Int32) + (x0 &&& (1073741823 : Int32))).toInt64) + (x1 &&& (281474976710655 : Int64)))) + ((((50 : Int32) + (x2 &&& (1073741823 : Int32))).toInt64) + (x3 &&& (281474976710655 : Int64)))))) then (1 : Int32) else (0 : Int32)), lv ((((((50 : Int64) + ((x0 &&& (1073741823 : Int32)).toInt64)) + (x1 &&& (281474976710655 : Int64))) + (50 : Int64)) + ((x2 &&& (1073741823 : Int32)).toInt64)) + (x3 &&& (281474976710655 : Int64))), .second] [(.ref b1)])) _
      refine st39.trans ?_
      refine XS.lload X39.here hx rfl (hb hby at_175) rfl ?_
      exact k)
    have hc178_41 : (((0 : Int64) + ((((50 : Int32) + (x0 &&& (1073741823 : Int32))).toInt64) + (x1 &&& (281474976710655 : Int64)))) + ((((50 : Int32) + (x2 &&& (1073741823 : Int32))).toInt64) + (x3 &&& (281474976710655 : Int64)))) = ((((((50 : Int64) + ((x0 &&& (1073741823 : Int32)).toInt64)) + (x1 &&& (281474976710655 : Int64))) + (50 : Int64)) + ((x2 &&& (1073741823 : Int32)).toInt64)) + (x3 &&& (281474976710655 : Int64))) := own_t2 _ _ _ _ hc104_31 (own_m30 x2)
    have P44 := own_go P40 (S' := T39.setTop (mkF m 191 #[iv x0, lv x1, .second, iv x2, lv x3, .second, iv x4, rv b1, iv (x0 &&& (1073741823 : Int32)), lv (x1 &&& (281474976710655 : Int64)), .second, iv (if (¬ ((30000000 : Int64) < ((0 : Int64) + ((((50 : Int32) + (x0 &&& (1073741823 : Int32))).toInt64) + (x1 &&& (281474976710655 : Int64)))))) then (1 : Int32) else (0 : Int32)), lv (((50 : Int64) + ((x0 &&& (1073741823 : Int32)).toInt64)) + (x1 &&& (281474976710655 : Int64))), .second, iv (x2 &&& (1073741823 : Int32)), lv (x3 &&& (281474976710655 : Int64)), .second, iv (if (¬ ((30000000 : Int64) < (((0 : Int64) + ((((50 : Int32) + (x0 &&& (1073741823 : Int32))).toInt64) + (x1 &&& (281474976710655 : Int64)))) + ((((50 : Int32) + (x2 &&& (1073741823 : Int32))).toInt64) + (x3 &&& (281474976710655 : Int64)))))) then (1 : Int32) else (0 : Int32)), lv ((((((50 : Int64) + ((x0 &&& (1073741823 : Int32)).toInt64)) + (x1 &&& (281474976710655 : Int64))) + (50 : Int64)) + ((x2 &&& (1073741823 : Int32)).toInt64)) + (x3 &&& (281474976710655 : Int64))), .second] [(.int (lcmpW ((((((50 : Int64) + ((x0 &&& (1073741823 : Int32)).toInt64)) + (x1 &&& (281474976710655 : Int64))) + (50 : Int64)) + ((x2 &&& (1073741823 : Int32)).toInt64)) + (x3 &&& (281474976710655 : Int64))) (30000000 : Int64))), (.int (if (¬ ((30000000 : Int64) < (((0 : Int64) + ((((50 : Int32) + (x0 &&& (1073741823 : Int32))).toInt64) + (x1 &&& (281474976710655 : Int64)))) + ((((50 : Int32) + (x2 &&& (1073741823 : Int32))).toInt64) + (x3 &&& (281474976710655 : Int64)))))) then (1 : Int32) else (0 : Int32)))])) (by
      intro t k
      refine XS.lcmp X39.here hx rfl (hb hby at_177) rfl ?_
      refine XS.ifYes X39.here hx rfl (pc0 := 178) (pc' := 183) rfl (hb hby at_178) rfl ((if0 _ _).trans (teq ((lw_eq (((0 : Int64) + ((((50 : Int32) + (x0 &&& (1073741823 : Int32))).toInt64) + (x1 &&& (281474976710655 : Int64)))) + ((((50 : Int32) + (x2 &&& (1073741823 : Int32))).toInt64) + (x3 &&& (281474976710655 : Int64)))) ((((((50 : Int64) + ((x0 &&& (1073741823 : Int32)).toInt64)) + (x1 &&& (281474976710655 : Int64))) + (50 : Int64)) + ((x2 &&& (1073741823 : Int32)).toInt64)) + (x3 &&& (281474976710655 : Int64)))).mpr hc178_41)).1) (by decide) (by decide) ?_
      refine XS.iload X39.here hx rfl (hb hby at_183) rfl ?_
      refine XS.lload X39.here hx rfl (hb hby at_185) rfl ?_
      refine X39.ldc2Long hx hown (mvT hZ (hw _ (im 25 rfl))) (g := (mkF m 187 #[iv x0, lv x1, .second, iv x2, lv x3, .second, iv x4, rv b1, iv (x0 &&& (1073741823 : Int32)), lv (x1 &&& (281474976710655 : Int64)), .second, iv (if (¬ ((30000000 : Int64) < ((0 : Int64) + ((((50 : Int32) + (x0 &&& (1073741823 : Int32))).toInt64) + (x1 &&& (281474976710655 : Int64)))))) then (1 : Int32) else (0 : Int32)), lv (((50 : Int64) + ((x0 &&& (1073741823 : Int32)).toInt64)) + (x1 &&& (281474976710655 : Int64))), .second, iv (x2 &&& (1073741823 : Int32)), lv (x3 &&& (281474976710655 : Int64)), .second, iv (if (¬ ((30000000 : Int64) < (((0 : Int64) + ((((50 : Int32) + (x0 &&& (1073741823 : Int32))).toInt64) + (x1 &&& (281474976710655 : Int64)))) + ((((50 : Int32) + (x2 &&& (1073741823 : Int32))).toInt64) + (x3 &&& (281474976710655 : Int64)))))) then (1 : Int32) else (0 : Int32)), lv ((((((50 : Int64) + ((x0 &&& (1073741823 : Int32)).toInt64)) + (x1 &&& (281474976710655 : Int64))) + (50 : Int64)) + ((x2 &&& (1073741823 : Int32)).toInt64)) + (x3 &&& (281474976710655 : Int64))), .second] [(.long ((((((50 : Int64) + ((x0 &&& (1073741823 : Int32)).toInt64)) + (x1 &&& (281474976710655 : Int64))) + (50 : Int64)) + ((x2 &&& (1073741823 : Int32)).toInt64)) + (x3 &&& (281474976710655 : Int64)))), (.int (if (¬ ((30000000 : Int64) < (((0 : Int64) + ((((50 : Int32) + (x0 &&& (1073741823 : Int32))).toInt64) + (x1 &&& (281474976710655 : Int64)))) + ((((50 : Int32) + (x2 &&& (1073741823 : Int32))).toInt64) + (x3 &&& (281474976710655 : Int64)))))) then (1 : Int32) else (0 : Int32)))])) rfl (hb hby at_187) _ ?_
      refine XS.lcmp X39.here hx rfl (hb hby at_190) rfl ?_
      exact k)
    obtain ⟨v43_0, hv43_0⟩ : ∃ z : Int32, z = (if (30000000 : Int64) < ((((((50 : Int64) + ((x0 &&& (1073741823 : Int32)).toInt64)) + (x1 &&& (281474976710655 : Int64))) + (50 : Int64)) + ((x2 &&& (1073741823 : Int32)).toInt64)) + (x3 &&& (281474976710655 : Int64))) then (0 : Int32) else (1 : Int32)) := ⟨_, rfl⟩
    have P46 := own_go P44 (S' := T39.setTop (mkF m 199 #[iv x0, lv x1, .second, iv x2, lv x3, .second, iv x4, rv b1, iv (x0 &&& (1073741823 : Int32)), lv (x1 &&& (281474976710655 : Int64)), .second, iv (if (¬ ((30000000 : Int64) < ((0 : Int64) + ((((50 : Int32) + (x0 &&& (1073741823 : Int32))).toInt64) + (x1 &&& (281474976710655 : Int64)))))) then (1 : Int32) else (0 : Int32)), lv (((50 : Int64) + ((x0 &&& (1073741823 : Int32)).toInt64)) + (x1 &&& (281474976710655 : Int64))), .second, iv (x2 &&& (1073741823 : Int32)), lv (x3 &&& (281474976710655 : Int64)), .second, iv (if (¬ ((30000000 : Int64) < (((0 : Int64) + ((((50 : Int32) + (x0 &&& (1073741823 : Int32))).toInt64) + (x1 &&& (281474976710655 : Int64)))) + ((((50 : Int32) + (x2 &&& (1073741823 : Int32))).toInt64) + (x3 &&& (281474976710655 : Int64)))))) then (1 : Int32) else (0 : Int32)), lv ((((((50 : Int64) + ((x0 &&& (1073741823 : Int32)).toInt64)) + (x1 &&& (281474976710655 : Int64))) + (50 : Int64)) + ((x2 &&& (1073741823 : Int32)).toInt64)) + (x3 &&& (281474976710655 : Int64))), .second] [(.int v43_0), (.int (if (¬ ((30000000 : Int64) < (((0 : Int64) + ((((50 : Int32) + (x0 &&& (1073741823 : Int32))).toInt64) + (x1 &&& (281474976710655 : Int64)))) + ((((50 : Int32) + (x2 &&& (1073741823 : Int32))).toInt64) + (x3 &&& (281474976710655 : Int64)))))) then (1 : Int32) else (0 : Int32)))])) (by
      intro t k
      by_cases hc191_45 : (30000000 : Int64) < ((((((50 : Int64) + ((x0 &&& (1073741823 : Int32)).toInt64)) + (x1 &&& (281474976710655 : Int64))) + (50 : Int64)) + ((x2 &&& (1073741823 : Int32)).toInt64)) + (x3 &&& (281474976710655 : Int64)))
      · refine XS.ifYes X39.here hx rfl (pc0 := 191) (pc' := 198) rfl (hb hby at_191) rfl ((if0 _ _).trans (tlt ((lw_gt ((((((50 : Int64) + ((x0 &&& (1073741823 : Int32)).toInt64)) + (x1 &&& (281474976710655 : Int64))) + (50 : Int64)) + ((x2 &&& (1073741823 : Int32)).toInt64)) + (x3 &&& (281474976710655 : Int64))) (30000000 : Int64)).mpr hc191_45)).2.2.1) (by decide) (by decide) ?_
        refine XS.iconst X39.here hx rfl (hb hby at_198) ?_
        have q_v43_0 : v43_0 = (0 : Int32) := by rw [hv43_0, if_pos hc191_45]
        subst q_v43_0
        exact k
      · refine XS.ifNo X39.here hx rfl (hb hby at_191) rfl ((if0 _ _).trans (flt (fun q => hc191_45 ((lw_gt ((((((50 : Int64) + ((x0 &&& (1073741823 : Int32)).toInt64)) + (x1 &&& (281474976710655 : Int64))) + (50 : Int64)) + ((x2 &&& (1073741823 : Int32)).toInt64)) + (x3 &&& (281474976710655 : Int64))) (30000000 : Int64)).mp q))).2.2.1) ?_
        refine XS.iconst X39.here hx rfl (hb hby at_194) ?_
        refine XS.goto X39.here hx rfl (pc0 := 195) (pc' := 199) rfl (hb hby at_195) (by decide) (by decide) ?_
        have q_v43_0 : v43_0 = (1 : Int32) := by rw [hv43_0, if_neg hc191_45]
        subst q_v43_0
        exact k)
    have hc199_47 : (if (¬ ((30000000 : Int64) < (((0 : Int64) + ((((50 : Int32) + (x0 &&& (1073741823 : Int32))).toInt64) + (x1 &&& (281474976710655 : Int64)))) + ((((50 : Int32) + (x2 &&& (1073741823 : Int32))).toInt64) + (x3 &&& (281474976710655 : Int64)))))) then (1 : Int32) else (0 : Int32)) = v43_0 := own_b _ _ _ hc178_41 hv43_0
    have P48 := own_go P46 (S' := T39.setTop (mkF m 207 #[iv x0, lv x1, .second, iv x2, lv x3, .second, iv x4, rv b1, iv (x0 &&& (1073741823 : Int32)), lv (x1 &&& (281474976710655 : Int64)), .second, iv (if (¬ ((30000000 : Int64) < ((0 : Int64) + ((((50 : Int32) + (x0 &&& (1073741823 : Int32))).toInt64) + (x1 &&& (281474976710655 : Int64)))))) then (1 : Int32) else (0 : Int32)), lv (((50 : Int64) + ((x0 &&& (1073741823 : Int32)).toInt64)) + (x1 &&& (281474976710655 : Int64))), .second, iv (x2 &&& (1073741823 : Int32)), lv (x3 &&& (281474976710655 : Int64)), .second, iv (if (¬ ((30000000 : Int64) < (((0 : Int64) + ((((50 : Int32) + (x0 &&& (1073741823 : Int32))).toInt64) + (x1 &&& (281474976710655 : Int64)))) + ((((50 : Int32) + (x2 &&& (1073741823 : Int32))).toInt64) + (x3 &&& (281474976710655 : Int64)))))) then (1 : Int32) else (0 : Int32)), lv ((((((50 : Int64) + ((x0 &&& (1073741823 : Int32)).toInt64)) + (x1 &&& (281474976710655 : Int64))) + (50 : Int64)) + ((x2 &&& (1073741823 : Int32)).toInt64)) + (x3 &&& (281474976710655 : Int64))), .second] [(.int 1)])) (by
      intro t k
      refine XS.icmpNo X39.here hx rfl (hb hby at_199) rfl (teq hc199_47).2 ?_
      refine XS.iconst X39.here hx rfl (hb hby at_202) ?_
      refine XS.goto X39.here hx rfl (pc0 := 203) (pc' := 207) rfl (hb hby at_203) (by decide) (by decide) ?_
      exact k)
    obtain ⟨fs, hr, hrun, hended, hW, hsame⟩ := X39.leave (v := some (.int 1)) (fun h => by rw [Bd.returns] at h; cases h)
    refine ⟨_, _, P48 _ ?_, hrun, hended, _, _, rfl, ?_, ⟨_, rfl⟩, hW, hsame.mono (by decide) (by decide)⟩
    · show Steps p.tables e below (T39.setTop (mkF m 207 #[iv x0, lv x1, .second, iv x2, lv x3, .second, iv x4, rv b1, iv (x0 &&& (1073741823 : Int32)), lv (x1 &&& (281474976710655 : Int64)), .second, iv (if (¬ ((30000000 : Int64) < ((0 : Int64) + ((((50 : Int32) + (x0 &&& (1073741823 : Int32))).toInt64) + (x1 &&& (281474976710655 : Int64)))))) then (1 : Int32) else (0 : Int32)), lv (((50 : Int64) + ((x0 &&& (1073741823 : Int32)).toInt64)) + (x1 &&& (281474976710655 : Int64))), .second, iv (x2 &&& (1073741823 : Int32)), lv (x3 &&& (281474976710655 : Int64)), .second, iv (if (¬ ((30000000 : Int64) < (((0 : Int64) + ((((50 : Int32) + (x0 &&& (1073741823 : Int32))).toInt64) + (x1 &&& (281474976710655 : Int64)))) + ((((50 : Int32) + (x2 &&& (1073741823 : Int32))).toInt64) + (x3 &&& (281474976710655 : Int64)))))) then (1 : Int32) else (0 : Int32)), lv ((((((50 : Int64) + ((x0 &&& (1073741823 : Int32)).toInt64)) + (x1 &&& (281474976710655 : Int64))) + (50 : Int64)) + ((x2 &&& (1073741823 : Int32)).toInt64)) + (x3 &&& (281474976710655 : Int64))), .second] [(.int 1)])) _
      exact retN X39 hx (t := .boolean) Bd.returns (by simp) (hb hby at_207) hr
    · show Q0 Z x0 x1 x2 x3 x4 h0 n0 _ T39.heap _
      rw [e39]
      exact ⟨rfl, N39⟩

set_option maxRecDepth 65536 in
set_option maxHeartbeats 40000000 in
theorem comes_1 {Post : Tables → Env → Array Value → State → Outcome → State → Prop} (hpost : ∀ tb e args s v u, (limb_1_1.after args s (.returned v) u = true ∧ limb_1_2.after args s (.returned v) u = true ∧ True) → FrameEnd s (.returned v) u (Jvm.fieldLocs frame_1_writes args s ++ Jvm.arrayLocs frame_1_arrays args s ++ Jvm.staticLocs frame_1_statics s) 16 128 → Post tb e args s (.returned v) u) :
    ArmFor flags0 classFile x code maxLocals ret World_1 tables_1 room_1 Calls_1 rest_1 Pre_1 Post := by
  intro l hfl _ _ p e ha hc hk s m args below hf hA hF happ hP
  obtain ⟨hcalls, hrest, hpre⟩ := hP
  obtain ⟨-, -, -, hnamed, -, -, -, hat⟩ := (Spec.applies_iff hf).mp happ
  obtain ⟨hg, hn⟩ := and_e (Cond.before_iff.mp (show (Jvm.Cond.and given_1 narrow_1).before args s = true from hpre))
  obtain ⟨hcnt, hgs0⟩ := and_e hg
  obtain ⟨hk0, hgs1⟩ := and_e hgs0
  obtain ⟨hk1, hgs2⟩ := and_e hgs1
  obtain ⟨hk2, hgs3⟩ := and_e hgs2
  obtain ⟨hk3, hgs4⟩ := and_e hgs3
  obtain ⟨w0, w1, w2, w3, w4, rfl⟩ : ∃ w0 w1 w2 w3 w4 : Value, args = #[w0, w1, w2, w3, w4] := by
    have hs : args.size = 5 := by simpa [Cond.value, given_1] using hcnt
    obtain ⟨L⟩ := args
    match L, hs with
    | [w0, w1, w2, w3, w4], _ => exact ⟨w0, w1, w2, w3, w4, rfl⟩
  have hw := fun d (hd : d ∈ tables_1) => atoms_spec (ws := Jvm.Cond.code x code maxLocals ret :: tables_1) hat d (List.mem_cons_of_mem _ hd)
  have hfit : Fit s := fun {y c} hc i hi => by
    obtain ⟨ha, rfl⟩ := Array.getElem?_eq_some_iff.mp hc
    have q := List.all_eq_true.mp ((Array.all_eq_true_iff_forall_mem.mp hF) _ (Array.getElem_mem ha)) i (List.mem_range.mpr hi)
    simpa [Array.getElem?_eq_getElem hi] using q
  obtain ⟨i0, ei0⟩ := is_v hk0
  obtain rfl : w0 = (.int i0) := Option.some.inj ei0
  obtain ⟨i1, ei1⟩ := isL_v hk1
  obtain rfl : w1 = (.long i1) := Option.some.inj ei1
  obtain ⟨i2, ei2⟩ := is_v hk2
  obtain rfl : w2 = (.int i2) := Option.some.inj ei2
  obtain ⟨i3, ei3⟩ := isL_v hk3
  obtain rfl : w3 = (.long i3) := Option.some.inj ei3
  obtain ⟨i4, ei4⟩ := is_v hgs4
  obtain rfl : w4 = (.int i4) := Option.some.inj ei4
  obtain ⟨n, o, h1, h2, h3, _, L, rfl, ⟨rfl, N⟩, hq⟩ := rm0 l s _ hw tables_1 i0 i1 i2 i3 i4 s.heap s.heap.size (Nat.le_refl _)  p e ha hc hk s m _ below hf ((Spec.applies_iff_loose hf).mp happ).1 ⟨rfl, State.Warmed39.refl s, rfl⟩ trivial
  refine ⟨n, _, h1, h2, h3, hpost _ _ _ _ _ _ ⟨Cond.after_iff.mpr rfl, Cond.after_iff.mpr (eq_i res_at (Term.int_eval (1)) rfl), trivial⟩ ⟨hq.1, hq.2.1, (hq.2.2.sift fun y hy => Or.inr (N y hy)).mono (by decide) (by decide)⟩⟩
theorem main_1_1 : Claimed_1_1 := comes_1 fun _ _ _ _ _ _ h hF => ⟨h.1, hF⟩
theorem main_1_2 : Claimed_1_2 := comes_1 fun _ _ _ _ _ _ h hF => ⟨h.2.1, hF⟩
end Jvm.Pilot.@@N@@
namespace Jvm.Pilot.@@N@@
open Jvm Jvm.ClassFile Sem Op Lib Jvm.Free Jvm.Stand Jvm.Pilot.@@N@@.Jvm.D
/-! MADE BY PROGRAM (witnessworld.py) out of the Statement's table words and the real class files: 9 classes; the members and pool entries that the words name. The judged class is class 1, her method 1. -/
namespace start1
open Jvm.ClassFile
def u (s : String) : CpInfo := .utf8 (stringToUtf16 s)
/-- a pool by its gaps: so many unusable entries, then the entry; so many at the end -/
def gap : Nat → List CpInfo → List CpInfo
  | 0, r => r
  | n + 1, r => .unusable :: gap n r
def poolList (es : List (Nat × CpInfo)) (last : Nat) : List CpInfo := es.foldr (fun e r => gap e.1 (e.2 :: r)) (gap last [])
def pool (es : List (Nat × CpInfo)) (last : Nat) : Array CpInfo := ⟨poolList es last⟩
def fileOf (pool : Array CpInfo) (this : Nat) (attrs : Array Attribute := #[]) (ms : Array MethodInfo := #[]) (fl : Nat := 33) (sup : Nat := 0) (ifs : Array Nat := #[]) (fds : Array FieldInfo := #[]) : ClassFile where
  minorVersion := 0
  majorVersion := 65
  constantPool := pool
  accessFlags := fl
  thisClass := this
  superClass := sup
  interfaces := ifs
  fields := fds
  methods := ms
  attributes := attrs
def plain (name : String) (sup : Option ClassId) : Class where
  name := name
  kind := .ordinary
  loader := none
  accessFlags := 33
  super := sup
  interfaces := #[]
  cf := none
  fields := #[]
  methods := #[]
  instanceTypes := #[]
  staticTypes := #[]
  resolved := #[]
  callSites := []
  init := .initialized
  statics := none
  mirror := none

def pool0 : Array CpInfo := pool [(5, u "<init>"), (0, u "()V"), (1, .class_ 10), (1, u "java/lang/Object")] 113

def k0c0 : Code := { maxStack := 0, maxLocals := 1, code := object_method_1_code, exceptionTable := #[], attributes := #[] }
def k0m0 : Method := { name := "<init>", desc := "()V", sig := { parameters := [], returnType := none }, accessFlags := 1, code := some k0c0 }
/-- java/lang/Object -/
def k0 : Class := { plain "java/lang/Object" none with
  accessFlags := 33
  interfaces := #[]
  cf := some (fileOf pool0 8 #[] #[{ accessFlags := 1, nameIndex := 5, descriptorIndex := 6, attributes := #[] }] 33 0 #[] #[])
  fields := #[]
  methods := #[k0m0]
  instanceTypes := #[]
  staticTypes := #[]
  resolved := Array.replicate 124 none
  statics := none }

def pool1 : Array CpInfo := pool [(2, .class_ 4), (0, .nameAndType 5 6), (0, u "java/lang/Object"), (0, u "<init>"), (0, u "()V"), (0, .class_ 8), (0, u "com/example/wardflow/wardflow/analysis/CheckLimits"), (0, .methodref 7 3), (0, .methodref 7 11), (0, .nameAndType 12 13), (0, u "loopSteps"), (0, u "()J"), (0, .integer 1073741823), (0, .long 281474976710655), (1, .integer 65535), (0, .long 29999950), (1, .methodref 7 21), (0, .nameAndType 22 23), (0, u "carry"), (0, u "(IJ)Z"), (0, .long 50), (1, .long 30000000), (1, .class_ 29), (0, u "com/example/wardflow/wardflow/analysis/CheckLimitsCarryPinLaw"), (2, u "law"), (0, u "(IJIJI)Z")] 3

def k1m0 : Method := { name := "<init>", desc := "()V", sig := { parameters := [], returnType := none }, accessFlags := 1, code := none }
def k1c1 : Code := { maxStack := 5, maxLocals := 20, code := code, exceptionTable := #[], attributes := #[] }
def k1m1 : Method := { name := "law", desc := "(IJIJI)Z", sig := { parameters := [.int, .long, .int, .long, .int], returnType := some .boolean }, accessFlags := 9, code := some k1c1 }
/-- com/example/wardflow/wardflow/analysis/CheckLimitsCarryPinLaw -/
def k1 : Class := { plain "com/example/wardflow/wardflow/analysis/CheckLimitsCarryPinLaw" (some 0) with
  accessFlags := 49
  interfaces := #[]
  cf := some (fileOf pool1 28 #[] #[{ accessFlags := 1, nameIndex := 5, descriptorIndex := 6, attributes := #[] }, { accessFlags := 9, nameIndex := 32, descriptorIndex := 33, attributes := #[] }] 49 2 #[] #[])
  fields := #[]
  methods := #[k1m0, k1m1]
  instanceTypes := #[]
  staticTypes := #[]
  resolved := Array.replicate 37 none
  statics := none }

def pool2 : Array CpInfo := pool [(1, .methodref 2 3), (0, .class_ 4), (0, .nameAndType 5 6), (0, u "java/lang/Object"), (0, u "<init>"), (0, u "()V"), (0, .class_ 8), (0, u "com/example/wardflow/wardflow/analysis/CheckLimits"), (6, u "stateShares"), (0, u "J"), (13, .fieldref 7 31), (0, .nameAndType 32 16), (0, u "loopSteps"), (0, .long 30000000), (20, u "walkSteps"), (32, u "MAX_STATES"), (0, u "I"), (2, u "STATE_SHARES"), (1, u "MAX_PATHS"), (1, u "MAX_STEPS"), (0, u "TRANSITION_STEPS"), (1, u "MAX_WALK_STEPS"), (0, u "LAY_OUT_STEPS"), (1, u "PATH_TRANSITION_STEPS"), (1, u "SEND_STEPS"), (1, u "LINE_STEPS"), (0, u "LISTED_STEPS"), (8, u "carry"), (0, u "(IJ)Z"), (2, u "()J")] 9

def k2c0 : Code := { maxStack := 1, maxLocals := 1, code := prog_7_method_1_code, exceptionTable := #[], attributes := #[] }
def k2m0 : Method := { name := "<init>", desc := "()V", sig := { parameters := [], returnType := none }, accessFlags := 0, code := some k2c0 }
def k2c1 : Code := { maxStack := 7, maxLocals := 4, code := prog_7_method_6_code, exceptionTable := #[], attributes := #[] }
def k2m1 : Method := { name := "carry", desc := "(IJ)Z", sig := { parameters := [.int, .long], returnType := some .boolean }, accessFlags := 0, code := some k2c1 }
def k2c2 : Code := { maxStack := 2, maxLocals := 1, code := prog_7_method_8_code, exceptionTable := #[], attributes := #[] }
def k2m2 : Method := { name := "loopSteps", desc := "()J", sig := { parameters := [], returnType := some .long }, accessFlags := 0, code := some k2c2 }
/-- com/example/wardflow/wardflow/analysis/CheckLimits -/
def k2 : Class := { plain "com/example/wardflow/wardflow/analysis/CheckLimits" (some 0) with
  accessFlags := 48
  interfaces := #[]
  cf := some (fileOf pool2 7 #[] #[{ accessFlags := 0, nameIndex := 5, descriptorIndex := 6, attributes := #[] }, { accessFlags := 0, nameIndex := 115, descriptorIndex := 116, attributes := #[] }, { accessFlags := 0, nameIndex := 32, descriptorIndex := 119, attributes := #[] }] 48 2 #[] #[{ accessFlags := 26, nameIndex := 87, descriptorIndex := 88, attributes := #[] }, { accessFlags := 26, nameIndex := 91, descriptorIndex := 88, attributes := #[] }, { accessFlags := 24, nameIndex := 93, descriptorIndex := 88, attributes := #[] }, { accessFlags := 26, nameIndex := 95, descriptorIndex := 16, attributes := #[] }, { accessFlags := 26, nameIndex := 96, descriptorIndex := 88, attributes := #[] }, { accessFlags := 26, nameIndex := 98, descriptorIndex := 16, attributes := #[] }, { accessFlags := 26, nameIndex := 99, descriptorIndex := 88, attributes := #[] }, { accessFlags := 26, nameIndex := 101, descriptorIndex := 88, attributes := #[] }, { accessFlags := 26, nameIndex := 103, descriptorIndex := 88, attributes := #[] }, { accessFlags := 26, nameIndex := 105, descriptorIndex := 88, attributes := #[] }, { accessFlags := 26, nameIndex := 106, descriptorIndex := 88, attributes := #[] }, { accessFlags := 2, nameIndex := 15, descriptorIndex := 16, attributes := #[] }, { accessFlags := 2, nameIndex := 32, descriptorIndex := 16, attributes := #[] }, { accessFlags := 2, nameIndex := 54, descriptorIndex := 16, attributes := #[] }])
  fields := #[{ name := "MAX_STATES", type := .int, accessFlags := 26, slot := 0, constantValue := 0 }, { name := "STATE_SHARES", type := .int, accessFlags := 26, slot := 1, constantValue := 0 }, { name := "MAX_PATHS", type := .int, accessFlags := 24, slot := 2, constantValue := 0 }, { name := "MAX_STEPS", type := .long, accessFlags := 26, slot := 3, constantValue := 0 }, { name := "TRANSITION_STEPS", type := .int, accessFlags := 26, slot := 4, constantValue := 0 }, { name := "MAX_WALK_STEPS", type := .long, accessFlags := 26, slot := 5, constantValue := 0 }, { name := "LAY_OUT_STEPS", type := .int, accessFlags := 26, slot := 6, constantValue := 0 }, { name := "PATH_TRANSITION_STEPS", type := .int, accessFlags := 26, slot := 7, constantValue := 0 }, { name := "SEND_STEPS", type := .int, accessFlags := 26, slot := 8, constantValue := 0 }, { name := "LINE_STEPS", type := .int, accessFlags := 26, slot := 9, constantValue := 0 }, { name := "LISTED_STEPS", type := .int, accessFlags := 26, slot := 10, constantValue := 0 }, { name := "stateShares", type := .long, accessFlags := 2, slot := 0, constantValue := 0 }, { name := "loopSteps", type := .long, accessFlags := 2, slot := 1, constantValue := 0 }, { name := "walkSteps", type := .long, accessFlags := 2, slot := 2, constantValue := 0 }]
  methods := #[k2m0, k2m1, k2m2]
  instanceTypes := #[.long, .long, .long]
  staticTypes := #[.int, .int, .int, .long, .int, .long, .int, .int, .int, .int, .int]
  resolved := Array.replicate 129 none
  statics := none }

def pool3 : Array CpInfo := pool [(1, u "java/lang/Cloneable"), (0, .class_ 1), (0, u "java/lang/Object"), (0, .class_ 3)] 3

/-- java/lang/Cloneable -/
def k3 : Class := { plain "java/lang/Cloneable" (some 0) with
  accessFlags := 1537
  interfaces := #[]
  cf := some (fileOf pool3 2 #[] #[] 1537 4 #[] #[])
  fields := #[]
  methods := #[]
  instanceTypes := #[]
  staticTypes := #[]
  resolved := Array.replicate 8 none
  statics := none }

def pool4 : Array CpInfo := pool [(1, u "java/io/Serializable"), (0, .class_ 1), (0, u "java/lang/Object"), (0, .class_ 3)] 3

/-- java/io/Serializable -/
def k4 : Class := { plain "java/io/Serializable" (some 0) with
  accessFlags := 1537
  interfaces := #[]
  cf := some (fileOf pool4 2 #[] #[] 1537 4 #[] #[])
  fields := #[]
  methods := #[]
  instanceTypes := #[]
  staticTypes := #[]
  resolved := Array.replicate 8 none
  statics := none }

/-- the primitive byte -/
def k5 : Class := { plain "byte" none with kind := .primitive 'B', accessFlags := 0x411 }
/-- [B -/
def k6 : Class := { plain "[B" (some 0) with kind := .array 5 .byte, interfaces := #[3, 4], accessFlags := 1041 }

/-- the primitive int -/
def k7 : Class := { plain "int" none with kind := .primitive 'I', accessFlags := 0x411 }
/-- [I -/
def k8 : Class := { plain "[I" (some 0) with kind := .array 7 .int, interfaces := #[3, 4], accessFlags := 1041 }

def heap : Heap := #[]
def classes : Array Class := #[k0, k1, k2, k3, k4, k5, k6, k7, k8]
def interned : List (Array UInt16 × Addr) := []
def slotsUsed : Nat := 0
def theMethod : MethodId := ⟨1, 1⟩
def args0 : Array Value := #[.int 5, .long 6, .int 7, .long 8, .int 9]
def aboutOver (below : List Frame) : State where
  vm := { classes := classes, interned := interned.toArray }
  heap := heap
  slotsUsed := slotsUsed
  threads := #[{ frames := .invoking theMethod args0 :: below }]
def below0 : List Frame := [.native { method := ⟨0, 0⟩, args := #[] }]
def about1 : State := aboutOver below0
def p0 : Program := .bare "" "" ""
def e0 : Env := launch0.env 0 0 0
theorem w_frames : about1.frames = Frame.invoking theMethod args0 :: below0 := rfl
set_option maxRecDepth 65536 in
theorem w_args : argsFit about1.vm theMethod args0 = true := by decide +kernel
set_option maxRecDepth 65536 in
theorem w_heap : heapFits about1 = true := by decide +kernel
set_option maxRecDepth 65536 in
theorem w_runnable : about1.curStatus? = some .runnable := by decide +kernel
set_option maxRecDepth 65536 in
theorem w_alone : about1.alone = true := by decide +kernel
set_option maxRecDepth 65536 in
theorem w_named : about1.methodNamed? x = some theMethod := by decide +kernel
set_option maxRecDepth 65536 in
theorem w_hears : about1.hears theMethod below0 = true := by decide +kernel
set_option maxRecDepth 65536 in
theorem w_ripe : about1.ripe theMethod args0 below0 = true := by decide +kernel
theorem w_running : about1.status = .running := rfl
set_option maxRecDepth 65536 in
theorem w_room : about1.hasRoom e0.platform room_1 = true :=
  launch0.hasRoom_least _ room_1 (by decide +kernel) (by decide +kernel) (by decide +kernel) (by decide +kernel) (by decide +kernel) (by decide +kernel)
theorem allAtoms_all (ts : List Jvm.Cond) (a : Array Jvm.Value) (st : Jvm.State) : (allAtoms ts).before a st = ts.all (fun c => c.before a st) := by
  induction ts with
  | nil => rfl
  | cons c t ih =>
    show (Jvm.Cond.and c (allAtoms t)).before a st = _
    rw [Jvm.Cond.before_and, ih, List.all_cons]
def words1 : List Jvm.Cond := Jvm.Cond.code x code maxLocals ret :: tables_1
/-- a 'code' word, met by the world's own term for the bytes: nothing is compared byte by byte -/
theorem code_word {y : MethodName} {bytes : ByteArray} {mx : Nat} {rt : Option FieldType} {a : Array Value} {s : State} {m : MethodId} {meth : Method} {c : Code} (h1 : s.methodNamed? y = some m) (h2 : s.vm.method? m = some meth) (h3 : meth.code = some c) (h4 : c.code = bytes)
    (h5 : (c.maxLocals == mx && c.exceptionTable.isEmpty && decide (c.maxStack ≤ mostOperands) && decide (meth.sig.returnType = rt) && !meth.locks && decide (parseMethodDescriptor y.desc = some meth.sig)) = true) : (Jvm.Cond.code y bytes mx rt).before a s = true := by
  simp only [Bool.and_eq_true, beq_iff_eq, Bool.not_eq_true', decide_eq_true_eq] at h5
  obtain ⟨⟨⟨⟨⟨g1, g2⟩, g3⟩, g4⟩, g5⟩, g6⟩ := h5
  simp [Cond.before, Cond.holds, Cond.value, h1, h2, h3, h4, g1, g2, g3, g4, g5, g6]
def isCode : Jvm.Cond → Bool
  | .code _ _ _ _ => true
  | _ => false
theorem all_split {L : List Jvm.Cond} {P : Jvm.Cond → Bool} (h1 : L.all (fun c => isCode c || P c) = true) (h2 : ∀ c ∈ L.filter isCode, P c = true) : L.all P = true := by
  refine List.all_eq_true.mpr fun c hc => ?_
  have h := List.all_eq_true.mp h1 c hc
  rcases Bool.eq_false_or_eq_true (isCode c) with hi | hi
  · exact h2 c (List.mem_filter.mpr ⟨hc, hi⟩)
  · simpa [hi] using h
set_option maxRecDepth 65536 in
theorem w_c0 : (Jvm.Cond.code x code maxLocals ret).before args0 about1 = true := code_word (m := ⟨1, 1⟩) (meth := k1m1) (c := k1c1) (by decide +kernel) rfl rfl rfl (by decide +kernel)
set_option maxRecDepth 65536 in
theorem w_c1 : (Jvm.Cond.code ({ cls := "com/example/wardflow/wardflow/analysis/CheckLimits", name := "<init>", desc := "()V" } : Jvm.MethodName) prog_7_method_1_code (1 : Nat) (Option.none : Option Jvm.ClassFile.FieldType)).before args0 about1 = true := code_word (m := ⟨2, 0⟩) (meth := k2m0) (c := k2c0) (by decide +kernel) rfl rfl rfl (by decide +kernel)
set_option maxRecDepth 65536 in
theorem w_c2 : (Jvm.Cond.code ({ cls := "java/lang/Object", name := "<init>", desc := "()V" } : Jvm.MethodName) object_method_1_code (1 : Nat) (Option.none : Option Jvm.ClassFile.FieldType)).before args0 about1 = true := code_word (m := ⟨0, 0⟩) (meth := k0m0) (c := k0c0) (by decide +kernel) rfl rfl rfl (by decide +kernel)
set_option maxRecDepth 65536 in
theorem w_c3 : (Jvm.Cond.code ({ cls := "com/example/wardflow/wardflow/analysis/CheckLimits", name := "loopSteps", desc := "()J" } : Jvm.MethodName) prog_7_method_8_code (1 : Nat) (Option.some Jvm.ClassFile.FieldType.long)).before args0 about1 = true := code_word (m := ⟨2, 2⟩) (meth := k2m2) (c := k2c2) (by decide +kernel) rfl rfl rfl (by decide +kernel)
set_option maxRecDepth 65536 in
theorem w_c4 : (Jvm.Cond.code ({ cls := "com/example/wardflow/wardflow/analysis/CheckLimits", name := "carry", desc := "(IJ)Z" } : Jvm.MethodName) prog_7_method_6_code (4 : Nat) (Option.some Jvm.ClassFile.FieldType.boolean)).before args0 about1 = true := code_word (m := ⟨2, 1⟩) (meth := k2m1) (c := k2c1) (by decide +kernel) rfl rfl rfl (by decide +kernel)
def codes1 : List Jvm.Cond := [Jvm.Cond.code x code maxLocals ret, Jvm.Cond.code ({ cls := "com/example/wardflow/wardflow/analysis/CheckLimits", name := "<init>", desc := "()V" } : Jvm.MethodName) prog_7_method_1_code (1 : Nat) (Option.none : Option Jvm.ClassFile.FieldType), Jvm.Cond.code ({ cls := "java/lang/Object", name := "<init>", desc := "()V" } : Jvm.MethodName) object_method_1_code (1 : Nat) (Option.none : Option Jvm.ClassFile.FieldType), Jvm.Cond.code ({ cls := "com/example/wardflow/wardflow/analysis/CheckLimits", name := "loopSteps", desc := "()J" } : Jvm.MethodName) prog_7_method_8_code (1 : Nat) (Option.some Jvm.ClassFile.FieldType.long), Jvm.Cond.code ({ cls := "com/example/wardflow/wardflow/analysis/CheckLimits", name := "carry", desc := "(IJ)Z" } : Jvm.MethodName) prog_7_method_6_code (4 : Nat) (Option.some Jvm.ClassFile.FieldType.boolean)]
set_option maxRecDepth 65536 in
theorem codes_eq : words1.filter isCode = codes1 := rfl
theorem w_codes : ∀ c ∈ words1.filter isCode, c.before args0 about1 = true := by
  rw [codes_eq]
  intro c hc
  simp only [codes1, List.mem_cons, List.not_mem_nil, or_false] at hc
  rcases hc with rfl | rfl | rfl | rfl | rfl
  · exact w_c0
  · exact w_c1
  · exact w_c2
  · exact w_c3
  · exact w_c4
set_option maxRecDepth 65536 in
theorem w_t1 : (words1.take 24).all (fun c => isCode c || c.before args0 about1) = true := by decide +kernel
set_option maxRecDepth 65536 in
theorem w_t2 : (words1.drop 24).all (fun c => isCode c || c.before args0 about1) = true := by decide +kernel
theorem w_tables : (allAtoms (Jvm.Cond.code x code maxLocals ret :: tables_1)).before args0 about1 = true := by
  rw [allAtoms_all]
  show words1.all (fun c => c.before args0 about1) = true
  refine all_split ?_ w_codes
  rw [← List.take_append_drop 24 words1, List.all_append, w_t1, w_t2]
  rfl
set_option maxRecDepth 65536 in
theorem w_case : (Jvm.Cond.and given_1 narrow_1).before args0 about1 = true := by decide +kernel
theorem w_applies : (headSpec (Jvm.Cond.code x code maxLocals ret :: tables_1) room_1).applies x e0.platform about1 = true :=
  (Spec.applies_iff w_frames).mpr ⟨w_running, w_runnable, w_alone, w_named, w_hears, w_ripe, w_room, w_tables⟩
theorem atStart : AtStart classFile x code maxLocals ret World_1 tables_1 room_1 Calls_1 rest_1 Pre_1 launch0 p0 e0 about1 theMethod args0 below0 :=
  ⟨lists_1, trivial, launch0.admits_env _ _ _, launch0.least_env, fairChoices_fair.cas, fairChoices_fair.clock, w_frames, w_args, w_heap, w_applies, trivial, trivial, w_case⟩
end start1
theorem witness_1 : WitnessClaimed_1 := ⟨start1.p0, start1.e0, start1.about1, start1.theMethod, start1.args0, start1.below0, start1.atStart⟩
end Jvm.Pilot.@@N@@
