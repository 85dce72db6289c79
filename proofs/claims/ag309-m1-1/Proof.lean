import JvmDerived
import JvmDerived.Pilot.@@N@@Statement
import JvmDerived.Pilot.@@N@@Code
set_option linter.unusedVariables false
set_option linter.unusedSimpArgs false
namespace Jvm.RoadKit
open Sem ClassFile Op Lib Jvm.Stand Jvm.Free Jvm.LawKit
section New
variable {p : Program} {l : Launch} {e : Env} {R : Room} {s : State} {m : MethodId} {args : Array Value} {below : List Frame} {meth : Method} {c : Code} {T : State} {locs : List Loc} {cells slots : Nat}
theorem retI (X : Stand p l e R s m args below meth c T locs cells slots) (hx : p.tables.exec = Jvm.exec) {pc : Nat} {Ls : Array Slot} {z : Int32} {rest : List Value} (hret : meth.sig.returnType = some .int) (hd : decode c.code pc = .ok (.ireturn, 1)) {fs : List Frame}
    (hl : ∀ (f : JFrame) (acts : List Action), f.method = m → f.locked = none → f.entered = [] → (doReturn e (T.setTop f) acts (some (.int z))).1 = T.setFrames fs) : Steps p.tables e below (T.setTop (mkF m pc Ls (.int z :: rest))) (T.setFrames fs) := by
  have hm' : T.vm.method? m = some meth := X.method'
  have hn : narrow .int (.int z) = .int z := rfl
  show Steps p.tables e below (T.setTop { method := m, pc := pc, locals := Ls, stack := _ :: rest, locked := none }) _
  jvm_step X.here [X.here.top, hx, hd, hm', hret, hn]
  first | (intro acts; rw [hl _ acts rfl rfl rfl]) | rw [hl _ _ rfl rfl rfl]
  exact Steps.refl _
end New
end Jvm.RoadKit
namespace Jvm.Pilot.@@N@@
open Jvm Jvm.ClassFile Sem Op Lib Jvm.Free Jvm.Stand Jvm.LawKit Jvm.RoadKit Bundle Jvm.Pilot.@@N@@.Jvm.D
abbrev lv (x : Int64) : Slot := .val (.long x)
theorem im (i : Nat) {d : Jvm.Cond} (h : tables_1[i]? = some d) : d ∈ tables_1 := List.mem_of_getElem? h
theorem own_go {tb : Tables} {e : Env} {below : List Frame} {S S' S0 : State} (P : ∀ t, Steps tb e below S t → Steps tb e below S0 t) (f : ∀ t, Steps tb e below S' t → Steps tb e below S t) : ∀ t, Steps tb e below S' t → Steps tb e below S0 t := fun t k => P t (f t k)
theorem own_sn {Z : State} {a0 : Array Value} {K O n d O' n' d' : String} (L : Laid Z a0 K O n d) (L' : Laid Z a0 K O' n' d') (hn : n ≠ n' := by decide) (ht : (parseFieldDescriptor d).isSome = true := by decide) (ht' : (parseFieldDescriptor d').isSome = true := by decide) : Jvm.RoadKit.slotOf Z O n d ≠ Jvm.RoadKit.slotOf Z O' n' d' := by
  obtain ⟨t, e⟩ := Option.isSome_iff_exists.mp ht
  obtain ⟨t', e'⟩ := Option.isSome_iff_exists.mp ht'
  exact slot_ne L L' hn e e'
theorem pn_0 : plainName "com/example/sets_in_bits/setsinbits/hashing/Hash128EqualsPinLaw" = true := by first | (simp [plainName, overriddenIn]; done) | decide +kernel
theorem d1_0 : decode prog_45_method_1_code 0 = .ok (.aload_n 0, 1) := by decide +kernel
theorem d1_1 : decode prog_45_method_1_code 1 = .ok (.invokespecial 1, 3) := by decide +kernel
theorem d1_4 : decode prog_45_method_1_code 4 = .ok (.aload_n 0, 1) := by decide +kernel
theorem d1_5 : decode prog_45_method_1_code 5 = .ok (.lload_n 1, 1) := by decide +kernel
theorem d1_6 : decode prog_45_method_1_code 6 = .ok (.putfield 7, 3) := by decide +kernel
theorem d1_9 : decode prog_45_method_1_code 9 = .ok (.aload_n 0, 1) := by decide +kernel
theorem d1_10 : decode prog_45_method_1_code 10 = .ok (.lload_n 3, 1) := by decide +kernel
theorem d1_11 : decode prog_45_method_1_code 11 = .ok (.putfield 13, 3) := by decide +kernel
theorem d1_14 : decode prog_45_method_1_code 14 = .ok (.return_, 1) := by decide +kernel
theorem pn_1 : plainName "com/example/sets_in_bits/setsinbits/hashing/Hash128" = true := by first | (simp [plainName, overriddenIn]; done) | decide +kernel
theorem d3_0 : decode prog_45_method_4_code 0 = .ok (.aload_n 1, 1) := by decide +kernel
theorem d3_1 : decode prog_45_method_4_code 1 = .ok (.instanceof 8, 3) := by decide +kernel
theorem d3_4 : decode prog_45_method_4_code 4 = .ok (.ifCond .eq 36, 3) := by decide +kernel
theorem d3_7 : decode prog_45_method_4_code 7 = .ok (.aload_n 1, 1) := by decide +kernel
theorem d3_8 : decode prog_45_method_4_code 8 = .ok (.checkcast 8, 3) := by decide +kernel
theorem d3_11 : decode prog_45_method_4_code 11 = .ok (.astore_n 2, 1) := by decide +kernel
theorem d3_12 : decode prog_45_method_4_code 12 = .ok (.aload_n 0, 1) := by decide +kernel
theorem d3_13 : decode prog_45_method_4_code 13 = .ok (.getfield 7, 3) := by decide +kernel
theorem d3_16 : decode prog_45_method_4_code 16 = .ok (.aload_n 2, 1) := by decide +kernel
theorem d3_17 : decode prog_45_method_4_code 17 = .ok (.getfield 7, 3) := by decide +kernel
theorem d3_20 : decode prog_45_method_4_code 20 = .ok (.lcmp, 1) := by decide +kernel
theorem d3_21 : decode prog_45_method_4_code 21 = .ok (.ifCond .ne 19, 3) := by decide +kernel
theorem d3_24 : decode prog_45_method_4_code 24 = .ok (.aload_n 0, 1) := by decide +kernel
theorem d3_25 : decode prog_45_method_4_code 25 = .ok (.getfield 13, 3) := by decide +kernel
theorem d3_28 : decode prog_45_method_4_code 28 = .ok (.aload_n 2, 1) := by decide +kernel
theorem d3_29 : decode prog_45_method_4_code 29 = .ok (.getfield 13, 3) := by decide +kernel
theorem d3_32 : decode prog_45_method_4_code 32 = .ok (.lcmp, 1) := by decide +kernel
theorem d3_33 : decode prog_45_method_4_code 33 = .ok (.ifCond .ne 7, 3) := by decide +kernel
theorem d3_36 : decode prog_45_method_4_code 36 = .ok (.iconst 1, 1) := by decide +kernel
theorem d3_37 : decode prog_45_method_4_code 37 = .ok (.goto 4, 3) := by decide +kernel
theorem d3_40 : decode prog_45_method_4_code 40 = .ok (.iconst 0, 1) := by decide +kernel
theorem d3_41 : decode prog_45_method_4_code 41 = .ok (.ireturn, 1) := by decide +kernel
theorem pn_3 : plainName "com/example/sets_in_bits/setsinbits/hashing/Hash128" = true := by first | (simp [plainName, overriddenIn]; done) | decide +kernel
theorem d4_0 : decode jdk_35_method_24_code 0 = .ok (.sipush 128, 3) := by decide +kernel
theorem d4_3 : decode jdk_35_method_24_code 3 = .ok (.istore_n 2, 1) := by decide +kernel
theorem d4_4 : decode jdk_35_method_24_code 4 = .ok (.lload_n 0, 1) := by decide +kernel
theorem d4_5 : decode jdk_35_method_24_code 5 = .ok (.ldc2_w 230, 3) := by decide +kernel
theorem d4_8 : decode jdk_35_method_24_code 8 = .ok (.lcmp, 1) := by decide +kernel
theorem d4_9 : decode jdk_35_method_24_code 9 = .ok (.ifCond .lt 22, 3) := by decide +kernel
theorem d4_12 : decode jdk_35_method_24_code 12 = .ok (.lload_n 0, 1) := by decide +kernel
theorem d4_13 : decode jdk_35_method_24_code 13 = .ok (.ldc2_w 232, 3) := by decide +kernel
theorem d4_16 : decode jdk_35_method_24_code 16 = .ok (.lcmp, 1) := by decide +kernel
theorem d4_17 : decode jdk_35_method_24_code 17 = .ok (.ifCond .gt 14, 3) := by decide +kernel
theorem d4_20 : decode jdk_35_method_24_code 20 = .ok (.getstatic 234, 3) := by decide +kernel
theorem d4_23 : decode jdk_35_method_24_code 23 = .ok (.lload_n 0, 1) := by decide +kernel
theorem d4_24 : decode jdk_35_method_24_code 24 = .ok (.l2i, 1) := by decide +kernel
theorem d4_25 : decode jdk_35_method_24_code 25 = .ok (.sipush 128, 3) := by decide +kernel
theorem d4_28 : decode jdk_35_method_24_code 28 = .ok (.iadd, 1) := by decide +kernel
theorem d4_29 : decode jdk_35_method_24_code 29 = .ok (.aaload, 1) := by decide +kernel
theorem d4_30 : decode jdk_35_method_24_code 30 = .ok (.areturn, 1) := by decide +kernel
theorem d4_31 : decode jdk_35_method_24_code 31 = .ok (.new 1, 3) := by decide +kernel
theorem d4_34 : decode jdk_35_method_24_code 34 = .ok (.dup, 1) := by decide +kernel
theorem d4_35 : decode jdk_35_method_24_code 35 = .ok (.lload_n 0, 1) := by decide +kernel
theorem d4_36 : decode jdk_35_method_24_code 36 = .ok (.invokespecial 240, 3) := by decide +kernel
theorem d4_39 : decode jdk_35_method_24_code 39 = .ok (.areturn, 1) := by decide +kernel
theorem pn_4 : plainName "java/lang/Long" = true := by first | (simp [plainName, overriddenIn]; done) | decide +kernel
theorem d5_0 : decode jdk_35_method_26_code 0 = .ok (.aload_n 0, 1) := by decide +kernel
theorem d5_1 : decode jdk_35_method_26_code 1 = .ok (.invokespecial 270, 3) := by decide +kernel
theorem d5_4 : decode jdk_35_method_26_code 4 = .ok (.aload_n 0, 1) := by decide +kernel
theorem d5_5 : decode jdk_35_method_26_code 5 = .ok (.lload_n 1, 1) := by decide +kernel
theorem d5_6 : decode jdk_35_method_26_code 6 = .ok (.putfield 273, 3) := by decide +kernel
theorem d5_9 : decode jdk_35_method_26_code 9 = .ok (.return_, 1) := by decide +kernel
theorem pn_5 : plainName "java/lang/Long" = true := by first | (simp [plainName, overriddenIn]; done) | decide +kernel
theorem d6_0 : decode jdk_18_method_1_code 0 = .ok (.aload_n 0, 1) := by decide +kernel
theorem d6_1 : decode jdk_18_method_1_code 1 = .ok (.invokespecial 1, 3) := by decide +kernel
theorem d6_4 : decode jdk_18_method_1_code 4 = .ok (.return_, 1) := by decide +kernel
theorem pn_6 : plainName "java/lang/Number" = true := by first | (simp [plainName, overriddenIn]; done) | decide +kernel
theorem la_0 {Z : State} {a0 : Array Value} (hw : ∀ d ∈ tables_1, d.before a0 Z = true) : Laid Z a0 "com/example/sets_in_bits/setsinbits/hashing/Hash128" "com/example/sets_in_bits/setsinbits/hashing/Hash128" "second" "J" := (Or.inr (hw _ (im 12 rfl)))
theorem la_1 {Z : State} {a0 : Array Value} (hw : ∀ d ∈ tables_1, d.before a0 Z = true) : Laid Z a0 "com/example/sets_in_bits/setsinbits/hashing/Hash128" "com/example/sets_in_bits/setsinbits/hashing/Hash128" "first" "J" := (Or.inr (hw _ (im 10 rfl)))
theorem pd_0 : parseMethodDescriptor "()V" = some ⟨[], none⟩ := by decide +kernel
theorem pd_1 : parseMethodDescriptor "(J)V" = some ⟨[.long], none⟩ := by decide +kernel
theorem pd_2 : parseMethodDescriptor "(JJ)V" = some ⟨[.long, .long], none⟩ := by decide +kernel
theorem pd_3 : parseMethodDescriptor "(Ljava/lang/Object;)Z" = some ⟨[(.object "java/lang/Object")], some .boolean⟩ := by decide +kernel
theorem pd_4 : parseMethodDescriptor "(J)Ljava/lang/Long;" = some ⟨[.long], some (.object "java/lang/Long")⟩ := by decide +kernel
theorem own_NS_root {Z : State} {a0 : Array Value} {O K : String} {n : Nat} (w : (Jvm.Cond.noSuperclass O).before a0 Z = true) (wk : (Jvm.Cond.instantiable K n).before a0 Z = true) (hn : O ≠ K) : NS Z O K := by
  obtain ⟨c, k, h1, h2, h3, -, -⟩ := Cond.noSuperclass_spec w
  obtain ⟨t, kt, g1, -⟩ := Cond.instantiable_spec wk
  have ne := ids_ne h1 g1 hn
  refine ⟨c, t, h1, g1, fun fuel => ?_⟩
  cases fuel with
  | zero => rfl
  | succ f => simp [Vm.isSubclassAux, ne, h2, h3]
theorem own_NS_no {Z : State} {a0 : Array Value} {C S K : String} {n : Nat} (w : (Jvm.Cond.superclass C S).before a0 Z = true) (wk : (Jvm.Cond.instantiable K n).before a0 Z = true) (q : NS Z C K) (hn : C ≠ K) : ∃ c t, Z.vm.findClass C = some c ∧ Z.vm.findClass K = some t ∧ Z.vm.assignable c t = false := by
  obtain ⟨c, t, h0, g0, n3⟩ := q
  obtain ⟨p, k, kp, h1, h2, h3, h4, h5, -, h7⟩ := Cond.superclass_spec h0 w
  obtain ⟨t', k', g1, g2, g5, g7, -, -⟩ := Cond.instantiable_spec wk
  cases g0.symm.trans g1
  have ne := ids_ne h0 g0 hn
  have g8 : k'.isInterface = false := by
    cases hi : k'.isInterface with
    | false => rfl
    | true => simp [hi] at g7
  refine ⟨c, t, h0, g0, ?_⟩
  show Z.vm.assignableAux (255 + 1) c t = false
  simp [Vm.assignableAux, ne, h2, g2, h5, g5, g8, Vm.isSubclass, n3]
theorem own_idx (x : Int64) (h1 : ¬ (x < (-128 : Int64))) (h2 : ¬ ((127 : Int64) < x)) : ¬ ((x.toInt32) + (128 : Int32)) < 0 ∧ ((x.toInt32) + (128 : Int32)) < (256 : Int32) := by
  rw [Int64.lt_iff_toInt_lt] at h1 h2
  have k1 : (-128 : Int64).toInt = -128 := by decide
  have k2 : (127 : Int64).toInt = 127 := by decide
  have k3 : (128 : Int32).toInt = 128 := by decide
  have k4 : (256 : Int32).toInt = 256 := by decide
  have k5 : (0 : Int32).toInt = 0 := by decide
  rw [k1] at h1
  rw [k2] at h2
  have c1 := c_l2i x
  have c2 := c_iadd x.toInt32 128
  have r1 := rng32 x.toInt32
  have r2 := rng32 (x.toInt32 + 128)
  rw [k3] at c2
  rw [Int32.lt_iff_toInt_lt, Int32.lt_iff_toInt_lt, k4, k5]
  omega
theorem own_ite {a b c d : Int64} {v : Int32} (h : v = (if a = c then (if b = d then (1 : Int32) else (0 : Int32)) else (0 : Int32))) : (if (a = c ∧ b = d) then (1 : Int32) else (0 : Int32)) = v := by
  rw [h]
  by_cases h1 : a = c <;> by_cases h2 : b = d <;> simp [h1, h2]
theorem own_ite' {a b c d : Int64} {v : Int32} (h : v = (if a = c then (if b = d then (1 : Int32) else (0 : Int32)) else (0 : Int32))) : (if (c = a ∧ d = b) then (1 : Int32) else (0 : Int32)) = v := by
  rw [h]; by_cases h1 : a = c
  · by_cases h2 : b = d
    · rw [if_pos h1, if_pos h2, if_pos ⟨h1.symm, h2.symm⟩]
    · rw [if_pos h1, if_neg h2, if_neg (fun q => h2 q.2.symm)]
  · rw [if_neg h1, if_neg (fun q => h1 q.1.symm)]
theorem own_len {args : Array Value} {s : State} {t : Term} {a : Addr} {c : Cell} {z : Int32} (ev : t.eval args s none [] s = some (.ref a)) (ha : s.arrayAt? a = some c) (h : (Term.length t).eval args s none [] s = some (.int z)) : c.slots.size < 2 ^ 31 ∧ c.slots.size.toInt32 = z := by
  by_cases hl : c.slots.size < 2 ^ 31
  · exact ⟨hl, Value.int.inj (Option.some.inj ((len_f ev ha hl).symm.trans h))⟩
  · simp [Term.eval, ev, ha, hl] at h
theorem own_sub {args : Array Value} {first s : State} {o : Option Outcome} {idx : List Nat} {a b : Term} {x y : Int32} (h1 : a.eval args first o idx s = some (.int x)) (h2 : b.eval args first o idx s = some (.int y)) : (Term.sub a b).eval args first o idx s = some (.int (x - y)) := by simp [Term.eval, h1, h2]

def Q1 (Z : State) (x0 : Addr) (x1 : Int64) (x2 : Int64) (h0 : Heap) (n0 : Nat) (v : Option Value) (h : Heap) (L : List Loc) : Prop := v = none ∧ Fr n0 L ∧ Keep h0 h [x0] ∧ Exa Z h x0 "com/example/sets_in_bits/setsinbits/hashing/Hash128" ∧ Fld Z h x0 "com/example/sets_in_bits/setsinbits/hashing/Hash128" "first" "J" (.long x1) ∧ Fld Z h x0 "com/example/sets_in_bits/setsinbits/hashing/Hash128" "second" "J" (.long x2)
theorem ef_1 (m : MethodId) (x0 : Addr) (x1 : Int64) (x2 : Int64) : entryFrame m #[(.ref x0), (.long x1), (.long x2)] 5 = mkF m 0 #[rv x0, lv x1, .second, lv x2, .second] [] := by first | (simp [entryFrame, mkF, argsToLocals, Value.category]; done) | rfl
set_option maxRecDepth 65536 in
set_option maxHeartbeats 40000000 in
theorem rm1 (l : Launch) (Z : State) (a0 : Array Value) (hw : ∀ d ∈ tables_1, d.before a0 Z = true) (ws : List Jvm.Cond) (x0 : Addr) (x1 : Int64) (x2 : Int64) (h0 : Heap) (n0 : Nat) (Z0 : n0 ≤ h0.size) (pre_E_x0 : Exa Z h0 x0 "com/example/sets_in_bits/setsinbits/hashing/Hash128") (pre_F_x0_first : Fld Z h0 x0 "com/example/sets_in_bits/setsinbits/hashing/Hash128" "first" "J" (.long 0)) (pre_F_x0_second : Fld Z h0 x0 "com/example/sets_in_bits/setsinbits/hashing/Hash128" "second" "J" (.long 0)) (g_x0 : n0 ≤ x0) :
    MetFree l (⟨"com/example/sets_in_bits/setsinbits/hashing/Hash128", "<init>", "(JJ)V"⟩ : MethodName) (head1 (Jvm.Cond.code (⟨"com/example/sets_in_bits/setsinbits/hashing/Hash128", "<init>", "(JJ)V"⟩ : MethodName) prog_45_method_1_code 5 none :: ws) ({ frames := 1, cells := 0, slots := 0, locals := 12 } : Room)) (fun a U => a = #[(.ref x0), (.long x1), (.long x2)] ∧ Z.Warmed39 U.vm ∧ U.heap = h0) (fun _ _ _ _ _ => True) (fun _ U o U' => ∃ v L, o = .returned v ∧ Q1 Z x0 x1 x2 h0 n0 v U'.heap L ∧ FrameEnd U o U' L ({ frames := 1, cells := 0, slots := 0, locals := 12 } : Room).cells ({ frames := 1, cells := 0, slots := 0, locals := 12 } : Room).slots) := by
  refine MetFree.of_bodySF (plainFor_of_name pn_1) hisR ?_
  intro p e s m args below meth c s₁ Bd hml0 hP hK
  obtain ⟨rfl, hZ, hh⟩ := hP
  have hx := Bd.exec
  have hby := Bd.bytes
  have hml : c.maxLocals = 5 := hml0
  have hown : s.vm.findClass "com/example/sets_in_bits/setsinbits/hashing/Hash128" = some m.cls := findClass_of_methodNamed Bd.named
  have hnm := (name_of_methodNamed Bd.named Bd.method).1
  have X0 : Stand p l e ({ frames := 1, cells := 0, slots := 0, locals := 12 } : Room) s m #[(.ref x0), (.long x1), (.long x2)] below meth c s₁ [] 0 0 := Stand.of_body Bd
  have e0 : s₁.heap = h0 := by rw [← hh, Bd.state]; rfl
  have N0 := Fr.nil n0
  have Kp0 := Keep.refl h0 [x0]
  have P0 : ∀ t, Steps p.tables e below (s₁.setTop (mkF m 0 #[rv x0, lv x1, .second, lv x2, .second] [])) t → Steps p.tables e below (s₁.setTop (entryFrame m #[(.ref x0), (.long x1), (.long x2)] 5)) t := fun t k => castTop (ef_1 m x0 x1 x2) k
  obtain ⟨T1, X1, e1, st1⟩ := initO X0 hx hZ hown (hw _ (im 6 rfl)) (hw _ (im 7 rfl)) (hw _ (im 8 rfl)) e0 (g := (mkF m 1 #[rv x0, lv x1, .second, lv x2, .second] [(.ref x0)])) rfl (by rw [hml]; rfl) rfl (hb hby d1_1) (by decide) (W := 0) (by show 2 * 0 + _ ≤ _; exact Nat.le_of_eq rfl) (by decide)
  obtain ⟨T2, h2, X2, e2, W2, st2⟩ := putF X1 hx hZ hown (host := "") (Or.inl (hw _ (im 9 rfl))) Via.refl e1 pre_F_x0_first pre_E_x0 (Or.inr ⟨(hw _ (im 10 rfl)), rfl, hnm⟩) (hw _ (im 1 rfl)) (ty := .long) (by decide) rfl rfl (g := (mkF m 6 #[rv x0, lv x1, .second, lv x2, .second] [(.long x1), (.ref x0)])) rfl rfl (hb hby d1_6)
  have Fw2 := pre_F_x0_first.same W2
  have Z2_ : n0 ≤ h2.size := Nat.le_trans Z0 (Nat.le_of_eq W2.size.symm)
  have N2 := Fr.snoc X2 N0 g_x0
  have KK2 := Kp0.wr W2 (Or.inl (List.mem_of_getElem? (i := 0) rfl))
  have q3 := (pre_F_x0_second.other W2 (Or.inr (own_sn (la_0 hw) (la_1 hw))))
  have q4 := (pre_E_x0.wr W2)
  obtain ⟨T5, h5, X5, e5, W5, st5⟩ := putF X2 hx hZ hown (host := "") (Or.inl (hw _ (im 11 rfl))) Via.refl e2 q3 q4 (Or.inr ⟨(hw _ (im 12 rfl)), rfl, hnm⟩) (hw _ (im 1 rfl)) (ty := .long) (by decide) rfl rfl (g := (mkF m 11 #[rv x0, lv x1, .second, lv x2, .second] [(.long x2), (.ref x0)])) rfl rfl (hb hby d1_11)
  have Fw5 := q3.same W5
  have Z5_ : n0 ≤ h5.size := Nat.le_trans Z2_ (Nat.le_of_eq W5.size.symm)
  have N5 := Fr.snoc X5 N2 g_x0
  have KK5 := KK2.wr W5 (Or.inl (List.mem_of_getElem? (i := 0) rfl))
  have P6 := own_go P0 (S' := T5.setTop (mkF m 14 #[rv x0, lv x1, .second, lv x2, .second] [])) (by
    intro t k
    refine XS.aloadN X0.here hx rfl (hb hby d1_0) rfl rfl ?_
    refine st1 _ ?_
    refine XS.aloadN X1.here hx rfl (hb hby d1_4) rfl rfl ?_
    refine XS.lloadN X1.here hx rfl (hb hby d1_5) rfl ?_
    refine st2 _ ?_
    refine XS.aloadN X2.here hx rfl (hb hby d1_9) rfl rfl ?_
    refine XS.lloadN X2.here hx rfl (hb hby d1_10) rfl ?_
    refine st5 _ ?_
    show Steps p.tables e below (T5.setTop (mkF m 14 #[rv x0, lv x1, .second, lv x2, .second] [])) _
    exact k)
  have q7 := (q4.wr W5)
  have q8 := (Fw2.other W5 (Or.inr (own_sn (la_1 hw) (la_0 hw))))
  obtain ⟨fs, hr, hrun, hended, hW, hsame⟩ := X5.leave (v := none) (fun _ => rfl)
  refine ⟨_, _, P6 _ ?_, hrun, hended, _, _, rfl, ?_, ⟨_, rfl⟩, hW, hsame.mono (by decide) (by decide)⟩
  · show Steps p.tables e below (T5.setTop (mkF m 14 #[rv x0, lv x1, .second, lv x2, .second] [])) _
    exact X5.returnOut hx Bd.returns (hb hby d1_14) hr
  · show Q1 Z x0 x1 x2 h0 n0 _ T5.heap _
    rw [e5]
    exact ⟨rfl, N5, KK5, q7, q8, Fw5⟩
def Q3 (Z : State) (x0 : Addr) (x1 : Addr) (a : Int64) (b : Int64) (c2 : Int64) (d2 : Int64) (h0 : Heap) (n0 : Nat) (v : Option Value) (h : Heap) (L : List Loc) : Prop := v = some (.int (if (a = c2 ∧ b = d2) then (1 : Int32) else (0 : Int32))) ∧ Fr n0 L ∧ h = h0
theorem ef_3 (m : MethodId) (x0 : Addr) (x1 : Addr) : entryFrame m #[(.ref x0), (.ref x1)] 3 = mkF m 0 #[rv x0, rv x1, .unset] [] := by first | (simp [entryFrame, mkF, argsToLocals, Value.category]; done) | rfl
set_option maxRecDepth 65536 in
set_option maxHeartbeats 40000000 in
theorem rm3 (l : Launch) (Z : State) (a0 : Array Value) (hw : ∀ d ∈ tables_1, d.before a0 Z = true) (ws : List Jvm.Cond) (x0 : Addr) (x1 : Addr) (a : Int64) (b : Int64) (c2 : Int64) (d2 : Int64) (h0 : Heap) (n0 : Nat) (Z0 : n0 ≤ h0.size) (pre_E_x1 : Exa Z h0 x1 "com/example/sets_in_bits/setsinbits/hashing/Hash128") (pre_F_x0_first : Fld Z h0 x0 "com/example/sets_in_bits/setsinbits/hashing/Hash128" "first" "J" (.long a)) (pre_F_x0_second : Fld Z h0 x0 "com/example/sets_in_bits/setsinbits/hashing/Hash128" "second" "J" (.long b)) (pre_F_x1_first : Fld Z h0 x1 "com/example/sets_in_bits/setsinbits/hashing/Hash128" "first" "J" (.long c2)) (pre_F_x1_second : Fld Z h0 x1 "com/example/sets_in_bits/setsinbits/hashing/Hash128" "second" "J" (.long d2)) :
    MetFree l (⟨"com/example/sets_in_bits/setsinbits/hashing/Hash128", "equals", "(Ljava/lang/Object;)Z"⟩ : MethodName) (head1 (Jvm.Cond.code (⟨"com/example/sets_in_bits/setsinbits/hashing/Hash128", "equals", "(Ljava/lang/Object;)Z"⟩ : MethodName) prog_45_method_4_code 3 (some .boolean) :: ws) ({ frames := 0, cells := 0, slots := 0, locals := 0 } : Room)) (fun a U => a = #[(.ref x0), (.ref x1)] ∧ Z.Warmed39 U.vm ∧ U.heap = h0) (fun _ _ _ _ _ => True) (fun _ U o U' => ∃ v L, o = .returned v ∧ Q3 Z x0 x1 a b c2 d2 h0 n0 v U'.heap L ∧ FrameEnd U o U' L ({ frames := 0, cells := 0, slots := 0, locals := 0 } : Room).cells ({ frames := 0, cells := 0, slots := 0, locals := 0 } : Room).slots) := by
  refine MetFree.of_bodySF (plainFor_of_name pn_3) hisR ?_
  intro p e s m args below meth c s₁ Bd hml0 hP hK
  obtain ⟨rfl, hZ, hh⟩ := hP
  have hx := Bd.exec
  have hby := Bd.bytes
  have hml : c.maxLocals = 3 := hml0
  have hown : s.vm.findClass "com/example/sets_in_bits/setsinbits/hashing/Hash128" = some m.cls := findClass_of_methodNamed Bd.named
  have hnm := (name_of_methodNamed Bd.named Bd.method).1
  have X0 : Stand p l e ({ frames := 0, cells := 0, slots := 0, locals := 0 } : Room) s m #[(.ref x0), (.ref x1)] below meth c s₁ [] 0 0 := Stand.of_body Bd
  have e0 : s₁.heap = h0 := by rw [← hh, Bd.state]; rfl
  have N0 := Fr.nil n0
  have Kp0 := Keep.refl h0 []
  have P0 : ∀ t, Steps p.tables e below (s₁.setTop (mkF m 0 #[rv x0, rv x1, .unset] [])) t → Steps p.tables e below (s₁.setTop (entryFrame m #[(.ref x0), (.ref x1)] 3)) t := fun t k => castTop (ef_3 m x0 x1) k
  obtain ⟨T1, X1, e1, st1⟩ := instY X0 hx hZ hown (hw _ (im 18 rfl)) e0 (Ins.self pre_E_x1) (g := (mkF m 1 #[rv x0, rv x1, .unset] [(.ref x1)])) rfl rfl (hb hby d3_1)
  obtain ⟨T3, X3, e3, st3⟩ := castY X1 hx hZ hown (hw _ (im 18 rfl)) e1 (Ins.self pre_E_x1) (g := (mkF m 8 #[rv x0, rv x1, .unset] [(.ref x1)])) rfl rfl (hb hby d3_8)
  obtain ⟨T4, X4, e4, st4⟩ := getF X3 hx hZ hown (host := "") (Or.inl (hw _ (im 9 rfl))) Via.refl e3 pre_F_x0_first (g := (mkF m 13 #[rv x0, rv x1, rv x1] [(.ref x0)])) rfl rfl (hb hby d3_13)
  obtain ⟨T5, X5, e5, st5⟩ := getF X4 hx hZ hown (host := "") (Or.inl (hw _ (im 9 rfl))) Via.refl e4 pre_F_x1_first (g := (mkF m 17 #[rv x0, rv x1, rv x1] [(.ref x1), (.long a)])) rfl rfl (hb hby d3_17)
  have P7 := own_go P0 (S' := T5.setTop (mkF m 21 #[rv x0, rv x1, rv x1] [(.int (lcmpW a c2))])) (by
    intro t k
    refine XS.aloadN X0.here hx rfl (hb hby d3_0) rfl rfl ?_
    refine st1 _ ?_
    refine XS.ifNo X1.here hx rfl (hb hby d3_4) rfl ((if0 _ _).trans (feq (by decide)).1) ?_
    refine XS.aloadN X1.here hx rfl (hb hby d3_7) rfl rfl ?_
    refine st3 _ ?_
    refine XS.astoreN X3.here hx rfl (hb hby d3_11) rfl rfl (l' := #[rv x0, rv x1, rv x1]) rfl ?_
    refine XS.aloadN X3.here hx rfl (hb hby d3_12) rfl rfl ?_
    refine st4 _ ?_
    show Steps p.tables e below (T4.setTop (mkF m 16 #[rv x0, rv x1, rv x1] [(.long a)])) _
    refine XS.aloadN X4.here hx rfl (hb hby d3_16) rfl rfl ?_
    refine st5 _ ?_
    refine XS.lcmp X5.here hx rfl (hb hby d3_20) rfl ?_
    exact k)
  by_cases hc21_6 : a = c2
  · obtain ⟨T8, X8, e8, st8⟩ := getF X5 hx hZ hown (host := "") (Or.inl (hw _ (im 11 rfl))) Via.refl e5 pre_F_x0_second (g := (mkF m 25 #[rv x0, rv x1, rv x1] [(.ref x0)])) rfl rfl (hb hby d3_25)
    obtain ⟨T9, X9, e9, st9⟩ := getF X8 hx hZ hown (host := "") (Or.inl (hw _ (im 11 rfl))) Via.refl e8 pre_F_x1_second (g := (mkF m 29 #[rv x0, rv x1, rv x1] [(.ref x1), (.long b)])) rfl rfl (hb hby d3_29)
    have P11 := own_go P7 (S' := T9.setTop (mkF m 33 #[rv x0, rv x1, rv x1] [(.int (lcmpW b d2))])) (by
      intro t k
      refine XS.ifNo X5.here hx rfl (hb hby d3_21) rfl ((if0 _ _).trans (teq ((lw_eq a c2).mpr hc21_6)).2) ?_
      refine XS.aloadN X5.here hx rfl (hb hby d3_24) rfl rfl ?_
      refine st8 _ ?_
      refine XS.aloadN X8.here hx rfl (hb hby d3_28) rfl rfl ?_
      refine st9 _ ?_
      refine XS.lcmp X9.here hx rfl (hb hby d3_32) rfl ?_
      exact k)
    by_cases hc33_10 : b = d2
    · have P12 := own_go P11 (S' := T9.setTop (mkF m 41 #[rv x0, rv x1, rv x1] [(.int 1)])) (by
        intro t k
        refine XS.ifNo X9.here hx rfl (hb hby d3_33) rfl ((if0 _ _).trans (teq ((lw_eq b d2).mpr hc33_10)).2) ?_
        refine XS.iconst X9.here hx rfl (hb hby d3_36) ?_
        refine XS.goto X9.here hx rfl (pc0 := 37) (pc' := 41) rfl (hb hby d3_37) (by decide) (by decide) ?_
        exact k)
      obtain ⟨fs, hr, hrun, hended, hW, hsame⟩ := X9.leave (v := some (.int 1)) (fun h => by rw [Bd.returns] at h; cases h)
      refine ⟨_, _, P12 _ ?_, hrun, hended, _, _, rfl, ?_, ⟨_, rfl⟩, hW, hsame.mono (by decide) (by decide)⟩
      · show Steps p.tables e below (T9.setTop (mkF m 41 #[rv x0, rv x1, rv x1] [(.int 1)])) _
        exact retN X9 hx (t := .boolean) Bd.returns (by simp) (hb hby d3_41) hr
      · show Q3 Z x0 x1 a b c2 d2 h0 n0 _ T9.heap _
        rw [e9]
        exact ⟨(by first | rfl | simp [hc21_6, hc33_10]), N0, rfl⟩
    · have P13 := own_go P11 (S' := T9.setTop (mkF m 41 #[rv x0, rv x1, rv x1] [(.int 0)])) (by
        intro t k
        refine XS.ifYes X9.here hx rfl (pc0 := 33) (pc' := 40) rfl (hb hby d3_33) rfl ((if0 _ _).trans (feq (fun q => hc33_10 ((lw_eq b d2).mp q))).2) (by decide) (by decide) ?_
        refine XS.iconst X9.here hx rfl (hb hby d3_40) ?_
        exact k)
      obtain ⟨fs, hr, hrun, hended, hW, hsame⟩ := X9.leave (v := some (.int 0)) (fun h => by rw [Bd.returns] at h; cases h)
      refine ⟨_, _, P13 _ ?_, hrun, hended, _, _, rfl, ?_, ⟨_, rfl⟩, hW, hsame.mono (by decide) (by decide)⟩
      · show Steps p.tables e below (T9.setTop (mkF m 41 #[rv x0, rv x1, rv x1] [(.int 0)])) _
        exact retN X9 hx (t := .boolean) Bd.returns (by simp) (hb hby d3_41) hr
      · show Q3 Z x0 x1 a b c2 d2 h0 n0 _ T9.heap _
        rw [e9]
        exact ⟨(by first | rfl | simp [hc21_6, hc33_10]), N0, rfl⟩
  · have P14 := own_go P7 (S' := T5.setTop (mkF m 41 #[rv x0, rv x1, rv x1] [(.int 0)])) (by
      intro t k
      refine XS.ifYes X5.here hx rfl (pc0 := 21) (pc' := 40) rfl (hb hby d3_21) rfl ((if0 _ _).trans (feq (fun q => hc21_6 ((lw_eq a c2).mp q))).2) (by decide) (by decide) ?_
      refine XS.iconst X5.here hx rfl (hb hby d3_40) ?_
      exact k)
    obtain ⟨fs, hr, hrun, hended, hW, hsame⟩ := X5.leave (v := some (.int 0)) (fun h => by rw [Bd.returns] at h; cases h)
    refine ⟨_, _, P14 _ ?_, hrun, hended, _, _, rfl, ?_, ⟨_, rfl⟩, hW, hsame.mono (by decide) (by decide)⟩
    · show Steps p.tables e below (T5.setTop (mkF m 41 #[rv x0, rv x1, rv x1] [(.int 0)])) _
      exact retN X5 hx (t := .boolean) Bd.returns (by simp) (hb hby d3_41) hr
    · show Q3 Z x0 x1 a b c2 d2 h0 n0 _ T5.heap _
      rw [e5]
      exact ⟨(by first | rfl | simp [hc21_6]), N0, rfl⟩
def Q3n (Z : State) (x0 : Addr) (h0 : Heap) (n0 : Nat) (v : Option Value) (h : Heap) (L : List Loc) : Prop := v = some (.int 0) ∧ Fr n0 L ∧ h = h0
theorem ef_3n (m : MethodId) (x0 : Addr) : entryFrame m #[(.ref x0), .null] 3 = mkF m 0 #[rv x0, .val .null, .unset] [] := by first | (simp [entryFrame, mkF, argsToLocals, Value.category]; done) | rfl
set_option maxRecDepth 65536 in
set_option maxHeartbeats 40000000 in
theorem rm3n (l : Launch) (Z : State) (a0 : Array Value) (hw : ∀ d ∈ tables_1, d.before a0 Z = true) (ws : List Jvm.Cond) (x0 : Addr) (h0 : Heap) (n0 : Nat) (Z0 : n0 ≤ h0.size) :
    MetFree l (⟨"com/example/sets_in_bits/setsinbits/hashing/Hash128", "equals", "(Ljava/lang/Object;)Z"⟩ : MethodName) (head1 (Jvm.Cond.code (⟨"com/example/sets_in_bits/setsinbits/hashing/Hash128", "equals", "(Ljava/lang/Object;)Z"⟩ : MethodName) prog_45_method_4_code 3 (some .boolean) :: ws) ({ frames := 0, cells := 0, slots := 0, locals := 0 } : Room)) (fun a U => a = #[(.ref x0), .null] ∧ Z.Warmed39 U.vm ∧ U.heap = h0) (fun _ _ _ _ _ => True) (fun _ U o U' => ∃ v L, o = .returned v ∧ Q3n Z x0 h0 n0 v U'.heap L ∧ FrameEnd U o U' L ({ frames := 0, cells := 0, slots := 0, locals := 0 } : Room).cells ({ frames := 0, cells := 0, slots := 0, locals := 0 } : Room).slots) := by
  refine MetFree.of_bodySF (plainFor_of_name pn_3) hisR ?_
  intro p e s m args below meth c s₁ Bd hml0 hP hK
  obtain ⟨rfl, hZ, hh⟩ := hP
  have hx := Bd.exec
  have hby := Bd.bytes
  have hml : c.maxLocals = 3 := hml0
  have hown : s.vm.findClass "com/example/sets_in_bits/setsinbits/hashing/Hash128" = some m.cls := findClass_of_methodNamed Bd.named
  have hnm := (name_of_methodNamed Bd.named Bd.method).1
  have X0 : Stand p l e ({ frames := 0, cells := 0, slots := 0, locals := 0 } : Room) s m #[(.ref x0), .null] below meth c s₁ [] 0 0 := Stand.of_body Bd
  have e0 : s₁.heap = h0 := by rw [← hh, Bd.state]; rfl
  have N0 := Fr.nil n0
  have Kp0 := Keep.refl h0 []
  have P0 : ∀ t, Steps p.tables e below (s₁.setTop (mkF m 0 #[rv x0, .val .null, .unset] [])) t → Steps p.tables e below (s₁.setTop (entryFrame m #[(.ref x0), .null] 3)) t := fun t k => castTop (ef_3n m x0) k
  have P2 := own_go P0 (S' := s₁.setTop (mkF m 41 #[rv x0, .val .null, .unset] [(.int 0)])) (by
    intro t k
    refine XS.aloadN X0.here hx rfl (hb hby d3_0) rfl rfl ?_
    refine X0.instanceofNull hx (g := (mkF m 1 #[rv x0, .val .null, .unset] [.null])) rfl rfl (hb hby d3_1) _ ?_
    refine XS.ifYes X0.here hx rfl (pc0 := 4) (pc' := 40) rfl (hb hby d3_4) rfl ((if0 _ _).trans (teq (by decide)).1) (by decide) (by decide) ?_
    refine XS.iconst X0.here hx rfl (hb hby d3_40) ?_
    exact k)
  obtain ⟨fs, hr, hrun, hended, hW, hsame⟩ := X0.leave (v := some (.int 0)) (fun h => by rw [Bd.returns] at h; cases h)
  refine ⟨_, _, P2 _ ?_, hrun, hended, _, _, rfl, ?_, ⟨_, rfl⟩, hW, hsame.mono (by decide) (by decide)⟩
  · show Steps p.tables e below (s₁.setTop (mkF m 41 #[rv x0, .val .null, .unset] [(.int 0)])) _
    exact retN X0 hx (t := .boolean) Bd.returns (by simp) (hb hby d3_41) hr
  · show Q3n Z x0 h0 n0 _ s₁.heap _
    rw [e0]
    exact ⟨rfl, N0, rfl⟩
def Q3l (Z : State) (x0 : Addr) (x1 : Addr) (h0 : Heap) (n0 : Nat) (v : Option Value) (h : Heap) (L : List Loc) : Prop := v = some (.int 0) ∧ Fr n0 L ∧ h = h0
theorem ef_3l (m : MethodId) (x0 : Addr) (x1 : Addr) : entryFrame m #[(.ref x0), (.ref x1)] 3 = mkF m 0 #[rv x0, rv x1, .unset] [] := by first | (simp [entryFrame, mkF, argsToLocals, Value.category]; done) | rfl
set_option maxRecDepth 65536 in
set_option maxHeartbeats 40000000 in
theorem rm3l (l : Launch) (Z : State) (a0 : Array Value) (hw : ∀ d ∈ tables_1, d.before a0 Z = true) (ws : List Jvm.Cond) (x0 : Addr) (x1 : Addr) (h0 : Heap) (n0 : Nat) (Z0 : n0 ≤ h0.size) (pre_E_x1 : Exa Z h0 x1 "java/lang/Long") :
    MetFree l (⟨"com/example/sets_in_bits/setsinbits/hashing/Hash128", "equals", "(Ljava/lang/Object;)Z"⟩ : MethodName) (head1 (Jvm.Cond.code (⟨"com/example/sets_in_bits/setsinbits/hashing/Hash128", "equals", "(Ljava/lang/Object;)Z"⟩ : MethodName) prog_45_method_4_code 3 (some .boolean) :: ws) ({ frames := 0, cells := 0, slots := 0, locals := 0 } : Room)) (fun a U => a = #[(.ref x0), (.ref x1)] ∧ Z.Warmed39 U.vm ∧ U.heap = h0) (fun _ _ _ _ _ => True) (fun _ U o U' => ∃ v L, o = .returned v ∧ Q3l Z x0 x1 h0 n0 v U'.heap L ∧ FrameEnd U o U' L ({ frames := 0, cells := 0, slots := 0, locals := 0 } : Room).cells ({ frames := 0, cells := 0, slots := 0, locals := 0 } : Room).slots) := by
  refine MetFree.of_bodySF (plainFor_of_name pn_3) hisR ?_
  intro p e s m args below meth c s₁ Bd hml0 hP hK
  obtain ⟨rfl, hZ, hh⟩ := hP
  have hx := Bd.exec
  have hby := Bd.bytes
  have hml : c.maxLocals = 3 := hml0
  have hown : s.vm.findClass "com/example/sets_in_bits/setsinbits/hashing/Hash128" = some m.cls := findClass_of_methodNamed Bd.named
  have hnm := (name_of_methodNamed Bd.named Bd.method).1
  have X0 : Stand p l e ({ frames := 0, cells := 0, slots := 0, locals := 0 } : Room) s m #[(.ref x0), (.ref x1)] below meth c s₁ [] 0 0 := Stand.of_body Bd
  have e0 : s₁.heap = h0 := by rw [← hh, Bd.state]; rfl
  have N0 := Fr.nil n0
  have Kp0 := Keep.refl h0 []
  have P0 : ∀ t, Steps p.tables e below (s₁.setTop (mkF m 0 #[rv x0, rv x1, .unset] [])) t → Steps p.tables e below (s₁.setTop (entryFrame m #[(.ref x0), (.ref x1)] 3)) t := fun t k => castTop (ef_3l m x0 x1) k
  obtain ⟨T1, X1, e1, st1⟩ := instNo X0 hx hZ hown (hw _ (im 18 rfl)) e0 pre_E_x1 (own_NS_no (hw _ (im 40 rfl)) (hw _ (im 1 rfl)) (NS.step (hw _ (im 40 rfl)) (NS.step (hw _ (im 41 rfl)) (own_NS_root (hw _ (im 42 rfl)) (hw _ (im 1 rfl)) (by decide)) (by decide)) (by decide)) (by decide)) (g := (mkF m 1 #[rv x0, rv x1, .unset] [(.ref x1)])) rfl rfl (hb hby d3_1)
  have P3 := own_go P0 (S' := T1.setTop (mkF m 41 #[rv x0, rv x1, .unset] [(.int 0)])) (by
    intro t k
    refine XS.aloadN X0.here hx rfl (hb hby d3_0) rfl rfl ?_
    refine st1 _ ?_
    refine XS.ifYes X1.here hx rfl (pc0 := 4) (pc' := 40) rfl (hb hby d3_4) rfl ((if0 _ _).trans (teq (by decide)).1) (by decide) (by decide) ?_
    refine XS.iconst X1.here hx rfl (hb hby d3_40) ?_
    exact k)
  obtain ⟨fs, hr, hrun, hended, hW, hsame⟩ := X1.leave (v := some (.int 0)) (fun h => by rw [Bd.returns] at h; cases h)
  refine ⟨_, _, P3 _ ?_, hrun, hended, _, _, rfl, ?_, ⟨_, rfl⟩, hW, hsame.mono (by decide) (by decide)⟩
  · show Steps p.tables e below (T1.setTop (mkF m 41 #[rv x0, rv x1, .unset] [(.int 0)])) _
    exact retN X1 hx (t := .boolean) Bd.returns (by simp) (hb hby d3_41) hr
  · show Q3l Z x0 x1 h0 n0 _ T1.heap _
    rw [e1]
    exact ⟨rfl, N0, rfl⟩
def Q6 (Z : State) (x0 : Addr) (h0 : Heap) (n0 : Nat) (v : Option Value) (h : Heap) (L : List Loc) : Prop := v = none ∧ Fr n0 L ∧ h = h0
theorem ef_6 (m : MethodId) (x0 : Addr) : entryFrame m #[(.ref x0)] 1 = mkF m 0 #[rv x0] [] := by first | (simp [entryFrame, mkF, argsToLocals, Value.category]; done) | rfl
set_option maxRecDepth 65536 in
set_option maxHeartbeats 40000000 in
theorem rm6 (l : Launch) (Z : State) (a0 : Array Value) (hw : ∀ d ∈ tables_1, d.before a0 Z = true) (ws : List Jvm.Cond) (x0 : Addr) (h0 : Heap) (n0 : Nat) (Z0 : n0 ≤ h0.size) :
    MetFree l (⟨"java/lang/Number", "<init>", "()V"⟩ : MethodName) (head1 (Jvm.Cond.code (⟨"java/lang/Number", "<init>", "()V"⟩ : MethodName) jdk_18_method_1_code 1 none :: ws) ({ frames := 1, cells := 0, slots := 0, locals := 12 } : Room)) (fun a U => a = #[(.ref x0)] ∧ Z.Warmed39 U.vm ∧ U.heap = h0) (fun _ _ _ _ _ => True) (fun _ U o U' => ∃ v L, o = .returned v ∧ Q6 Z x0 h0 n0 v U'.heap L ∧ FrameEnd U o U' L ({ frames := 1, cells := 0, slots := 0, locals := 12 } : Room).cells ({ frames := 1, cells := 0, slots := 0, locals := 12 } : Room).slots) := by
  refine MetFree.of_bodySF (plainFor_of_name pn_6) hisR ?_
  intro p e s m args below meth c s₁ Bd hml0 hP hK
  obtain ⟨rfl, hZ, hh⟩ := hP
  have hx := Bd.exec
  have hby := Bd.bytes
  have hml : c.maxLocals = 1 := hml0
  have hown : s.vm.findClass "java/lang/Number" = some m.cls := findClass_of_methodNamed Bd.named
  have hnm := (name_of_methodNamed Bd.named Bd.method).1
  have X0 : Stand p l e ({ frames := 1, cells := 0, slots := 0, locals := 12 } : Room) s m #[(.ref x0)] below meth c s₁ [] 0 0 := Stand.of_body Bd
  have e0 : s₁.heap = h0 := by rw [← hh, Bd.state]; rfl
  have N0 := Fr.nil n0
  have Kp0 := Keep.refl h0 []
  have P0 : ∀ t, Steps p.tables e below (s₁.setTop (mkF m 0 #[rv x0] [])) t → Steps p.tables e below (s₁.setTop (entryFrame m #[(.ref x0)] 1)) t := fun t k => castTop (ef_6 m x0) k
  obtain ⟨T1, X1, e1, st1⟩ := initO X0 hx hZ hown (hw _ (im 37 rfl)) (hw _ (im 7 rfl)) (hw _ (im 8 rfl)) e0 (g := (mkF m 1 #[rv x0] [(.ref x0)])) rfl (by rw [hml]; rfl) rfl (hb hby d6_1) (by decide) (W := 0) (by show 2 * 0 + _ ≤ _; exact Nat.le_of_eq rfl) (by decide)
  have P2 := own_go P0 (S' := T1.setTop (mkF m 4 #[rv x0] [])) (by
    intro t k
    refine XS.aloadN X0.here hx rfl (hb hby d6_0) rfl rfl ?_
    refine st1 _ ?_
    exact k)
  obtain ⟨fs, hr, hrun, hended, hW, hsame⟩ := X1.leave (v := none) (fun _ => rfl)
  refine ⟨_, _, P2 _ ?_, hrun, hended, _, _, rfl, ?_, ⟨_, rfl⟩, hW, hsame.mono (by decide) (by decide)⟩
  · show Steps p.tables e below (T1.setTop (mkF m 4 #[rv x0] [])) _
    exact X1.returnOut hx Bd.returns (hb hby d6_4) hr
  · show Q6 Z x0 h0 n0 _ T1.heap _
    rw [e1]
    exact ⟨rfl, N0, rfl⟩
def Q5 (Z : State) (x0 : Addr) (x1 : Int64) (h0 : Heap) (n0 : Nat) (v : Option Value) (h : Heap) (L : List Loc) : Prop := v = none ∧ Fr n0 L ∧ Keep h0 h [x0] ∧ Exa Z h x0 "java/lang/Long"
theorem ef_5 (m : MethodId) (x0 : Addr) (x1 : Int64) : entryFrame m #[(.ref x0), (.long x1)] 3 = mkF m 0 #[rv x0, lv x1, .second] [] := by first | (simp [entryFrame, mkF, argsToLocals, Value.category]; done) | rfl
set_option maxRecDepth 65536 in
set_option maxHeartbeats 40000000 in
theorem rm5 (l : Launch) (Z : State) (a0 : Array Value) (hw : ∀ d ∈ tables_1, d.before a0 Z = true) (ws : List Jvm.Cond) (x0 : Addr) (x1 : Int64) (h0 : Heap) (n0 : Nat) (Z0 : n0 ≤ h0.size) (pre_E_x0 : Exa Z h0 x0 "java/lang/Long") (pre_F_x0_value : Fld Z h0 x0 "java/lang/Long" "value" "J" (.long 0)) (g_x0 : n0 ≤ x0) :
    MetFree l (⟨"java/lang/Long", "<init>", "(J)V"⟩ : MethodName) (head1 (Jvm.Cond.code (⟨"java/lang/Long", "<init>", "(J)V"⟩ : MethodName) jdk_35_method_26_code 3 none :: ws) ({ frames := 2, cells := 0, slots := 0, locals := 24 } : Room)) (fun a U => a = #[(.ref x0), (.long x1)] ∧ Z.Warmed39 U.vm ∧ U.heap = h0) (fun _ _ _ _ _ => True) (fun _ U o U' => ∃ v L, o = .returned v ∧ Q5 Z x0 x1 h0 n0 v U'.heap L ∧ FrameEnd U o U' L ({ frames := 2, cells := 0, slots := 0, locals := 24 } : Room).cells ({ frames := 2, cells := 0, slots := 0, locals := 24 } : Room).slots) := by
  refine MetFree.of_bodySF (plainFor_of_name pn_5) hisR ?_
  intro p e s m args below meth c s₁ Bd hml0 hP hK
  obtain ⟨rfl, hZ, hh⟩ := hP
  have hx := Bd.exec
  have hby := Bd.bytes
  have hml : c.maxLocals = 3 := hml0
  have hown : s.vm.findClass "java/lang/Long" = some m.cls := findClass_of_methodNamed Bd.named
  have hnm := (name_of_methodNamed Bd.named Bd.method).1
  have X0 : Stand p l e ({ frames := 2, cells := 0, slots := 0, locals := 24 } : Room) s m #[(.ref x0), (.long x1)] below meth c s₁ [] 0 0 := Stand.of_body Bd
  have e0 : s₁.heap = h0 := by rw [← hh, Bd.state]; rfl
  have N0 := Fr.nil n0
  have Kp0 := Keep.refl h0 [x0]
  have P0 : ∀ t, Steps p.tables e below (s₁.setTop (mkF m 0 #[rv x0, lv x1, .second] [])) t → Steps p.tables e below (s₁.setTop (entryFrame m #[(.ref x0), (.long x1)] 3)) t := fun t k => castTop (ef_5 m x0 x1) k
  obtain ⟨_, _, ⟨T1, L1, k1, n1⟩, -, X1, ⟨Lc1, hQ1, l1, y1, z1⟩, st1⟩ := X0.specialBack hx (y := (⟨"java/lang/Number", "<init>", "()V"⟩ : MethodName)) rfl hown (mvT hZ (hw _ (im 31 rfl))) (mvT hZ (hw _ (im 32 rfl))) (mvT hZ (hw _ (im 36 rfl))) (by decide) (backOf (W := 0) (rm6 l Z a0 hw [] x0 h0 n0 Z0 ) hZ (hw _ (im 36 rfl)) (hw _ (im 35 rfl)) (by decide) (by decide)) (g := (mkF m 1 #[rv x0, lv x1, .second] [(.ref x0)])) rfl (by rw [hml]; rfl) (Steps.refl _) (a := x0) (argsL := []) (rest := []) (lenOf pd_0 rfl) rfl (by show 2 * 0 + _ ≤ _; exact Nat.le_of_eq rfl) (hb hby d5_1) (fun _ _ => ⟨rfl, e0, (by decide : 0 + 0 ≤ _), (by decide : 0 + 0 ≤ _)⟩)
  dsimp only [Pt.U, Pt.locs, Pt.cells, Pt.slots] at X1 l1 y1 z1 st1 hQ1
  subst l1 y1 z1
  obtain ⟨rfl, N1q, e1⟩ := hQ1
  have N1 := Fr.app N0 N1q
  obtain ⟨T2, h2, X2, e2, W2, st2⟩ := putF X1 hx hZ hown (host := "") (Or.inl (hw _ (im 38 rfl))) Via.refl e1 pre_F_x0_value pre_E_x0 (Or.inr ⟨(hw _ (im 39 rfl)), rfl, hnm⟩) (hw _ (im 26 rfl)) (ty := .long) (by decide) rfl rfl (g := (mkF m 6 #[rv x0, lv x1, .second] [(.long x1), (.ref x0)])) rfl rfl (hb hby d5_6)
  have Fw2 := pre_F_x0_value.same W2
  have Z2_ : n0 ≤ h2.size := Nat.le_trans Z0 (Nat.le_of_eq W2.size.symm)
  have N2 := Fr.snoc X2 N1 g_x0
  have KK2 := Kp0.wr W2 (Or.inl (List.mem_of_getElem? (i := 0) rfl))
  have P3 := own_go P0 (S' := T2.setTop (mkF m 9 #[rv x0, lv x1, .second] [])) (by
    intro t k
    refine XS.aloadN X0.here hx rfl (hb hby d5_0) rfl rfl ?_
    refine st1.trans ?_
    refine XS.aloadN X1.here hx rfl (hb hby d5_4) rfl rfl ?_
    refine XS.lloadN X1.here hx rfl (hb hby d5_5) rfl ?_
    refine st2 _ ?_
    exact k)
  have q4 := (pre_E_x0.wr W2)
  obtain ⟨fs, hr, hrun, hended, hW, hsame⟩ := X2.leave (v := none) (fun _ => rfl)
  refine ⟨_, _, P3 _ ?_, hrun, hended, _, _, rfl, ?_, ⟨_, rfl⟩, hW, hsame.mono (by decide) (by decide)⟩
  · show Steps p.tables e below (T2.setTop (mkF m 9 #[rv x0, lv x1, .second] [])) _
    exact X2.returnOut hx Bd.returns (hb hby d5_9) hr
  · show Q5 Z x0 x1 h0 n0 _ T2.heap _
    rw [e2]
    exact ⟨rfl, N2, KK2, q4⟩
def Q4 (Z : State) (x0 : Int64) (ca : Addr) (cl : Cell) (h0 : Heap) (n0 : Nat) (v : Option Value) (h : Heap) (L : List Loc) : Prop := ∃ (b : Addr), v = some (.ref b) ∧ Fr n0 L ∧ Keep h0 h [] ∧ Exa Z h b "java/lang/Long"
theorem ef_4 (m : MethodId) (x0 : Int64) : entryFrame m #[(.long x0)] 3 = mkF m 0 #[lv x0, .second, .unset] [] := by first | (simp [entryFrame, mkF, argsToLocals, Value.category]; done) | rfl
set_option maxRecDepth 65536 in
set_option maxHeartbeats 40000000 in
theorem rm4 (l : Launch) (Z : State) (a0 : Array Value) (hw : ∀ d ∈ tables_1, d.before a0 Z = true) (ws : List Jvm.Cond) (x0 : Int64) (ca : Addr) (cl : Cell) (h0 : Heap) (n0 : Nat) (Z0 : n0 ≤ h0.size) (O0 : Old Z n0 h0) (pre_S_cache : Sta Z Z.heap "java/lang/Long$LongCache" "cache" "[Ljava/lang/Long;" (.ref ca)) (BX : Bxs Z ca cl "java/lang/Long" "J" (256 : Int32) (fun j => .long (j - (128 : Int32)).toInt64)) :
    MetFree l (⟨"java/lang/Long", "valueOf", "(J)Ljava/lang/Long;"⟩ : MethodName) (head1 (Jvm.Cond.code (⟨"java/lang/Long", "valueOf", "(J)Ljava/lang/Long;"⟩ : MethodName) jdk_35_method_24_code 3 (some (.object "java/lang/Long")) :: ws) ({ frames := 3, cells := 1, slots := 1, locals := 39 } : Room)) (fun a U => a = #[(.long x0)] ∧ Z.Warmed39 U.vm ∧ U.heap = h0) (fun _ _ _ _ _ => True) (fun _ U o U' => ∃ v L, o = .returned v ∧ Q4 Z x0 ca cl h0 n0 v U'.heap L ∧ FrameEnd U o U' L ({ frames := 3, cells := 1, slots := 1, locals := 39 } : Room).cells ({ frames := 3, cells := 1, slots := 1, locals := 39 } : Room).slots) := by
  refine MetFree.of_bodySF (plainFor_of_name pn_4) hisR ?_
  intro p e s m args below meth c s₁ Bd hml0 hP hK
  obtain ⟨rfl, hZ, hh⟩ := hP
  have hx := Bd.exec
  have hby := Bd.bytes
  have hml : c.maxLocals = 3 := hml0
  have hown : s.vm.findClass "java/lang/Long" = some m.cls := findClass_of_methodNamed Bd.named
  have hnm := (name_of_methodNamed Bd.named Bd.method).1
  have X0 : Stand p l e ({ frames := 3, cells := 1, slots := 1, locals := 39 } : Room) s m #[(.long x0)] below meth c s₁ [] 0 0 := Stand.of_body Bd
  have e0 : s₁.heap = h0 := by rw [← hh, Bd.state]; rfl
  have N0 := Fr.nil n0
  have Kp0 := Keep.refl h0 []
  have P0 : ∀ t, Steps p.tables e below (s₁.setTop (mkF m 0 #[lv x0, .second, .unset] [])) t → Steps p.tables e below (s₁.setTop (entryFrame m #[(.long x0)] 3)) t := fun t k => castTop (ef_4 m x0) k
  have P2 := own_go P0 (S' := s₁.setTop (mkF m 9 #[lv x0, .second, iv 128] [(.int (lcmpW x0 (-128 : Int64)))])) (by
    intro t k
    refine XS.sipush X0.here hx rfl (hb hby d4_0) ?_
    refine XS.istoreN X0.here hx rfl (hb hby d4_3) rfl (l' := #[lv x0, .second, iv 128]) rfl ?_
    refine XS.lloadN X0.here hx rfl (hb hby d4_4) rfl ?_
    refine X0.ldc2Long hx hown (mvT hZ (hw _ (im 24 rfl))) (g := (mkF m 5 #[lv x0, .second, iv 128] [(.long x0)])) rfl (hb hby d4_5) _ ?_
    refine XS.lcmp X0.here hx rfl (hb hby d4_8) rfl ?_
    exact k)
  by_cases hc9_1 : x0 < (-128 : Int64)
  · obtain ⟨T3, h3, X3, e3, E3, A3, D3, -, st3⟩ := newO X0 hx hZ hown (hw _ (im 25 rfl)) (hw _ (im 26 rfl)) (hw _ (im 22 rfl)) e0 (g := (mkF m 31 #[lv x0, .second, iv 128] [])) rfl (hb hby d4_31) (by decide) (by decide)
    obtain ⟨b3, g3⟩ : ∃ z, z = h0.size := ⟨_, rfl⟩
    rw [← g3] at A3 D3 st3
    have ge_b3 : n0 ≤ b3 := Nat.le_trans Z0 (Nat.le_of_eq g3.symm)
    have sz_b3 : h0.size ≤ b3 := Nat.le_trans Kp0.1 (Nat.le_of_eq g3.symm)
    have Z3_ : n0 ≤ h3.size := Nat.le_trans Z0 E3.1
    have O3_ := O0.ext E3
    have KK3 := Kp0.ext E3
    have F3_value : Fld Z h3 b3 "java/lang/Long" "value" "J" (.long 0) := D3 (Or.inr (hw _ (im 39 rfl))) (ty := .long) (by decide)
    obtain ⟨_, _, ⟨T4, L4, k4, n4⟩, -, X4, ⟨Lc4, hQ4, l4, y4, z4⟩, st4⟩ := X3.specialBack hx (y := (⟨"java/lang/Long", "<init>", "(J)V"⟩ : MethodName)) rfl hown (mvT hZ (hw _ (im 27 rfl))) (mvT hZ (hw _ (im 28 rfl))) (mvT hZ (hw _ (im 30 rfl))) (by decide) (backOf (W := 1) (rm5 l Z a0 hw [] b3 x0 h3 n0 Z3_ A3 F3_value ge_b3) hZ (hw _ (im 30 rfl)) (hw _ (im 22 rfl)) (by decide) (by decide)) (g := (mkF m 36 #[lv x0, .second, iv 128] [(.long x0), (.ref b3), (.ref b3)])) rfl (by rw [hml]; rfl) (Steps.refl _) (a := b3) (argsL := [(.long x0)]) (rest := [(.ref b3)]) (lenOf pd_1 rfl) rfl (by show 2 * 0 + _ ≤ _; exact Nat.le_of_eq rfl) (hb hby d4_36) (fun _ _ => ⟨rfl, e3, (by decide : 1 + 0 ≤ _), (by decide : 1 + 0 ≤ _)⟩)
    dsimp only [Pt.U, Pt.locs, Pt.cells, Pt.slots] at X4 l4 y4 z4 st4 hQ4
    subst l4 y4 z4
    obtain ⟨rfl, N4q, K4, r4_0⟩ := hQ4
    have N4 := Fr.app N0 N4q
    have Z4_ : n0 ≤ T4.heap.size := Nat.le_trans Z3_ K4.1
    have O4_ := O3_.keep K4 (allS ge_b3 all0)
    have KK4 := KK3.trans K4 (allS (Or.inr sz_b3) all0)
    have P5 := own_go P2 (S' := T4.setTop (mkF m 39 #[lv x0, .second, iv 128] [(.ref b3)])) (by
      intro t k
      refine XS.ifYes X0.here hx rfl (pc0 := 9) (pc' := 31) rfl (hb hby d4_9) rfl ((if0 _ _).trans (tlt ((lw_lt x0 (-128 : Int64)).mpr hc9_1)).1) (by decide) (by decide) ?_
      refine st3 _ ?_
      refine XS.dup X3.here hx rfl (hb hby d4_34) rfl rfl ?_
      refine XS.lloadN X3.here hx rfl (hb hby d4_35) rfl ?_
      refine st4.trans ?_
      exact k)
    obtain ⟨fs, hr, hrun, hended, hW, hsame⟩ := X4.leave (v := some (.ref b3)) (fun h => by rw [Bd.returns] at h; cases h)
    refine ⟨_, _, P5 _ ?_, hrun, hended, _, _, rfl, ?_, ⟨_, rfl⟩, hW, hsame.mono (by decide) (by decide)⟩
    · show Steps p.tables e below (T4.setTop (mkF m 39 #[lv x0, .second, iv 128] [(.ref b3)])) _
      exact retOut X4 hx (t := (.object "java/lang/Long")) Bd.returns rfl (Or.inr (Or.inr (Or.inr (Or.inr ⟨rfl, rfl, rfl⟩)))) (hb hby d4_39) hr
    · show Q4 Z x0 ca cl h0 n0 _ T4.heap _
      exact ⟨b3, rfl, N4, KK4, r4_0⟩
  · have P7 := own_go P2 (S' := s₁.setTop (mkF m 17 #[lv x0, .second, iv 128] [(.int (lcmpW x0 (127 : Int64)))])) (by
      intro t k
      refine XS.ifNo X0.here hx rfl (hb hby d4_9) rfl ((if0 _ _).trans (flt (fun q => hc9_1 ((lw_lt x0 (-128 : Int64)).mp q))).1) ?_
      refine XS.lloadN X0.here hx rfl (hb hby d4_12) rfl ?_
      refine X0.ldc2Long hx hown (mvT hZ (hw _ (im 43 rfl))) (g := (mkF m 13 #[lv x0, .second, iv 128] [(.long x0)])) rfl (hb hby d4_13) _ ?_
      refine XS.lcmp X0.here hx rfl (hb hby d4_16) rfl ?_
      exact k)
    by_cases hc17_6 : (127 : Int64) < x0
    · obtain ⟨T8, h8, X8, e8, E8, A8, D8, -, st8⟩ := newO X0 hx hZ hown (hw _ (im 25 rfl)) (hw _ (im 26 rfl)) (hw _ (im 22 rfl)) e0 (g := (mkF m 31 #[lv x0, .second, iv 128] [])) rfl (hb hby d4_31) (by decide) (by decide)
      obtain ⟨b8, g8⟩ : ∃ z, z = h0.size := ⟨_, rfl⟩
      rw [← g8] at A8 D8 st8
      have ge_b8 : n0 ≤ b8 := Nat.le_trans Z0 (Nat.le_of_eq g8.symm)
      have sz_b8 : h0.size ≤ b8 := Nat.le_trans Kp0.1 (Nat.le_of_eq g8.symm)
      have Z8_ : n0 ≤ h8.size := Nat.le_trans Z0 E8.1
      have O8_ := O0.ext E8
      have KK8 := Kp0.ext E8
      have F8_value : Fld Z h8 b8 "java/lang/Long" "value" "J" (.long 0) := D8 (Or.inr (hw _ (im 39 rfl))) (ty := .long) (by decide)
      obtain ⟨_, _, ⟨T9, L9, k9, n9⟩, -, X9, ⟨Lc9, hQ9, l9, y9, z9⟩, st9⟩ := X8.specialBack hx (y := (⟨"java/lang/Long", "<init>", "(J)V"⟩ : MethodName)) rfl hown (mvT hZ (hw _ (im 27 rfl))) (mvT hZ (hw _ (im 28 rfl))) (mvT hZ (hw _ (im 30 rfl))) (by decide) (backOf (W := 1) (rm5 l Z a0 hw [] b8 x0 h8 n0 Z8_ A8 F8_value ge_b8) hZ (hw _ (im 30 rfl)) (hw _ (im 22 rfl)) (by decide) (by decide)) (g := (mkF m 36 #[lv x0, .second, iv 128] [(.long x0), (.ref b8), (.ref b8)])) rfl (by rw [hml]; rfl) (Steps.refl _) (a := b8) (argsL := [(.long x0)]) (rest := [(.ref b8)]) (lenOf pd_1 rfl) rfl (by show 2 * 0 + _ ≤ _; exact Nat.le_of_eq rfl) (hb hby d4_36) (fun _ _ => ⟨rfl, e8, (by decide : 1 + 0 ≤ _), (by decide : 1 + 0 ≤ _)⟩)
      dsimp only [Pt.U, Pt.locs, Pt.cells, Pt.slots] at X9 l9 y9 z9 st9 hQ9
      subst l9 y9 z9
      obtain ⟨rfl, N9q, K9, r9_0⟩ := hQ9
      have N9 := Fr.app N0 N9q
      have Z9_ : n0 ≤ T9.heap.size := Nat.le_trans Z8_ K9.1
      have O9_ := O8_.keep K9 (allS ge_b8 all0)
      have KK9 := KK8.trans K9 (allS (Or.inr sz_b8) all0)
      have P10 := own_go P7 (S' := T9.setTop (mkF m 39 #[lv x0, .second, iv 128] [(.ref b8)])) (by
        intro t k
        refine XS.ifYes X0.here hx rfl (pc0 := 17) (pc' := 31) rfl (hb hby d4_17) rfl ((if0 _ _).trans (tlt ((lw_gt x0 (127 : Int64)).mpr hc17_6)).2.2.1) (by decide) (by decide) ?_
        refine st8 _ ?_
        refine XS.dup X8.here hx rfl (hb hby d4_34) rfl rfl ?_
        refine XS.lloadN X8.here hx rfl (hb hby d4_35) rfl ?_
        refine st9.trans ?_
        exact k)
      obtain ⟨fs, hr, hrun, hended, hW, hsame⟩ := X9.leave (v := some (.ref b8)) (fun h => by rw [Bd.returns] at h; cases h)
      refine ⟨_, _, P10 _ ?_, hrun, hended, _, _, rfl, ?_, ⟨_, rfl⟩, hW, hsame.mono (by decide) (by decide)⟩
      · show Steps p.tables e below (T9.setTop (mkF m 39 #[lv x0, .second, iv 128] [(.ref b8)])) _
        exact retOut X9 hx (t := (.object "java/lang/Long")) Bd.returns rfl (Or.inr (Or.inr (Or.inr (Or.inr ⟨rfl, rfl, rfl⟩)))) (hb hby d4_39) hr
      · show Q4 Z x0 ca cl h0 n0 _ T9.heap _
        exact ⟨b8, rfl, N9, KK9, r9_0⟩
    · obtain ⟨T11, X11, e11, st11⟩ := getS2 X0 hx hZ hown (host := "") (Or.inl (hw _ (im 44 rfl))) Via.refl e0 (pre_S_cache.ext O0.2) (g := (mkF m 20 #[lv x0, .second, iv 128] [])) rfl (hb hby d4_20)
      have hj12 := own_idx x0 hc9_1 hc17_6
      obtain ⟨b12, hat12, Eb12, -⟩ := BX.2.2.2 ((x0.toInt32) + (128 : Int32)) (inb_of BX.2.1 hj12)
      obtain ⟨Ar12, -, -⟩ := BX.ext O0.2
      have P13 := own_go P7 (S' := T11.setTop (mkF m 30 #[lv x0, .second, iv 128] [(.ref b12)])) (by
        intro t k
        refine XS.ifNo X0.here hx rfl (hb hby d4_17) rfl ((if0 _ _).trans (flt (fun q => hc17_6 ((lw_gt x0 (127 : Int64)).mp q))).2.2.1) ?_
        refine st11 _ ?_
        refine XS.lloadN X11.here hx rfl (hb hby d4_23) rfl ?_
        refine XS.l2i X11.here hx rfl (hb hby d4_24) rfl ?_
        refine XS.sipush X11.here hx rfl (hb hby d4_25) ?_
        refine XS.iadd X11.here hx rfl (hb hby d4_28) rfl ?_
        refine X11.aaload hx (j := ((x0.toInt32) + (128 : Int32))) (v := (.ref b12)) (by rw [e11]; exact Ar12.1) (State.isArrayOf_alike hZ.alike Ar12.2.1) rfl Ar12.2.2 (inb_of BX.2.1 hj12) hat12 (g := (mkF m 29 #[lv x0, .second, iv 128] [(.int ((x0.toInt32) + (128 : Int32))), (.ref ca)])) rfl rfl (hb hby d4_29) _ ?_
        exact k)
      obtain ⟨fs, hr, hrun, hended, hW, hsame⟩ := X11.leave (v := some (.ref b12)) (fun h => by rw [Bd.returns] at h; cases h)
      refine ⟨_, _, P13 _ ?_, hrun, hended, _, _, rfl, ?_, ⟨_, rfl⟩, hW, hsame.mono (by decide) (by decide)⟩
      · show Steps p.tables e below (T11.setTop (mkF m 30 #[lv x0, .second, iv 128] [(.ref b12)])) _
        exact retOut X11 hx (t := (.object "java/lang/Long")) Bd.returns rfl (Or.inr (Or.inr (Or.inr (Or.inr ⟨rfl, rfl, rfl⟩)))) (hb hby d4_30) hr
      · show Q4 Z x0 ca cl h0 n0 _ T11.heap _
        rw [e11]
        exact ⟨b12, rfl, N0, Kp0, (Eb12.ext O0.2)⟩
def Q0 (Z : State) (x0 : Int64) (x1 : Int64) (x2 : Int64) (x3 : Int64) (x4 : Int32) (ca : Addr) (cl : Cell) (h0 : Heap) (n0 : Nat) (v : Option Value) (h : Heap) (L : List Loc) : Prop := v = some (.int 1) ∧ Fr n0 L
theorem ef_0 (m : MethodId) (x0 : Int64) (x1 : Int64) (x2 : Int64) (x3 : Int64) (x4 : Int32) : entryFrame m #[(.long x0), (.long x1), (.long x2), (.long x3), (.int x4)] maxLocals = mkF m 0 #[lv x0, .second, lv x1, .second, lv x2, .second, lv x3, .second, iv x4, .unset, .unset, .unset, .unset, .unset, .unset, .unset, .unset] [] := by first | (simp [entryFrame, mkF, argsToLocals, Value.category, maxLocals]; done) | rfl
set_option maxRecDepth 65536 in
set_option maxHeartbeats 40000000 in
theorem rm0 (l : Launch) (Z : State) (a0 : Array Value) (hw : ∀ d ∈ tables_1, d.before a0 Z = true) (ws : List Jvm.Cond) (x0 : Int64) (x1 : Int64) (x2 : Int64) (x3 : Int64) (x4 : Int32) (ca : Addr) (cl : Cell) (h0 : Heap) (n0 : Nat) (Z0 : n0 ≤ h0.size) (O0 : Old Z n0 h0) (pre_S_cache : Sta Z Z.heap "java/lang/Long$LongCache" "cache" "[Ljava/lang/Long;" (.ref ca)) (BX : Bxs Z ca cl "java/lang/Long" "J" (256 : Int32) (fun j => .long (j - (128 : Int32)).toInt64)) :
    MetFree l x (head1 (Jvm.Cond.code x code maxLocals ret :: ws) room_1) (fun a U => a = #[(.long x0), (.long x1), (.long x2), (.long x3), (.int x4)] ∧ Z.Warmed39 U.vm ∧ U.heap = h0) (fun _ _ _ _ _ => True) (fun _ U o U' => ∃ v L, o = .returned v ∧ Q0 Z x0 x1 x2 x3 x4 ca cl h0 n0 v U'.heap L ∧ FrameEnd U o U' L room_1.cells room_1.slots) := by
  refine MetFree.of_bodySF (plainFor_of_name pn_0) hisR ?_
  intro p e s m args below meth c s₁ Bd hml0 hP hK
  obtain ⟨rfl, hZ, hh⟩ := hP
  have hx := Bd.exec
  have hby := Bd.bytes
  have hml : c.maxLocals = 17 := hml0
  have hown : s.vm.findClass "com/example/sets_in_bits/setsinbits/hashing/Hash128EqualsPinLaw" = some m.cls := findClass_of_methodNamed Bd.named
  have hnm := (name_of_methodNamed Bd.named Bd.method).1
  have X0 : Stand p l e room_1 s m #[(.long x0), (.long x1), (.long x2), (.long x3), (.int x4)] below meth c s₁ [] 0 0 := Stand.of_body Bd
  have e0 : s₁.heap = h0 := by rw [← hh, Bd.state]; rfl
  have N0 := Fr.nil n0
  have Kp0 := Keep.refl h0 []
  have P0 : ∀ t, Steps p.tables e below (s₁.setTop (mkF m 0 #[lv x0, .second, lv x1, .second, lv x2, .second, lv x3, .second, iv x4, .unset, .unset, .unset, .unset, .unset, .unset, .unset, .unset] [])) t → Steps p.tables e below (s₁.setTop (entryFrame m #[(.long x0), (.long x1), (.long x2), (.long x3), (.int x4)] maxLocals)) t := fun t k => castTop (ef_0 m x0 x1 x2 x3 x4) k
  have P3 := own_go P0 (S' := s₁.setTop (mkF m 4 #[lv x0, .second, lv x1, .second, lv x2, .second, lv x3, .second, iv x4, .unset, .unset, .unset, .unset, .unset, .unset, .unset, .unset] [(.int (x4 &&& (1 : Int32)))])) (by
    intro t k
    refine XS.iload X0.here hx rfl (hb hby at_0) rfl ?_
    refine XS.iconst X0.here hx rfl (hb hby at_2) ?_
    refine XS.iand X0.here hx rfl (hb hby at_3) rfl ?_
    exact k)
  obtain ⟨v2_0, hv2_0⟩ : ∃ z : Int64, z = (if (x4 &&& (1 : Int32)) = (0 : Int32) then x2 else x0) := ⟨_, rfl⟩
  have P5 := own_go P3 (S' := s₁.setTop (mkF m 13 #[lv x0, .second, lv x1, .second, lv x2, .second, lv x3, .second, iv x4, .unset, .unset, .unset, .unset, .unset, .unset, .unset, .unset] [(.long v2_0)])) (by
    intro t k
    by_cases hc4_4 : (x4 &&& (1 : Int32)) = (0 : Int32)
    · refine XS.ifYes X0.here hx rfl (pc0 := 4) (pc' := 11) rfl (hb hby at_4) rfl ((if0 _ _).trans (teq hc4_4).1) (by decide) (by decide) ?_
      refine XS.lload X0.here hx rfl (hb hby at_11) rfl ?_
      have q_v2_0 : v2_0 = x2 := by rw [hv2_0, if_pos hc4_4]
      subst q_v2_0
      exact k
    · refine XS.ifNo X0.here hx rfl (hb hby at_4) rfl ((if0 _ _).trans (feq hc4_4).1) ?_
      refine XS.lloadN X0.here hx rfl (hb hby at_7) rfl ?_
      refine XS.goto X0.here hx rfl (pc0 := 8) (pc' := 13) rfl (hb hby at_8) (by decide) (by decide) ?_
      have q_v2_0 : v2_0 = x0 := by rw [hv2_0, if_neg hc4_4]
      subst q_v2_0
      exact k)
  have P8 := own_go P5 (S' := s₁.setTop (mkF m 19 #[lv x0, .second, lv x1, .second, lv x2, .second, lv x3, .second, iv x4, lv v2_0, .second, .unset, .unset, .unset, .unset, .unset, .unset] [(.int (x4 &&& (2 : Int32)))])) (by
    intro t k
    refine XS.lstore X0.here hx rfl (hb hby at_13) rfl (l' := #[lv x0, .second, lv x1, .second, lv x2, .second, lv x3, .second, iv x4, lv v2_0, .second, .unset, .unset, .unset, .unset, .unset, .unset]) rfl ?_
    refine XS.iload X0.here hx rfl (hb hby at_15) rfl ?_
    refine XS.iconst X0.here hx rfl (hb hby at_17) ?_
    refine XS.iand X0.here hx rfl (hb hby at_18) rfl ?_
    exact k)
  obtain ⟨v7_0, hv7_0⟩ : ∃ z : Int64, z = (if (x4 &&& (2 : Int32)) = (0 : Int32) then x3 else x1) := ⟨_, rfl⟩
  have P10 := own_go P8 (S' := s₁.setTop (mkF m 28 #[lv x0, .second, lv x1, .second, lv x2, .second, lv x3, .second, iv x4, lv v2_0, .second, .unset, .unset, .unset, .unset, .unset, .unset] [(.long v7_0)])) (by
    intro t k
    by_cases hc19_9 : (x4 &&& (2 : Int32)) = (0 : Int32)
    · refine XS.ifYes X0.here hx rfl (pc0 := 19) (pc' := 26) rfl (hb hby at_19) rfl ((if0 _ _).trans (teq hc19_9).1) (by decide) (by decide) ?_
      refine XS.lload X0.here hx rfl (hb hby at_26) rfl ?_
      have q_v7_0 : v7_0 = x3 := by rw [hv7_0, if_pos hc19_9]
      subst q_v7_0
      exact k
    · refine XS.ifNo X0.here hx rfl (hb hby at_19) rfl ((if0 _ _).trans (feq hc19_9).1) ?_
      refine XS.lloadN X0.here hx rfl (hb hby at_22) rfl ?_
      refine XS.goto X0.here hx rfl (pc0 := 23) (pc' := 28) rfl (hb hby at_23) (by decide) (by decide) ?_
      have q_v7_0 : v7_0 = x1 := by rw [hv7_0, if_neg hc19_9]
      subst q_v7_0
      exact k)
  obtain ⟨T11, h11, X11, e11, E11, A11, D11, -, st11⟩ := newO X0 hx hZ hown (hw _ (im 0 rfl)) (hw _ (im 1 rfl)) (hw _ (im 2 rfl)) e0 (g := (mkF m 30 #[lv x0, .second, lv x1, .second, lv x2, .second, lv x3, .second, iv x4, lv v2_0, .second, lv v7_0, .second, .unset, .unset, .unset, .unset] [])) rfl (hb hby at_30) (by decide) (by decide)
  obtain ⟨b11, g11⟩ : ∃ z, z = h0.size := ⟨_, rfl⟩
  rw [← g11] at A11 D11 st11
  have ge_b11 : n0 ≤ b11 := Nat.le_trans Z0 (Nat.le_of_eq g11.symm)
  have Z11_ : n0 ≤ h11.size := Nat.le_trans Z0 E11.1
  have O11_ := O0.ext E11
  have F11_first : Fld Z h11 b11 "com/example/sets_in_bits/setsinbits/hashing/Hash128" "first" "J" (.long 0) := D11 (Or.inr (hw _ (im 10 rfl))) (ty := .long) (by decide)
  have F11_second : Fld Z h11 b11 "com/example/sets_in_bits/setsinbits/hashing/Hash128" "second" "J" (.long 0) := D11 (Or.inr (hw _ (im 12 rfl))) (ty := .long) (by decide)
  obtain ⟨_, _, ⟨T12, L12, k12, n12⟩, -, X12, ⟨Lc12, hQ12, l12, y12, z12⟩, st12⟩ := X11.specialBack hx (y := (⟨"com/example/sets_in_bits/setsinbits/hashing/Hash128", "<init>", "(JJ)V"⟩ : MethodName)) rfl hown (mvT hZ (hw _ (im 3 rfl))) (mvT hZ (hw _ (im 4 rfl))) (mvT hZ (hw _ (im 5 rfl))) (by decide) (backOf (W := 1) (rm1 l Z a0 hw [] b11 x0 x1 h11 n0 Z11_ A11 F11_first F11_second ge_b11) hZ (hw _ (im 5 rfl)) (hw _ (im 2 rfl)) (by decide) (by decide)) (g := (mkF m 36 #[lv x0, .second, lv x1, .second, lv x2, .second, lv x3, .second, iv x4, lv v2_0, .second, lv v7_0, .second, .unset, .unset, .unset, .unset] [(.long x1), (.long x0), (.ref b11), (.ref b11)])) rfl (by rw [hml]; rfl) (Steps.refl _) (a := b11) (argsL := [(.long x0), (.long x1)]) (rest := [(.ref b11)]) (lenOf pd_2 rfl) rfl (by show 2 * 0 + _ ≤ _; exact Nat.le_of_eq rfl) (hb hby at_36) (fun _ _ => ⟨rfl, e11, (by decide : 1 + 0 ≤ _), (by decide : 2 + 0 ≤ _)⟩)
  dsimp only [Pt.U, Pt.locs, Pt.cells, Pt.slots] at X12 l12 y12 z12 st12 hQ12
  subst l12 y12 z12
  obtain ⟨rfl, N12q, K12, r12_0, r12_1, r12_2⟩ := hQ12
  have N12 := Fr.app N0 N12q
  have Z12_ : n0 ≤ T12.heap.size := Nat.le_trans Z11_ K12.1
  have O12_ := O11_.keep K12 (allS ge_b11 all0)
  obtain ⟨T13, h13, X13, e13, E13, A13, D13, -, st13⟩ := newO X12 hx hZ hown (hw _ (im 0 rfl)) (hw _ (im 1 rfl)) (hw _ (im 2 rfl)) rfl (g := (mkF m 41 #[lv x0, .second, lv x1, .second, lv x2, .second, lv x3, .second, iv x4, lv v2_0, .second, lv v7_0, .second, rv b11, .unset, .unset, .unset] [])) rfl (hb hby at_41) (by decide) (by decide)
  obtain ⟨b13, g13⟩ : ∃ z, z = T12.heap.size := ⟨_, rfl⟩
  rw [← g13] at A13 D13 st13
  have ge_b13 : n0 ≤ b13 := Nat.le_trans Z12_ (Nat.le_of_eq g13.symm)
  have Z13_ : n0 ≤ h13.size := Nat.le_trans Z12_ E13.1
  have O13_ := O12_.ext E13
  have F13_first : Fld Z h13 b13 "com/example/sets_in_bits/setsinbits/hashing/Hash128" "first" "J" (.long 0) := D13 (Or.inr (hw _ (im 10 rfl))) (ty := .long) (by decide)
  have F13_second : Fld Z h13 b13 "com/example/sets_in_bits/setsinbits/hashing/Hash128" "second" "J" (.long 0) := D13 (Or.inr (hw _ (im 12 rfl))) (ty := .long) (by decide)
  obtain ⟨_, _, ⟨T14, L14, k14, n14⟩, -, X14, ⟨Lc14, hQ14, l14, y14, z14⟩, st14⟩ := X13.specialBack hx (y := (⟨"com/example/sets_in_bits/setsinbits/hashing/Hash128", "<init>", "(JJ)V"⟩ : MethodName)) rfl hown (mvT hZ (hw _ (im 3 rfl))) (mvT hZ (hw _ (im 4 rfl))) (mvT hZ (hw _ (im 5 rfl))) (by decide) (backOf (W := 1) (rm1 l Z a0 hw [] b13 v2_0 v7_0 h13 n0 Z13_ A13 F13_first F13_second ge_b13) hZ (hw _ (im 5 rfl)) (hw _ (im 2 rfl)) (by decide) (by decide)) (g := (mkF m 49 #[lv x0, .second, lv x1, .second, lv x2, .second, lv x3, .second, iv x4, lv v2_0, .second, lv v7_0, .second, rv b11, .unset, .unset, .unset] [(.long v7_0), (.long v2_0), (.ref b13), (.ref b13)])) rfl (by rw [hml]; rfl) (Steps.refl _) (a := b13) (argsL := [(.long v2_0), (.long v7_0)]) (rest := [(.ref b13)]) (lenOf pd_2 rfl) rfl (by show 2 * 0 + _ ≤ _; exact Nat.le_of_eq rfl) (hb hby at_49) (fun _ _ => ⟨rfl, e13, (by decide : 2 + 0 ≤ _), (by decide : 4 + 0 ≤ _)⟩)
  dsimp only [Pt.U, Pt.locs, Pt.cells, Pt.slots] at X14 l14 y14 z14 st14 hQ14
  subst l14 y14 z14
  obtain ⟨rfl, N14q, K14, r14_0, r14_1, r14_2⟩ := hQ14
  have N14 := Fr.app N12 N14q
  have Z14_ : n0 ≤ T14.heap.size := Nat.le_trans Z13_ K14.1
  have O14_ := O13_.keep K14 (allS ge_b13 all0)
  have P16 := own_go P10 (S' := T14.setTop (mkF m 64 #[lv x0, .second, lv x1, .second, lv x2, .second, lv x3, .second, iv x4, lv v2_0, .second, lv v7_0, .second, rv b11, rv b13, iv (((x4.toUInt32 >>> ((2 : Int32) &&& 31).toUInt32).toInt32) &&& (3 : Int32)), .unset] [(.int (((x4.toUInt32 >>> ((2 : Int32) &&& 31).toUInt32).toInt32) &&& (3 : Int32)))])) (by
    intro t k
    refine XS.lstore X0.here hx rfl (hb hby at_28) rfl (l' := #[lv x0, .second, lv x1, .second, lv x2, .second, lv x3, .second, iv x4, lv v2_0, .second, lv v7_0, .second, .unset, .unset, .unset, .unset]) rfl ?_
    refine st11 _ ?_
    refine XS.dup X11.here hx rfl (hb hby at_33) rfl rfl ?_
    refine XS.lloadN X11.here hx rfl (hb hby at_34) rfl ?_
    refine XS.lloadN X11.here hx rfl (hb hby at_35) rfl ?_
    refine st12.trans ?_
    refine XS.astore X12.here hx rfl (hb hby at_39) rfl rfl (l' := #[lv x0, .second, lv x1, .second, lv x2, .second, lv x3, .second, iv x4, lv v2_0, .second, lv v7_0, .second, rv b11, .unset, .unset, .unset]) rfl ?_
    refine st13 _ ?_
    show Steps p.tables e below (T13.setTop (mkF m 44 #[lv x0, .second, lv x1, .second, lv x2, .second, lv x3, .second, iv x4, lv v2_0, .second, lv v7_0, .second, rv b11, .unset, .unset, .unset] [(.ref b13)])) _
    refine XS.dup X13.here hx rfl (hb hby at_44) rfl rfl ?_
    refine XS.lload X13.here hx rfl (hb hby at_45) rfl ?_
    refine XS.lload X13.here hx rfl (hb hby at_47) rfl ?_
    refine st14.trans ?_
    refine XS.astore X14.here hx rfl (hb hby at_52) rfl rfl (l' := #[lv x0, .second, lv x1, .second, lv x2, .second, lv x3, .second, iv x4, lv v2_0, .second, lv v7_0, .second, rv b11, rv b13, .unset, .unset]) rfl ?_
    refine XS.iload X14.here hx rfl (hb hby at_54) rfl ?_
    refine XS.iconst X14.here hx rfl (hb hby at_56) ?_
    refine XS.iushr X14.here hx rfl (hb hby at_57) rfl ?_
    show Steps p.tables e below (T14.setTop (mkF m 58 #[lv x0, .second, lv x1, .second, lv x2, .second, lv x3, .second, iv x4, lv v2_0, .second, lv v7_0, .second, rv b11, rv b13, .unset, .unset] [(.int ((x4.toUInt32 >>> ((2 : Int32) &&& 31).toUInt32).toInt32))])) _
    refine XS.iconst X14.here hx rfl (hb hby at_58) ?_
    refine XS.iand X14.here hx rfl (hb hby at_59) rfl ?_
    refine XS.istore X14.here hx rfl (hb hby at_60) rfl (l' := #[lv x0, .second, lv x1, .second, lv x2, .second, lv x3, .second, iv x4, lv v2_0, .second, lv v7_0, .second, rv b11, rv b13, iv (((x4.toUInt32 >>> ((2 : Int32) &&& 31).toUInt32).toInt32) &&& (3 : Int32)), .unset]) rfl ?_
    refine XS.iload X14.here hx rfl (hb hby at_62) rfl ?_
    exact k)
  by_cases hc64_15 : (((x4.toUInt32 >>> ((2 : Int32) &&& 31).toUInt32).toInt32) &&& (3 : Int32)) = (0 : Int32)
  · have P19 := own_go P16 (S' := T14.setTop (mkF m 71 #[lv x0, .second, lv x1, .second, lv x2, .second, lv x3, .second, iv x4, lv v2_0, .second, lv v7_0, .second, rv b11, rv b13, iv (((x4.toUInt32 >>> ((2 : Int32) &&& 31).toUInt32).toInt32) &&& (3 : Int32)), .unset] [(.int (lcmpW x0 v2_0))])) (by
      intro t k
      refine XS.ifNo X14.here hx rfl (hb hby at_64) rfl ((if0 _ _).trans (teq hc64_15).2) ?_
      refine XS.lloadN X14.here hx rfl (hb hby at_67) rfl ?_
      refine XS.lload X14.here hx rfl (hb hby at_68) rfl ?_
      refine XS.lcmp X14.here hx rfl (hb hby at_70) rfl ?_
      exact k)
    obtain ⟨v18_0, hv18_0⟩ : ∃ z : Int32, z = (if x0 = v2_0 then (if x1 = v7_0 then (1 : Int32) else (0 : Int32)) else (0 : Int32)) := ⟨_, rfl⟩
    have P22 := own_go P19 (S' := T14.setTop (mkF m 86 #[lv x0, .second, lv x1, .second, lv x2, .second, lv x3, .second, iv x4, lv v2_0, .second, lv v7_0, .second, rv b11, rv b13, iv (((x4.toUInt32 >>> ((2 : Int32) &&& 31).toUInt32).toInt32) &&& (3 : Int32)), .unset] [(.int v18_0)])) (by
      intro t k
      by_cases hc71_20 : x0 = v2_0
      · refine XS.ifNo X14.here hx rfl (hb hby at_71) rfl ((if0 _ _).trans (teq ((lw_eq x0 v2_0).mpr hc71_20)).2) ?_
        refine XS.lloadN X14.here hx rfl (hb hby at_74) rfl ?_
        refine XS.lload X14.here hx rfl (hb hby at_75) rfl ?_
        refine XS.lcmp X14.here hx rfl (hb hby at_77) rfl ?_
        by_cases hc78_21 : x1 = v7_0
        · refine XS.ifNo X14.here hx rfl (hb hby at_78) rfl ((if0 _ _).trans (teq ((lw_eq x1 v7_0).mpr hc78_21)).2) ?_
          refine XS.iconst X14.here hx rfl (hb hby at_81) ?_
          refine XS.goto X14.here hx rfl (pc0 := 82) (pc' := 86) rfl (hb hby at_82) (by decide) (by decide) ?_
          have q_v18_0 : v18_0 = (1 : Int32) := by rw [hv18_0, if_pos hc71_20, if_pos hc78_21]
          subst q_v18_0
          exact k
        · refine XS.ifYes X14.here hx rfl (pc0 := 78) (pc' := 85) rfl (hb hby at_78) rfl ((if0 _ _).trans (feq (fun q => hc78_21 ((lw_eq x1 v7_0).mp q))).2) (by decide) (by decide) ?_
          refine XS.iconst X14.here hx rfl (hb hby at_85) ?_
          have q_v18_0 : v18_0 = (0 : Int32) := by rw [hv18_0, if_pos hc71_20, if_neg hc78_21]
          subst q_v18_0
          exact k
      · refine XS.ifYes X14.here hx rfl (pc0 := 71) (pc' := 85) rfl (hb hby at_71) rfl ((if0 _ _).trans (feq (fun q => hc71_20 ((lw_eq x0 v2_0).mp q))).2) (by decide) (by decide) ?_
        refine XS.iconst X14.here hx rfl (hb hby at_85) ?_
        have q_v18_0 : v18_0 = (0 : Int32) := by rw [hv18_0, if_neg hc71_20]
        subst q_v18_0
        exact k)
    have q24 := (Nat.lt_of_lt_of_le A11.lt K12.1)
    have ne23 : b11 ≠ b13 := Nat.ne_of_lt (Nat.lt_of_lt_of_le q24 (Nat.le_of_eq g13.symm))
    have ni25 := (ninS ne23 nin0)
    have q26 := ((r12_1.ext E13).keep K14 ni25)
    have q27 := ((r12_2.ext E13).keep K14 ni25)
    have q29 := ((r12_0.ext E13).keep K14)
    obtain ⟨cq28, kq28, q28a, q28b, q28c⟩ := isOf hZ rfl q29
    obtain ⟨_, _, ⟨T28, L28, k28, n28⟩, -, X28, ⟨Lc28, hQ28, l28, y28, z28⟩, st28⟩ := X14.virtualBack hx (y := (⟨"com/example/sets_in_bits/setsinbits/hashing/Hash128", "equals", "(Ljava/lang/Object;)Z"⟩ : MethodName)) (z := (⟨"com/example/sets_in_bits/setsinbits/hashing/Hash128", "equals", "(Ljava/lang/Object;)Z"⟩ : MethodName)) hown (mvT hZ (hw _ (im 13 rfl))) (mvT hZ (hw _ (im 14 rfl))) (notFace_of_selects (args := #[]) (mvT hZ (hw _ (im 16 rfl)))) (mvT hZ (hw _ (im 16 rfl))) (mvT hZ (hw _ (im 15 rfl))) (by decide) (backOf (W := 0) (rm3 l Z a0 hw [] b11 b13 x0 x1 v2_0 v7_0 T14.heap n0 Z14_ r14_0 q26 q27 r14_1 r14_2) hZ (hw _ (im 17 rfl)) (hw _ (im 2 rfl)) (by decide) (by decide)) q28a q28c (g := (mkF m 92 #[lv x0, .second, lv x1, .second, lv x2, .second, lv x3, .second, iv x4, lv v2_0, .second, lv v7_0, .second, rv b11, rv b13, iv (((x4.toUInt32 >>> ((2 : Int32) &&& 31).toUInt32).toInt32) &&& (3 : Int32)), iv v18_0] [(.ref b13), (.ref b11)])) rfl (by rw [hml]; rfl) (Steps.refl _) (argsL := [(.ref b13)]) (rest := []) (lenOf pd_3 rfl) rfl (by show 2 * 0 + _ ≤ _; exact Nat.le_of_eq rfl) (hb hby at_92) (fun _ _ => ⟨rfl, rfl, (by decide : 2 + 0 ≤ _), (by decide : 4 + 0 ≤ _)⟩)
    dsimp only [Pt.U, Pt.locs, Pt.cells, Pt.slots] at X28 l28 y28 z28 st28 hQ28
    subst l28 y28 z28
    obtain ⟨rfl, N28q, e28⟩ := hQ28
    have N28 := Fr.app N14 N28q
    have hc97_30 : (if (x0 = v2_0 ∧ x1 = v7_0) then (1 : Int32) else (0 : Int32)) = v18_0 := own_ite hv18_0
    obtain ⟨cq31, kq31, q31a, q31b, q31c⟩ := isOf hZ e28 r14_0
    obtain ⟨_, _, ⟨T31, L31, k31, n31⟩, -, X31, ⟨Lc31, hQ31, l31, y31, z31⟩, st31⟩ := X28.virtualBack hx (y := (⟨"com/example/sets_in_bits/setsinbits/hashing/Hash128", "equals", "(Ljava/lang/Object;)Z"⟩ : MethodName)) (z := (⟨"com/example/sets_in_bits/setsinbits/hashing/Hash128", "equals", "(Ljava/lang/Object;)Z"⟩ : MethodName)) hown (mvT hZ (hw _ (im 13 rfl))) (mvT hZ (hw _ (im 14 rfl))) (notFace_of_selects (args := #[]) (mvT hZ (hw _ (im 16 rfl)))) (mvT hZ (hw _ (im 16 rfl))) (mvT hZ (hw _ (im 15 rfl))) (by decide) (backOf (W := 0) (rm3 l Z a0 hw [] b13 b11 v2_0 v7_0 x0 x1 T14.heap n0 Z14_ q29 r14_1 r14_2 q26 q27) hZ (hw _ (im 17 rfl)) (hw _ (im 2 rfl)) (by decide) (by decide)) q31a q31c (g := (mkF m 104 #[lv x0, .second, lv x1, .second, lv x2, .second, lv x3, .second, iv x4, lv v2_0, .second, lv v7_0, .second, rv b11, rv b13, iv (((x4.toUInt32 >>> ((2 : Int32) &&& 31).toUInt32).toInt32) &&& (3 : Int32)), iv v18_0] [(.ref b11), (.ref b13)])) rfl (by rw [hml]; rfl) (Steps.refl _) (argsL := [(.ref b11)]) (rest := []) (lenOf pd_3 rfl) rfl (by show 2 * 0 + _ ≤ _; exact Nat.le_of_eq rfl) (hb hby at_104) (fun _ _ => ⟨rfl, e28, (by decide : 2 + 0 ≤ _), (by decide : 4 + 0 ≤ _)⟩)
    dsimp only [Pt.U, Pt.locs, Pt.cells, Pt.slots] at X31 l31 y31 z31 st31 hQ31
    subst l31 y31 z31
    obtain ⟨rfl, N31q, e31⟩ := hQ31
    have N31 := Fr.app N28 N31q
    have hc109_32 : (if (v2_0 = x0 ∧ v7_0 = x1) then (1 : Int32) else (0 : Int32)) = v18_0 := own_ite' hv18_0
    have P33 := own_go P22 (S' := T31.setTop (mkF m 117 #[lv x0, .second, lv x1, .second, lv x2, .second, lv x3, .second, iv x4, lv v2_0, .second, lv v7_0, .second, rv b11, rv b13, iv (((x4.toUInt32 >>> ((2 : Int32) &&& 31).toUInt32).toInt32) &&& (3 : Int32)), iv v18_0] [(.int 1)])) (by
      intro t k
      refine XS.istore X14.here hx rfl (hb hby at_86) rfl (l' := #[lv x0, .second, lv x1, .second, lv x2, .second, lv x3, .second, iv x4, lv v2_0, .second, lv v7_0, .second, rv b11, rv b13, iv (((x4.toUInt32 >>> ((2 : Int32) &&& 31).toUInt32).toInt32) &&& (3 : Int32)), iv v18_0]) rfl ?_
      refine XS.aload X14.here hx rfl (hb hby at_88) rfl rfl ?_
      refine XS.aload X14.here hx rfl (hb hby at_90) rfl rfl ?_
      refine st28.trans ?_
      refine XS.iload X28.here hx rfl (hb hby at_95) rfl ?_
      refine XS.icmpNo X28.here hx rfl (hb hby at_97) rfl (teq hc97_30).2 ?_
      refine XS.aload X28.here hx rfl (hb hby at_100) rfl rfl ?_
      refine XS.aload X28.here hx rfl (hb hby at_102) rfl rfl ?_
      show Steps p.tables e below (T28.setTop (mkF m 104 #[lv x0, .second, lv x1, .second, lv x2, .second, lv x3, .second, iv x4, lv v2_0, .second, lv v7_0, .second, rv b11, rv b13, iv (((x4.toUInt32 >>> ((2 : Int32) &&& 31).toUInt32).toInt32) &&& (3 : Int32)), iv v18_0] [(.ref b11), (.ref b13)])) _
      refine st31.trans ?_
      refine XS.iload X31.here hx rfl (hb hby at_107) rfl ?_
      refine XS.icmpNo X31.here hx rfl (hb hby at_109) rfl (teq hc109_32).2 ?_
      refine XS.iconst X31.here hx rfl (hb hby at_112) ?_
      refine XS.goto X31.here hx rfl (pc0 := 113) (pc' := 117) rfl (hb hby at_113) (by decide) (by decide) ?_
      exact k)
    obtain ⟨fs, hr, hrun, hended, hW, hsame⟩ := X31.leave (v := some (.int 1)) (fun h => by rw [Bd.returns] at h; cases h)
    refine ⟨_, _, P33 _ ?_, hrun, hended, _, _, rfl, ?_, ⟨_, rfl⟩, hW, hsame.mono (by decide) (by decide)⟩
    · show Steps p.tables e below (T31.setTop (mkF m 117 #[lv x0, .second, lv x1, .second, lv x2, .second, lv x3, .second, iv x4, lv v2_0, .second, lv v7_0, .second, rv b11, rv b13, iv (((x4.toUInt32 >>> ((2 : Int32) &&& 31).toUInt32).toInt32) &&& (3 : Int32)), iv v18_0] [(.int 1)])) _
      exact retN X31 hx (t := .boolean) Bd.returns (by simp) (hb hby at_117) hr
    · show Q0 Z x0 x1 x2 x3 x4 ca cl h0 n0 _ T31.heap _
      rw [e31]
      exact ⟨rfl, N31⟩
  · have P35 := own_go P16 (S' := T14.setTop (mkF m 121 #[lv x0, .second, lv x1, .second, lv x2, .second, lv x3, .second, iv x4, lv v2_0, .second, lv v7_0, .second, rv b11, rv b13, iv (((x4.toUInt32 >>> ((2 : Int32) &&& 31).toUInt32).toInt32) &&& (3 : Int32)), .unset] [(.int 1), (.int (((x4.toUInt32 >>> ((2 : Int32) &&& 31).toUInt32).toInt32) &&& (3 : Int32)))])) (by
      intro t k
      refine XS.ifYes X14.here hx rfl (pc0 := 64) (pc' := 118) rfl (hb hby at_64) rfl ((if0 _ _).trans (feq hc64_15).2) (by decide) (by decide) ?_
      refine XS.iload X14.here hx rfl (hb hby at_118) rfl ?_
      refine XS.iconst X14.here hx rfl (hb hby at_120) ?_
      exact k)
    by_cases hc121_34 : (((x4.toUInt32 >>> ((2 : Int32) &&& 31).toUInt32).toInt32) &&& (3 : Int32)) = (1 : Int32)
    · have q37 := ((r12_0.ext E13).keep K14)
      obtain ⟨cq36, kq36, q36a, q36b, q36c⟩ := isOf hZ rfl q37
      obtain ⟨_, _, ⟨T36, L36, k36, n36⟩, -, X36, ⟨Lc36, hQ36, l36, y36, z36⟩, st36⟩ := X14.virtualBack hx (y := (⟨"com/example/sets_in_bits/setsinbits/hashing/Hash128", "equals", "(Ljava/lang/Object;)Z"⟩ : MethodName)) (z := (⟨"com/example/sets_in_bits/setsinbits/hashing/Hash128", "equals", "(Ljava/lang/Object;)Z"⟩ : MethodName)) hown (mvT hZ (hw _ (im 13 rfl))) (mvT hZ (hw _ (im 14 rfl))) (notFace_of_selects (args := #[]) (mvT hZ (hw _ (im 16 rfl)))) (mvT hZ (hw _ (im 16 rfl))) (mvT hZ (hw _ (im 15 rfl))) (by decide) (backOf (W := 0) (rm3n l Z a0 hw [] b11 T14.heap n0 Z14_ ) hZ (hw _ (im 17 rfl)) (hw _ (im 2 rfl)) (by decide) (by decide)) q36a q36c (g := (mkF m 127 #[lv x0, .second, lv x1, .second, lv x2, .second, lv x3, .second, iv x4, lv v2_0, .second, lv v7_0, .second, rv b11, rv b13, iv (((x4.toUInt32 >>> ((2 : Int32) &&& 31).toUInt32).toInt32) &&& (3 : Int32)), .unset] [.null, (.ref b11)])) rfl (by rw [hml]; rfl) (Steps.refl _) (argsL := [.null]) (rest := []) (lenOf pd_3 rfl) rfl (by show 2 * 0 + _ ≤ _; exact Nat.le_of_eq rfl) (hb hby at_127) (fun _ _ => ⟨rfl, rfl, (by decide : 2 + 0 ≤ _), (by decide : 4 + 0 ≤ _)⟩)
      dsimp only [Pt.U, Pt.locs, Pt.cells, Pt.slots] at X36 l36 y36 z36 st36 hQ36
      subst l36 y36 z36
      obtain ⟨rfl, N36q, e36⟩ := hQ36
      have N36 := Fr.app N14 N36q
      have P39 := own_go P35 (S' := T36.setTop (mkF m 138 #[lv x0, .second, lv x1, .second, lv x2, .second, lv x3, .second, iv x4, lv v2_0, .second, lv v7_0, .second, rv b11, rv b13, iv (((x4.toUInt32 >>> ((2 : Int32) &&& 31).toUInt32).toInt32) &&& (3 : Int32)), .unset] [(.int 1)])) (by
        intro t k
        refine XS.icmpNo X14.here hx rfl (hb hby at_121) rfl (teq hc121_34).2 ?_
        refine XS.aload X14.here hx rfl (hb hby at_124) rfl rfl ?_
        refine XS.aconstNull X14.here hx rfl (hb hby at_126) ?_
        refine st36.trans ?_
        refine XS.ifNo X36.here hx rfl (hb hby at_130) rfl ((if0 _ _).trans (teq (by decide)).2) ?_
        refine XS.iconst X36.here hx rfl (hb hby at_133) ?_
        refine XS.goto X36.here hx rfl (pc0 := 134) (pc' := 138) rfl (hb hby at_134) (by decide) (by decide) ?_
        exact k)
      obtain ⟨fs, hr, hrun, hended, hW, hsame⟩ := X36.leave (v := some (.int 1)) (fun h => by rw [Bd.returns] at h; cases h)
      refine ⟨_, _, P39 _ ?_, hrun, hended, _, _, rfl, ?_, ⟨_, rfl⟩, hW, hsame.mono (by decide) (by decide)⟩
      · show Steps p.tables e below (T36.setTop (mkF m 138 #[lv x0, .second, lv x1, .second, lv x2, .second, lv x3, .second, iv x4, lv v2_0, .second, lv v7_0, .second, rv b11, rv b13, iv (((x4.toUInt32 >>> ((2 : Int32) &&& 31).toUInt32).toInt32) &&& (3 : Int32)), .unset] [(.int 1)])) _
        exact retN X36 hx (t := .boolean) Bd.returns (by simp) (hb hby at_138) hr
      · show Q0 Z x0 x1 x2 x3 x4 ca cl h0 n0 _ T36.heap _
        rw [e36]
        exact ⟨rfl, N36⟩
    · have P41 := own_go P35 (S' := T14.setTop (mkF m 142 #[lv x0, .second, lv x1, .second, lv x2, .second, lv x3, .second, iv x4, lv v2_0, .second, lv v7_0, .second, rv b11, rv b13, iv (((x4.toUInt32 >>> ((2 : Int32) &&& 31).toUInt32).toInt32) &&& (3 : Int32)), .unset] [(.int 2), (.int (((x4.toUInt32 >>> ((2 : Int32) &&& 31).toUInt32).toInt32) &&& (3 : Int32)))])) (by
        intro t k
        refine XS.icmpYes X14.here hx rfl (pc0 := 121) (pc' := 139) rfl (hb hby at_121) rfl (feq hc121_34).2 (by decide) (by decide) ?_
        refine XS.iload X14.here hx rfl (hb hby at_139) rfl ?_
        refine XS.iconst X14.here hx rfl (hb hby at_141) ?_
        exact k)
      by_cases hc142_40 : (((x4.toUInt32 >>> ((2 : Int32) &&& 31).toUInt32).toInt32) &&& (3 : Int32)) = (2 : Int32)
      · obtain ⟨_, _, ⟨T42, L42, k42, n42⟩, -, X42, ⟨Lc42, hQ42, l42, y42, z42⟩, st42⟩ := Jvm.LawKit.callS X14 hx (y := (⟨"java/lang/Long", "valueOf", "(J)Ljava/lang/Long;"⟩ : MethodName)) hown (mvT hZ (hw _ (im 20 rfl))) (mvT hZ (hw _ (im 21 rfl))) (mvT hZ (hw _ (im 22 rfl))) (mvT hZ (hw _ (im 23 rfl))) (by decide) (backOf (W := 0) (rm4 l Z a0 hw [] x0 ca cl T14.heap n0 Z14_ O14_ pre_S_cache (BX)) hZ (hw _ (im 23 rfl)) (hw _ (im 22 rfl)) (by decide) (by decide)) (g := (mkF m 146 #[lv x0, .second, lv x1, .second, lv x2, .second, lv x3, .second, iv x4, lv v2_0, .second, lv v7_0, .second, rv b11, rv b13, iv (((x4.toUInt32 >>> ((2 : Int32) &&& 31).toUInt32).toInt32) &&& (3 : Int32)), .unset] [(.long x0)])) rfl (by rw [hml]; rfl) (argsL := [(.long x0)]) (rest := []) (lenOf pd_4 rfl) rfl (by show 2 * 0 + _ ≤ _; exact Nat.le_of_eq rfl) (hb hby at_146) (fun _ _ => ⟨rfl, rfl, (by decide : 2 + 1 ≤ _), (by decide : 4 + 1 ≤ _)⟩)
        dsimp only [Pt.U, Pt.locs, Pt.cells, Pt.slots] at X42 l42 y42 z42 st42 hQ42
        subst l42 y42 z42
        obtain ⟨b_42, rfl, N42q, K42, r42_0⟩ := hQ42
        have N42 := Fr.app N14 N42q
        have Z42_ : n0 ≤ T42.heap.size := Nat.le_trans Z14_ K42.1
        have O42_ := O14_.keep K42 all0
        have q44 := (((r12_0.ext E13).keep K14).keep K42)
        obtain ⟨cq43, kq43, q43a, q43b, q43c⟩ := isOf hZ rfl q44
        obtain ⟨_, _, ⟨T43, L43, k43, n43⟩, -, X43, ⟨Lc43, hQ43, l43, y43, z43⟩, st43⟩ := X42.virtualBack hx (y := (⟨"com/example/sets_in_bits/setsinbits/hashing/Hash128", "equals", "(Ljava/lang/Object;)Z"⟩ : MethodName)) (z := (⟨"com/example/sets_in_bits/setsinbits/hashing/Hash128", "equals", "(Ljava/lang/Object;)Z"⟩ : MethodName)) hown (mvT hZ (hw _ (im 13 rfl))) (mvT hZ (hw _ (im 14 rfl))) (notFace_of_selects (args := #[]) (mvT hZ (hw _ (im 16 rfl)))) (mvT hZ (hw _ (im 16 rfl))) (mvT hZ (hw _ (im 15 rfl))) (by decide) (backOf (W := 0) (rm3l l Z a0 hw [] b11 b_42 T42.heap n0 Z42_ r42_0) hZ (hw _ (im 17 rfl)) (hw _ (im 2 rfl)) (by decide) (by decide)) q43a q43c (g := (mkF m 155 #[lv x0, .second, lv x1, .second, lv x2, .second, lv x3, .second, iv x4, lv v2_0, .second, lv v7_0, .second, rv b11, rv b13, iv (((x4.toUInt32 >>> ((2 : Int32) &&& 31).toUInt32).toInt32) &&& (3 : Int32)), rv b_42] [(.ref b_42), (.ref b11)])) rfl (by rw [hml]; rfl) (Steps.refl _) (argsL := [(.ref b_42)]) (rest := []) (lenOf pd_3 rfl) rfl (by show 2 * 0 + _ ≤ _; exact Nat.le_of_eq rfl) (hb hby at_155) (fun _ _ => ⟨rfl, rfl, (by decide : 3 + 0 ≤ _), (by decide : 5 + 0 ≤ _)⟩)
        dsimp only [Pt.U, Pt.locs, Pt.cells, Pt.slots] at X43 l43 y43 z43 st43 hQ43
        subst l43 y43 z43
        obtain ⟨rfl, N43q, e43⟩ := hQ43
        have N43 := Fr.app N42 N43q
        have P46 := own_go P41 (S' := T43.setTop (mkF m 166 #[lv x0, .second, lv x1, .second, lv x2, .second, lv x3, .second, iv x4, lv v2_0, .second, lv v7_0, .second, rv b11, rv b13, iv (((x4.toUInt32 >>> ((2 : Int32) &&& 31).toUInt32).toInt32) &&& (3 : Int32)), rv b_42] [(.int 1)])) (by
          intro t k
          refine XS.icmpNo X14.here hx rfl (hb hby at_142) rfl (teq hc142_40).2 ?_
          refine XS.lloadN X14.here hx rfl (hb hby at_145) rfl ?_
          refine st42 _ ?_
          refine XS.astore X42.here hx rfl (hb hby at_149) rfl rfl (l' := #[lv x0, .second, lv x1, .second, lv x2, .second, lv x3, .second, iv x4, lv v2_0, .second, lv v7_0, .second, rv b11, rv b13, iv (((x4.toUInt32 >>> ((2 : Int32) &&& 31).toUInt32).toInt32) &&& (3 : Int32)), rv b_42]) rfl ?_
          refine XS.aload X42.here hx rfl (hb hby at_151) rfl rfl ?_
          refine XS.aload X42.here hx rfl (hb hby at_153) rfl rfl ?_
          refine st43.trans ?_
          refine XS.ifNo X43.here hx rfl (hb hby at_158) rfl ((if0 _ _).trans (teq (by decide)).2) ?_
          show Steps p.tables e below (T43.setTop (mkF m 161 #[lv x0, .second, lv x1, .second, lv x2, .second, lv x3, .second, iv x4, lv v2_0, .second, lv v7_0, .second, rv b11, rv b13, iv (((x4.toUInt32 >>> ((2 : Int32) &&& 31).toUInt32).toInt32) &&& (3 : Int32)), rv b_42] [])) _
          refine XS.iconst X43.here hx rfl (hb hby at_161) ?_
          refine XS.goto X43.here hx rfl (pc0 := 162) (pc' := 166) rfl (hb hby at_162) (by decide) (by decide) ?_
          exact k)
        obtain ⟨fs, hr, hrun, hended, hW, hsame⟩ := X43.leave (v := some (.int 1)) (fun h => by rw [Bd.returns] at h; cases h)
        refine ⟨_, _, P46 _ ?_, hrun, hended, _, _, rfl, ?_, ⟨_, rfl⟩, hW, hsame.mono (by decide) (by decide)⟩
        · show Steps p.tables e below (T43.setTop (mkF m 166 #[lv x0, .second, lv x1, .second, lv x2, .second, lv x3, .second, iv x4, lv v2_0, .second, lv v7_0, .second, rv b11, rv b13, iv (((x4.toUInt32 >>> ((2 : Int32) &&& 31).toUInt32).toInt32) &&& (3 : Int32)), rv b_42] [(.int 1)])) _
          exact retN X43 hx (t := .boolean) Bd.returns (by simp) (hb hby at_166) hr
        · show Q0 Z x0 x1 x2 x3 x4 ca cl h0 n0 _ T43.heap _
          rw [e43]
          exact ⟨rfl, N43⟩
      · have q47 := ((r12_0.ext E13).keep K14)
        have q49 := (Nat.lt_of_lt_of_le A11.lt K12.1)
        have ne48 : b11 ≠ b13 := Nat.ne_of_lt (Nat.lt_of_lt_of_le q49 (Nat.le_of_eq g13.symm))
        have ni50 := (ninS ne48 nin0)
        have q51 := ((r12_1.ext E13).keep K14 ni50)
        have q52 := ((r12_2.ext E13).keep K14 ni50)
        obtain ⟨cq53, kq53, q53a, q53b, q53c⟩ := isOf hZ rfl q47
        obtain ⟨_, _, ⟨T53, L53, k53, n53⟩, -, X53, ⟨Lc53, hQ53, l53, y53, z53⟩, st53⟩ := X14.virtualBack hx (y := (⟨"com/example/sets_in_bits/setsinbits/hashing/Hash128", "equals", "(Ljava/lang/Object;)Z"⟩ : MethodName)) (z := (⟨"com/example/sets_in_bits/setsinbits/hashing/Hash128", "equals", "(Ljava/lang/Object;)Z"⟩ : MethodName)) hown (mvT hZ (hw _ (im 13 rfl))) (mvT hZ (hw _ (im 14 rfl))) (notFace_of_selects (args := #[]) (mvT hZ (hw _ (im 16 rfl)))) (mvT hZ (hw _ (im 16 rfl))) (mvT hZ (hw _ (im 15 rfl))) (by decide) (backOf (W := 0) (rm3 l Z a0 hw [] b11 b11 x0 x1 x0 x1 T14.heap n0 Z14_ q47 q51 q52 q51 q52) hZ (hw _ (im 17 rfl)) (hw _ (im 2 rfl)) (by decide) (by decide)) q53a q53c (g := (mkF m 175 #[lv x0, .second, lv x1, .second, lv x2, .second, lv x3, .second, iv x4, lv v2_0, .second, lv v7_0, .second, rv b11, rv b13, iv (((x4.toUInt32 >>> ((2 : Int32) &&& 31).toUInt32).toInt32) &&& (3 : Int32)), rv b11] [(.ref b11), (.ref b11)])) rfl (by rw [hml]; rfl) (Steps.refl _) (argsL := [(.ref b11)]) (rest := []) (lenOf pd_3 rfl) rfl (by show 2 * 0 + _ ≤ _; exact Nat.le_of_eq rfl) (hb hby at_175) (fun _ _ => ⟨rfl, rfl, (by decide : 2 + 0 ≤ _), (by decide : 4 + 0 ≤ _)⟩)
        dsimp only [Pt.U, Pt.locs, Pt.cells, Pt.slots] at X53 l53 y53 z53 st53 hQ53
        subst l53 y53 z53
        obtain ⟨rfl, N53q, e53⟩ := hQ53
        have N53 := Fr.app N14 N53q
        have P54 := own_go P41 (S' := T53.setTop (mkF m 178 #[lv x0, .second, lv x1, .second, lv x2, .second, lv x3, .second, iv x4, lv v2_0, .second, lv v7_0, .second, rv b11, rv b13, iv (((x4.toUInt32 >>> ((2 : Int32) &&& 31).toUInt32).toInt32) &&& (3 : Int32)), rv b11] [(.int (if (x0 = x0 ∧ x1 = x1) then (1 : Int32) else (0 : Int32)))])) (by
          intro t k
          refine XS.icmpYes X14.here hx rfl (pc0 := 142) (pc' := 167) rfl (hb hby at_142) rfl (feq hc142_40).2 (by decide) (by decide) ?_
          refine XS.aload X14.here hx rfl (hb hby at_167) rfl rfl ?_
          refine XS.astore X14.here hx rfl (hb hby at_169) rfl rfl (l' := #[lv x0, .second, lv x1, .second, lv x2, .second, lv x3, .second, iv x4, lv v2_0, .second, lv v7_0, .second, rv b11, rv b13, iv (((x4.toUInt32 >>> ((2 : Int32) &&& 31).toUInt32).toInt32) &&& (3 : Int32)), rv b11]) rfl ?_
          refine XS.aload X14.here hx rfl (hb hby at_171) rfl rfl ?_
          refine XS.aload X14.here hx rfl (hb hby at_173) rfl rfl ?_
          refine st53.trans ?_
          exact k)
        have hv55 : (if (x0 = x0 ∧ x1 = x1) then (1 : Int32) else (0 : Int32)) = (1 : Int32) := if_pos ⟨rfl, rfl⟩
        have P55 := own_go P54 (S' := T53.setTop (mkF m 178 #[lv x0, .second, lv x1, .second, lv x2, .second, lv x3, .second, iv x4, lv v2_0, .second, lv v7_0, .second, rv b11, rv b13, iv (((x4.toUInt32 >>> ((2 : Int32) &&& 31).toUInt32).toInt32) &&& (3 : Int32)), rv b11] [(.int 1)])) (by
          intro t k
          rw [hv55]
          exact k)
        obtain ⟨fs, hr, hrun, hended, hW, hsame⟩ := X53.leave (v := some (.int 1)) (fun h => by rw [Bd.returns] at h; cases h)
        refine ⟨_, _, P55 _ ?_, hrun, hended, _, _, rfl, ?_, ⟨_, rfl⟩, hW, hsame.mono (by decide) (by decide)⟩
        · show Steps p.tables e below (T53.setTop (mkF m 178 #[lv x0, .second, lv x1, .second, lv x2, .second, lv x3, .second, iv x4, lv v2_0, .second, lv v7_0, .second, rv b11, rv b13, iv (((x4.toUInt32 >>> ((2 : Int32) &&& 31).toUInt32).toInt32) &&& (3 : Int32)), rv b11] [(.int 1)])) _
          exact retN X53 hx (t := .boolean) Bd.returns (by simp) (hb hby at_178) hr
        · show Q0 Z x0 x1 x2 x3 x4 ca cl h0 n0 _ T53.heap _
          rw [e53]
          exact ⟨rfl, N53⟩

set_option maxRecDepth 65536 in
set_option maxHeartbeats 40000000 in
theorem comes_1 {Post : Tables → Env → Array Value → State → Outcome → State → Prop} (hpost : ∀ tb e args s v u, (limb_1_1.after args s (.returned v) u = true ∧ limb_1_2.after args s (.returned v) u = true ∧ True) → FrameEnd s (.returned v) u (Jvm.fieldLocs frame_1_writes args s ++ Jvm.arrayLocs frame_1_arrays args s ++ Jvm.staticLocs frame_1_statics s) 16 128 → Post tb e args s (.returned v) u) :
    ArmFor flags0 classFile x code maxLocals ret World_1 tables_1 room_1 Calls_1 rest_1 Pre_1 Post := by
  intro l hfl _ _ p e ha hc hk s m args below hf hA hF happ hP
  obtain ⟨hcalls, hrest, hpre⟩ := hP
  obtain ⟨-, -, -, hnamed, -, -, -, hat⟩ := (Spec.applies_iff hf).mp happ
  obtain ⟨hg, hn⟩ := and_e (Cond.before_iff.mp (show (Jvm.Cond.and given_1 narrow_1).before args s = true from hpre))
  obtain ⟨hcnt, hgs0⟩ := and_e hg
  obtain ⟨hk0, hgs1⟩ := and_e hgs0
  obtain ⟨hk1, hgs2⟩ := and_e hgs1
  obtain ⟨hk2, hgs3⟩ := and_e hgs2
  obtain ⟨hk3, hgs4⟩ := and_e hgs3
  obtain ⟨w0, w1, w2, w3, w4, rfl⟩ : ∃ w0 w1 w2 w3 w4 : Value, args = #[w0, w1, w2, w3, w4] := by
    have hs : args.size = 5 := by simpa [Cond.value, given_1] using hcnt
    obtain ⟨L⟩ := args
    match L, hs with
    | [w0, w1, w2, w3, w4], _ => exact ⟨w0, w1, w2, w3, w4, rfl⟩
  have hw := fun d (hd : d ∈ tables_1) => atoms_spec (ws := Jvm.Cond.code x code maxLocals ret :: tables_1) hat d (List.mem_cons_of_mem _ hd)
  have hfit : Fit s := fun {y c} hc i hi => by
    obtain ⟨ha, rfl⟩ := Array.getElem?_eq_some_iff.mp hc
    have q := List.all_eq_true.mp ((Array.all_eq_true_iff_forall_mem.mp hF) _ (Array.getElem_mem ha)) i (List.mem_range.mpr hi)
    simpa [Array.getElem?_eq_getElem hi] using q
  obtain ⟨hsets, hown0⟩ := atoms_of _ (rest_1_c_eq ▸ (show rest_1_c.before _ s = true from hrest))
  have hr0 := Cond.before_iff.mp hown0
  obtain ⟨i0, ei0⟩ := isL_v hk0
  obtain rfl : w0 = (.long i0) := Option.some.inj ei0
  obtain ⟨i1, ei1⟩ := isL_v hk1
  obtain rfl : w1 = (.long i1) := Option.some.inj ei1
  obtain ⟨i2, ei2⟩ := isL_v hk2
  obtain rfl : w2 = (.long i2) := Option.some.inj ei2
  obtain ⟨i3, ei3⟩ := isL_v hk3
  obtain rfl : w3 = (.long i3) := Option.some.inj ei3
  obtain ⟨i4, ei4⟩ := is_v hgs4
  obtain rfl : w4 = (.int i4) := Option.some.inj ei4
  have hs2 := Cond.before_iff.mp (hsets _ (List.mem_of_getElem? (i := 2) rfl))
  have hs4 := Cond.before_iff.mp (hsets _ (List.mem_of_getElem? (i := 4) rfl))
  have hs5 := Cond.before_iff.mp (hsets _ (List.mem_of_getElem? (i := 5) rfl))
  obtain ⟨ca, eca⟩ := arr_v hs2
  have SC : Sta s s.heap "java/lang/Long$LongCache" "cache" "[Ljava/lang/Long;" (.ref ca) := Sta.start eca (Or.inl (hsets _ (List.mem_of_getElem? (i := 1) rfl)))
  obtain ⟨cl, Acl⟩ := Arr.start eca hs2
  have elen := eqv_i (Term.int_eval _) hs4
  obtain ⟨hl1, hl2⟩ := own_len eca (Acl.fin (Vm.Alike.refl _)) elen
  have BX : Bxs s ca cl "java/lang/Long" "J" (256 : Int32) (fun j => .long (j - (128 : Int32)).toInt64) := Bxs.start (fun idx => eca) Acl hl1 hl2 (by decide) hs5 (fun X j hj h => eqv_l (i2l_at (own_sub (idx_at hj) (Term.int_eval _))) h)
  obtain ⟨n, o, h1, h2, h3, _, L, rfl, ⟨rfl, N⟩, hq⟩ := rm0 l s _ hw tables_1 i0 i1 i2 i3 i4 ca cl s.heap s.heap.size (Nat.le_refl _) (Old.start s) SC BX p e ha hc hk s m _ below hf ((Spec.applies_iff_loose hf).mp happ).1 ⟨rfl, State.Warmed39.refl s, rfl⟩ trivial
  refine ⟨n, _, h1, h2, h3, hpost _ _ _ _ _ _ ⟨Cond.after_iff.mpr rfl, Cond.after_iff.mpr (eq_i res_at (Term.int_eval (1)) rfl), trivial⟩ ⟨hq.1, hq.2.1, (hq.2.2.sift fun y hy => Or.inr (N y hy)).mono (by decide) (by decide)⟩⟩
theorem main_1_1 : Claimed_1_1 := comes_1 fun _ _ _ _ _ _ h hF => ⟨h.1, hF⟩
theorem main_1_2 : Claimed_1_2 := comes_1 fun _ _ _ _ _ _ h hF => ⟨h.2.1, hF⟩
end Jvm.Pilot.@@N@@
namespace Jvm.Pilot.@@N@@
open Jvm Jvm.ClassFile Sem Op Lib Jvm.Free Jvm.Stand Jvm.Pilot.@@N@@.Jvm.D
/-! MADE BY PROGRAM (witnessworld.py) out of the Statement's table words and the real class files: 16 classes; the members and pool entries that the words name. The judged class is class 1, her method 1. -/
namespace start1
open Jvm.ClassFile
def u (s : String) : CpInfo := .utf8 (stringToUtf16 s)
/-- a pool by its gaps: so many unusable entries, then the entry; so many at the end -/
def gap : Nat → List CpInfo → List CpInfo
  | 0, r => r
  | n + 1, r => .unusable :: gap n r
def poolList (es : List (Nat × CpInfo)) (last : Nat) : List CpInfo := es.foldr (fun e r => gap e.1 (e.2 :: r)) (gap last [])
def pool (es : List (Nat × CpInfo)) (last : Nat) : Array CpInfo := ⟨poolList es last⟩
def fileOf (pool : Array CpInfo) (this : Nat) (attrs : Array Attribute := #[]) (ms : Array MethodInfo := #[]) (fl : Nat := 33) (sup : Nat := 0) (ifs : Array Nat := #[]) (fds : Array FieldInfo := #[]) : ClassFile where
  minorVersion := 0
  majorVersion := 65
  constantPool := pool
  accessFlags := fl
  thisClass := this
  superClass := sup
  interfaces := ifs
  fields := fds
  methods := ms
  attributes := attrs
def plain (name : String) (sup : Option ClassId) : Class where
  name := name
  kind := .ordinary
  loader := none
  accessFlags := 33
  super := sup
  interfaces := #[]
  cf := none
  fields := #[]
  methods := #[]
  instanceTypes := #[]
  staticTypes := #[]
  resolved := #[]
  callSites := []
  init := .initialized
  statics := none
  mirror := none

def pool0 : Array CpInfo := pool [(5, u "<init>"), (0, u "()V"), (1, .class_ 10), (1, u "java/lang/Object")] 113

def k0c0 : Code := { maxStack := 0, maxLocals := 1, code := object_method_1_code, exceptionTable := #[], attributes := #[] }
def k0m0 : Method := { name := "<init>", desc := "()V", sig := { parameters := [], returnType := none }, accessFlags := 1, code := some k0c0 }
/-- java/lang/Object -/
def k0 : Class := { plain "java/lang/Object" none with
  accessFlags := 33
  interfaces := #[]
  cf := some (fileOf pool0 8 #[] #[{ accessFlags := 1, nameIndex := 5, descriptorIndex := 6, attributes := #[] }] 33 0 #[] #[])
  fields := #[]
  methods := #[k0m0]
  instanceTypes := #[]
  staticTypes := #[]
  resolved := Array.replicate 124 none
  statics := none }

def pool1 : Array CpInfo := pool [(2, .class_ 4), (1, u "java/lang/Object"), (0, u "<init>"), (0, u "()V"), (0, .class_ 8), (0, u "com/example/sets_in_bits/setsinbits/hashing/Hash128"), (0, .methodref 7 10), (0, .nameAndType 5 11), (0, u "(JJ)V"), (0, .methodref 7 13), (0, .nameAndType 14 15), (0, u "equals"), (0, u "(Ljava/lang/Object;)Z"), (0, .methodref 17 18), (0, .class_ 19), (0, .nameAndType 20 21), (0, u "java/lang/Long"), (0, u "valueOf"), (0, u "(J)Ljava/lang/Long;"), (0, .class_ 23), (0, u "com/example/sets_in_bits/setsinbits/hashing/Hash128EqualsPinLaw"), (2, u "law"), (0, u "(JJJJI)Z")] 3

def k1m0 : Method := { name := "<init>", desc := "()V", sig := { parameters := [], returnType := none }, accessFlags := 1, code := none }
def k1c1 : Code := { maxStack := 6, maxLocals := 17, code := code, exceptionTable := #[], attributes := #[] }
def k1m1 : Method := { name := "law", desc := "(JJJJI)Z", sig := { parameters := [.long, .long, .long, .long, .int], returnType := some .boolean }, accessFlags := 9, code := some k1c1 }
/-- com/example/sets_in_bits/setsinbits/hashing/Hash128EqualsPinLaw -/
def k1 : Class := { plain "com/example/sets_in_bits/setsinbits/hashing/Hash128EqualsPinLaw" (some 0) with
  accessFlags := 49
  interfaces := #[]
  cf := some (fileOf pool1 22 #[] #[{ accessFlags := 1, nameIndex := 5, descriptorIndex := 6, attributes := #[] }, { accessFlags := 9, nameIndex := 26, descriptorIndex := 27, attributes := #[] }] 49 2 #[] #[])
  fields := #[]
  methods := #[k1m0, k1m1]
  instanceTypes := #[]
  staticTypes := #[]
  resolved := Array.replicate 31 none
  statics := none }

def pool2 : Array CpInfo := pool [(1, .methodref 2 3), (0, .class_ 4), (0, .nameAndType 5 6), (0, u "java/lang/Object"), (0, u "<init>"), (0, u "()V"), (0, .fieldref 8 9), (0, .class_ 10), (0, .nameAndType 11 12), (0, u "com/example/sets_in_bits/setsinbits/hashing/Hash128"), (0, u "first"), (0, u "J"), (0, .fieldref 8 14), (0, .nameAndType 15 12), (0, u "second"), (18, u "(JJ)V"), (3, u "equals"), (0, u "(Ljava/lang/Object;)Z")] 6

def k2c0 : Code := { maxStack := 3, maxLocals := 5, code := prog_45_method_1_code, exceptionTable := #[], attributes := #[] }
def k2m0 : Method := { name := "<init>", desc := "(JJ)V", sig := { parameters := [.long, .long], returnType := none }, accessFlags := 1, code := some k2c0 }
def k2c1 : Code := { maxStack := 4, maxLocals := 3, code := prog_45_method_4_code, exceptionTable := #[], attributes := #[] }
def k2m1 : Method := { name := "equals", desc := "(Ljava/lang/Object;)Z", sig := { parameters := [(.object "java/lang/Object")], returnType := some .boolean }, accessFlags := 1, code := some k2c1 }
/-- com/example/sets_in_bits/setsinbits/hashing/Hash128 -/
def k2 : Class := { plain "com/example/sets_in_bits/setsinbits/hashing/Hash128" (some 0) with
  accessFlags := 49
  interfaces := #[]
  cf := some (fileOf pool2 8 #[] #[{ accessFlags := 1, nameIndex := 5, descriptorIndex := 34, attributes := #[] }, { accessFlags := 1, nameIndex := 38, descriptorIndex := 39, attributes := #[] }] 49 2 #[] #[{ accessFlags := 18, nameIndex := 11, descriptorIndex := 12, attributes := #[] }, { accessFlags := 18, nameIndex := 15, descriptorIndex := 12, attributes := #[] }])
  fields := #[{ name := "first", type := .long, accessFlags := 18, slot := 0, constantValue := 0 }, { name := "second", type := .long, accessFlags := 18, slot := 1, constantValue := 0 }]
  methods := #[k2m0, k2m1]
  instanceTypes := #[.long, .long]
  staticTypes := #[]
  resolved := Array.replicate 46 none
  statics := none }

def pool3 : Array CpInfo := pool [(1, .class_ 2), (0, u "java/io/Serializable"), (0, .class_ 4), (0, u "java/lang/Object")] 2

/-- java/io/Serializable -/
def k3 : Class := { plain "java/io/Serializable" (some 0) with
  accessFlags := 1537
  interfaces := #[]
  cf := some (fileOf pool3 1 #[] #[] 1537 3 #[] #[])
  fields := #[]
  methods := #[]
  instanceTypes := #[]
  staticTypes := #[]
  resolved := Array.replicate 7 none
  statics := none }

def pool4 : Array CpInfo := pool [(1, .methodref 2 3), (0, .class_ 4), (0, .nameAndType 5 6), (0, u "java/lang/Object"), (0, u "<init>"), (0, u "()V"), (1, .class_ 10), (1, u "java/lang/Number"), (2, .class_ 14), (0, u "java/io/Serializable"), (0, u "serialVersionUID"), (0, u "J")] 20

def k4c0 : Code := { maxStack := 1, maxLocals := 1, code := jdk_18_method_1_code, exceptionTable := #[], attributes := #[] }
def k4m0 : Method := { name := "<init>", desc := "()V", sig := { parameters := [], returnType := none }, accessFlags := 1, code := some k4c0 }
/-- java/lang/Number -/
def k4 : Class := { plain "java/lang/Number" (some 0) with
  accessFlags := 1057
  interfaces := #[3]
  cf := some (fileOf pool4 8 #[] #[{ accessFlags := 1, nameIndex := 5, descriptorIndex := 6, attributes := #[] }] 1057 2 #[13] #[{ accessFlags := 26, nameIndex := 15, descriptorIndex := 16, attributes := #[] }])
  fields := #[{ name := "serialVersionUID", type := .long, accessFlags := 26, slot := 0, constantValue := 0 }]
  methods := #[k4m0]
  instanceTypes := #[]
  staticTypes := #[.long]
  resolved := Array.replicate 37 none
  statics := none }

def pool5 : Array CpInfo := pool [(1, .class_ 2), (0, u "java/lang/Comparable"), (0, .class_ 4), (0, u "java/lang/Object")] 7

/-- java/lang/Comparable -/
def k5 : Class := { plain "java/lang/Comparable" (some 0) with
  accessFlags := 1537
  interfaces := #[]
  cf := some (fileOf pool5 1 #[] #[] 1537 3 #[] #[])
  fields := #[]
  methods := #[]
  instanceTypes := #[]
  staticTypes := #[]
  resolved := Array.replicate 12 none
  statics := none }

def pool6 : Array CpInfo := pool [(1, .class_ 2), (0, u "java/lang/constant/Constable"), (0, .class_ 4), (0, u "java/lang/Object")] 6

/-- java/lang/constant/Constable -/
def k6 : Class := { plain "java/lang/constant/Constable" (some 0) with
  accessFlags := 1537
  interfaces := #[]
  cf := some (fileOf pool6 1 #[] #[] 1537 3 #[] #[])
  fields := #[]
  methods := #[]
  instanceTypes := #[]
  staticTypes := #[]
  resolved := Array.replicate 11 none
  statics := none }

def pool7 : Array CpInfo := pool [(1, .class_ 2), (0, u "java/lang/constant/ConstantDesc"), (0, .class_ 4), (0, u "java/lang/Object")] 32

/-- java/lang/constant/ConstantDesc -/
def k7 : Class := { plain "java/lang/constant/ConstantDesc" (some 0) with
  accessFlags := 1537
  interfaces := #[]
  cf := some (fileOf pool7 1 #[] #[] 1537 3 #[] #[])
  fields := #[]
  methods := #[]
  instanceTypes := #[]
  staticTypes := #[]
  resolved := Array.replicate 37 none
  statics := none }

def pool8 : Array CpInfo := pool [(1, .class_ 2), (0, u "java/lang/Long"), (55, .nameAndType 59 60), (0, u "<init>"), (0, u "()V"), (24, u "valueOf"), (143, u "(J)Ljava/lang/Long;"), (0, .long 18446744073709551488), (1, .long 127), (1, .fieldref 235 236), (0, .class_ 237), (0, .nameAndType 238 239), (0, u "java/lang/Long$LongCache"), (0, u "cache"), (0, u "[Ljava/lang/Long;"), (0, .methodref 1 241), (0, .nameAndType 59 242), (0, u "(J)V"), (27, .methodref 271 58), (0, .class_ 272), (0, u "java/lang/Number"), (0, .fieldref 1 274), (0, .nameAndType 275 276), (0, u "value"), (0, u "J"), (84, u "TYPE"), (0, u "Ljava/lang/Class;"), (0, .class_ 364), (0, u "java/lang/Comparable"), (0, .class_ 366), (0, u "java/lang/constant/Constable"), (0, .class_ 368), (0, u "java/lang/constant/ConstantDesc"), (0, u "MIN_VALUE"), (1, u "MAX_VALUE"), (4, u "SIZE"), (0, u "I"), (1, u "BYTES"), (1, u "serialVersionUID")] 142

def k8c0 : Code := { maxStack := 4, maxLocals := 3, code := jdk_35_method_24_code, exceptionTable := #[], attributes := #[] }
def k8m0 : Method := { name := "valueOf", desc := "(J)Ljava/lang/Long;", sig := { parameters := [.long], returnType := some (.object "java/lang/Long") }, accessFlags := 9, code := some k8c0 }
def k8c1 : Code := { maxStack := 3, maxLocals := 3, code := jdk_35_method_26_code, exceptionTable := #[], attributes := #[] }
def k8m1 : Method := { name := "<init>", desc := "(J)V", sig := { parameters := [.long], returnType := none }, accessFlags := 1, code := some k8c1 }
/-- java/lang/Long -/
def k8 : Class := { plain "java/lang/Long" (some 4) with
  accessFlags := 49
  interfaces := #[5, 6, 7]
  cf := some (fileOf pool8 1 #[.nestMembers #[235]] #[{ accessFlags := 9, nameIndex := 85, descriptorIndex := 229, attributes := #[] }, { accessFlags := 1, nameIndex := 59, descriptorIndex := 242, attributes := #[] }] 49 271 #[363, 365, 367] #[{ accessFlags := 25, nameIndex := 369, descriptorIndex := 276, attributes := #[] }, { accessFlags := 25, nameIndex := 371, descriptorIndex := 276, attributes := #[] }, { accessFlags := 25, nameIndex := 361, descriptorIndex := 362, attributes := #[] }, { accessFlags := 18, nameIndex := 275, descriptorIndex := 276, attributes := #[] }, { accessFlags := 25, nameIndex := 376, descriptorIndex := 377, attributes := #[] }, { accessFlags := 25, nameIndex := 379, descriptorIndex := 377, attributes := #[] }, { accessFlags := 26, nameIndex := 381, descriptorIndex := 276, attributes := #[] }])
  fields := #[{ name := "MIN_VALUE", type := .long, accessFlags := 25, slot := 0, constantValue := 0 }, { name := "MAX_VALUE", type := .long, accessFlags := 25, slot := 1, constantValue := 0 }, { name := "TYPE", type := (.object "java/lang/Class"), accessFlags := 25, slot := 2, constantValue := 0 }, { name := "value", type := .long, accessFlags := 18, slot := 0, constantValue := 0 }, { name := "SIZE", type := .int, accessFlags := 25, slot := 3, constantValue := 0 }, { name := "BYTES", type := .int, accessFlags := 25, slot := 4, constantValue := 0 }, { name := "serialVersionUID", type := .long, accessFlags := 26, slot := 5, constantValue := 0 }]
  methods := #[k8m0, k8m1]
  instanceTypes := #[.long]
  staticTypes := #[.long, .long, (.object "java/lang/Class"), .int, .int, .long]
  resolved := Array.replicate 524 none
  statics := none }

def pool9 : Array CpInfo := pool [(2, .class_ 4), (1, u "java/lang/Object"), (0, u "<init>"), (0, u "()V"), (0, .class_ 8), (0, u "java/lang/Long"), (7, .class_ 18), (1, u "java/lang/Long$LongCache"), (0, u "$assertionsDisabled"), (0, u "Z"), (8, u "archivedCache"), (0, u "[Ljava/lang/Long;"), (7, u "cache")] 24

def k9m0 : Method := { name := "<init>", desc := "()V", sig := { parameters := [], returnType := none }, accessFlags := 2, code := none }
/-- java/lang/Long$LongCache -/
def k9 : Class := { plain "java/lang/Long$LongCache" (some 0) with
  accessFlags := 48
  interfaces := #[]
  cf := some (fileOf pool9 16 #[.nestHost 7] #[{ accessFlags := 2, nameIndex := 5, descriptorIndex := 6, attributes := #[] }] 48 2 #[] #[{ accessFlags := 24, nameIndex := 38, descriptorIndex := 30, attributes := #[] }, { accessFlags := 8, nameIndex := 29, descriptorIndex := 30, attributes := #[] }, { accessFlags := 4120, nameIndex := 19, descriptorIndex := 20, attributes := #[] }])
  fields := #[{ name := "cache", type := (.array (.object "java/lang/Long")), accessFlags := 24, slot := 0, constantValue := 0 }, { name := "archivedCache", type := (.array (.object "java/lang/Long")), accessFlags := 8, slot := 1, constantValue := 0 }, { name := "$assertionsDisabled", type := .boolean, accessFlags := 4120, slot := 2, constantValue := 0 }]
  methods := #[k9m0]
  instanceTypes := #[]
  staticTypes := #[(.array (.object "java/lang/Long")), (.array (.object "java/lang/Long")), .boolean]
  resolved := Array.replicate 63 none
  statics := some 0 }

def pool10 : Array CpInfo := pool [(1, u "java/lang/Cloneable"), (0, .class_ 1), (0, u "java/lang/Object"), (0, .class_ 3)] 3

/-- java/lang/Cloneable -/
def k10 : Class := { plain "java/lang/Cloneable" (some 0) with
  accessFlags := 1537
  interfaces := #[]
  cf := some (fileOf pool10 2 #[] #[] 1537 4 #[] #[])
  fields := #[]
  methods := #[]
  instanceTypes := #[]
  staticTypes := #[]
  resolved := Array.replicate 8 none
  statics := none }

/-- the primitive byte -/
def k11 : Class := { plain "byte" none with kind := .primitive 'B', accessFlags := 0x411 }
/-- [B -/
def k12 : Class := { plain "[B" (some 0) with kind := .array 11 .byte, interfaces := #[10, 3], accessFlags := 1041 }

/-- the primitive int -/
def k13 : Class := { plain "int" none with kind := .primitive 'I', accessFlags := 0x411 }
/-- [I -/
def k14 : Class := { plain "[I" (some 0) with kind := .array 13 .int, interfaces := #[10, 3], accessFlags := 1041 }

/-- [Ljava/lang/Long; -/
def k15 : Class := { plain "[Ljava/lang/Long;" (some 0) with kind := .array 8 (.object "java/lang/Long"), interfaces := #[10, 3], accessFlags := 1041 }

def heap : Heap := #[{ cls := 9, slots := #[.ref 1, .null, .int 0], vm := .statics 9 },
  { cls := 15, slots := #[.ref 2, .ref 3, .ref 4, .ref 5, .ref 6, .ref 7, .ref 8, .ref 9, .ref 10, .ref 11, .ref 12, .ref 13, .ref 14, .ref 15, .ref 16, .ref 17, .ref 18, .ref 19, .ref 20, .ref 21, .ref 22, .ref 23, .ref 24, .ref 25, .ref 26, .ref 27, .ref 28, .ref 29, .ref 30, .ref 31, .ref 32, .ref 33, .ref 34, .ref 35, .ref 36, .ref 37, .ref 38, .ref 39, .ref 40, .ref 41, .ref 42, .ref 43, .ref 44, .ref 45, .ref 46, .ref 47, .ref 48, .ref 49, .ref 50, .ref 51, .ref 52, .ref 53, .ref 54, .ref 55, .ref 56, .ref 57, .ref 58, .ref 59, .ref 60, .ref 61, .ref 62, .ref 63, .ref 64, .ref 65, .ref 66, .ref 67, .ref 68, .ref 69, .ref 70, .ref 71, .ref 72, .ref 73, .ref 74, .ref 75, .ref 76, .ref 77, .ref 78, .ref 79, .ref 80, .ref 81, .ref 82, .ref 83, .ref 84, .ref 85, .ref 86, .ref 87, .ref 88, .ref 89, .ref 90, .ref 91, .ref 92, .ref 93, .ref 94, .ref 95, .ref 96, .ref 97, .ref 98, .ref 99, .ref 100, .ref 101, .ref 102, .ref 103, .ref 104, .ref 105, .ref 106, .ref 107, .ref 108, .ref 109, .ref 110, .ref 111, .ref 112, .ref 113, .ref 114, .ref 115, .ref 116, .ref 117, .ref 118, .ref 119, .ref 120, .ref 121, .ref 122, .ref 123, .ref 124, .ref 125, .ref 126, .ref 127, .ref 128, .ref 129, .ref 130, .ref 131, .ref 132, .ref 133, .ref 134, .ref 135, .ref 136, .ref 137, .ref 138, .ref 139, .ref 140, .ref 141, .ref 142, .ref 143, .ref 144, .ref 145, .ref 146, .ref 147, .ref 148, .ref 149, .ref 150, .ref 151, .ref 152, .ref 153, .ref 154, .ref 155, .ref 156, .ref 157, .ref 158, .ref 159, .ref 160, .ref 161, .ref 162, .ref 163, .ref 164, .ref 165, .ref 166, .ref 167, .ref 168, .ref 169, .ref 170, .ref 171, .ref 172, .ref 173, .ref 174, .ref 175, .ref 176, .ref 177, .ref 178, .ref 179, .ref 180, .ref 181, .ref 182, .ref 183, .ref 184, .ref 185, .ref 186, .ref 187, .ref 188, .ref 189, .ref 190, .ref 191, .ref 192, .ref 193, .ref 194, .ref 195, .ref 196, .ref 197, .ref 198, .ref 199, .ref 200, .ref 201, .ref 202, .ref 203, .ref 204, .ref 205, .ref 206, .ref 207, .ref 208, .ref 209, .ref 210, .ref 211, .ref 212, .ref 213, .ref 214, .ref 215, .ref 216, .ref 217, .ref 218, .ref 219, .ref 220, .ref 221, .ref 222, .ref 223, .ref 224, .ref 225, .ref 226, .ref 227, .ref 228, .ref 229, .ref 230, .ref 231, .ref 232, .ref 233, .ref 234, .ref 235, .ref 236, .ref 237, .ref 238, .ref 239, .ref 240, .ref 241, .ref 242, .ref 243, .ref 244, .ref 245, .ref 246, .ref 247, .ref 248, .ref 249, .ref 250, .ref 251, .ref 252, .ref 253, .ref 254, .ref 255, .ref 256, .ref 257], vm := .none },
  { cls := 8, slots := #[.long (-128)], vm := .none },
  { cls := 8, slots := #[.long (-127)], vm := .none },
  { cls := 8, slots := #[.long (-126)], vm := .none },
  { cls := 8, slots := #[.long (-125)], vm := .none },
  { cls := 8, slots := #[.long (-124)], vm := .none },
  { cls := 8, slots := #[.long (-123)], vm := .none },
  { cls := 8, slots := #[.long (-122)], vm := .none },
  { cls := 8, slots := #[.long (-121)], vm := .none },
  { cls := 8, slots := #[.long (-120)], vm := .none },
  { cls := 8, slots := #[.long (-119)], vm := .none },
  { cls := 8, slots := #[.long (-118)], vm := .none },
  { cls := 8, slots := #[.long (-117)], vm := .none },
  { cls := 8, slots := #[.long (-116)], vm := .none },
  { cls := 8, slots := #[.long (-115)], vm := .none },
  { cls := 8, slots := #[.long (-114)], vm := .none },
  { cls := 8, slots := #[.long (-113)], vm := .none },
  { cls := 8, slots := #[.long (-112)], vm := .none },
  { cls := 8, slots := #[.long (-111)], vm := .none },
  { cls := 8, slots := #[.long (-110)], vm := .none },
  { cls := 8, slots := #[.long (-109)], vm := .none },
  { cls := 8, slots := #[.long (-108)], vm := .none },
  { cls := 8, slots := #[.long (-107)], vm := .none },
  { cls := 8, slots := #[.long (-106)], vm := .none },
  { cls := 8, slots := #[.long (-105)], vm := .none },
  { cls := 8, slots := #[.long (-104)], vm := .none },
  { cls := 8, slots := #[.long (-103)], vm := .none },
  { cls := 8, slots := #[.long (-102)], vm := .none },
  { cls := 8, slots := #[.long (-101)], vm := .none },
  { cls := 8, slots := #[.long (-100)], vm := .none },
  { cls := 8, slots := #[.long (-99)], vm := .none },
  { cls := 8, slots := #[.long (-98)], vm := .none },
  { cls := 8, slots := #[.long (-97)], vm := .none },
  { cls := 8, slots := #[.long (-96)], vm := .none },
  { cls := 8, slots := #[.long (-95)], vm := .none },
  { cls := 8, slots := #[.long (-94)], vm := .none },
  { cls := 8, slots := #[.long (-93)], vm := .none },
  { cls := 8, slots := #[.long (-92)], vm := .none },
  { cls := 8, slots := #[.long (-91)], vm := .none },
  { cls := 8, slots := #[.long (-90)], vm := .none },
  { cls := 8, slots := #[.long (-89)], vm := .none },
  { cls := 8, slots := #[.long (-88)], vm := .none },
  { cls := 8, slots := #[.long (-87)], vm := .none },
  { cls := 8, slots := #[.long (-86)], vm := .none },
  { cls := 8, slots := #[.long (-85)], vm := .none },
  { cls := 8, slots := #[.long (-84)], vm := .none },
  { cls := 8, slots := #[.long (-83)], vm := .none },
  { cls := 8, slots := #[.long (-82)], vm := .none },
  { cls := 8, slots := #[.long (-81)], vm := .none },
  { cls := 8, slots := #[.long (-80)], vm := .none },
  { cls := 8, slots := #[.long (-79)], vm := .none },
  { cls := 8, slots := #[.long (-78)], vm := .none },
  { cls := 8, slots := #[.long (-77)], vm := .none },
  { cls := 8, slots := #[.long (-76)], vm := .none },
  { cls := 8, slots := #[.long (-75)], vm := .none },
  { cls := 8, slots := #[.long (-74)], vm := .none },
  { cls := 8, slots := #[.long (-73)], vm := .none },
  { cls := 8, slots := #[.long (-72)], vm := .none },
  { cls := 8, slots := #[.long (-71)], vm := .none },
  { cls := 8, slots := #[.long (-70)], vm := .none },
  { cls := 8, slots := #[.long (-69)], vm := .none },
  { cls := 8, slots := #[.long (-68)], vm := .none },
  { cls := 8, slots := #[.long (-67)], vm := .none },
  { cls := 8, slots := #[.long (-66)], vm := .none },
  { cls := 8, slots := #[.long (-65)], vm := .none },
  { cls := 8, slots := #[.long (-64)], vm := .none },
  { cls := 8, slots := #[.long (-63)], vm := .none },
  { cls := 8, slots := #[.long (-62)], vm := .none },
  { cls := 8, slots := #[.long (-61)], vm := .none },
  { cls := 8, slots := #[.long (-60)], vm := .none },
  { cls := 8, slots := #[.long (-59)], vm := .none },
  { cls := 8, slots := #[.long (-58)], vm := .none },
  { cls := 8, slots := #[.long (-57)], vm := .none },
  { cls := 8, slots := #[.long (-56)], vm := .none },
  { cls := 8, slots := #[.long (-55)], vm := .none },
  { cls := 8, slots := #[.long (-54)], vm := .none },
  { cls := 8, slots := #[.long (-53)], vm := .none },
  { cls := 8, slots := #[.long (-52)], vm := .none },
  { cls := 8, slots := #[.long (-51)], vm := .none },
  { cls := 8, slots := #[.long (-50)], vm := .none },
  { cls := 8, slots := #[.long (-49)], vm := .none },
  { cls := 8, slots := #[.long (-48)], vm := .none },
  { cls := 8, slots := #[.long (-47)], vm := .none },
  { cls := 8, slots := #[.long (-46)], vm := .none },
  { cls := 8, slots := #[.long (-45)], vm := .none },
  { cls := 8, slots := #[.long (-44)], vm := .none },
  { cls := 8, slots := #[.long (-43)], vm := .none },
  { cls := 8, slots := #[.long (-42)], vm := .none },
  { cls := 8, slots := #[.long (-41)], vm := .none },
  { cls := 8, slots := #[.long (-40)], vm := .none },
  { cls := 8, slots := #[.long (-39)], vm := .none },
  { cls := 8, slots := #[.long (-38)], vm := .none },
  { cls := 8, slots := #[.long (-37)], vm := .none },
  { cls := 8, slots := #[.long (-36)], vm := .none },
  { cls := 8, slots := #[.long (-35)], vm := .none },
  { cls := 8, slots := #[.long (-34)], vm := .none },
  { cls := 8, slots := #[.long (-33)], vm := .none },
  { cls := 8, slots := #[.long (-32)], vm := .none },
  { cls := 8, slots := #[.long (-31)], vm := .none },
  { cls := 8, slots := #[.long (-30)], vm := .none },
  { cls := 8, slots := #[.long (-29)], vm := .none },
  { cls := 8, slots := #[.long (-28)], vm := .none },
  { cls := 8, slots := #[.long (-27)], vm := .none },
  { cls := 8, slots := #[.long (-26)], vm := .none },
  { cls := 8, slots := #[.long (-25)], vm := .none },
  { cls := 8, slots := #[.long (-24)], vm := .none },
  { cls := 8, slots := #[.long (-23)], vm := .none },
  { cls := 8, slots := #[.long (-22)], vm := .none },
  { cls := 8, slots := #[.long (-21)], vm := .none },
  { cls := 8, slots := #[.long (-20)], vm := .none },
  { cls := 8, slots := #[.long (-19)], vm := .none },
  { cls := 8, slots := #[.long (-18)], vm := .none },
  { cls := 8, slots := #[.long (-17)], vm := .none },
  { cls := 8, slots := #[.long (-16)], vm := .none },
  { cls := 8, slots := #[.long (-15)], vm := .none },
  { cls := 8, slots := #[.long (-14)], vm := .none },
  { cls := 8, slots := #[.long (-13)], vm := .none },
  { cls := 8, slots := #[.long (-12)], vm := .none },
  { cls := 8, slots := #[.long (-11)], vm := .none },
  { cls := 8, slots := #[.long (-10)], vm := .none },
  { cls := 8, slots := #[.long (-9)], vm := .none },
  { cls := 8, slots := #[.long (-8)], vm := .none },
  { cls := 8, slots := #[.long (-7)], vm := .none },
  { cls := 8, slots := #[.long (-6)], vm := .none },
  { cls := 8, slots := #[.long (-5)], vm := .none },
  { cls := 8, slots := #[.long (-4)], vm := .none },
  { cls := 8, slots := #[.long (-3)], vm := .none },
  { cls := 8, slots := #[.long (-2)], vm := .none },
  { cls := 8, slots := #[.long (-1)], vm := .none },
  { cls := 8, slots := #[.long (0)], vm := .none },
  { cls := 8, slots := #[.long (1)], vm := .none },
  { cls := 8, slots := #[.long (2)], vm := .none },
  { cls := 8, slots := #[.long (3)], vm := .none },
  { cls := 8, slots := #[.long (4)], vm := .none },
  { cls := 8, slots := #[.long (5)], vm := .none },
  { cls := 8, slots := #[.long (6)], vm := .none },
  { cls := 8, slots := #[.long (7)], vm := .none },
  { cls := 8, slots := #[.long (8)], vm := .none },
  { cls := 8, slots := #[.long (9)], vm := .none },
  { cls := 8, slots := #[.long (10)], vm := .none },
  { cls := 8, slots := #[.long (11)], vm := .none },
  { cls := 8, slots := #[.long (12)], vm := .none },
  { cls := 8, slots := #[.long (13)], vm := .none },
  { cls := 8, slots := #[.long (14)], vm := .none },
  { cls := 8, slots := #[.long (15)], vm := .none },
  { cls := 8, slots := #[.long (16)], vm := .none },
  { cls := 8, slots := #[.long (17)], vm := .none },
  { cls := 8, slots := #[.long (18)], vm := .none },
  { cls := 8, slots := #[.long (19)], vm := .none },
  { cls := 8, slots := #[.long (20)], vm := .none },
  { cls := 8, slots := #[.long (21)], vm := .none },
  { cls := 8, slots := #[.long (22)], vm := .none },
  { cls := 8, slots := #[.long (23)], vm := .none },
  { cls := 8, slots := #[.long (24)], vm := .none },
  { cls := 8, slots := #[.long (25)], vm := .none },
  { cls := 8, slots := #[.long (26)], vm := .none },
  { cls := 8, slots := #[.long (27)], vm := .none },
  { cls := 8, slots := #[.long (28)], vm := .none },
  { cls := 8, slots := #[.long (29)], vm := .none },
  { cls := 8, slots := #[.long (30)], vm := .none },
  { cls := 8, slots := #[.long (31)], vm := .none },
  { cls := 8, slots := #[.long (32)], vm := .none },
  { cls := 8, slots := #[.long (33)], vm := .none },
  { cls := 8, slots := #[.long (34)], vm := .none },
  { cls := 8, slots := #[.long (35)], vm := .none },
  { cls := 8, slots := #[.long (36)], vm := .none },
  { cls := 8, slots := #[.long (37)], vm := .none },
  { cls := 8, slots := #[.long (38)], vm := .none },
  { cls := 8, slots := #[.long (39)], vm := .none },
  { cls := 8, slots := #[.long (40)], vm := .none },
  { cls := 8, slots := #[.long (41)], vm := .none },
  { cls := 8, slots := #[.long (42)], vm := .none },
  { cls := 8, slots := #[.long (43)], vm := .none },
  { cls := 8, slots := #[.long (44)], vm := .none },
  { cls := 8, slots := #[.long (45)], vm := .none },
  { cls := 8, slots := #[.long (46)], vm := .none },
  { cls := 8, slots := #[.long (47)], vm := .none },
  { cls := 8, slots := #[.long (48)], vm := .none },
  { cls := 8, slots := #[.long (49)], vm := .none },
  { cls := 8, slots := #[.long (50)], vm := .none },
  { cls := 8, slots := #[.long (51)], vm := .none },
  { cls := 8, slots := #[.long (52)], vm := .none },
  { cls := 8, slots := #[.long (53)], vm := .none },
  { cls := 8, slots := #[.long (54)], vm := .none },
  { cls := 8, slots := #[.long (55)], vm := .none },
  { cls := 8, slots := #[.long (56)], vm := .none },
  { cls := 8, slots := #[.long (57)], vm := .none },
  { cls := 8, slots := #[.long (58)], vm := .none },
  { cls := 8, slots := #[.long (59)], vm := .none },
  { cls := 8, slots := #[.long (60)], vm := .none },
  { cls := 8, slots := #[.long (61)], vm := .none },
  { cls := 8, slots := #[.long (62)], vm := .none },
  { cls := 8, slots := #[.long (63)], vm := .none },
  { cls := 8, slots := #[.long (64)], vm := .none },
  { cls := 8, slots := #[.long (65)], vm := .none },
  { cls := 8, slots := #[.long (66)], vm := .none },
  { cls := 8, slots := #[.long (67)], vm := .none },
  { cls := 8, slots := #[.long (68)], vm := .none },
  { cls := 8, slots := #[.long (69)], vm := .none },
  { cls := 8, slots := #[.long (70)], vm := .none },
  { cls := 8, slots := #[.long (71)], vm := .none },
  { cls := 8, slots := #[.long (72)], vm := .none },
  { cls := 8, slots := #[.long (73)], vm := .none },
  { cls := 8, slots := #[.long (74)], vm := .none },
  { cls := 8, slots := #[.long (75)], vm := .none },
  { cls := 8, slots := #[.long (76)], vm := .none },
  { cls := 8, slots := #[.long (77)], vm := .none },
  { cls := 8, slots := #[.long (78)], vm := .none },
  { cls := 8, slots := #[.long (79)], vm := .none },
  { cls := 8, slots := #[.long (80)], vm := .none },
  { cls := 8, slots := #[.long (81)], vm := .none },
  { cls := 8, slots := #[.long (82)], vm := .none },
  { cls := 8, slots := #[.long (83)], vm := .none },
  { cls := 8, slots := #[.long (84)], vm := .none },
  { cls := 8, slots := #[.long (85)], vm := .none },
  { cls := 8, slots := #[.long (86)], vm := .none },
  { cls := 8, slots := #[.long (87)], vm := .none },
  { cls := 8, slots := #[.long (88)], vm := .none },
  { cls := 8, slots := #[.long (89)], vm := .none },
  { cls := 8, slots := #[.long (90)], vm := .none },
  { cls := 8, slots := #[.long (91)], vm := .none },
  { cls := 8, slots := #[.long (92)], vm := .none },
  { cls := 8, slots := #[.long (93)], vm := .none },
  { cls := 8, slots := #[.long (94)], vm := .none },
  { cls := 8, slots := #[.long (95)], vm := .none },
  { cls := 8, slots := #[.long (96)], vm := .none },
  { cls := 8, slots := #[.long (97)], vm := .none },
  { cls := 8, slots := #[.long (98)], vm := .none },
  { cls := 8, slots := #[.long (99)], vm := .none },
  { cls := 8, slots := #[.long (100)], vm := .none },
  { cls := 8, slots := #[.long (101)], vm := .none },
  { cls := 8, slots := #[.long (102)], vm := .none },
  { cls := 8, slots := #[.long (103)], vm := .none },
  { cls := 8, slots := #[.long (104)], vm := .none },
  { cls := 8, slots := #[.long (105)], vm := .none },
  { cls := 8, slots := #[.long (106)], vm := .none },
  { cls := 8, slots := #[.long (107)], vm := .none },
  { cls := 8, slots := #[.long (108)], vm := .none },
  { cls := 8, slots := #[.long (109)], vm := .none },
  { cls := 8, slots := #[.long (110)], vm := .none },
  { cls := 8, slots := #[.long (111)], vm := .none },
  { cls := 8, slots := #[.long (112)], vm := .none },
  { cls := 8, slots := #[.long (113)], vm := .none },
  { cls := 8, slots := #[.long (114)], vm := .none },
  { cls := 8, slots := #[.long (115)], vm := .none },
  { cls := 8, slots := #[.long (116)], vm := .none },
  { cls := 8, slots := #[.long (117)], vm := .none },
  { cls := 8, slots := #[.long (118)], vm := .none },
  { cls := 8, slots := #[.long (119)], vm := .none },
  { cls := 8, slots := #[.long (120)], vm := .none },
  { cls := 8, slots := #[.long (121)], vm := .none },
  { cls := 8, slots := #[.long (122)], vm := .none },
  { cls := 8, slots := #[.long (123)], vm := .none },
  { cls := 8, slots := #[.long (124)], vm := .none },
  { cls := 8, slots := #[.long (125)], vm := .none },
  { cls := 8, slots := #[.long (126)], vm := .none },
  { cls := 8, slots := #[.long (127)], vm := .none }]
def classes : Array Class := #[k0, k1, k2, k3, k4, k5, k6, k7, k8, k9, k10, k11, k12, k13, k14, k15]
def interned : List (Array UInt16 × Addr) := []
def slotsUsed : Nat := 515
def theMethod : MethodId := ⟨1, 1⟩
def args0 : Array Value := #[.long 5, .long 6, .long 7, .long 8, .int 0]
def aboutOver (below : List Frame) : State where
  vm := { classes := classes, interned := interned.toArray }
  heap := heap
  slotsUsed := slotsUsed
  threads := #[{ frames := .invoking theMethod args0 :: below }]
def below0 : List Frame := [.native { method := ⟨0, 0⟩, args := #[] }]
def about1 : State := aboutOver below0
def p0 : Program := .bare "" "" ""
def e0 : Env := launch0.env 0 0 0
theorem w_frames : about1.frames = Frame.invoking theMethod args0 :: below0 := rfl
set_option maxRecDepth 65536 in
theorem w_args : argsFit about1.vm theMethod args0 = true := by decide +kernel
set_option maxRecDepth 65536 in
theorem w_heap : heapFits about1 = true := by decide +kernel
set_option maxRecDepth 65536 in
theorem w_runnable : about1.curStatus? = some .runnable := by decide +kernel
set_option maxRecDepth 65536 in
theorem w_alone : about1.alone = true := by decide +kernel
set_option maxRecDepth 65536 in
theorem w_named : about1.methodNamed? x = some theMethod := by decide +kernel
set_option maxRecDepth 65536 in
theorem w_hears : about1.hears theMethod below0 = true := by decide +kernel
set_option maxRecDepth 65536 in
theorem w_ripe : about1.ripe theMethod args0 below0 = true := by decide +kernel
theorem w_running : about1.status = .running := rfl
set_option maxRecDepth 65536 in
theorem w_room : about1.hasRoom e0.platform room_1 = true :=
  launch0.hasRoom_least _ room_1 (by decide +kernel) (by decide +kernel) (by decide +kernel) (by decide +kernel) (by decide +kernel) (by decide +kernel)
theorem allAtoms_all (ts : List Jvm.Cond) (a : Array Jvm.Value) (st : Jvm.State) : (allAtoms ts).before a st = ts.all (fun c => c.before a st) := by
  induction ts with
  | nil => rfl
  | cons c t ih =>
    show (Jvm.Cond.and c (allAtoms t)).before a st = _
    rw [Jvm.Cond.before_and, ih, List.all_cons]
def words1 : List Jvm.Cond := Jvm.Cond.code x code maxLocals ret :: tables_1
/-- a 'code' word, met by the world's own term for the bytes: nothing is compared byte by byte -/
theorem code_word {y : MethodName} {bytes : ByteArray} {mx : Nat} {rt : Option FieldType} {a : Array Value} {s : State} {m : MethodId} {meth : Method} {c : Code} (h1 : s.methodNamed? y = some m) (h2 : s.vm.method? m = some meth) (h3 : meth.code = some c) (h4 : c.code = bytes)
    (h5 : (c.maxLocals == mx && c.exceptionTable.isEmpty && decide (c.maxStack ≤ mostOperands) && decide (meth.sig.returnType = rt) && !meth.locks && decide (parseMethodDescriptor y.desc = some meth.sig)) = true) : (Jvm.Cond.code y bytes mx rt).before a s = true := by
  simp only [Bool.and_eq_true, beq_iff_eq, Bool.not_eq_true', decide_eq_true_eq] at h5
  obtain ⟨⟨⟨⟨⟨g1, g2⟩, g3⟩, g4⟩, g5⟩, g6⟩ := h5
  simp [Cond.before, Cond.holds, Cond.value, h1, h2, h3, h4, g1, g2, g3, g4, g5, g6]
def isCode : Jvm.Cond → Bool
  | .code _ _ _ _ => true
  | _ => false
theorem all_split {L : List Jvm.Cond} {P : Jvm.Cond → Bool} (h1 : L.all (fun c => isCode c || P c) = true) (h2 : ∀ c ∈ L.filter isCode, P c = true) : L.all P = true := by
  refine List.all_eq_true.mpr fun c hc => ?_
  have h := List.all_eq_true.mp h1 c hc
  rcases Bool.eq_false_or_eq_true (isCode c) with hi | hi
  · exact h2 c (List.mem_filter.mpr ⟨hc, hi⟩)
  · simpa [hi] using h
set_option maxRecDepth 65536 in
theorem w_c0 : (Jvm.Cond.code x code maxLocals ret).before args0 about1 = true := code_word (m := ⟨1, 1⟩) (meth := k1m1) (c := k1c1) (by decide +kernel) rfl rfl rfl (by decide +kernel)
set_option maxRecDepth 65536 in
theorem w_c1 : (Jvm.Cond.code ({ cls := "com/example/sets_in_bits/setsinbits/hashing/Hash128", name := "<init>", desc := "(JJ)V" } : Jvm.MethodName) prog_45_method_1_code (5 : Nat) (Option.none : Option Jvm.ClassFile.FieldType)).before args0 about1 = true := code_word (m := ⟨2, 0⟩) (meth := k2m0) (c := k2c0) (by decide +kernel) rfl rfl rfl (by decide +kernel)
set_option maxRecDepth 65536 in
theorem w_c2 : (Jvm.Cond.code ({ cls := "java/lang/Object", name := "<init>", desc := "()V" } : Jvm.MethodName) object_method_1_code (1 : Nat) (Option.none : Option Jvm.ClassFile.FieldType)).before args0 about1 = true := code_word (m := ⟨0, 0⟩) (meth := k0m0) (c := k0c0) (by decide +kernel) rfl rfl rfl (by decide +kernel)
set_option maxRecDepth 65536 in
theorem w_c3 : (Jvm.Cond.code ({ cls := "com/example/sets_in_bits/setsinbits/hashing/Hash128", name := "equals", desc := "(Ljava/lang/Object;)Z" } : Jvm.MethodName) prog_45_method_4_code (3 : Nat) (Option.some Jvm.ClassFile.FieldType.boolean)).before args0 about1 = true := code_word (m := ⟨2, 1⟩) (meth := k2m1) (c := k2c1) (by decide +kernel) rfl rfl rfl (by decide +kernel)
set_option maxRecDepth 65536 in
theorem w_c4 : (Jvm.Cond.code ({ cls := "java/lang/Long", name := "valueOf", desc := "(J)Ljava/lang/Long;" } : Jvm.MethodName) jdk_35_method_24_code (3 : Nat) (Option.some (Jvm.ClassFile.FieldType.object "java/lang/Long"))).before args0 about1 = true := code_word (m := ⟨8, 0⟩) (meth := k8m0) (c := k8c0) (by decide +kernel) rfl rfl rfl (by decide +kernel)
set_option maxRecDepth 65536 in
theorem w_c5 : (Jvm.Cond.code ({ cls := "java/lang/Long", name := "<init>", desc := "(J)V" } : Jvm.MethodName) jdk_35_method_26_code (3 : Nat) (Option.none : Option Jvm.ClassFile.FieldType)).before args0 about1 = true := code_word (m := ⟨8, 1⟩) (meth := k8m1) (c := k8c1) (by decide +kernel) rfl rfl rfl (by decide +kernel)
set_option maxRecDepth 65536 in
theorem w_c6 : (Jvm.Cond.code ({ cls := "java/lang/Number", name := "<init>", desc := "()V" } : Jvm.MethodName) jdk_18_method_1_code (1 : Nat) (Option.none : Option Jvm.ClassFile.FieldType)).before args0 about1 = true := code_word (m := ⟨4, 0⟩) (meth := k4m0) (c := k4c0) (by decide +kernel) rfl rfl rfl (by decide +kernel)
def codes1 : List Jvm.Cond := [Jvm.Cond.code x code maxLocals ret, Jvm.Cond.code ({ cls := "com/example/sets_in_bits/setsinbits/hashing/Hash128", name := "<init>", desc := "(JJ)V" } : Jvm.MethodName) prog_45_method_1_code (5 : Nat) (Option.none : Option Jvm.ClassFile.FieldType), Jvm.Cond.code ({ cls := "java/lang/Object", name := "<init>", desc := "()V" } : Jvm.MethodName) object_method_1_code (1 : Nat) (Option.none : Option Jvm.ClassFile.FieldType), Jvm.Cond.code ({ cls := "com/example/sets_in_bits/setsinbits/hashing/Hash128", name := "equals", desc := "(Ljava/lang/Object;)Z" } : Jvm.MethodName) prog_45_method_4_code (3 : Nat) (Option.some Jvm.ClassFile.FieldType.boolean), Jvm.Cond.code ({ cls := "java/lang/Long", name := "valueOf", desc := "(J)Ljava/lang/Long;" } : Jvm.MethodName) jdk_35_method_24_code (3 : Nat) (Option.some (Jvm.ClassFile.FieldType.object "java/lang/Long")), Jvm.Cond.code ({ cls := "java/lang/Long", name := "<init>", desc := "(J)V" } : Jvm.MethodName) jdk_35_method_26_code (3 : Nat) (Option.none : Option Jvm.ClassFile.FieldType), Jvm.Cond.code ({ cls := "java/lang/Number", name := "<init>", desc := "()V" } : Jvm.MethodName) jdk_18_method_1_code (1 : Nat) (Option.none : Option Jvm.ClassFile.FieldType)]
set_option maxRecDepth 65536 in
theorem codes_eq : words1.filter isCode = codes1 := rfl
theorem w_codes : ∀ c ∈ words1.filter isCode, c.before args0 about1 = true := by
  rw [codes_eq]
  intro c hc
  simp only [codes1, List.mem_cons, List.not_mem_nil, or_false] at hc
  rcases hc with rfl | rfl | rfl | rfl | rfl | rfl | rfl
  · exact w_c0
  · exact w_c1
  · exact w_c2
  · exact w_c3
  · exact w_c4
  · exact w_c5
  · exact w_c6
set_option maxRecDepth 65536 in
theorem w_t1 : (words1.take 24).all (fun c => isCode c || c.before args0 about1) = true := by decide +kernel
set_option maxRecDepth 65536 in
theorem w_t2 : (words1.drop 24).all (fun c => isCode c || c.before args0 about1) = true := by decide +kernel
theorem w_tables : (allAtoms (Jvm.Cond.code x code maxLocals ret :: tables_1)).before args0 about1 = true := by
  rw [allAtoms_all]
  show words1.all (fun c => c.before args0 about1) = true
  refine all_split ?_ w_codes
  rw [← List.take_append_drop 24 words1, List.all_append, w_t1, w_t2]
  rfl
set_option maxRecDepth 65536 in
theorem w_rest : rest_1_c.before args0 about1 = true := by decide +kernel
set_option maxRecDepth 65536 in
theorem w_case : (Jvm.Cond.and given_1 narrow_1).before args0 about1 = true := by decide +kernel
theorem w_applies : (headSpec (Jvm.Cond.code x code maxLocals ret :: tables_1) room_1).applies x e0.platform about1 = true :=
  (Spec.applies_iff w_frames).mpr ⟨w_running, w_runnable, w_alone, w_named, w_hears, w_ripe, w_room, w_tables⟩
theorem atStart : AtStart classFile x code maxLocals ret World_1 tables_1 room_1 Calls_1 rest_1 Pre_1 launch0 p0 e0 about1 theMethod args0 below0 :=
  ⟨lists_1, trivial, launch0.admits_env _ _ _, launch0.least_env, fairChoices_fair.cas, fairChoices_fair.clock, w_frames, w_args, w_heap, w_applies, trivial, w_rest, w_case⟩
end start1
theorem witness_1 : WitnessClaimed_1 := ⟨start1.p0, start1.e0, start1.about1, start1.theMethod, start1.args0, start1.below0, start1.atStart⟩
end Jvm.Pilot.@@N@@
