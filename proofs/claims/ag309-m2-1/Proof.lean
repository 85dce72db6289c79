import JvmDerived
import JvmDerived.Pilot.@@N@@Statement
import JvmDerived.Pilot.@@N@@Code
set_option linter.unusedVariables false
set_option linter.unusedSimpArgs false
namespace Jvm.RoadKit
open Sem ClassFile Op Lib Jvm.Stand Jvm.Free Jvm.LawKit
section New
variable {p : Program} {l : Launch} {e : Env} {R : Room} {s : State} {m : MethodId} {args : Array Value} {below : List Frame} {meth : Method} {c : Code} {T : State} {locs : List Loc} {cells slots : Nat}
theorem retI (X : Stand p l e R s m args below meth c T locs cells slots) (hx : p.tables.exec = Jvm.exec) {pc : Nat} {Ls : Array Slot} {z : Int32} {rest : List Value} (hret : meth.sig.returnType = some .int) (hd : decode c.code pc = .ok (.ireturn, 1)) {fs : List Frame}
    (hl : ∀ (f : JFrame) (acts : List Action), f.method = m → f.locked = none → f.entered = [] → (doReturn e (T.setTop f) acts (some (.int z))).1 = T.setFrames fs) : Steps p.tables e below (T.setTop (mkF m pc Ls (.int z :: rest))) (T.setFrames fs) := by
  have hm' : T.vm.method? m = some meth := X.method'
  have hn : narrow .int (.int z) = .int z := rfl
  show Steps p.tables e below (T.setTop { method := m, pc := pc, locals := Ls, stack := _ :: rest, locked := none }) _
  jvm_step X.here [X.here.top, hx, hd, hm', hret, hn]
  first | (intro acts; rw [hl _ acts rfl rfl rfl]) | rw [hl _ _ rfl rfl rfl]
  exact Steps.refl _
end New
end Jvm.RoadKit
namespace Jvm.Pilot.@@N@@
open Jvm Jvm.ClassFile Sem Op Lib Jvm.Free Jvm.Stand Jvm.LawKit Jvm.RoadKit Bundle Jvm.Pilot.@@N@@.Jvm.D
abbrev lv (x : Int64) : Slot := .val (.long x)
theorem im (i : Nat) {d : Jvm.Cond} (h : tables_1[i]? = some d) : d ∈ tables_1 := List.mem_of_getElem? h
theorem own_go {tb : Tables} {e : Env} {below : List Frame} {S S' S0 : State} (P : ∀ t, Steps tb e below S t → Steps tb e below S0 t) (f : ∀ t, Steps tb e below S' t → Steps tb e below S t) : ∀ t, Steps tb e below S' t → Steps tb e below S0 t := fun t k => P t (f t k)
theorem own_sn {Z : State} {a0 : Array Value} {K O n d O' n' d' : String} (L : Laid Z a0 K O n d) (L' : Laid Z a0 K O' n' d') (hn : n ≠ n' := by decide) (ht : (parseFieldDescriptor d).isSome = true := by decide) (ht' : (parseFieldDescriptor d').isSome = true := by decide) : Jvm.RoadKit.slotOf Z O n d ≠ Jvm.RoadKit.slotOf Z O' n' d' := by
  obtain ⟨t, e⟩ := Option.isSome_iff_exists.mp ht
  obtain ⟨t', e'⟩ := Option.isSome_iff_exists.mp ht'
  exact slot_ne L L' hn e e'
theorem pn_0 : plainName "com/example/sets_in_bits/setsinbits/hashing/Hash128HashCodePinLaw" = true := by first | (simp [plainName, overriddenIn]; done) | decide +kernel
theorem d1_0 : decode prog_45_method_1_code 0 = .ok (.aload_n 0, 1) := by decide +kernel
theorem d1_1 : decode prog_45_method_1_code 1 = .ok (.invokespecial 1, 3) := by decide +kernel
theorem d1_4 : decode prog_45_method_1_code 4 = .ok (.aload_n 0, 1) := by decide +kernel
theorem d1_5 : decode prog_45_method_1_code 5 = .ok (.lload_n 1, 1) := by decide +kernel
theorem d1_6 : decode prog_45_method_1_code 6 = .ok (.putfield 7, 3) := by decide +kernel
theorem d1_9 : decode prog_45_method_1_code 9 = .ok (.aload_n 0, 1) := by decide +kernel
theorem d1_10 : decode prog_45_method_1_code 10 = .ok (.lload_n 3, 1) := by decide +kernel
theorem d1_11 : decode prog_45_method_1_code 11 = .ok (.putfield 13, 3) := by decide +kernel
theorem d1_14 : decode prog_45_method_1_code 14 = .ok (.return_, 1) := by decide +kernel
theorem pn_1 : plainName "com/example/sets_in_bits/setsinbits/hashing/Hash128" = true := by first | (simp [plainName, overriddenIn]; done) | decide +kernel
theorem d3_0 : decode prog_45_method_5_code 0 = .ok (.bipush 31, 2) := by decide +kernel
theorem d3_2 : decode prog_45_method_5_code 2 = .ok (.aload_n 0, 1) := by decide +kernel
theorem d3_3 : decode prog_45_method_5_code 3 = .ok (.getfield 7, 3) := by decide +kernel
theorem d3_6 : decode prog_45_method_5_code 6 = .ok (.invokestatic 16, 3) := by decide +kernel
theorem d3_9 : decode prog_45_method_5_code 9 = .ok (.imul, 1) := by decide +kernel
theorem d3_10 : decode prog_45_method_5_code 10 = .ok (.aload_n 0, 1) := by decide +kernel
theorem d3_11 : decode prog_45_method_5_code 11 = .ok (.getfield 13, 3) := by decide +kernel
theorem d3_14 : decode prog_45_method_5_code 14 = .ok (.invokestatic 16, 3) := by decide +kernel
theorem d3_17 : decode prog_45_method_5_code 17 = .ok (.iadd, 1) := by decide +kernel
theorem d3_18 : decode prog_45_method_5_code 18 = .ok (.ireturn, 1) := by decide +kernel
theorem pn_3 : plainName "com/example/sets_in_bits/setsinbits/hashing/Hash128" = true := by first | (simp [plainName, overriddenIn]; done) | decide +kernel
theorem d4_0 : decode jdk_35_method_36_code 0 = .ok (.lload_n 0, 1) := by decide +kernel
theorem d4_1 : decode jdk_35_method_36_code 1 = .ok (.lload_n 0, 1) := by decide +kernel
theorem d4_2 : decode jdk_35_method_36_code 2 = .ok (.bipush 32, 2) := by decide +kernel
theorem d4_4 : decode jdk_35_method_36_code 4 = .ok (.lushr, 1) := by decide +kernel
theorem d4_5 : decode jdk_35_method_36_code 5 = .ok (.lxor, 1) := by decide +kernel
theorem d4_6 : decode jdk_35_method_36_code 6 = .ok (.l2i, 1) := by decide +kernel
theorem d4_7 : decode jdk_35_method_36_code 7 = .ok (.ireturn, 1) := by decide +kernel
theorem pn_4 : plainName "java/lang/Long" = true := by first | (simp [plainName, overriddenIn]; done) | decide +kernel
theorem d5_0 : decode method_3_code 0 = .ok (.lload_n 0, 1) := by decide +kernel
theorem d5_1 : decode method_3_code 1 = .ok (.invokestatic 7, 3) := by decide +kernel
theorem d5_4 : decode method_3_code 4 = .ok (.istore 4, 2) := by decide +kernel
theorem d5_6 : decode method_3_code 6 = .ok (.iload 4, 2) := by decide +kernel
theorem d5_8 : decode method_3_code 8 = .ok (.iconst 5, 1) := by decide +kernel
theorem d5_9 : decode method_3_code 9 = .ok (.ishl, 1) := by decide +kernel
theorem d5_10 : decode method_3_code 10 = .ok (.iload 4, 2) := by decide +kernel
theorem d5_12 : decode method_3_code 12 = .ok (.isub, 1) := by decide +kernel
theorem d5_13 : decode method_3_code 13 = .ok (.istore 5, 2) := by decide +kernel
theorem d5_15 : decode method_3_code 15 = .ok (.iload 5, 2) := by decide +kernel
theorem d5_17 : decode method_3_code 17 = .ok (.lload_n 2, 1) := by decide +kernel
theorem d5_18 : decode method_3_code 18 = .ok (.invokestatic 7, 3) := by decide +kernel
theorem d5_21 : decode method_3_code 21 = .ok (.iadd, 1) := by decide +kernel
theorem d5_22 : decode method_3_code 22 = .ok (.ireturn, 1) := by decide +kernel
theorem pn_5 : plainName "com/example/sets_in_bits/setsinbits/hashing/Hash128HashCodePinLaw" = true := by first | (simp [plainName, overriddenIn]; done) | decide +kernel
theorem d6_0 : decode method_2_code 0 = .ok (.lload_n 0, 1) := by decide +kernel
theorem d6_1 : decode method_2_code 1 = .ok (.l2i, 1) := by decide +kernel
theorem d6_2 : decode method_2_code 2 = .ok (.istore_n 2, 1) := by decide +kernel
theorem d6_3 : decode method_2_code 3 = .ok (.lload_n 0, 1) := by decide +kernel
theorem d6_4 : decode method_2_code 4 = .ok (.bipush 32, 2) := by decide +kernel
theorem d6_6 : decode method_2_code 6 = .ok (.lshr, 1) := by decide +kernel
theorem d6_7 : decode method_2_code 7 = .ok (.l2i, 1) := by decide +kernel
theorem d6_8 : decode method_2_code 8 = .ok (.istore_n 3, 1) := by decide +kernel
theorem d6_9 : decode method_2_code 9 = .ok (.iload_n 2, 1) := by decide +kernel
theorem d6_10 : decode method_2_code 10 = .ok (.iload_n 3, 1) := by decide +kernel
theorem d6_11 : decode method_2_code 11 = .ok (.ixor, 1) := by decide +kernel
theorem d6_12 : decode method_2_code 12 = .ok (.ireturn, 1) := by decide +kernel
theorem pn_6 : plainName "com/example/sets_in_bits/setsinbits/hashing/Hash128HashCodePinLaw" = true := by first | (simp [plainName, overriddenIn]; done) | decide +kernel
theorem d7_0 : decode prog_45_method_4_code 0 = .ok (.aload_n 1, 1) := by decide +kernel
theorem d7_1 : decode prog_45_method_4_code 1 = .ok (.instanceof 8, 3) := by decide +kernel
theorem d7_4 : decode prog_45_method_4_code 4 = .ok (.ifCond .eq 36, 3) := by decide +kernel
theorem d7_7 : decode prog_45_method_4_code 7 = .ok (.aload_n 1, 1) := by decide +kernel
theorem d7_8 : decode prog_45_method_4_code 8 = .ok (.checkcast 8, 3) := by decide +kernel
theorem d7_11 : decode prog_45_method_4_code 11 = .ok (.astore_n 2, 1) := by decide +kernel
theorem d7_12 : decode prog_45_method_4_code 12 = .ok (.aload_n 0, 1) := by decide +kernel
theorem d7_13 : decode prog_45_method_4_code 13 = .ok (.getfield 7, 3) := by decide +kernel
theorem d7_16 : decode prog_45_method_4_code 16 = .ok (.aload_n 2, 1) := by decide +kernel
theorem d7_17 : decode prog_45_method_4_code 17 = .ok (.getfield 7, 3) := by decide +kernel
theorem d7_20 : decode prog_45_method_4_code 20 = .ok (.lcmp, 1) := by decide +kernel
theorem d7_21 : decode prog_45_method_4_code 21 = .ok (.ifCond .ne 19, 3) := by decide +kernel
theorem d7_24 : decode prog_45_method_4_code 24 = .ok (.aload_n 0, 1) := by decide +kernel
theorem d7_25 : decode prog_45_method_4_code 25 = .ok (.getfield 13, 3) := by decide +kernel
theorem d7_28 : decode prog_45_method_4_code 28 = .ok (.aload_n 2, 1) := by decide +kernel
theorem d7_29 : decode prog_45_method_4_code 29 = .ok (.getfield 13, 3) := by decide +kernel
theorem d7_32 : decode prog_45_method_4_code 32 = .ok (.lcmp, 1) := by decide +kernel
theorem d7_33 : decode prog_45_method_4_code 33 = .ok (.ifCond .ne 7, 3) := by decide +kernel
theorem d7_36 : decode prog_45_method_4_code 36 = .ok (.iconst 1, 1) := by decide +kernel
theorem d7_37 : decode prog_45_method_4_code 37 = .ok (.goto 4, 3) := by decide +kernel
theorem d7_40 : decode prog_45_method_4_code 40 = .ok (.iconst 0, 1) := by decide +kernel
theorem d7_41 : decode prog_45_method_4_code 41 = .ok (.ireturn, 1) := by decide +kernel
theorem pn_7 : plainName "com/example/sets_in_bits/setsinbits/hashing/Hash128" = true := by first | (simp [plainName, overriddenIn]; done) | decide +kernel
theorem la_0 {Z : State} {a0 : Array Value} (hw : ∀ d ∈ tables_1, d.before a0 Z = true) : Laid Z a0 "com/example/sets_in_bits/setsinbits/hashing/Hash128" "com/example/sets_in_bits/setsinbits/hashing/Hash128" "second" "J" := (Or.inr (hw _ (im 12 rfl)))
theorem la_1 {Z : State} {a0 : Array Value} (hw : ∀ d ∈ tables_1, d.before a0 Z = true) : Laid Z a0 "com/example/sets_in_bits/setsinbits/hashing/Hash128" "com/example/sets_in_bits/setsinbits/hashing/Hash128" "first" "J" := (Or.inr (hw _ (im 10 rfl)))
theorem pd_0 : parseMethodDescriptor "(J)I" = some ⟨[.long], some .int⟩ := by decide +kernel
theorem pd_1 : parseMethodDescriptor "(JJ)V" = some ⟨[.long, .long], none⟩ := by decide +kernel
theorem pd_2 : parseMethodDescriptor "()I" = some ⟨[], some .int⟩ := by decide +kernel
theorem pd_3 : parseMethodDescriptor "(JJ)I" = some ⟨[.long, .long], some .int⟩ := by decide +kernel
theorem pd_4 : parseMethodDescriptor "(Ljava/lang/Object;)Z" = some ⟨[(.object "java/lang/Object")], some .boolean⟩ := by decide +kernel
def own_lh (x : Int64) : Int32 := ((x ^^^ ((x.toUInt64 >>> ((32 : Int32) &&& 0x3f).toInt64.toUInt64).toInt64)).toInt32)
def own_hc (u w : Int64) : Int32 := ((31 : Int32) * own_lh u) + own_lh w
def own_fold (x : Int64) : Int32 := ((x.toInt32) ^^^ ((x >>> ((32 : Int32) &&& 0x3f).toInt64).toInt32))
def own_ref (u w : Int64) : Int32 := ((own_fold u <<< ((5 : Int32) &&& 31)) - own_fold u) + own_fold w
theorem own_f (x : Int64) : own_lh x = own_fold x := by
  apply Int32.toBitVec_inj.mp
  have h1 : ((x.toUInt64 >>> ((32 : Int32) &&& 0x3f).toInt64.toUInt64).toInt64).toBitVec = x.toBitVec >>> 32 := rfl
  have h2 : (x >>> ((32 : Int32) &&& 0x3f).toInt64).toBitVec = x.toBitVec.sshiftRight 32 := by
    show x.toBitVec.sshiftRight _ = _
    rfl
  show (own_lh x).toBitVec = (own_fold x).toBitVec
  simp only [own_lh, own_fold, Int64.toBitVec_toInt32, Int32.toBitVec_xor, Int64.toBitVec_xor, h1, h2]
  generalize x.toBitVec = b
  apply BitVec.eq_of_getLsbD_eq
  intro i hi
  have h64 : ¬ 64 ≤ i := by omega
  have h64' : i < 64 := by omega
  have h32 : 32 + i < 64 := by omega
  simp only [BitVec.getLsbD_setWidth, BitVec.getLsbD_signExtend, BitVec.getLsbD_xor, BitVec.getLsbD_ushiftRight, BitVec.getLsbD_sshiftRight, hi, h64, h64', h32, decide_true, decide_false, Bool.not_false, Bool.true_and, if_true]
theorem own_m (h : Int32) : (31 : Int32) * h = (h <<< ((5 : Int32) &&& 31)) - h := by
  have e : h <<< ((5 : Int32) &&& 31) = h * 32 := shlm (by decide)
  rw [e]
  apply Int32.toInt_inj.mp
  have h1 := c_imul 31 h
  have h2 := c_imul h 32
  have h3 := c_isub (h * 32) h
  have r1 := rng32 (31 * h)
  have r2 := rng32 (h * 32 - h)
  have k1 : (31 : Int32).toInt = 31 := by decide
  have k2 : (32 : Int32).toInt = 32 := by decide
  rw [k1] at h1
  rw [k2] at h2
  omega
theorem own_same (u w : Int64) : own_hc u w = own_ref u w := by
  unfold own_hc own_ref
  rw [own_f, own_f, own_m]
def Q1 (Z : State) (x0 : Addr) (x1 : Int64) (x2 : Int64) (h0 : Heap) (n0 : Nat) (v : Option Value) (h : Heap) (L : List Loc) : Prop := v = none ∧ Fr n0 L ∧ Keep h0 h [x0] ∧ Exa Z h x0 "com/example/sets_in_bits/setsinbits/hashing/Hash128" ∧ Fld Z h x0 "com/example/sets_in_bits/setsinbits/hashing/Hash128" "first" "J" (.long x1) ∧ Fld Z h x0 "com/example/sets_in_bits/setsinbits/hashing/Hash128" "second" "J" (.long x2)
theorem ef_1 (m : MethodId) (x0 : Addr) (x1 : Int64) (x2 : Int64) : entryFrame m #[(.ref x0), (.long x1), (.long x2)] 5 = mkF m 0 #[rv x0, lv x1, .second, lv x2, .second] [] := by first | (simp [entryFrame, mkF, argsToLocals, Value.category]; done) | rfl
set_option maxRecDepth 65536 in
set_option maxHeartbeats 40000000 in
theorem rm1 (l : Launch) (Z : State) (a0 : Array Value) (hw : ∀ d ∈ tables_1, d.before a0 Z = true) (ws : List Jvm.Cond) (x0 : Addr) (x1 : Int64) (x2 : Int64) (h0 : Heap) (n0 : Nat) (Z0 : n0 ≤ h0.size) (pre_E_x0 : Exa Z h0 x0 "com/example/sets_in_bits/setsinbits/hashing/Hash128") (pre_F_x0_first : Fld Z h0 x0 "com/example/sets_in_bits/setsinbits/hashing/Hash128" "first" "J" (.long 0)) (pre_F_x0_second : Fld Z h0 x0 "com/example/sets_in_bits/setsinbits/hashing/Hash128" "second" "J" (.long 0)) (g_x0 : n0 ≤ x0) :
    MetFree l (⟨"com/example/sets_in_bits/setsinbits/hashing/Hash128", "<init>", "(JJ)V"⟩ : MethodName) (head1 (Jvm.Cond.code (⟨"com/example/sets_in_bits/setsinbits/hashing/Hash128", "<init>", "(JJ)V"⟩ : MethodName) prog_45_method_1_code 5 none :: ws) ({ frames := 1, cells := 0, slots := 0, locals := 12 } : Room)) (fun a U => a = #[(.ref x0), (.long x1), (.long x2)] ∧ Z.Warmed39 U.vm ∧ U.heap = h0) (fun _ _ _ _ _ => True) (fun _ U o U' => ∃ v L, o = .returned v ∧ Q1 Z x0 x1 x2 h0 n0 v U'.heap L ∧ FrameEnd U o U' L ({ frames := 1, cells := 0, slots := 0, locals := 12 } : Room).cells ({ frames := 1, cells := 0, slots := 0, locals := 12 } : Room).slots) := by
  refine MetFree.of_bodySF (plainFor_of_name pn_1) hisR ?_
  intro p e s m args below meth c s₁ Bd hml0 hP hK
  obtain ⟨rfl, hZ, hh⟩ := hP
  have hx := Bd.exec
  have hby := Bd.bytes
  have hml : c.maxLocals = 5 := hml0
  have hown : s.vm.findClass "com/example/sets_in_bits/setsinbits/hashing/Hash128" = some m.cls := findClass_of_methodNamed Bd.named
  have hnm := (name_of_methodNamed Bd.named Bd.method).1
  have X0 : Stand p l e ({ frames := 1, cells := 0, slots := 0, locals := 12 } : Room) s m #[(.ref x0), (.long x1), (.long x2)] below meth c s₁ [] 0 0 := Stand.of_body Bd
  have e0 : s₁.heap = h0 := by rw [← hh, Bd.state]; rfl
  have N0 := Fr.nil n0
  have Kp0 := Keep.refl h0 [x0]
  have P0 : ∀ t, Steps p.tables e below (s₁.setTop (mkF m 0 #[rv x0, lv x1, .second, lv x2, .second] [])) t → Steps p.tables e below (s₁.setTop (entryFrame m #[(.ref x0), (.long x1), (.long x2)] 5)) t := fun t k => castTop (ef_1 m x0 x1 x2) k
  obtain ⟨T1, X1, e1, st1⟩ := initO X0 hx hZ hown (hw _ (im 6 rfl)) (hw _ (im 7 rfl)) (hw _ (im 8 rfl)) e0 (g := (mkF m 1 #[rv x0, lv x1, .second, lv x2, .second] [(.ref x0)])) rfl (by rw [hml]; rfl) rfl (hb hby d1_1) (by decide) (W := 0) (by show 2 * 0 + _ ≤ _; exact Nat.le_of_eq rfl) (by decide)
  obtain ⟨T2, h2, X2, e2, W2, st2⟩ := putF X1 hx hZ hown (host := "") (Or.inl (hw _ (im 9 rfl))) Via.refl e1 pre_F_x0_first pre_E_x0 (Or.inr ⟨(hw _ (im 10 rfl)), rfl, hnm⟩) (hw _ (im 1 rfl)) (ty := .long) (by decide) rfl rfl (g := (mkF m 6 #[rv x0, lv x1, .second, lv x2, .second] [(.long x1), (.ref x0)])) rfl rfl (hb hby d1_6)
  have Fw2 := pre_F_x0_first.same W2
  have Z2_ : n0 ≤ h2.size := Nat.le_trans Z0 (Nat.le_of_eq W2.size.symm)
  have N2 := Fr.snoc X2 N0 g_x0
  have KK2 := Kp0.wr W2 (Or.inl (List.mem_of_getElem? (i := 0) rfl))
  have q3 := (pre_F_x0_second.other W2 (Or.inr (own_sn (la_0 hw) (la_1 hw))))
  have q4 := (pre_E_x0.wr W2)
  obtain ⟨T5, h5, X5, e5, W5, st5⟩ := putF X2 hx hZ hown (host := "") (Or.inl (hw _ (im 11 rfl))) Via.refl e2 q3 q4 (Or.inr ⟨(hw _ (im 12 rfl)), rfl, hnm⟩) (hw _ (im 1 rfl)) (ty := .long) (by decide) rfl rfl (g := (mkF m 11 #[rv x0, lv x1, .second, lv x2, .second] [(.long x2), (.ref x0)])) rfl rfl (hb hby d1_11)
  have Fw5 := q3.same W5
  have Z5_ : n0 ≤ h5.size := Nat.le_trans Z2_ (Nat.le_of_eq W5.size.symm)
  have N5 := Fr.snoc X5 N2 g_x0
  have KK5 := KK2.wr W5 (Or.inl (List.mem_of_getElem? (i := 0) rfl))
  have P6 := own_go P0 (S' := T5.setTop (mkF m 14 #[rv x0, lv x1, .second, lv x2, .second] [])) (by
    intro t k
    refine XS.aloadN X0.here hx rfl (hb hby d1_0) rfl rfl ?_
    refine st1 _ ?_
    refine XS.aloadN X1.here hx rfl (hb hby d1_4) rfl rfl ?_
    refine XS.lloadN X1.here hx rfl (hb hby d1_5) rfl ?_
    refine st2 _ ?_
    refine XS.aloadN X2.here hx rfl (hb hby d1_9) rfl rfl ?_
    refine XS.lloadN X2.here hx rfl (hb hby d1_10) rfl ?_
    refine st5 _ ?_
    show Steps p.tables e below (T5.setTop (mkF m 14 #[rv x0, lv x1, .second, lv x2, .second] [])) _
    exact k)
  have q7 := (q4.wr W5)
  have q8 := (Fw2.other W5 (Or.inr (own_sn (la_1 hw) (la_0 hw))))
  obtain ⟨fs, hr, hrun, hended, hW, hsame⟩ := X5.leave (v := none) (fun _ => rfl)
  refine ⟨_, _, P6 _ ?_, hrun, hended, _, _, rfl, ?_, ⟨_, rfl⟩, hW, hsame.mono (by decide) (by decide)⟩
  · show Steps p.tables e below (T5.setTop (mkF m 14 #[rv x0, lv x1, .second, lv x2, .second] [])) _
    exact X5.returnOut hx Bd.returns (hb hby d1_14) hr
  · show Q1 Z x0 x1 x2 h0 n0 _ T5.heap _
    rw [e5]
    exact ⟨rfl, N5, KK5, q7, q8, Fw5⟩
def Q4 (Z : State) (x0 : Int64) (h0 : Heap) (n0 : Nat) (v : Option Value) (h : Heap) (L : List Loc) : Prop := v = some (.int (own_lh x0)) ∧ Fr n0 L ∧ h = h0
theorem ef_4 (m : MethodId) (x0 : Int64) : entryFrame m #[(.long x0)] 2 = mkF m 0 #[lv x0, .second] [] := by first | (simp [entryFrame, mkF, argsToLocals, Value.category]; done) | rfl
set_option maxRecDepth 65536 in
set_option maxHeartbeats 40000000 in
theorem rm4 (l : Launch) (Z : State) (a0 : Array Value) (hw : ∀ d ∈ tables_1, d.before a0 Z = true) (ws : List Jvm.Cond) (x0 : Int64) (h0 : Heap) (n0 : Nat) (Z0 : n0 ≤ h0.size) :
    MetFree l (⟨"java/lang/Long", "hashCode", "(J)I"⟩ : MethodName) (head1 (Jvm.Cond.code (⟨"java/lang/Long", "hashCode", "(J)I"⟩ : MethodName) jdk_35_method_36_code 2 (some .int) :: ws) ({ frames := 0, cells := 0, slots := 0, locals := 0 } : Room)) (fun a U => a = #[(.long x0)] ∧ Z.Warmed39 U.vm ∧ U.heap = h0) (fun _ _ _ _ _ => True) (fun _ U o U' => ∃ v L, o = .returned v ∧ Q4 Z x0 h0 n0 v U'.heap L ∧ FrameEnd U o U' L ({ frames := 0, cells := 0, slots := 0, locals := 0 } : Room).cells ({ frames := 0, cells := 0, slots := 0, locals := 0 } : Room).slots) := by
  refine MetFree.of_bodySF (plainFor_of_name pn_4) hisR ?_
  intro p e s m args below meth c s₁ Bd hml0 hP hK
  obtain ⟨rfl, hZ, hh⟩ := hP
  have hx := Bd.exec
  have hby := Bd.bytes
  have hml : c.maxLocals = 2 := hml0
  have hown : s.vm.findClass "java/lang/Long" = some m.cls := findClass_of_methodNamed Bd.named
  have hnm := (name_of_methodNamed Bd.named Bd.method).1
  have X0 : Stand p l e ({ frames := 0, cells := 0, slots := 0, locals := 0 } : Room) s m #[(.long x0)] below meth c s₁ [] 0 0 := Stand.of_body Bd
  have e0 : s₁.heap = h0 := by rw [← hh, Bd.state]; rfl
  have N0 := Fr.nil n0
  have Kp0 := Keep.refl h0 []
  have P0 : ∀ t, Steps p.tables e below (s₁.setTop (mkF m 0 #[lv x0, .second] [])) t → Steps p.tables e below (s₁.setTop (entryFrame m #[(.long x0)] 2)) t := fun t k => castTop (ef_4 m x0) k
  have P1 := own_go P0 (S' := s₁.setTop (mkF m 7 #[lv x0, .second] [(.int ((x0 ^^^ ((x0.toUInt64 >>> ((32 : Int32) &&& 0x3f).toInt64.toUInt64).toInt64)).toInt32))])) (by
    intro t k
    refine XS.lloadN X0.here hx rfl (hb hby d4_0) rfl ?_
    refine XS.lloadN X0.here hx rfl (hb hby d4_1) rfl ?_
    refine XS.bipush X0.here hx rfl (hb hby d4_2) ?_
    refine XS.lushr X0.here hx rfl (hb hby d4_4) rfl ?_
    refine XS.lxor X0.here hx rfl (hb hby d4_5) rfl ?_
    refine XS.l2i X0.here hx rfl (hb hby d4_6) rfl ?_
    exact k)
  obtain ⟨fs, hr, hrun, hended, hW, hsame⟩ := X0.leave (v := some (.int ((x0 ^^^ ((x0.toUInt64 >>> ((32 : Int32) &&& 0x3f).toInt64.toUInt64).toInt64)).toInt32))) (fun h => by rw [Bd.returns] at h; cases h)
  refine ⟨_, _, P1 _ ?_, hrun, hended, _, _, rfl, ?_, ⟨_, rfl⟩, hW, hsame.mono (by decide) (by decide)⟩
  · show Steps p.tables e below (s₁.setTop (mkF m 7 #[lv x0, .second] [(.int ((x0 ^^^ ((x0.toUInt64 >>> ((32 : Int32) &&& 0x3f).toInt64.toUInt64).toInt64)).toInt32))])) _
    exact retI X0 hx Bd.returns (hb hby d4_7) hr
  · show Q4 Z x0 h0 n0 _ s₁.heap _
    rw [e0]
    exact ⟨(rfl), N0, rfl⟩
def Q3 (Z : State) (x0 : Addr) (u : Int64) (w : Int64) (h0 : Heap) (n0 : Nat) (v : Option Value) (h : Heap) (L : List Loc) : Prop := v = some (.int (own_hc u w)) ∧ Fr n0 L ∧ h = h0
theorem ef_3 (m : MethodId) (x0 : Addr) : entryFrame m #[(.ref x0)] 1 = mkF m 0 #[rv x0] [] := by first | (simp [entryFrame, mkF, argsToLocals, Value.category]; done) | rfl
set_option maxRecDepth 65536 in
set_option maxHeartbeats 40000000 in
theorem rm3 (l : Launch) (Z : State) (a0 : Array Value) (hw : ∀ d ∈ tables_1, d.before a0 Z = true) (ws : List Jvm.Cond) (x0 : Addr) (u : Int64) (w : Int64) (h0 : Heap) (n0 : Nat) (Z0 : n0 ≤ h0.size) (pre_F_x0_first : Fld Z h0 x0 "com/example/sets_in_bits/setsinbits/hashing/Hash128" "first" "J" (.long u)) (pre_F_x0_second : Fld Z h0 x0 "com/example/sets_in_bits/setsinbits/hashing/Hash128" "second" "J" (.long w)) :
    MetFree l (⟨"com/example/sets_in_bits/setsinbits/hashing/Hash128", "hashCode", "()I"⟩ : MethodName) (head1 (Jvm.Cond.code (⟨"com/example/sets_in_bits/setsinbits/hashing/Hash128", "hashCode", "()I"⟩ : MethodName) prog_45_method_5_code 1 (some .int) :: ws) ({ frames := 1, cells := 0, slots := 0, locals := 14 } : Room)) (fun a U => a = #[(.ref x0)] ∧ Z.Warmed39 U.vm ∧ U.heap = h0) (fun _ _ _ _ _ => True) (fun _ U o U' => ∃ v L, o = .returned v ∧ Q3 Z x0 u w h0 n0 v U'.heap L ∧ FrameEnd U o U' L ({ frames := 1, cells := 0, slots := 0, locals := 14 } : Room).cells ({ frames := 1, cells := 0, slots := 0, locals := 14 } : Room).slots) := by
  refine MetFree.of_bodySF (plainFor_of_name pn_3) hisR ?_
  intro p e s m args below meth c s₁ Bd hml0 hP hK
  obtain ⟨rfl, hZ, hh⟩ := hP
  have hx := Bd.exec
  have hby := Bd.bytes
  have hml : c.maxLocals = 1 := hml0
  have hown : s.vm.findClass "com/example/sets_in_bits/setsinbits/hashing/Hash128" = some m.cls := findClass_of_methodNamed Bd.named
  have hnm := (name_of_methodNamed Bd.named Bd.method).1
  have X0 : Stand p l e ({ frames := 1, cells := 0, slots := 0, locals := 14 } : Room) s m #[(.ref x0)] below meth c s₁ [] 0 0 := Stand.of_body Bd
  have e0 : s₁.heap = h0 := by rw [← hh, Bd.state]; rfl
  have N0 := Fr.nil n0
  have Kp0 := Keep.refl h0 []
  have P0 : ∀ t, Steps p.tables e below (s₁.setTop (mkF m 0 #[rv x0] [])) t → Steps p.tables e below (s₁.setTop (entryFrame m #[(.ref x0)] 1)) t := fun t k => castTop (ef_3 m x0) k
  obtain ⟨T1, X1, e1, st1⟩ := getF X0 hx hZ hown (host := "") (Or.inl (hw _ (im 9 rfl))) Via.refl e0 pre_F_x0_first (g := (mkF m 3 #[rv x0] [(.ref x0), (.int 31)])) rfl rfl (hb hby d3_3)
  obtain ⟨_, _, ⟨T2, L2, k2, n2⟩, -, X2, ⟨Lc2, hQ2, l2, y2, z2⟩, st2⟩ := Jvm.LawKit.callS X1 hx (y := (⟨"java/lang/Long", "hashCode", "(J)I"⟩ : MethodName)) hown (mvT hZ (hw _ (im 18 rfl))) (mvT hZ (hw _ (im 19 rfl))) (mvT hZ (hw _ (im 20 rfl))) (mvT hZ (hw _ (im 21 rfl))) (by decide) (backOf (W := 1) (rm4 l Z a0 hw [] u h0 n0 Z0 ) hZ (hw _ (im 21 rfl)) (hw _ (im 20 rfl)) (by decide) (by decide)) (g := (mkF m 6 #[rv x0] [(.long u), (.int 31)])) rfl (by rw [hml]; rfl) (argsL := [(.long u)]) (rest := [(.int 31)]) (lenOf pd_0 rfl) rfl (by show 2 * 0 + _ ≤ _; exact Nat.le_of_eq rfl) (hb hby d3_6) (fun _ _ => ⟨rfl, e1, (by decide : 0 + 0 ≤ _), (by decide : 0 + 0 ≤ _)⟩)
  dsimp only [Pt.U, Pt.locs, Pt.cells, Pt.slots] at X2 l2 y2 z2 st2 hQ2
  subst l2 y2 z2
  obtain ⟨rfl, N2q, e2⟩ := hQ2
  have N2 := Fr.app N0 N2q
  obtain ⟨T3, X3, e3, st3⟩ := getF X2 hx hZ hown (host := "") (Or.inl (hw _ (im 11 rfl))) Via.refl e2 pre_F_x0_second (g := (mkF m 11 #[rv x0] [(.ref x0), (.int ((31 : Int32) * (own_lh u)))])) rfl rfl (hb hby d3_11)
  obtain ⟨_, _, ⟨T4, L4, k4, n4⟩, -, X4, ⟨Lc4, hQ4, l4, y4, z4⟩, st4⟩ := Jvm.LawKit.callS X3 hx (y := (⟨"java/lang/Long", "hashCode", "(J)I"⟩ : MethodName)) hown (mvT hZ (hw _ (im 18 rfl))) (mvT hZ (hw _ (im 19 rfl))) (mvT hZ (hw _ (im 20 rfl))) (mvT hZ (hw _ (im 21 rfl))) (by decide) (backOf (W := 1) (rm4 l Z a0 hw [] w h0 n0 Z0 ) hZ (hw _ (im 21 rfl)) (hw _ (im 20 rfl)) (by decide) (by decide)) (g := (mkF m 14 #[rv x0] [(.long w), (.int ((31 : Int32) * (own_lh u)))])) rfl (by rw [hml]; rfl) (argsL := [(.long w)]) (rest := [(.int ((31 : Int32) * (own_lh u)))]) (lenOf pd_0 rfl) rfl (by show 2 * 0 + _ ≤ _; exact Nat.le_of_eq rfl) (hb hby d3_14) (fun _ _ => ⟨rfl, e3, (by decide : 0 + 0 ≤ _), (by decide : 0 + 0 ≤ _)⟩)
  dsimp only [Pt.U, Pt.locs, Pt.cells, Pt.slots] at X4 l4 y4 z4 st4 hQ4
  subst l4 y4 z4
  obtain ⟨rfl, N4q, e4⟩ := hQ4
  have N4 := Fr.app N2 N4q
  have P5 := own_go P0 (S' := T4.setTop (mkF m 18 #[rv x0] [(.int (((31 : Int32) * (own_lh u)) + (own_lh w)))])) (by
    intro t k
    refine XS.bipush X0.here hx rfl (hb hby d3_0) ?_
    refine XS.aloadN X0.here hx rfl (hb hby d3_2) rfl rfl ?_
    refine st1 _ ?_
    refine st2 _ ?_
    refine XS.imul X2.here hx rfl (hb hby d3_9) rfl ?_
    refine XS.aloadN X2.here hx rfl (hb hby d3_10) rfl rfl ?_
    refine st3 _ ?_
    refine st4 _ ?_
    show Steps p.tables e below (T4.setTop (mkF m 17 #[rv x0] [(.int (own_lh w)), (.int ((31 : Int32) * (own_lh u)))])) _
    refine XS.iadd X4.here hx rfl (hb hby d3_17) rfl ?_
    exact k)
  obtain ⟨fs, hr, hrun, hended, hW, hsame⟩ := X4.leave (v := some (.int (((31 : Int32) * (own_lh u)) + (own_lh w)))) (fun h => by rw [Bd.returns] at h; cases h)
  refine ⟨_, _, P5 _ ?_, hrun, hended, _, _, rfl, ?_, ⟨_, rfl⟩, hW, hsame.mono (by decide) (by decide)⟩
  · show Steps p.tables e below (T4.setTop (mkF m 18 #[rv x0] [(.int (((31 : Int32) * (own_lh u)) + (own_lh w)))])) _
    exact retI X4 hx Bd.returns (hb hby d3_18) hr
  · show Q3 Z x0 u w h0 n0 _ T4.heap _
    rw [e4]
    exact ⟨(rfl), N4, rfl⟩
def Q6 (Z : State) (x0 : Int64) (h0 : Heap) (n0 : Nat) (v : Option Value) (h : Heap) (L : List Loc) : Prop := v = some (.int (own_fold x0)) ∧ Fr n0 L ∧ h = h0
theorem ef_6 (m : MethodId) (x0 : Int64) : entryFrame m #[(.long x0)] 4 = mkF m 0 #[lv x0, .second, .unset, .unset] [] := by first | (simp [entryFrame, mkF, argsToLocals, Value.category]; done) | rfl
set_option maxRecDepth 65536 in
set_option maxHeartbeats 40000000 in
theorem rm6 (l : Launch) (Z : State) (a0 : Array Value) (hw : ∀ d ∈ tables_1, d.before a0 Z = true) (ws : List Jvm.Cond) (x0 : Int64) (h0 : Heap) (n0 : Nat) (Z0 : n0 ≤ h0.size) :
    MetFree l (⟨"com/example/sets_in_bits/setsinbits/hashing/Hash128HashCodePinLaw", "fold", "(J)I"⟩ : MethodName) (head1 (Jvm.Cond.code (⟨"com/example/sets_in_bits/setsinbits/hashing/Hash128HashCodePinLaw", "fold", "(J)I"⟩ : MethodName) method_2_code 4 (some .int) :: ws) ({ frames := 0, cells := 0, slots := 0, locals := 0 } : Room)) (fun a U => a = #[(.long x0)] ∧ Z.Warmed39 U.vm ∧ U.heap = h0) (fun _ _ _ _ _ => True) (fun _ U o U' => ∃ v L, o = .returned v ∧ Q6 Z x0 h0 n0 v U'.heap L ∧ FrameEnd U o U' L ({ frames := 0, cells := 0, slots := 0, locals := 0 } : Room).cells ({ frames := 0, cells := 0, slots := 0, locals := 0 } : Room).slots) := by
  refine MetFree.of_bodySF (plainFor_of_name pn_6) hisR ?_
  intro p e s m args below meth c s₁ Bd hml0 hP hK
  obtain ⟨rfl, hZ, hh⟩ := hP
  have hx := Bd.exec
  have hby := Bd.bytes
  have hml : c.maxLocals = 4 := hml0
  have hown : s.vm.findClass "com/example/sets_in_bits/setsinbits/hashing/Hash128HashCodePinLaw" = some m.cls := findClass_of_methodNamed Bd.named
  have hnm := (name_of_methodNamed Bd.named Bd.method).1
  have X0 : Stand p l e ({ frames := 0, cells := 0, slots := 0, locals := 0 } : Room) s m #[(.long x0)] below meth c s₁ [] 0 0 := Stand.of_body Bd
  have e0 : s₁.heap = h0 := by rw [← hh, Bd.state]; rfl
  have N0 := Fr.nil n0
  have Kp0 := Keep.refl h0 []
  have P0 : ∀ t, Steps p.tables e below (s₁.setTop (mkF m 0 #[lv x0, .second, .unset, .unset] [])) t → Steps p.tables e below (s₁.setTop (entryFrame m #[(.long x0)] 4)) t := fun t k => castTop (ef_6 m x0) k
  have P1 := own_go P0 (S' := s₁.setTop (mkF m 12 #[lv x0, .second, iv (x0.toInt32), iv ((x0 >>> ((32 : Int32) &&& 0x3f).toInt64).toInt32)] [(.int ((x0.toInt32) ^^^ ((x0 >>> ((32 : Int32) &&& 0x3f).toInt64).toInt32)))])) (by
    intro t k
    refine XS.lloadN X0.here hx rfl (hb hby d6_0) rfl ?_
    refine XS.l2i X0.here hx rfl (hb hby d6_1) rfl ?_
    refine XS.istoreN X0.here hx rfl (hb hby d6_2) rfl (l' := #[lv x0, .second, iv (x0.toInt32), .unset]) rfl ?_
    refine XS.lloadN X0.here hx rfl (hb hby d6_3) rfl ?_
    refine XS.bipush X0.here hx rfl (hb hby d6_4) ?_
    refine XS.lshr X0.here hx rfl (hb hby d6_6) rfl ?_
    refine XS.l2i X0.here hx rfl (hb hby d6_7) rfl ?_
    refine XS.istoreN X0.here hx rfl (hb hby d6_8) rfl (l' := #[lv x0, .second, iv (x0.toInt32), iv ((x0 >>> ((32 : Int32) &&& 0x3f).toInt64).toInt32)]) rfl ?_
    show Steps p.tables e below (s₁.setTop (mkF m 9 #[lv x0, .second, iv (x0.toInt32), iv ((x0 >>> ((32 : Int32) &&& 0x3f).toInt64).toInt32)] [])) _
    refine XS.iloadN X0.here hx rfl (hb hby d6_9) rfl ?_
    refine XS.iloadN X0.here hx rfl (hb hby d6_10) rfl ?_
    refine XS.ixor X0.here hx rfl (hb hby d6_11) rfl ?_
    exact k)
  obtain ⟨fs, hr, hrun, hended, hW, hsame⟩ := X0.leave (v := some (.int ((x0.toInt32) ^^^ ((x0 >>> ((32 : Int32) &&& 0x3f).toInt64).toInt32)))) (fun h => by rw [Bd.returns] at h; cases h)
  refine ⟨_, _, P1 _ ?_, hrun, hended, _, _, rfl, ?_, ⟨_, rfl⟩, hW, hsame.mono (by decide) (by decide)⟩
  · show Steps p.tables e below (s₁.setTop (mkF m 12 #[lv x0, .second, iv (x0.toInt32), iv ((x0 >>> ((32 : Int32) &&& 0x3f).toInt64).toInt32)] [(.int ((x0.toInt32) ^^^ ((x0 >>> ((32 : Int32) &&& 0x3f).toInt64).toInt32)))])) _
    exact retI X0 hx Bd.returns (hb hby d6_12) hr
  · show Q6 Z x0 h0 n0 _ s₁.heap _
    rw [e0]
    exact ⟨(rfl), N0, rfl⟩
def Q5 (Z : State) (x0 : Int64) (x1 : Int64) (h0 : Heap) (n0 : Nat) (v : Option Value) (h : Heap) (L : List Loc) : Prop := v = some (.int (own_ref x0 x1)) ∧ Fr n0 L ∧ h = h0
theorem ef_5 (m : MethodId) (x0 : Int64) (x1 : Int64) : entryFrame m #[(.long x0), (.long x1)] 6 = mkF m 0 #[lv x0, .second, lv x1, .second, .unset, .unset] [] := by first | (simp [entryFrame, mkF, argsToLocals, Value.category]; done) | rfl
set_option maxRecDepth 65536 in
set_option maxHeartbeats 40000000 in
theorem rm5 (l : Launch) (Z : State) (a0 : Array Value) (hw : ∀ d ∈ tables_1, d.before a0 Z = true) (ws : List Jvm.Cond) (x0 : Int64) (x1 : Int64) (h0 : Heap) (n0 : Nat) (Z0 : n0 ≤ h0.size) :
    MetFree l (⟨"com/example/sets_in_bits/setsinbits/hashing/Hash128HashCodePinLaw", "ref", "(JJ)I"⟩ : MethodName) (head1 (Jvm.Cond.code (⟨"com/example/sets_in_bits/setsinbits/hashing/Hash128HashCodePinLaw", "ref", "(JJ)I"⟩ : MethodName) method_3_code 6 (some .int) :: ws) ({ frames := 1, cells := 0, slots := 0, locals := 16 } : Room)) (fun a U => a = #[(.long x0), (.long x1)] ∧ Z.Warmed39 U.vm ∧ U.heap = h0) (fun _ _ _ _ _ => True) (fun _ U o U' => ∃ v L, o = .returned v ∧ Q5 Z x0 x1 h0 n0 v U'.heap L ∧ FrameEnd U o U' L ({ frames := 1, cells := 0, slots := 0, locals := 16 } : Room).cells ({ frames := 1, cells := 0, slots := 0, locals := 16 } : Room).slots) := by
  refine MetFree.of_bodySF (plainFor_of_name pn_5) hisR ?_
  intro p e s m args below meth c s₁ Bd hml0 hP hK
  obtain ⟨rfl, hZ, hh⟩ := hP
  have hx := Bd.exec
  have hby := Bd.bytes
  have hml : c.maxLocals = 6 := hml0
  have hown : s.vm.findClass "com/example/sets_in_bits/setsinbits/hashing/Hash128HashCodePinLaw" = some m.cls := findClass_of_methodNamed Bd.named
  have hnm := (name_of_methodNamed Bd.named Bd.method).1
  have X0 : Stand p l e ({ frames := 1, cells := 0, slots := 0, locals := 16 } : Room) s m #[(.long x0), (.long x1)] below meth c s₁ [] 0 0 := Stand.of_body Bd
  have e0 : s₁.heap = h0 := by rw [← hh, Bd.state]; rfl
  have N0 := Fr.nil n0
  have Kp0 := Keep.refl h0 []
  have P0 : ∀ t, Steps p.tables e below (s₁.setTop (mkF m 0 #[lv x0, .second, lv x1, .second, .unset, .unset] [])) t → Steps p.tables e below (s₁.setTop (entryFrame m #[(.long x0), (.long x1)] 6)) t := fun t k => castTop (ef_5 m x0 x1) k
  obtain ⟨_, _, ⟨T1, L1, k1, n1⟩, -, X1, ⟨Lc1, hQ1, l1, y1, z1⟩, st1⟩ := Jvm.LawKit.callS X0 hx (y := (⟨"com/example/sets_in_bits/setsinbits/hashing/Hash128HashCodePinLaw", "fold", "(J)I"⟩ : MethodName)) hown (mvT hZ (hw _ (im 26 rfl))) (mvT hZ (hw _ (im 27 rfl))) (mvT hZ (hw _ (im 24 rfl))) (mvT hZ (hw _ (im 28 rfl))) (by decide) (backOf (W := 0) (rm6 l Z a0 hw [] x0 h0 n0 Z0 ) hZ (hw _ (im 28 rfl)) (hw _ (im 24 rfl)) (by decide) (by decide)) (g := (mkF m 1 #[lv x0, .second, lv x1, .second, .unset, .unset] [(.long x0)])) rfl (by rw [hml]; rfl) (argsL := [(.long x0)]) (rest := []) (lenOf pd_0 rfl) rfl (by show 2 * 0 + _ ≤ _; exact Nat.le_of_eq rfl) (hb hby d5_1) (fun _ _ => ⟨rfl, e0, (by decide : 0 + 0 ≤ _), (by decide : 0 + 0 ≤ _)⟩)
  dsimp only [Pt.U, Pt.locs, Pt.cells, Pt.slots] at X1 l1 y1 z1 st1 hQ1
  subst l1 y1 z1
  obtain ⟨rfl, N1q, e1⟩ := hQ1
  have N1 := Fr.app N0 N1q
  obtain ⟨_, _, ⟨T2, L2, k2, n2⟩, -, X2, ⟨Lc2, hQ2, l2, y2, z2⟩, st2⟩ := Jvm.LawKit.callS X1 hx (y := (⟨"com/example/sets_in_bits/setsinbits/hashing/Hash128HashCodePinLaw", "fold", "(J)I"⟩ : MethodName)) hown (mvT hZ (hw _ (im 26 rfl))) (mvT hZ (hw _ (im 27 rfl))) (mvT hZ (hw _ (im 24 rfl))) (mvT hZ (hw _ (im 28 rfl))) (by decide) (backOf (W := 1) (rm6 l Z a0 hw [] x1 h0 n0 Z0 ) hZ (hw _ (im 28 rfl)) (hw _ (im 24 rfl)) (by decide) (by decide)) (g := (mkF m 18 #[lv x0, .second, lv x1, .second, iv (own_fold x0), iv (((own_fold x0) <<< ((5 : Int32) &&& 31)) - (own_fold x0))] [(.long x1), (.int (((own_fold x0) <<< ((5 : Int32) &&& 31)) - (own_fold x0)))])) rfl (by rw [hml]; rfl) (argsL := [(.long x1)]) (rest := [(.int (((own_fold x0) <<< ((5 : Int32) &&& 31)) - (own_fold x0)))]) (lenOf pd_0 rfl) rfl (by show 2 * 0 + _ ≤ _; exact Nat.le_of_eq rfl) (hb hby d5_18) (fun _ _ => ⟨rfl, e1, (by decide : 0 + 0 ≤ _), (by decide : 0 + 0 ≤ _)⟩)
  dsimp only [Pt.U, Pt.locs, Pt.cells, Pt.slots] at X2 l2 y2 z2 st2 hQ2
  subst l2 y2 z2
  obtain ⟨rfl, N2q, e2⟩ := hQ2
  have N2 := Fr.app N1 N2q
  have P3 := own_go P0 (S' := T2.setTop (mkF m 22 #[lv x0, .second, lv x1, .second, iv (own_fold x0), iv (((own_fold x0) <<< ((5 : Int32) &&& 31)) - (own_fold x0))] [(.int ((((own_fold x0) <<< ((5 : Int32) &&& 31)) - (own_fold x0)) + (own_fold x1)))])) (by
    intro t k
    refine XS.lloadN X0.here hx rfl (hb hby d5_0) rfl ?_
    refine st1 _ ?_
    refine XS.istore X1.here hx rfl (hb hby d5_4) rfl (l' := #[lv x0, .second, lv x1, .second, iv (own_fold x0), .unset]) rfl ?_
    refine XS.iload X1.here hx rfl (hb hby d5_6) rfl ?_
    refine XS.iconst X1.here hx rfl (hb hby d5_8) ?_
    refine XS.ishl X1.here hx rfl (hb hby d5_9) rfl ?_
    refine XS.iload X1.here hx rfl (hb hby d5_10) rfl ?_
    refine XS.isub X1.here hx rfl (hb hby d5_12) rfl ?_
    show Steps p.tables e below (T1.setTop (mkF m 13 #[lv x0, .second, lv x1, .second, iv (own_fold x0), .unset] [(.int (((own_fold x0) <<< ((5 : Int32) &&& 31)) - (own_fold x0)))])) _
    refine XS.istore X1.here hx rfl (hb hby d5_13) rfl (l' := #[lv x0, .second, lv x1, .second, iv (own_fold x0), iv (((own_fold x0) <<< ((5 : Int32) &&& 31)) - (own_fold x0))]) rfl ?_
    refine XS.iload X1.here hx rfl (hb hby d5_15) rfl ?_
    refine XS.lloadN X1.here hx rfl (hb hby d5_17) rfl ?_
    refine st2 _ ?_
    refine XS.iadd X2.here hx rfl (hb hby d5_21) rfl ?_
    exact k)
  obtain ⟨fs, hr, hrun, hended, hW, hsame⟩ := X2.leave (v := some (.int ((((own_fold x0) <<< ((5 : Int32) &&& 31)) - (own_fold x0)) + (own_fold x1)))) (fun h => by rw [Bd.returns] at h; cases h)
  refine ⟨_, _, P3 _ ?_, hrun, hended, _, _, rfl, ?_, ⟨_, rfl⟩, hW, hsame.mono (by decide) (by decide)⟩
  · show Steps p.tables e below (T2.setTop (mkF m 22 #[lv x0, .second, lv x1, .second, iv (own_fold x0), iv (((own_fold x0) <<< ((5 : Int32) &&& 31)) - (own_fold x0))] [(.int ((((own_fold x0) <<< ((5 : Int32) &&& 31)) - (own_fold x0)) + (own_fold x1)))])) _
    exact retI X2 hx Bd.returns (hb hby d5_22) hr
  · show Q5 Z x0 x1 h0 n0 _ T2.heap _
    rw [e2]
    exact ⟨(rfl), N2, rfl⟩
def Q7 (Z : State) (x0 : Addr) (x1 : Addr) (a : Int64) (b : Int64) (c2 : Int64) (d2 : Int64) (h0 : Heap) (n0 : Nat) (v : Option Value) (h : Heap) (L : List Loc) : Prop := v = some (.int (if (a = c2 ∧ b = d2) then (1 : Int32) else (0 : Int32))) ∧ Fr n0 L ∧ h = h0
theorem ef_7 (m : MethodId) (x0 : Addr) (x1 : Addr) : entryFrame m #[(.ref x0), (.ref x1)] 3 = mkF m 0 #[rv x0, rv x1, .unset] [] := by first | (simp [entryFrame, mkF, argsToLocals, Value.category]; done) | rfl
set_option maxRecDepth 65536 in
set_option maxHeartbeats 40000000 in
theorem rm7 (l : Launch) (Z : State) (a0 : Array Value) (hw : ∀ d ∈ tables_1, d.before a0 Z = true) (ws : List Jvm.Cond) (x0 : Addr) (x1 : Addr) (a : Int64) (b : Int64) (c2 : Int64) (d2 : Int64) (h0 : Heap) (n0 : Nat) (Z0 : n0 ≤ h0.size) (pre_E_x1 : Exa Z h0 x1 "com/example/sets_in_bits/setsinbits/hashing/Hash128") (pre_F_x0_first : Fld Z h0 x0 "com/example/sets_in_bits/setsinbits/hashing/Hash128" "first" "J" (.long a)) (pre_F_x0_second : Fld Z h0 x0 "com/example/sets_in_bits/setsinbits/hashing/Hash128" "second" "J" (.long b)) (pre_F_x1_first : Fld Z h0 x1 "com/example/sets_in_bits/setsinbits/hashing/Hash128" "first" "J" (.long c2)) (pre_F_x1_second : Fld Z h0 x1 "com/example/sets_in_bits/setsinbits/hashing/Hash128" "second" "J" (.long d2)) :
    MetFree l (⟨"com/example/sets_in_bits/setsinbits/hashing/Hash128", "equals", "(Ljava/lang/Object;)Z"⟩ : MethodName) (head1 (Jvm.Cond.code (⟨"com/example/sets_in_bits/setsinbits/hashing/Hash128", "equals", "(Ljava/lang/Object;)Z"⟩ : MethodName) prog_45_method_4_code 3 (some .boolean) :: ws) ({ frames := 0, cells := 0, slots := 0, locals := 0 } : Room)) (fun a U => a = #[(.ref x0), (.ref x1)] ∧ Z.Warmed39 U.vm ∧ U.heap = h0) (fun _ _ _ _ _ => True) (fun _ U o U' => ∃ v L, o = .returned v ∧ Q7 Z x0 x1 a b c2 d2 h0 n0 v U'.heap L ∧ FrameEnd U o U' L ({ frames := 0, cells := 0, slots := 0, locals := 0 } : Room).cells ({ frames := 0, cells := 0, slots := 0, locals := 0 } : Room).slots) := by
  refine MetFree.of_bodySF (plainFor_of_name pn_7) hisR ?_
  intro p e s m args below meth c s₁ Bd hml0 hP hK
  obtain ⟨rfl, hZ, hh⟩ := hP
  have hx := Bd.exec
  have hby := Bd.bytes
  have hml : c.maxLocals = 3 := hml0
  have hown : s.vm.findClass "com/example/sets_in_bits/setsinbits/hashing/Hash128" = some m.cls := findClass_of_methodNamed Bd.named
  have hnm := (name_of_methodNamed Bd.named Bd.method).1
  have X0 : Stand p l e ({ frames := 0, cells := 0, slots := 0, locals := 0 } : Room) s m #[(.ref x0), (.ref x1)] below meth c s₁ [] 0 0 := Stand.of_body Bd
  have e0 : s₁.heap = h0 := by rw [← hh, Bd.state]; rfl
  have N0 := Fr.nil n0
  have Kp0 := Keep.refl h0 []
  have P0 : ∀ t, Steps p.tables e below (s₁.setTop (mkF m 0 #[rv x0, rv x1, .unset] [])) t → Steps p.tables e below (s₁.setTop (entryFrame m #[(.ref x0), (.ref x1)] 3)) t := fun t k => castTop (ef_7 m x0 x1) k
  obtain ⟨T1, X1, e1, st1⟩ := instY X0 hx hZ hown (hw _ (im 34 rfl)) e0 (Ins.self pre_E_x1) (g := (mkF m 1 #[rv x0, rv x1, .unset] [(.ref x1)])) rfl rfl (hb hby d7_1)
  obtain ⟨T3, X3, e3, st3⟩ := castY X1 hx hZ hown (hw _ (im 34 rfl)) e1 (Ins.self pre_E_x1) (g := (mkF m 8 #[rv x0, rv x1, .unset] [(.ref x1)])) rfl rfl (hb hby d7_8)
  obtain ⟨T4, X4, e4, st4⟩ := getF X3 hx hZ hown (host := "") (Or.inl (hw _ (im 9 rfl))) Via.refl e3 pre_F_x0_first (g := (mkF m 13 #[rv x0, rv x1, rv x1] [(.ref x0)])) rfl rfl (hb hby d7_13)
  obtain ⟨T5, X5, e5, st5⟩ := getF X4 hx hZ hown (host := "") (Or.inl (hw _ (im 9 rfl))) Via.refl e4 pre_F_x1_first (g := (mkF m 17 #[rv x0, rv x1, rv x1] [(.ref x1), (.long a)])) rfl rfl (hb hby d7_17)
  have P7 := own_go P0 (S' := T5.setTop (mkF m 21 #[rv x0, rv x1, rv x1] [(.int (lcmpW a c2))])) (by
    intro t k
    refine XS.aloadN X0.here hx rfl (hb hby d7_0) rfl rfl ?_
    refine st1 _ ?_
    refine XS.ifNo X1.here hx rfl (hb hby d7_4) rfl ((if0 _ _).trans (feq (by decide)).1) ?_
    refine XS.aloadN X1.here hx rfl (hb hby d7_7) rfl rfl ?_
    refine st3 _ ?_
    refine XS.astoreN X3.here hx rfl (hb hby d7_11) rfl rfl (l' := #[rv x0, rv x1, rv x1]) rfl ?_
    refine XS.aloadN X3.here hx rfl (hb hby d7_12) rfl rfl ?_
    refine st4 _ ?_
    show Steps p.tables e below (T4.setTop (mkF m 16 #[rv x0, rv x1, rv x1] [(.long a)])) _
    refine XS.aloadN X4.here hx rfl (hb hby d7_16) rfl rfl ?_
    refine st5 _ ?_
    refine XS.lcmp X5.here hx rfl (hb hby d7_20) rfl ?_
    exact k)
  by_cases hc21_6 : a = c2
  · obtain ⟨T8, X8, e8, st8⟩ := getF X5 hx hZ hown (host := "") (Or.inl (hw _ (im 11 rfl))) Via.refl e5 pre_F_x0_second (g := (mkF m 25 #[rv x0, rv x1, rv x1] [(.ref x0)])) rfl rfl (hb hby d7_25)
    obtain ⟨T9, X9, e9, st9⟩ := getF X8 hx hZ hown (host := "") (Or.inl (hw _ (im 11 rfl))) Via.refl e8 pre_F_x1_second (g := (mkF m 29 #[rv x0, rv x1, rv x1] [(.ref x1), (.long b)])) rfl rfl (hb hby d7_29)
    have P11 := own_go P7 (S' := T9.setTop (mkF m 33 #[rv x0, rv x1, rv x1] [(.int (lcmpW b d2))])) (by
      intro t k
      refine XS.ifNo X5.here hx rfl (hb hby d7_21) rfl ((if0 _ _).trans (teq ((lw_eq a c2).mpr hc21_6)).2) ?_
      refine XS.aloadN X5.here hx rfl (hb hby d7_24) rfl rfl ?_
      refine st8 _ ?_
      refine XS.aloadN X8.here hx rfl (hb hby d7_28) rfl rfl ?_
      refine st9 _ ?_
      refine XS.lcmp X9.here hx rfl (hb hby d7_32) rfl ?_
      exact k)
    by_cases hc33_10 : b = d2
    · have P12 := own_go P11 (S' := T9.setTop (mkF m 41 #[rv x0, rv x1, rv x1] [(.int 1)])) (by
        intro t k
        refine XS.ifNo X9.here hx rfl (hb hby d7_33) rfl ((if0 _ _).trans (teq ((lw_eq b d2).mpr hc33_10)).2) ?_
        refine XS.iconst X9.here hx rfl (hb hby d7_36) ?_
        refine XS.goto X9.here hx rfl (pc0 := 37) (pc' := 41) rfl (hb hby d7_37) (by decide) (by decide) ?_
        exact k)
      obtain ⟨fs, hr, hrun, hended, hW, hsame⟩ := X9.leave (v := some (.int 1)) (fun h => by rw [Bd.returns] at h; cases h)
      refine ⟨_, _, P12 _ ?_, hrun, hended, _, _, rfl, ?_, ⟨_, rfl⟩, hW, hsame.mono (by decide) (by decide)⟩
      · show Steps p.tables e below (T9.setTop (mkF m 41 #[rv x0, rv x1, rv x1] [(.int 1)])) _
        exact retN X9 hx (t := .boolean) Bd.returns (by simp) (hb hby d7_41) hr
      · show Q7 Z x0 x1 a b c2 d2 h0 n0 _ T9.heap _
        rw [e9]
        exact ⟨(by first | rfl | simp [hc21_6, hc33_10]), N0, rfl⟩
    · have P13 := own_go P11 (S' := T9.setTop (mkF m 41 #[rv x0, rv x1, rv x1] [(.int 0)])) (by
        intro t k
        refine XS.ifYes X9.here hx rfl (pc0 := 33) (pc' := 40) rfl (hb hby d7_33) rfl ((if0 _ _).trans (feq (fun q => hc33_10 ((lw_eq b d2).mp q))).2) (by decide) (by decide) ?_
        refine XS.iconst X9.here hx rfl (hb hby d7_40) ?_
        exact k)
      obtain ⟨fs, hr, hrun, hended, hW, hsame⟩ := X9.leave (v := some (.int 0)) (fun h => by rw [Bd.returns] at h; cases h)
      refine ⟨_, _, P13 _ ?_, hrun, hended, _, _, rfl, ?_, ⟨_, rfl⟩, hW, hsame.mono (by decide) (by decide)⟩
      · show Steps p.tables e below (T9.setTop (mkF m 41 #[rv x0, rv x1, rv x1] [(.int 0)])) _
        exact retN X9 hx (t := .boolean) Bd.returns (by simp) (hb hby d7_41) hr
      · show Q7 Z x0 x1 a b c2 d2 h0 n0 _ T9.heap _
        rw [e9]
        exact ⟨(by first | rfl | simp [hc21_6, hc33_10]), N0, rfl⟩
  · have P14 := own_go P7 (S' := T5.setTop (mkF m 41 #[rv x0, rv x1, rv x1] [(.int 0)])) (by
      intro t k
      refine XS.ifYes X5.here hx rfl (pc0 := 21) (pc' := 40) rfl (hb hby d7_21) rfl ((if0 _ _).trans (feq (fun q => hc21_6 ((lw_eq a c2).mp q))).2) (by decide) (by decide) ?_
      refine XS.iconst X5.here hx rfl (hb hby d7_40) ?_
      exact k)
    obtain ⟨fs, hr, hrun, hended, hW, hsame⟩ := X5.leave (v := some (.int 0)) (fun h => by rw [Bd.returns] at h; cases h)
    refine ⟨_, _, P14 _ ?_, hrun, hended, _, _, rfl, ?_, ⟨_, rfl⟩, hW, hsame.mono (by decide) (by decide)⟩
    · show Steps p.tables e below (T5.setTop (mkF m 41 #[rv x0, rv x1, rv x1] [(.int 0)])) _
      exact retN X5 hx (t := .boolean) Bd.returns (by simp) (hb hby d7_41) hr
    · show Q7 Z x0 x1 a b c2 d2 h0 n0 _ T5.heap _
      rw [e5]
      exact ⟨(by first | rfl | simp [hc21_6]), N0, rfl⟩
def Q0 (Z : State) (x0 : Int64) (x1 : Int64) (x2 : Int64) (x3 : Int32) (h0 : Heap) (n0 : Nat) (v : Option Value) (h : Heap) (L : List Loc) : Prop := v = some (.int 1) ∧ Fr n0 L
theorem ef_0 (m : MethodId) (x0 : Int64) (x1 : Int64) (x2 : Int64) (x3 : Int32) : entryFrame m #[(.long x0), (.long x1), (.long x2), (.int x3)] maxLocals = mkF m 0 #[lv x0, .second, lv x1, .second, lv x2, .second, iv x3, .unset, .unset, .unset, .unset, .unset, .unset, .unset, .unset] [] := by first | (simp [entryFrame, mkF, argsToLocals, Value.category, maxLocals]; done) | rfl
set_option maxRecDepth 65536 in
set_option maxHeartbeats 40000000 in
theorem rm0 (l : Launch) (Z : State) (a0 : Array Value) (hw : ∀ d ∈ tables_1, d.before a0 Z = true) (ws : List Jvm.Cond) (x0 : Int64) (x1 : Int64) (x2 : Int64) (x3 : Int32) (h0 : Heap) (n0 : Nat) (Z0 : n0 ≤ h0.size) :
    MetFree l x (head1 (Jvm.Cond.code x code maxLocals ret :: ws) room_1) (fun a U => a = #[(.long x0), (.long x1), (.long x2), (.int x3)] ∧ Z.Warmed39 U.vm ∧ U.heap = h0) (fun _ _ _ _ _ => True) (fun _ U o U' => ∃ v L, o = .returned v ∧ Q0 Z x0 x1 x2 x3 h0 n0 v U'.heap L ∧ FrameEnd U o U' L room_1.cells room_1.slots) := by
  refine MetFree.of_bodySF (plainFor_of_name pn_0) hisR ?_
  intro p e s m args below meth c s₁ Bd hml0 hP hK
  obtain ⟨rfl, hZ, hh⟩ := hP
  have hx := Bd.exec
  have hby := Bd.bytes
  have hml : c.maxLocals = 15 := hml0
  have hown : s.vm.findClass "com/example/sets_in_bits/setsinbits/hashing/Hash128HashCodePinLaw" = some m.cls := findClass_of_methodNamed Bd.named
  have hnm := (name_of_methodNamed Bd.named Bd.method).1
  have X0 : Stand p l e room_1 s m #[(.long x0), (.long x1), (.long x2), (.int x3)] below meth c s₁ [] 0 0 := Stand.of_body Bd
  have e0 : s₁.heap = h0 := by rw [← hh, Bd.state]; rfl
  have N0 := Fr.nil n0
  have Kp0 := Keep.refl h0 []
  have P0 : ∀ t, Steps p.tables e below (s₁.setTop (mkF m 0 #[lv x0, .second, lv x1, .second, lv x2, .second, iv x3, .unset, .unset, .unset, .unset, .unset, .unset, .unset, .unset] [])) t → Steps p.tables e below (s₁.setTop (entryFrame m #[(.long x0), (.long x1), (.long x2), (.int x3)] maxLocals)) t := fun t k => castTop (ef_0 m x0 x1 x2 x3) k
  have P3 := own_go P0 (S' := s₁.setTop (mkF m 4 #[lv x0, .second, lv x1, .second, lv x2, .second, iv x3, .unset, .unset, .unset, .unset, .unset, .unset, .unset, .unset] [(.int (x3 &&& (1 : Int32)))])) (by
    intro t k
    refine XS.iload X0.here hx rfl (hb hby at_0) rfl ?_
    refine XS.iconst X0.here hx rfl (hb hby at_2) ?_
    refine XS.iand X0.here hx rfl (hb hby at_3) rfl ?_
    exact k)
  obtain ⟨v2_0, hv2_0⟩ : ∃ z : Int64, z = (if (x3 &&& (1 : Int32)) = (0 : Int32) then x2 else x0) := ⟨_, rfl⟩
  have P5 := own_go P3 (S' := s₁.setTop (mkF m 13 #[lv x0, .second, lv x1, .second, lv x2, .second, iv x3, .unset, .unset, .unset, .unset, .unset, .unset, .unset, .unset] [(.long v2_0)])) (by
    intro t k
    by_cases hc4_4 : (x3 &&& (1 : Int32)) = (0 : Int32)
    · refine XS.ifYes X0.here hx rfl (pc0 := 4) (pc' := 11) rfl (hb hby at_4) rfl ((if0 _ _).trans (teq hc4_4).1) (by decide) (by decide) ?_
      refine XS.lload X0.here hx rfl (hb hby at_11) rfl ?_
      have q_v2_0 : v2_0 = x2 := by rw [hv2_0, if_pos hc4_4]
      subst q_v2_0
      exact k
    · refine XS.ifNo X0.here hx rfl (hb hby at_4) rfl ((if0 _ _).trans (feq hc4_4).1) ?_
      refine XS.lloadN X0.here hx rfl (hb hby at_7) rfl ?_
      refine XS.goto X0.here hx rfl (pc0 := 8) (pc' := 13) rfl (hb hby at_8) (by decide) (by decide) ?_
      have q_v2_0 : v2_0 = x0 := by rw [hv2_0, if_neg hc4_4]
      subst q_v2_0
      exact k)
  have P8 := own_go P5 (S' := s₁.setTop (mkF m 19 #[lv x0, .second, lv x1, .second, lv x2, .second, iv x3, lv v2_0, .second, .unset, .unset, .unset, .unset, .unset, .unset] [(.int (x3 &&& (2 : Int32)))])) (by
    intro t k
    refine XS.lstore X0.here hx rfl (hb hby at_13) rfl (l' := #[lv x0, .second, lv x1, .second, lv x2, .second, iv x3, lv v2_0, .second, .unset, .unset, .unset, .unset, .unset, .unset]) rfl ?_
    refine XS.iload X0.here hx rfl (hb hby at_15) rfl ?_
    refine XS.iconst X0.here hx rfl (hb hby at_17) ?_
    refine XS.iand X0.here hx rfl (hb hby at_18) rfl ?_
    exact k)
  obtain ⟨v7_0, hv7_0⟩ : ∃ z : Int64, z = (if (x3 &&& (2 : Int32)) = (0 : Int32) then x2 else x1) := ⟨_, rfl⟩
  have P10 := own_go P8 (S' := s₁.setTop (mkF m 28 #[lv x0, .second, lv x1, .second, lv x2, .second, iv x3, lv v2_0, .second, .unset, .unset, .unset, .unset, .unset, .unset] [(.long v7_0)])) (by
    intro t k
    by_cases hc19_9 : (x3 &&& (2 : Int32)) = (0 : Int32)
    · refine XS.ifYes X0.here hx rfl (pc0 := 19) (pc' := 26) rfl (hb hby at_19) rfl ((if0 _ _).trans (teq hc19_9).1) (by decide) (by decide) ?_
      refine XS.lload X0.here hx rfl (hb hby at_26) rfl ?_
      have q_v7_0 : v7_0 = x2 := by rw [hv7_0, if_pos hc19_9]
      subst q_v7_0
      exact k
    · refine XS.ifNo X0.here hx rfl (hb hby at_19) rfl ((if0 _ _).trans (feq hc19_9).1) ?_
      refine XS.lloadN X0.here hx rfl (hb hby at_22) rfl ?_
      refine XS.goto X0.here hx rfl (pc0 := 23) (pc' := 28) rfl (hb hby at_23) (by decide) (by decide) ?_
      have q_v7_0 : v7_0 = x1 := by rw [hv7_0, if_neg hc19_9]
      subst q_v7_0
      exact k)
  obtain ⟨T11, h11, X11, e11, E11, A11, D11, -, st11⟩ := newO X0 hx hZ hown (hw _ (im 0 rfl)) (hw _ (im 1 rfl)) (hw _ (im 2 rfl)) e0 (g := (mkF m 30 #[lv x0, .second, lv x1, .second, lv x2, .second, iv x3, lv v2_0, .second, lv v7_0, .second, .unset, .unset, .unset, .unset] [])) rfl (hb hby at_30) (by decide) (by decide)
  obtain ⟨b11, g11⟩ : ∃ z, z = h0.size := ⟨_, rfl⟩
  rw [← g11] at A11 D11 st11
  have ge_b11 : n0 ≤ b11 := Nat.le_trans Z0 (Nat.le_of_eq g11.symm)
  have Z11_ : n0 ≤ h11.size := Nat.le_trans Z0 E11.1
  have F11_first : Fld Z h11 b11 "com/example/sets_in_bits/setsinbits/hashing/Hash128" "first" "J" (.long 0) := D11 (Or.inr (hw _ (im 10 rfl))) (ty := .long) (by decide)
  have F11_second : Fld Z h11 b11 "com/example/sets_in_bits/setsinbits/hashing/Hash128" "second" "J" (.long 0) := D11 (Or.inr (hw _ (im 12 rfl))) (ty := .long) (by decide)
  obtain ⟨_, _, ⟨T12, L12, k12, n12⟩, -, X12, ⟨Lc12, hQ12, l12, y12, z12⟩, st12⟩ := X11.specialBack hx (y := (⟨"com/example/sets_in_bits/setsinbits/hashing/Hash128", "<init>", "(JJ)V"⟩ : MethodName)) rfl hown (mvT hZ (hw _ (im 3 rfl))) (mvT hZ (hw _ (im 4 rfl))) (mvT hZ (hw _ (im 5 rfl))) (by decide) (backOf (W := 1) (rm1 l Z a0 hw [] b11 x0 x1 h11 n0 Z11_ A11 F11_first F11_second ge_b11) hZ (hw _ (im 5 rfl)) (hw _ (im 2 rfl)) (by decide) (by decide)) (g := (mkF m 36 #[lv x0, .second, lv x1, .second, lv x2, .second, iv x3, lv v2_0, .second, lv v7_0, .second, .unset, .unset, .unset, .unset] [(.long x1), (.long x0), (.ref b11), (.ref b11)])) rfl (by rw [hml]; rfl) (Steps.refl _) (a := b11) (argsL := [(.long x0), (.long x1)]) (rest := [(.ref b11)]) (lenOf pd_1 rfl) rfl (by show 2 * 0 + _ ≤ _; exact Nat.le_of_eq rfl) (hb hby at_36) (fun _ _ => ⟨rfl, e11, (by decide : 1 + 0 ≤ _), (by decide : 2 + 0 ≤ _)⟩)
  dsimp only [Pt.U, Pt.locs, Pt.cells, Pt.slots] at X12 l12 y12 z12 st12 hQ12
  subst l12 y12 z12
  obtain ⟨rfl, N12q, K12, r12_0, r12_1, r12_2⟩ := hQ12
  have N12 := Fr.app N0 N12q
  have Z12_ : n0 ≤ T12.heap.size := Nat.le_trans Z11_ K12.1
  obtain ⟨T13, h13, X13, e13, E13, A13, D13, -, st13⟩ := newO X12 hx hZ hown (hw _ (im 0 rfl)) (hw _ (im 1 rfl)) (hw _ (im 2 rfl)) rfl (g := (mkF m 41 #[lv x0, .second, lv x1, .second, lv x2, .second, iv x3, lv v2_0, .second, lv v7_0, .second, rv b11, .unset, .unset, .unset] [])) rfl (hb hby at_41) (by decide) (by decide)
  obtain ⟨b13, g13⟩ : ∃ z, z = T12.heap.size := ⟨_, rfl⟩
  rw [← g13] at A13 D13 st13
  have ge_b13 : n0 ≤ b13 := Nat.le_trans Z12_ (Nat.le_of_eq g13.symm)
  have Z13_ : n0 ≤ h13.size := Nat.le_trans Z12_ E13.1
  have F13_first : Fld Z h13 b13 "com/example/sets_in_bits/setsinbits/hashing/Hash128" "first" "J" (.long 0) := D13 (Or.inr (hw _ (im 10 rfl))) (ty := .long) (by decide)
  have F13_second : Fld Z h13 b13 "com/example/sets_in_bits/setsinbits/hashing/Hash128" "second" "J" (.long 0) := D13 (Or.inr (hw _ (im 12 rfl))) (ty := .long) (by decide)
  obtain ⟨_, _, ⟨T14, L14, k14, n14⟩, -, X14, ⟨Lc14, hQ14, l14, y14, z14⟩, st14⟩ := X13.specialBack hx (y := (⟨"com/example/sets_in_bits/setsinbits/hashing/Hash128", "<init>", "(JJ)V"⟩ : MethodName)) rfl hown (mvT hZ (hw _ (im 3 rfl))) (mvT hZ (hw _ (im 4 rfl))) (mvT hZ (hw _ (im 5 rfl))) (by decide) (backOf (W := 1) (rm1 l Z a0 hw [] b13 v2_0 v7_0 h13 n0 Z13_ A13 F13_first F13_second ge_b13) hZ (hw _ (im 5 rfl)) (hw _ (im 2 rfl)) (by decide) (by decide)) (g := (mkF m 49 #[lv x0, .second, lv x1, .second, lv x2, .second, iv x3, lv v2_0, .second, lv v7_0, .second, rv b11, .unset, .unset, .unset] [(.long v7_0), (.long v2_0), (.ref b13), (.ref b13)])) rfl (by rw [hml]; rfl) (Steps.refl _) (a := b13) (argsL := [(.long v2_0), (.long v7_0)]) (rest := [(.ref b13)]) (lenOf pd_1 rfl) rfl (by show 2 * 0 + _ ≤ _; exact Nat.le_of_eq rfl) (hb hby at_49) (fun _ _ => ⟨rfl, e13, (by decide : 2 + 0 ≤ _), (by decide : 4 + 0 ≤ _)⟩)
  dsimp only [Pt.U, Pt.locs, Pt.cells, Pt.slots] at X14 l14 y14 z14 st14 hQ14
  subst l14 y14 z14
  obtain ⟨rfl, N14q, K14, r14_0, r14_1, r14_2⟩ := hQ14
  have N14 := Fr.app N12 N14q
  have Z14_ : n0 ≤ T14.heap.size := Nat.le_trans Z13_ K14.1
  have q16 := (Nat.lt_of_lt_of_le A11.lt K12.1)
  have ne15 : b11 ≠ b13 := Nat.ne_of_lt (Nat.lt_of_lt_of_le q16 (Nat.le_of_eq g13.symm))
  have ni17 := (ninS ne15 nin0)
  have q18 := ((r12_1.ext E13).keep K14 ni17)
  have q19 := ((r12_2.ext E13).keep K14 ni17)
  have q21 := ((r12_0.ext E13).keep K14)
  obtain ⟨cq20, kq20, q20a, q20b, q20c⟩ := isOf hZ rfl q21
  obtain ⟨_, _, ⟨T20, L20, k20, n20⟩, -, X20, ⟨Lc20, hQ20, l20, y20, z20⟩, st20⟩ := X14.virtualBack hx (y := (⟨"com/example/sets_in_bits/setsinbits/hashing/Hash128", "hashCode", "()I"⟩ : MethodName)) (z := (⟨"com/example/sets_in_bits/setsinbits/hashing/Hash128", "hashCode", "()I"⟩ : MethodName)) hown (mvT hZ (hw _ (im 13 rfl))) (mvT hZ (hw _ (im 14 rfl))) (notFace_of_selects (args := #[]) (mvT hZ (hw _ (im 16 rfl)))) (mvT hZ (hw _ (im 16 rfl))) (mvT hZ (hw _ (im 15 rfl))) (by decide) (backOf (W := 0) (rm3 l Z a0 hw [] b11 x0 x1 T14.heap n0 Z14_ q18 q19) hZ (hw _ (im 17 rfl)) (hw _ (im 2 rfl)) (by decide) (by decide)) q20a q20c (g := (mkF m 56 #[lv x0, .second, lv x1, .second, lv x2, .second, iv x3, lv v2_0, .second, lv v7_0, .second, rv b11, rv b13, .unset, .unset] [(.ref b11)])) rfl (by rw [hml]; rfl) (Steps.refl _) (argsL := []) (rest := []) (lenOf pd_2 rfl) rfl (by show 2 * 0 + _ ≤ _; exact Nat.le_of_eq rfl) (hb hby at_56) (fun _ _ => ⟨rfl, rfl, (by decide : 2 + 0 ≤ _), (by decide : 4 + 0 ≤ _)⟩)
  dsimp only [Pt.U, Pt.locs, Pt.cells, Pt.slots] at X20 l20 y20 z20 st20 hQ20
  subst l20 y20 z20
  obtain ⟨rfl, N20q, e20⟩ := hQ20
  have N20 := Fr.app N14 N20q
  obtain ⟨cq22, kq22, q22a, q22b, q22c⟩ := isOf hZ e20 r14_0
  obtain ⟨_, _, ⟨T22, L22, k22, n22⟩, -, X22, ⟨Lc22, hQ22, l22, y22, z22⟩, st22⟩ := X20.virtualBack hx (y := (⟨"com/example/sets_in_bits/setsinbits/hashing/Hash128", "hashCode", "()I"⟩ : MethodName)) (z := (⟨"com/example/sets_in_bits/setsinbits/hashing/Hash128", "hashCode", "()I"⟩ : MethodName)) hown (mvT hZ (hw _ (im 13 rfl))) (mvT hZ (hw _ (im 14 rfl))) (notFace_of_selects (args := #[]) (mvT hZ (hw _ (im 16 rfl)))) (mvT hZ (hw _ (im 16 rfl))) (mvT hZ (hw _ (im 15 rfl))) (by decide) (backOf (W := 0) (rm3 l Z a0 hw [] b13 v2_0 v7_0 T14.heap n0 Z14_ r14_1 r14_2) hZ (hw _ (im 17 rfl)) (hw _ (im 2 rfl)) (by decide) (by decide)) q22a q22c (g := (mkF m 63 #[lv x0, .second, lv x1, .second, lv x2, .second, iv x3, lv v2_0, .second, lv v7_0, .second, rv b11, rv b13, iv (own_hc x0 x1), .unset] [(.ref b13)])) rfl (by rw [hml]; rfl) (Steps.refl _) (argsL := []) (rest := []) (lenOf pd_2 rfl) rfl (by show 2 * 0 + _ ≤ _; exact Nat.le_of_eq rfl) (hb hby at_63) (fun _ _ => ⟨rfl, e20, (by decide : 2 + 0 ≤ _), (by decide : 4 + 0 ≤ _)⟩)
  dsimp only [Pt.U, Pt.locs, Pt.cells, Pt.slots] at X22 l22 y22 z22 st22 hQ22
  subst l22 y22 z22
  obtain ⟨rfl, N22q, e22⟩ := hQ22
  have N22 := Fr.app N20 N22q
  obtain ⟨_, _, ⟨T23, L23, k23, n23⟩, -, X23, ⟨Lc23, hQ23, l23, y23, z23⟩, st23⟩ := Jvm.LawKit.callS X22 hx (y := (⟨"com/example/sets_in_bits/setsinbits/hashing/Hash128HashCodePinLaw", "ref", "(JJ)I"⟩ : MethodName)) hown (mvT hZ (hw _ (im 22 rfl))) (mvT hZ (hw _ (im 23 rfl))) (mvT hZ (hw _ (im 24 rfl))) (mvT hZ (hw _ (im 25 rfl))) (by decide) (backOf (W := 1) (rm5 l Z a0 hw [] x0 x1 T14.heap n0 Z14_ ) hZ (hw _ (im 25 rfl)) (hw _ (im 24 rfl)) (by decide) (by decide)) (g := (mkF m 72 #[lv x0, .second, lv x1, .second, lv x2, .second, iv x3, lv v2_0, .second, lv v7_0, .second, rv b11, rv b13, iv (own_hc x0 x1), iv (own_hc v2_0 v7_0)] [(.long x1), (.long x0), (.int (own_hc x0 x1))])) rfl (by rw [hml]; rfl) (argsL := [(.long x0), (.long x1)]) (rest := [(.int (own_hc x0 x1))]) (lenOf pd_3 rfl) rfl (by show 2 * 0 + _ ≤ _; exact Nat.le_of_eq rfl) (hb hby at_72) (fun _ _ => ⟨rfl, e22, (by decide : 2 + 0 ≤ _), (by decide : 4 + 0 ≤ _)⟩)
  dsimp only [Pt.U, Pt.locs, Pt.cells, Pt.slots] at X23 l23 y23 z23 st23 hQ23
  subst l23 y23 z23
  obtain ⟨rfl, N23q, e23⟩ := hQ23
  have N23 := Fr.app N22 N23q
  have hc75_24 : (own_hc x0 x1) = (own_ref x0 x1) := own_same _ _
  have P25 := own_go P10 (S' := T23.setTop (mkF m 84 #[lv x0, .second, lv x1, .second, lv x2, .second, iv x3, lv v2_0, .second, lv v7_0, .second, rv b11, rv b13, iv (own_hc x0 x1), iv (own_hc v2_0 v7_0)] [(.long v2_0), (.int (own_hc v2_0 v7_0))])) (by
    intro t k
    refine XS.lstore X0.here hx rfl (hb hby at_28) rfl (l' := #[lv x0, .second, lv x1, .second, lv x2, .second, iv x3, lv v2_0, .second, lv v7_0, .second, .unset, .unset, .unset, .unset]) rfl ?_
    refine st11 _ ?_
    refine XS.dup X11.here hx rfl (hb hby at_33) rfl rfl ?_
    refine XS.lloadN X11.here hx rfl (hb hby at_34) rfl ?_
    refine XS.lloadN X11.here hx rfl (hb hby at_35) rfl ?_
    refine st12.trans ?_
    refine XS.astore X12.here hx rfl (hb hby at_39) rfl rfl (l' := #[lv x0, .second, lv x1, .second, lv x2, .second, iv x3, lv v2_0, .second, lv v7_0, .second, rv b11, .unset, .unset, .unset]) rfl ?_
    refine st13 _ ?_
    show Steps p.tables e below (T13.setTop (mkF m 44 #[lv x0, .second, lv x1, .second, lv x2, .second, iv x3, lv v2_0, .second, lv v7_0, .second, rv b11, .unset, .unset, .unset] [(.ref b13)])) _
    refine XS.dup X13.here hx rfl (hb hby at_44) rfl rfl ?_
    refine XS.lload X13.here hx rfl (hb hby at_45) rfl ?_
    refine XS.lload X13.here hx rfl (hb hby at_47) rfl ?_
    refine st14.trans ?_
    refine XS.astore X14.here hx rfl (hb hby at_52) rfl rfl (l' := #[lv x0, .second, lv x1, .second, lv x2, .second, iv x3, lv v2_0, .second, lv v7_0, .second, rv b11, rv b13, .unset, .unset]) rfl ?_
    refine XS.aload X14.here hx rfl (hb hby at_54) rfl rfl ?_
    refine st20.trans ?_
    refine XS.istore X20.here hx rfl (hb hby at_59) rfl (l' := #[lv x0, .second, lv x1, .second, lv x2, .second, iv x3, lv v2_0, .second, lv v7_0, .second, rv b11, rv b13, iv (own_hc x0 x1), .unset]) rfl ?_
    show Steps p.tables e below (T20.setTop (mkF m 61 #[lv x0, .second, lv x1, .second, lv x2, .second, iv x3, lv v2_0, .second, lv v7_0, .second, rv b11, rv b13, iv (own_hc x0 x1), .unset] [])) _
    refine XS.aload X20.here hx rfl (hb hby at_61) rfl rfl ?_
    refine st22.trans ?_
    refine XS.istore X22.here hx rfl (hb hby at_66) rfl (l' := #[lv x0, .second, lv x1, .second, lv x2, .second, iv x3, lv v2_0, .second, lv v7_0, .second, rv b11, rv b13, iv (own_hc x0 x1), iv (own_hc v2_0 v7_0)]) rfl ?_
    refine XS.iload X22.here hx rfl (hb hby at_68) rfl ?_
    refine XS.lloadN X22.here hx rfl (hb hby at_70) rfl ?_
    refine XS.lloadN X22.here hx rfl (hb hby at_71) rfl ?_
    refine st23 _ ?_
    refine XS.icmpYes X23.here hx rfl (pc0 := 75) (pc' := 80) rfl (hb hby at_75) rfl (teq hc75_24).1 (by decide) (by decide) ?_
    show Steps p.tables e below (T23.setTop (mkF m 80 #[lv x0, .second, lv x1, .second, lv x2, .second, iv x3, lv v2_0, .second, lv v7_0, .second, rv b11, rv b13, iv (own_hc x0 x1), iv (own_hc v2_0 v7_0)] [])) _
    refine XS.iload X23.here hx rfl (hb hby at_80) rfl ?_
    refine XS.lload X23.here hx rfl (hb hby at_82) rfl ?_
    exact k)
  obtain ⟨_, _, ⟨T26, L26, k26, n26⟩, -, X26, ⟨Lc26, hQ26, l26, y26, z26⟩, st26⟩ := Jvm.LawKit.callS X23 hx (y := (⟨"com/example/sets_in_bits/setsinbits/hashing/Hash128HashCodePinLaw", "ref", "(JJ)I"⟩ : MethodName)) hown (mvT hZ (hw _ (im 22 rfl))) (mvT hZ (hw _ (im 23 rfl))) (mvT hZ (hw _ (im 24 rfl))) (mvT hZ (hw _ (im 25 rfl))) (by decide) (backOf (W := 1) (rm5 l Z a0 hw [] v2_0 v7_0 T14.heap n0 Z14_ ) hZ (hw _ (im 25 rfl)) (hw _ (im 24 rfl)) (by decide) (by decide)) (g := (mkF m 86 #[lv x0, .second, lv x1, .second, lv x2, .second, iv x3, lv v2_0, .second, lv v7_0, .second, rv b11, rv b13, iv (own_hc x0 x1), iv (own_hc v2_0 v7_0)] [(.long v7_0), (.long v2_0), (.int (own_hc v2_0 v7_0))])) rfl (by rw [hml]; rfl) (argsL := [(.long v2_0), (.long v7_0)]) (rest := [(.int (own_hc v2_0 v7_0))]) (lenOf pd_3 rfl) rfl (by show 2 * 0 + _ ≤ _; exact Nat.le_of_eq rfl) (hb hby at_86) (fun _ _ => ⟨rfl, e23, (by decide : 2 + 0 ≤ _), (by decide : 4 + 0 ≤ _)⟩)
  dsimp only [Pt.U, Pt.locs, Pt.cells, Pt.slots] at X26 l26 y26 z26 st26 hQ26
  subst l26 y26 z26
  obtain ⟨rfl, N26q, e26⟩ := hQ26
  have N26 := Fr.app N23 N26q
  have hc89_27 : (own_hc v2_0 v7_0) = (own_ref v2_0 v7_0) := own_same _ _
  obtain ⟨cq28, kq28, q28a, q28b, q28c⟩ := isOf hZ e26 q21
  obtain ⟨_, _, ⟨T28, L28, k28, n28⟩, -, X28, ⟨Lc28, hQ28, l28, y28, z28⟩, st28⟩ := X26.virtualBack hx (y := (⟨"com/example/sets_in_bits/setsinbits/hashing/Hash128", "equals", "(Ljava/lang/Object;)Z"⟩ : MethodName)) (z := (⟨"com/example/sets_in_bits/setsinbits/hashing/Hash128", "equals", "(Ljava/lang/Object;)Z"⟩ : MethodName)) hown (mvT hZ (hw _ (im 29 rfl))) (mvT hZ (hw _ (im 30 rfl))) (notFace_of_selects (args := #[]) (mvT hZ (hw _ (im 32 rfl)))) (mvT hZ (hw _ (im 32 rfl))) (mvT hZ (hw _ (im 31 rfl))) (by decide) (backOf (W := 0) (rm7 l Z a0 hw [] b11 b13 x0 x1 v2_0 v7_0 T14.heap n0 Z14_ r14_0 q18 q19 r14_1 r14_2) hZ (hw _ (im 33 rfl)) (hw _ (im 2 rfl)) (by decide) (by decide)) q28a q28c (g := (mkF m 98 #[lv x0, .second, lv x1, .second, lv x2, .second, iv x3, lv v2_0, .second, lv v7_0, .second, rv b11, rv b13, iv (own_hc x0 x1), iv (own_hc v2_0 v7_0)] [(.ref b13), (.ref b11)])) rfl (by rw [hml]; rfl) (Steps.refl _) (argsL := [(.ref b13)]) (rest := []) (lenOf pd_4 rfl) rfl (by show 2 * 0 + _ ≤ _; exact Nat.le_of_eq rfl) (hb hby at_98) (fun _ _ => ⟨rfl, e26, (by decide : 2 + 0 ≤ _), (by decide : 4 + 0 ≤ _)⟩)
  dsimp only [Pt.U, Pt.locs, Pt.cells, Pt.slots] at X28 l28 y28 z28 st28 hQ28
  subst l28 y28 z28
  obtain ⟨rfl, N28q, e28⟩ := hQ28
  have N28 := Fr.app N26 N28q
  have P30 := own_go P25 (S' := T28.setTop (mkF m 101 #[lv x0, .second, lv x1, .second, lv x2, .second, iv x3, lv v2_0, .second, lv v7_0, .second, rv b11, rv b13, iv (own_hc x0 x1), iv (own_hc v2_0 v7_0)] [(.int (if (x0 = v2_0 ∧ x1 = v7_0) then (1 : Int32) else (0 : Int32)))])) (by
    intro t k
    refine XS.lload X23.here hx rfl (hb hby at_84) rfl ?_
    refine st26 _ ?_
    refine XS.icmpYes X26.here hx rfl (pc0 := 89) (pc' := 94) rfl (hb hby at_89) rfl (teq hc89_27).1 (by decide) (by decide) ?_
    refine XS.aload X26.here hx rfl (hb hby at_94) rfl rfl ?_
    refine XS.aload X26.here hx rfl (hb hby at_96) rfl rfl ?_
    refine st28.trans ?_
    exact k)
  by_cases hc101_29 : (x0 = v2_0 ∧ x1 = v7_0)
  · have hc108_31 : (own_hc x0 x1) = (own_hc v2_0 v7_0) := by rw [hc101_29.1, hc101_29.2]
    have P32 := own_go P30 (S' := T28.setTop (mkF m 114 #[lv x0, .second, lv x1, .second, lv x2, .second, iv x3, lv v2_0, .second, lv v7_0, .second, rv b11, rv b13, iv (own_hc x0 x1), iv (own_hc v2_0 v7_0)] [(.int 1)])) (by
      intro t k
      refine XS.ifNo X28.here hx rfl (hb hby at_101) rfl ((if0 _ _).trans (feq (by rw [if_pos hc101_29]; decide)).1) ?_
      refine XS.iload X28.here hx rfl (hb hby at_104) rfl ?_
      refine XS.iload X28.here hx rfl (hb hby at_106) rfl ?_
      refine XS.icmpYes X28.here hx rfl (pc0 := 108) (pc' := 113) rfl (hb hby at_108) rfl (teq hc108_31).1 (by decide) (by decide) ?_
      refine XS.iconst X28.here hx rfl (hb hby at_113) ?_
      exact k)
    obtain ⟨fs, hr, hrun, hended, hW, hsame⟩ := X28.leave (v := some (.int 1)) (fun h => by rw [Bd.returns] at h; cases h)
    refine ⟨_, _, P32 _ ?_, hrun, hended, _, _, rfl, ?_, ⟨_, rfl⟩, hW, hsame.mono (by decide) (by decide)⟩
    · show Steps p.tables e below (T28.setTop (mkF m 114 #[lv x0, .second, lv x1, .second, lv x2, .second, iv x3, lv v2_0, .second, lv v7_0, .second, rv b11, rv b13, iv (own_hc x0 x1), iv (own_hc v2_0 v7_0)] [(.int 1)])) _
      exact retN X28 hx (t := .boolean) Bd.returns (by simp) (hb hby at_114) hr
    · show Q0 Z x0 x1 x2 x3 h0 n0 _ T28.heap _
      rw [e28]
      exact ⟨rfl, N28⟩
  · have P33 := own_go P30 (S' := T28.setTop (mkF m 114 #[lv x0, .second, lv x1, .second, lv x2, .second, iv x3, lv v2_0, .second, lv v7_0, .second, rv b11, rv b13, iv (own_hc x0 x1), iv (own_hc v2_0 v7_0)] [(.int 1)])) (by
      intro t k
      refine XS.ifYes X28.here hx rfl (pc0 := 101) (pc' := 113) rfl (hb hby at_101) rfl ((if0 _ _).trans (teq (if_neg hc101_29)).1) (by decide) (by decide) ?_
      refine XS.iconst X28.here hx rfl (hb hby at_113) ?_
      exact k)
    obtain ⟨fs, hr, hrun, hended, hW, hsame⟩ := X28.leave (v := some (.int 1)) (fun h => by rw [Bd.returns] at h; cases h)
    refine ⟨_, _, P33 _ ?_, hrun, hended, _, _, rfl, ?_, ⟨_, rfl⟩, hW, hsame.mono (by decide) (by decide)⟩
    · show Steps p.tables e below (T28.setTop (mkF m 114 #[lv x0, .second, lv x1, .second, lv x2, .second, iv x3, lv v2_0, .second, lv v7_0, .second, rv b11, rv b13, iv (own_hc x0 x1), iv (own_hc v2_0 v7_0)] [(.int 1)])) _
      exact retN X28 hx (t := .boolean) Bd.returns (by simp) (hb hby at_114) hr
    · show Q0 Z x0 x1 x2 x3 h0 n0 _ T28.heap _
      rw [e28]
      exact ⟨rfl, N28⟩

set_option maxRecDepth 65536 in
set_option maxHeartbeats 40000000 in
theorem comes_1 {Post : Tables → Env → Array Value → State → Outcome → State → Prop} (hpost : ∀ tb e args s v u, (limb_1_1.after args s (.returned v) u = true ∧ limb_1_2.after args s (.returned v) u = true ∧ True) → FrameEnd s (.returned v) u (Jvm.fieldLocs frame_1_writes args s ++ Jvm.arrayLocs frame_1_arrays args s ++ Jvm.staticLocs frame_1_statics s) 16 128 → Post tb e args s (.returned v) u) :
    ArmFor flags0 classFile x code maxLocals ret World_1 tables_1 room_1 Calls_1 rest_1 Pre_1 Post := by
  intro l hfl _ _ p e ha hc hk s m args below hf hA hF happ hP
  obtain ⟨hcalls, hrest, hpre⟩ := hP
  obtain ⟨-, -, -, hnamed, -, -, -, hat⟩ := (Spec.applies_iff hf).mp happ
  obtain ⟨hg, hn⟩ := and_e (Cond.before_iff.mp (show (Jvm.Cond.and given_1 narrow_1).before args s = true from hpre))
  obtain ⟨hcnt, hgs0⟩ := and_e hg
  obtain ⟨hk0, hgs1⟩ := and_e hgs0
  obtain ⟨hk1, hgs2⟩ := and_e hgs1
  obtain ⟨hk2, hgs3⟩ := and_e hgs2
  obtain ⟨w0, w1, w2, w3, rfl⟩ : ∃ w0 w1 w2 w3 : Value, args = #[w0, w1, w2, w3] := by
    have hs : args.size = 4 := by simpa [Cond.value, given_1] using hcnt
    obtain ⟨L⟩ := args
    match L, hs with
    | [w0, w1, w2, w3], _ => exact ⟨w0, w1, w2, w3, rfl⟩
  have hw := fun d (hd : d ∈ tables_1) => atoms_spec (ws := Jvm.Cond.code x code maxLocals ret :: tables_1) hat d (List.mem_cons_of_mem _ hd)
  have hfit : Fit s := fun {y c} hc i hi => by
    obtain ⟨ha, rfl⟩ := Array.getElem?_eq_some_iff.mp hc
    have q := List.all_eq_true.mp ((Array.all_eq_true_iff_forall_mem.mp hF) _ (Array.getElem_mem ha)) i (List.mem_range.mpr hi)
    simpa [Array.getElem?_eq_getElem hi] using q
  obtain ⟨i0, ei0⟩ := isL_v hk0
  obtain rfl : w0 = (.long i0) := Option.some.inj ei0
  obtain ⟨i1, ei1⟩ := isL_v hk1
  obtain rfl : w1 = (.long i1) := Option.some.inj ei1
  obtain ⟨i2, ei2⟩ := isL_v hk2
  obtain rfl : w2 = (.long i2) := Option.some.inj ei2
  obtain ⟨i3, ei3⟩ := is_v hgs3
  obtain rfl : w3 = (.int i3) := Option.some.inj ei3
  obtain ⟨n, o, h1, h2, h3, _, L, rfl, ⟨rfl, N⟩, hq⟩ := rm0 l s _ hw tables_1 i0 i1 i2 i3 s.heap s.heap.size (Nat.le_refl _)  p e ha hc hk s m _ below hf ((Spec.applies_iff_loose hf).mp happ).1 ⟨rfl, State.Warmed39.refl s, rfl⟩ trivial
  refine ⟨n, _, h1, h2, h3, hpost _ _ _ _ _ _ ⟨Cond.after_iff.mpr rfl, Cond.after_iff.mpr (eq_i res_at (Term.int_eval (1)) rfl), trivial⟩ ⟨hq.1, hq.2.1, (hq.2.2.sift fun y hy => Or.inr (N y hy)).mono (by decide) (by decide)⟩⟩
theorem main_1_1 : Claimed_1_1 := comes_1 fun _ _ _ _ _ _ h hF => ⟨h.1, hF⟩
theorem main_1_2 : Claimed_1_2 := comes_1 fun _ _ _ _ _ _ h hF => ⟨h.2.1, hF⟩
end Jvm.Pilot.@@N@@
namespace Jvm.Pilot.@@N@@
open Jvm Jvm.ClassFile Sem Op Lib Jvm.Free Jvm.Stand Jvm.Pilot.@@N@@.Jvm.D
/-! MADE BY PROGRAM (witnessworld.py) out of the Statement's table words and the real class files: 14 classes; the members and pool entries that the words name. The judged class is class 1, her method 3. -/
namespace start1
open Jvm.ClassFile
def u (s : String) : CpInfo := .utf8 (stringToUtf16 s)
/-- a pool by its gaps: so many unusable entries, then the entry; so many at the end -/
def gap : Nat → List CpInfo → List CpInfo
  | 0, r => r
  | n + 1, r => .unusable :: gap n r
def poolList (es : List (Nat × CpInfo)) (last : Nat) : List CpInfo := es.foldr (fun e r => gap e.1 (e.2 :: r)) (gap last [])
def pool (es : List (Nat × CpInfo)) (last : Nat) : Array CpInfo := ⟨poolList es last⟩
def fileOf (pool : Array CpInfo) (this : Nat) (attrs : Array Attribute := #[]) (ms : Array MethodInfo := #[]) (fl : Nat := 33) (sup : Nat := 0) (ifs : Array Nat := #[]) (fds : Array FieldInfo := #[]) : ClassFile where
  minorVersion := 0
  majorVersion := 65
  constantPool := pool
  accessFlags := fl
  thisClass := this
  superClass := sup
  interfaces := ifs
  fields := fds
  methods := ms
  attributes := attrs
def plain (name : String) (sup : Option ClassId) : Class where
  name := name
  kind := .ordinary
  loader := none
  accessFlags := 33
  super := sup
  interfaces := #[]
  cf := none
  fields := #[]
  methods := #[]
  instanceTypes := #[]
  staticTypes := #[]
  resolved := #[]
  callSites := []
  init := .initialized
  statics := none
  mirror := none

def pool0 : Array CpInfo := pool [(5, u "<init>"), (0, u "()V"), (1, .class_ 10), (1, u "java/lang/Object")] 113

def k0c0 : Code := { maxStack := 0, maxLocals := 1, code := object_method_1_code, exceptionTable := #[], attributes := #[] }
def k0m0 : Method := { name := "<init>", desc := "()V", sig := { parameters := [], returnType := none }, accessFlags := 1, code := some k0c0 }
/-- java/lang/Object -/
def k0 : Class := { plain "java/lang/Object" none with
  accessFlags := 33
  interfaces := #[]
  cf := some (fileOf pool0 8 #[] #[{ accessFlags := 1, nameIndex := 5, descriptorIndex := 6, attributes := #[] }] 33 0 #[] #[])
  fields := #[]
  methods := #[k0m0]
  instanceTypes := #[]
  staticTypes := #[]
  resolved := Array.replicate 124 none
  statics := none }

def pool1 : Array CpInfo := pool [(2, .class_ 4), (1, u "java/lang/Object"), (0, u "<init>"), (0, u "()V"), (0, .methodref 8 9), (0, .class_ 10), (0, .nameAndType 11 12), (0, u "com/example/sets_in_bits/setsinbits/hashing/Hash128HashCodePinLaw"), (0, u "fold"), (0, u "(J)I"), (0, .class_ 14), (0, u "com/example/sets_in_bits/setsinbits/hashing/Hash128"), (0, .methodref 13 16), (0, .nameAndType 5 17), (0, u "(JJ)V"), (0, .methodref 13 19), (0, .nameAndType 20 21), (0, u "hashCode"), (0, u "()I"), (0, .methodref 8 23), (0, .nameAndType 24 25), (0, u "ref"), (0, u "(JJ)I"), (0, .methodref 13 27), (0, .nameAndType 28 29), (0, u "equals"), (0, u "(Ljava/lang/Object;)Z"), (2, u "law"), (0, u "(JJJI)Z")] 3

def k1m0 : Method := { name := "<init>", desc := "()V", sig := { parameters := [], returnType := none }, accessFlags := 1, code := none }
def k1c1 : Code := { maxStack := 3, maxLocals := 4, code := method_2_code, exceptionTable := #[], attributes := #[] }
def k1m1 : Method := { name := "fold", desc := "(J)I", sig := { parameters := [.long], returnType := some .int }, accessFlags := 10, code := some k1c1 }
def k1c2 : Code := { maxStack := 3, maxLocals := 6, code := method_3_code, exceptionTable := #[], attributes := #[] }
def k1m2 : Method := { name := "ref", desc := "(JJ)I", sig := { parameters := [.long, .long], returnType := some .int }, accessFlags := 10, code := some k1c2 }
def k1c3 : Code := { maxStack := 6, maxLocals := 15, code := code, exceptionTable := #[], attributes := #[] }
def k1m3 : Method := { name := "law", desc := "(JJJI)Z", sig := { parameters := [.long, .long, .long, .int], returnType := some .boolean }, accessFlags := 9, code := some k1c3 }
/-- com/example/sets_in_bits/setsinbits/hashing/Hash128HashCodePinLaw -/
def k1 : Class := { plain "com/example/sets_in_bits/setsinbits/hashing/Hash128HashCodePinLaw" (some 0) with
  accessFlags := 49
  interfaces := #[]
  cf := some (fileOf pool1 8 #[] #[{ accessFlags := 1, nameIndex := 5, descriptorIndex := 6, attributes := #[] }, { accessFlags := 10, nameIndex := 11, descriptorIndex := 12, attributes := #[] }, { accessFlags := 10, nameIndex := 24, descriptorIndex := 25, attributes := #[] }, { accessFlags := 9, nameIndex := 32, descriptorIndex := 33, attributes := #[] }] 49 2 #[] #[])
  fields := #[]
  methods := #[k1m0, k1m1, k1m2, k1m3]
  instanceTypes := #[]
  staticTypes := #[]
  resolved := Array.replicate 37 none
  statics := none }

def pool2 : Array CpInfo := pool [(1, .methodref 2 3), (0, .class_ 4), (0, .nameAndType 5 6), (0, u "java/lang/Object"), (0, u "<init>"), (0, u "()V"), (0, .fieldref 8 9), (0, .class_ 10), (0, .nameAndType 11 12), (0, u "com/example/sets_in_bits/setsinbits/hashing/Hash128"), (0, u "first"), (0, u "J"), (0, .fieldref 8 14), (0, .nameAndType 15 12), (0, u "second"), (0, .methodref 17 18), (0, .class_ 19), (0, .nameAndType 20 21), (0, u "java/lang/Long"), (0, u "hashCode"), (0, u "(J)I"), (12, u "(JJ)V"), (3, u "equals"), (0, u "(Ljava/lang/Object;)Z"), (1, u "()I")] 4

def k2c0 : Code := { maxStack := 3, maxLocals := 5, code := prog_45_method_1_code, exceptionTable := #[], attributes := #[] }
def k2m0 : Method := { name := "<init>", desc := "(JJ)V", sig := { parameters := [.long, .long], returnType := none }, accessFlags := 1, code := some k2c0 }
def k2c1 : Code := { maxStack := 4, maxLocals := 3, code := prog_45_method_4_code, exceptionTable := #[], attributes := #[] }
def k2m1 : Method := { name := "equals", desc := "(Ljava/lang/Object;)Z", sig := { parameters := [(.object "java/lang/Object")], returnType := some .boolean }, accessFlags := 1, code := some k2c1 }
def k2c2 : Code := { maxStack := 3, maxLocals := 1, code := prog_45_method_5_code, exceptionTable := #[], attributes := #[] }
def k2m2 : Method := { name := "hashCode", desc := "()I", sig := { parameters := [], returnType := some .int }, accessFlags := 1, code := some k2c2 }
/-- com/example/sets_in_bits/setsinbits/hashing/Hash128 -/
def k2 : Class := { plain "com/example/sets_in_bits/setsinbits/hashing/Hash128" (some 0) with
  accessFlags := 49
  interfaces := #[]
  cf := some (fileOf pool2 8 #[] #[{ accessFlags := 1, nameIndex := 5, descriptorIndex := 34, attributes := #[] }, { accessFlags := 1, nameIndex := 38, descriptorIndex := 39, attributes := #[] }, { accessFlags := 1, nameIndex := 20, descriptorIndex := 41, attributes := #[] }] 49 2 #[] #[{ accessFlags := 18, nameIndex := 11, descriptorIndex := 12, attributes := #[] }, { accessFlags := 18, nameIndex := 15, descriptorIndex := 12, attributes := #[] }])
  fields := #[{ name := "first", type := .long, accessFlags := 18, slot := 0, constantValue := 0 }, { name := "second", type := .long, accessFlags := 18, slot := 1, constantValue := 0 }]
  methods := #[k2m0, k2m1, k2m2]
  instanceTypes := #[.long, .long]
  staticTypes := #[]
  resolved := Array.replicate 46 none
  statics := none }

def pool3 : Array CpInfo := pool [(1, .class_ 2), (0, u "java/io/Serializable"), (0, .class_ 4), (0, u "java/lang/Object")] 2

/-- java/io/Serializable -/
def k3 : Class := { plain "java/io/Serializable" (some 0) with
  accessFlags := 1537
  interfaces := #[]
  cf := some (fileOf pool3 1 #[] #[] 1537 3 #[] #[])
  fields := #[]
  methods := #[]
  instanceTypes := #[]
  staticTypes := #[]
  resolved := Array.replicate 7 none
  statics := none }

def pool4 : Array CpInfo := pool [(2, .class_ 4), (1, u "java/lang/Object"), (0, u "<init>"), (0, u "()V"), (1, .class_ 10), (1, u "java/lang/Number"), (2, .class_ 14), (0, u "java/io/Serializable"), (0, u "serialVersionUID"), (0, u "J")] 20

def k4m0 : Method := { name := "<init>", desc := "()V", sig := { parameters := [], returnType := none }, accessFlags := 1, code := none }
/-- java/lang/Number -/
def k4 : Class := { plain "java/lang/Number" (some 0) with
  accessFlags := 1057
  interfaces := #[3]
  cf := some (fileOf pool4 8 #[] #[{ accessFlags := 1, nameIndex := 5, descriptorIndex := 6, attributes := #[] }] 1057 2 #[13] #[{ accessFlags := 26, nameIndex := 15, descriptorIndex := 16, attributes := #[] }])
  fields := #[{ name := "serialVersionUID", type := .long, accessFlags := 26, slot := 0, constantValue := 0 }]
  methods := #[k4m0]
  instanceTypes := #[]
  staticTypes := #[.long]
  resolved := Array.replicate 37 none
  statics := none }

def pool5 : Array CpInfo := pool [(1, .class_ 2), (0, u "java/lang/Comparable"), (0, .class_ 4), (0, u "java/lang/Object")] 7

/-- java/lang/Comparable -/
def k5 : Class := { plain "java/lang/Comparable" (some 0) with
  accessFlags := 1537
  interfaces := #[]
  cf := some (fileOf pool5 1 #[] #[] 1537 3 #[] #[])
  fields := #[]
  methods := #[]
  instanceTypes := #[]
  staticTypes := #[]
  resolved := Array.replicate 12 none
  statics := none }

def pool6 : Array CpInfo := pool [(1, .class_ 2), (0, u "java/lang/constant/Constable"), (0, .class_ 4), (0, u "java/lang/Object")] 6

/-- java/lang/constant/Constable -/
def k6 : Class := { plain "java/lang/constant/Constable" (some 0) with
  accessFlags := 1537
  interfaces := #[]
  cf := some (fileOf pool6 1 #[] #[] 1537 3 #[] #[])
  fields := #[]
  methods := #[]
  instanceTypes := #[]
  staticTypes := #[]
  resolved := Array.replicate 11 none
  statics := none }

def pool7 : Array CpInfo := pool [(1, .class_ 2), (0, u "java/lang/constant/ConstantDesc"), (0, .class_ 4), (0, u "java/lang/Object")] 32

/-- java/lang/constant/ConstantDesc -/
def k7 : Class := { plain "java/lang/constant/ConstantDesc" (some 0) with
  accessFlags := 1537
  interfaces := #[]
  cf := some (fileOf pool7 1 #[] #[] 1537 3 #[] #[])
  fields := #[]
  methods := #[]
  instanceTypes := #[]
  staticTypes := #[]
  resolved := Array.replicate 37 none
  statics := none }

def pool8 : Array CpInfo := pool [(1, .class_ 2), (0, u "java/lang/Long"), (98, u "(J)I"), (133, .class_ 237), (1, u "java/lang/Long$LongCache"), (33, .class_ 272), (0, u "java/lang/Number"), (2, u "value"), (0, u "J"), (2, u "hashCode"), (81, u "TYPE"), (0, u "Ljava/lang/Class;"), (0, .class_ 364), (0, u "java/lang/Comparable"), (0, .class_ 366), (0, u "java/lang/constant/Constable"), (0, .class_ 368), (0, u "java/lang/constant/ConstantDesc"), (0, u "MIN_VALUE"), (1, u "MAX_VALUE"), (4, u "SIZE"), (0, u "I"), (1, u "BYTES"), (1, u "serialVersionUID")] 142

def k8c0 : Code := { maxStack := 5, maxLocals := 2, code := jdk_35_method_36_code, exceptionTable := #[], attributes := #[] }
def k8m0 : Method := { name := "hashCode", desc := "(J)I", sig := { parameters := [.long], returnType := some .int }, accessFlags := 9, code := some k8c0 }
/-- java/lang/Long -/
def k8 : Class := { plain "java/lang/Long" (some 4) with
  accessFlags := 49
  interfaces := #[5, 6, 7]
  cf := some (fileOf pool8 1 #[.nestMembers #[235]] #[{ accessFlags := 9, nameIndex := 279, descriptorIndex := 101, attributes := #[] }] 49 271 #[363, 365, 367] #[{ accessFlags := 25, nameIndex := 369, descriptorIndex := 276, attributes := #[] }, { accessFlags := 25, nameIndex := 371, descriptorIndex := 276, attributes := #[] }, { accessFlags := 25, nameIndex := 361, descriptorIndex := 362, attributes := #[] }, { accessFlags := 18, nameIndex := 275, descriptorIndex := 276, attributes := #[] }, { accessFlags := 25, nameIndex := 376, descriptorIndex := 377, attributes := #[] }, { accessFlags := 25, nameIndex := 379, descriptorIndex := 377, attributes := #[] }, { accessFlags := 26, nameIndex := 381, descriptorIndex := 276, attributes := #[] }])
  fields := #[{ name := "MIN_VALUE", type := .long, accessFlags := 25, slot := 0, constantValue := 0 }, { name := "MAX_VALUE", type := .long, accessFlags := 25, slot := 1, constantValue := 0 }, { name := "TYPE", type := (.object "java/lang/Class"), accessFlags := 25, slot := 2, constantValue := 0 }, { name := "value", type := .long, accessFlags := 18, slot := 0, constantValue := 0 }, { name := "SIZE", type := .int, accessFlags := 25, slot := 3, constantValue := 0 }, { name := "BYTES", type := .int, accessFlags := 25, slot := 4, constantValue := 0 }, { name := "serialVersionUID", type := .long, accessFlags := 26, slot := 5, constantValue := 0 }]
  methods := #[k8m0]
  instanceTypes := #[.long]
  staticTypes := #[.long, .long, (.object "java/lang/Class"), .int, .int, .long]
  resolved := Array.replicate 524 none
  statics := none }

def pool9 : Array CpInfo := pool [(1, u "java/lang/Cloneable"), (0, .class_ 1), (0, u "java/lang/Object"), (0, .class_ 3)] 3

/-- java/lang/Cloneable -/
def k9 : Class := { plain "java/lang/Cloneable" (some 0) with
  accessFlags := 1537
  interfaces := #[]
  cf := some (fileOf pool9 2 #[] #[] 1537 4 #[] #[])
  fields := #[]
  methods := #[]
  instanceTypes := #[]
  staticTypes := #[]
  resolved := Array.replicate 8 none
  statics := none }

/-- the primitive byte -/
def k10 : Class := { plain "byte" none with kind := .primitive 'B', accessFlags := 0x411 }
/-- [B -/
def k11 : Class := { plain "[B" (some 0) with kind := .array 10 .byte, interfaces := #[9, 3], accessFlags := 1041 }

/-- the primitive int -/
def k12 : Class := { plain "int" none with kind := .primitive 'I', accessFlags := 0x411 }
/-- [I -/
def k13 : Class := { plain "[I" (some 0) with kind := .array 12 .int, interfaces := #[9, 3], accessFlags := 1041 }

def heap : Heap := #[]
def classes : Array Class := #[k0, k1, k2, k3, k4, k5, k6, k7, k8, k9, k10, k11, k12, k13]
def interned : List (Array UInt16 × Addr) := []
def slotsUsed : Nat := 0
def theMethod : MethodId := ⟨1, 3⟩
def args0 : Array Value := #[.long 5, .long 6, .long 7, .int 3]
def aboutOver (below : List Frame) : State where
  vm := { classes := classes, interned := interned.toArray }
  heap := heap
  slotsUsed := slotsUsed
  threads := #[{ frames := .invoking theMethod args0 :: below }]
def below0 : List Frame := [.native { method := ⟨0, 0⟩, args := #[] }]
def about1 : State := aboutOver below0
def p0 : Program := .bare "" "" ""
def e0 : Env := launch0.env 0 0 0
theorem w_frames : about1.frames = Frame.invoking theMethod args0 :: below0 := rfl
set_option maxRecDepth 65536 in
theorem w_args : argsFit about1.vm theMethod args0 = true := by decide +kernel
set_option maxRecDepth 65536 in
theorem w_heap : heapFits about1 = true := by decide +kernel
set_option maxRecDepth 65536 in
theorem w_runnable : about1.curStatus? = some .runnable := by decide +kernel
set_option maxRecDepth 65536 in
theorem w_alone : about1.alone = true := by decide +kernel
set_option maxRecDepth 65536 in
theorem w_named : about1.methodNamed? x = some theMethod := by decide +kernel
set_option maxRecDepth 65536 in
theorem w_hears : about1.hears theMethod below0 = true := by decide +kernel
set_option maxRecDepth 65536 in
theorem w_ripe : about1.ripe theMethod args0 below0 = true := by decide +kernel
theorem w_running : about1.status = .running := rfl
set_option maxRecDepth 65536 in
theorem w_room : about1.hasRoom e0.platform room_1 = true :=
  launch0.hasRoom_least _ room_1 (by decide +kernel) (by decide +kernel) (by decide +kernel) (by decide +kernel) (by decide +kernel) (by decide +kernel)
theorem allAtoms_all (ts : List Jvm.Cond) (a : Array Jvm.Value) (st : Jvm.State) : (allAtoms ts).before a st = ts.all (fun c => c.before a st) := by
  induction ts with
  | nil => rfl
  | cons c t ih =>
    show (Jvm.Cond.and c (allAtoms t)).before a st = _
    rw [Jvm.Cond.before_and, ih, List.all_cons]
def words1 : List Jvm.Cond := Jvm.Cond.code x code maxLocals ret :: tables_1
/-- a 'code' word, met by the world's own term for the bytes: nothing is compared byte by byte -/
theorem code_word {y : MethodName} {bytes : ByteArray} {mx : Nat} {rt : Option FieldType} {a : Array Value} {s : State} {m : MethodId} {meth : Method} {c : Code} (h1 : s.methodNamed? y = some m) (h2 : s.vm.method? m = some meth) (h3 : meth.code = some c) (h4 : c.code = bytes)
    (h5 : (c.maxLocals == mx && c.exceptionTable.isEmpty && decide (c.maxStack ≤ mostOperands) && decide (meth.sig.returnType = rt) && !meth.locks && decide (parseMethodDescriptor y.desc = some meth.sig)) = true) : (Jvm.Cond.code y bytes mx rt).before a s = true := by
  simp only [Bool.and_eq_true, beq_iff_eq, Bool.not_eq_true', decide_eq_true_eq] at h5
  obtain ⟨⟨⟨⟨⟨g1, g2⟩, g3⟩, g4⟩, g5⟩, g6⟩ := h5
  simp [Cond.before, Cond.holds, Cond.value, h1, h2, h3, h4, g1, g2, g3, g4, g5, g6]
def isCode : Jvm.Cond → Bool
  | .code _ _ _ _ => true
  | _ => false
theorem all_split {L : List Jvm.Cond} {P : Jvm.Cond → Bool} (h1 : L.all (fun c => isCode c || P c) = true) (h2 : ∀ c ∈ L.filter isCode, P c = true) : L.all P = true := by
  refine List.all_eq_true.mpr fun c hc => ?_
  have h := List.all_eq_true.mp h1 c hc
  rcases Bool.eq_false_or_eq_true (isCode c) with hi | hi
  · exact h2 c (List.mem_filter.mpr ⟨hc, hi⟩)
  · simpa [hi] using h
set_option maxRecDepth 65536 in
theorem w_c0 : (Jvm.Cond.code x code maxLocals ret).before args0 about1 = true := code_word (m := ⟨1, 3⟩) (meth := k1m3) (c := k1c3) (by decide +kernel) rfl rfl rfl (by decide +kernel)
set_option maxRecDepth 65536 in
theorem w_c1 : (Jvm.Cond.code ({ cls := "com/example/sets_in_bits/setsinbits/hashing/Hash128", name := "<init>", desc := "(JJ)V" } : Jvm.MethodName) prog_45_method_1_code (5 : Nat) (Option.none : Option Jvm.ClassFile.FieldType)).before args0 about1 = true := code_word (m := ⟨2, 0⟩) (meth := k2m0) (c := k2c0) (by decide +kernel) rfl rfl rfl (by decide +kernel)
set_option maxRecDepth 65536 in
theorem w_c2 : (Jvm.Cond.code ({ cls := "java/lang/Object", name := "<init>", desc := "()V" } : Jvm.MethodName) object_method_1_code (1 : Nat) (Option.none : Option Jvm.ClassFile.FieldType)).before args0 about1 = true := code_word (m := ⟨0, 0⟩) (meth := k0m0) (c := k0c0) (by decide +kernel) rfl rfl rfl (by decide +kernel)
set_option maxRecDepth 65536 in
theorem w_c3 : (Jvm.Cond.code ({ cls := "com/example/sets_in_bits/setsinbits/hashing/Hash128", name := "hashCode", desc := "()I" } : Jvm.MethodName) prog_45_method_5_code (1 : Nat) (Option.some Jvm.ClassFile.FieldType.int)).before args0 about1 = true := code_word (m := ⟨2, 2⟩) (meth := k2m2) (c := k2c2) (by decide +kernel) rfl rfl rfl (by decide +kernel)
set_option maxRecDepth 65536 in
theorem w_c4 : (Jvm.Cond.code ({ cls := "java/lang/Long", name := "hashCode", desc := "(J)I" } : Jvm.MethodName) jdk_35_method_36_code (2 : Nat) (Option.some Jvm.ClassFile.FieldType.int)).before args0 about1 = true := code_word (m := ⟨8, 0⟩) (meth := k8m0) (c := k8c0) (by decide +kernel) rfl rfl rfl (by decide +kernel)
set_option maxRecDepth 65536 in
theorem w_c5 : (Jvm.Cond.code ({ cls := "com/example/sets_in_bits/setsinbits/hashing/Hash128HashCodePinLaw", name := "ref", desc := "(JJ)I" } : Jvm.MethodName) method_3_code (6 : Nat) (Option.some Jvm.ClassFile.FieldType.int)).before args0 about1 = true := code_word (m := ⟨1, 2⟩) (meth := k1m2) (c := k1c2) (by decide +kernel) rfl rfl rfl (by decide +kernel)
set_option maxRecDepth 65536 in
theorem w_c6 : (Jvm.Cond.code ({ cls := "com/example/sets_in_bits/setsinbits/hashing/Hash128HashCodePinLaw", name := "fold", desc := "(J)I" } : Jvm.MethodName) method_2_code (4 : Nat) (Option.some Jvm.ClassFile.FieldType.int)).before args0 about1 = true := code_word (m := ⟨1, 1⟩) (meth := k1m1) (c := k1c1) (by decide +kernel) rfl rfl rfl (by decide +kernel)
set_option maxRecDepth 65536 in
theorem w_c7 : (Jvm.Cond.code ({ cls := "com/example/sets_in_bits/setsinbits/hashing/Hash128", name := "equals", desc := "(Ljava/lang/Object;)Z" } : Jvm.MethodName) prog_45_method_4_code (3 : Nat) (Option.some Jvm.ClassFile.FieldType.boolean)).before args0 about1 = true := code_word (m := ⟨2, 1⟩) (meth := k2m1) (c := k2c1) (by decide +kernel) rfl rfl rfl (by decide +kernel)
def codes1 : List Jvm.Cond := [Jvm.Cond.code x code maxLocals ret, Jvm.Cond.code ({ cls := "com/example/sets_in_bits/setsinbits/hashing/Hash128", name := "<init>", desc := "(JJ)V" } : Jvm.MethodName) prog_45_method_1_code (5 : Nat) (Option.none : Option Jvm.ClassFile.FieldType), Jvm.Cond.code ({ cls := "java/lang/Object", name := "<init>", desc := "()V" } : Jvm.MethodName) object_method_1_code (1 : Nat) (Option.none : Option Jvm.ClassFile.FieldType), Jvm.Cond.code ({ cls := "com/example/sets_in_bits/setsinbits/hashing/Hash128", name := "hashCode", desc := "()I" } : Jvm.MethodName) prog_45_method_5_code (1 : Nat) (Option.some Jvm.ClassFile.FieldType.int), Jvm.Cond.code ({ cls := "java/lang/Long", name := "hashCode", desc := "(J)I" } : Jvm.MethodName) jdk_35_method_36_code (2 : Nat) (Option.some Jvm.ClassFile.FieldType.int), Jvm.Cond.code ({ cls := "com/example/sets_in_bits/setsinbits/hashing/Hash128HashCodePinLaw", name := "ref", desc := "(JJ)I" } : Jvm.MethodName) method_3_code (6 : Nat) (Option.some Jvm.ClassFile.FieldType.int), Jvm.Cond.code ({ cls := "com/example/sets_in_bits/setsinbits/hashing/Hash128HashCodePinLaw", name := "fold", desc := "(J)I" } : Jvm.MethodName) method_2_code (4 : Nat) (Option.some Jvm.ClassFile.FieldType.int), Jvm.Cond.code ({ cls := "com/example/sets_in_bits/setsinbits/hashing/Hash128", name := "equals", desc := "(Ljava/lang/Object;)Z" } : Jvm.MethodName) prog_45_method_4_code (3 : Nat) (Option.some Jvm.ClassFile.FieldType.boolean)]
set_option maxRecDepth 65536 in
theorem codes_eq : words1.filter isCode = codes1 := rfl
theorem w_codes : ∀ c ∈ words1.filter isCode, c.before args0 about1 = true := by
  rw [codes_eq]
  intro c hc
  simp only [codes1, List.mem_cons, List.not_mem_nil, or_false] at hc
  rcases hc with rfl | rfl | rfl | rfl | rfl | rfl | rfl | rfl
  · exact w_c0
  · exact w_c1
  · exact w_c2
  · exact w_c3
  · exact w_c4
  · exact w_c5
  · exact w_c6
  · exact w_c7
set_option maxRecDepth 65536 in
theorem w_t1 : (words1.take 24).all (fun c => isCode c || c.before args0 about1) = true := by decide +kernel
set_option maxRecDepth 65536 in
theorem w_t2 : (words1.drop 24).all (fun c => isCode c || c.before args0 about1) = true := by decide +kernel
theorem w_tables : (allAtoms (Jvm.Cond.code x code maxLocals ret :: tables_1)).before args0 about1 = true := by
  rw [allAtoms_all]
  show words1.all (fun c => c.before args0 about1) = true
  refine all_split ?_ w_codes
  rw [← List.take_append_drop 24 words1, List.all_append, w_t1, w_t2]
  rfl
set_option maxRecDepth 65536 in
theorem w_case : (Jvm.Cond.and given_1 narrow_1).before args0 about1 = true := by decide +kernel
theorem w_applies : (headSpec (Jvm.Cond.code x code maxLocals ret :: tables_1) room_1).applies x e0.platform about1 = true :=
  (Spec.applies_iff w_frames).mpr ⟨w_running, w_runnable, w_alone, w_named, w_hears, w_ripe, w_room, w_tables⟩
theorem atStart : AtStart classFile x code maxLocals ret World_1 tables_1 room_1 Calls_1 rest_1 Pre_1 launch0 p0 e0 about1 theMethod args0 below0 :=
  ⟨lists_1, trivial, launch0.admits_env _ _ _, launch0.least_env, fairChoices_fair.cas, fairChoices_fair.clock, w_frames, w_args, w_heap, w_applies, trivial, trivial, w_case⟩
end start1
theorem witness_1 : WitnessClaimed_1 := ⟨start1.p0, start1.e0, start1.about1, start1.theMethod, start1.args0, start1.below0, start1.atStart⟩
end Jvm.Pilot.@@N@@
