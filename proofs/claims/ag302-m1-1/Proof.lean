import JvmDerived
import JvmDerived.Pilot.@@N@@Statement
import JvmDerived.Pilot.@@N@@Code
set_option linter.unusedVariables false
set_option linter.unusedSimpArgs false
namespace Jvm.RoadKit
open Sem ClassFile Op Lib Jvm.Stand Jvm.Free Jvm.LawKit
section New
variable {p : Program} {l : Launch} {e : Env} {R : Room} {s : State} {m : MethodId} {args : Array Value} {below : List Frame} {meth : Method} {c : Code} {T : State} {locs : List Loc} {cells slots : Nat}
theorem retI (X : Stand p l e R s m args below meth c T locs cells slots) (hx : p.tables.exec = Jvm.exec) {pc : Nat} {Ls : Array Slot} {z : Int32} {rest : List Value} (hret : meth.sig.returnType = some .int) (hd : decode c.code pc = .ok (.ireturn, 1)) {fs : List Frame}
    (hl : ∀ (f : JFrame) (acts : List Action), f.method = m → f.locked = none → f.entered = [] → (doReturn e (T.setTop f) acts (some (.int z))).1 = T.setFrames fs) : Steps p.tables e below (T.setTop (mkF m pc Ls (.int z :: rest))) (T.setFrames fs) := by
  have hm' : T.vm.method? m = some meth := X.method'
  have hn : narrow .int (.int z) = .int z := rfl
  show Steps p.tables e below (T.setTop { method := m, pc := pc, locals := Ls, stack := _ :: rest, locked := none }) _
  jvm_step X.here [X.here.top, hx, hd, hm', hret, hn]
  first | (intro acts; rw [hl _ acts rfl rfl rfl]) | rw [hl _ _ rfl rfl rfl]
  exact Steps.refl _
end New
end Jvm.RoadKit
namespace Jvm.Pilot.@@N@@
open Jvm Jvm.ClassFile Sem Op Lib Jvm.Free Jvm.Stand Jvm.LawKit Jvm.RoadKit Bundle Jvm.Pilot.@@N@@.Jvm.D
abbrev lv (x : Int64) : Slot := .val (.long x)
theorem im (i : Nat) {d : Jvm.Cond} (h : tables_1[i]? = some d) : d ∈ tables_1 := List.mem_of_getElem? h
theorem own_go {tb : Tables} {e : Env} {below : List Frame} {S S' S0 : State} (P : ∀ t, Steps tb e below S t → Steps tb e below S0 t) (f : ∀ t, Steps tb e below S' t → Steps tb e below S t) : ∀ t, Steps tb e below S' t → Steps tb e below S0 t := fun t k => P t (f t k)
theorem own_sn {Z : State} {a0 : Array Value} {K O n d O' n' d' : String} (L : Laid Z a0 K O n d) (L' : Laid Z a0 K O' n' d') (hn : n ≠ n' := by decide) (ht : (parseFieldDescriptor d).isSome = true := by decide) (ht' : (parseFieldDescriptor d').isSome = true := by decide) : Jvm.RoadKit.slotOf Z O n d ≠ Jvm.RoadKit.slotOf Z O' n' d' := by
  obtain ⟨t, e⟩ := Option.isSome_iff_exists.mp ht
  obtain ⟨t', e'⟩ := Option.isSome_iff_exists.mp ht'
  exact slot_ne L L' hn e e'
theorem pn_0 : plainName "com/example/termweave/termweave/sample/SplitMix64NextLongPinLaw" = true := by first | (simp [plainName, overriddenIn]; done) | decide +kernel
theorem d1_0 : decode prog_40_method_1_code 0 = .ok (.aload_n 0, 1) := by decide +kernel
theorem d1_1 : decode prog_40_method_1_code 1 = .ok (.invokespecial 1, 3) := by decide +kernel
theorem d1_4 : decode prog_40_method_1_code 4 = .ok (.aload_n 0, 1) := by decide +kernel
theorem d1_5 : decode prog_40_method_1_code 5 = .ok (.lload_n 1, 1) := by decide +kernel
theorem d1_6 : decode prog_40_method_1_code 6 = .ok (.putfield 7, 3) := by decide +kernel
theorem d1_9 : decode prog_40_method_1_code 9 = .ok (.return_, 1) := by decide +kernel
theorem pn_1 : plainName "com/example/termweave/termweave/sample/SplitMix64" = true := by first | (simp [plainName, overriddenIn]; done) | decide +kernel
theorem d3_0 : decode prog_40_method_2_code 0 = .ok (.aload_n 0, 1) := by decide +kernel
theorem d3_1 : decode prog_40_method_2_code 1 = .ok (.dup, 1) := by decide +kernel
theorem d3_2 : decode prog_40_method_2_code 2 = .ok (.getfield 7, 3) := by decide +kernel
theorem d3_5 : decode prog_40_method_2_code 5 = .ok (.ldc2_w 13, 3) := by decide +kernel
theorem d3_8 : decode prog_40_method_2_code 8 = .ok (.ladd, 1) := by decide +kernel
theorem d3_9 : decode prog_40_method_2_code 9 = .ok (.putfield 7, 3) := by decide +kernel
theorem d3_12 : decode prog_40_method_2_code 12 = .ok (.aload_n 0, 1) := by decide +kernel
theorem d3_13 : decode prog_40_method_2_code 13 = .ok (.getfield 7, 3) := by decide +kernel
theorem d3_16 : decode prog_40_method_2_code 16 = .ok (.lstore_n 1, 1) := by decide +kernel
theorem d3_17 : decode prog_40_method_2_code 17 = .ok (.lload_n 1, 1) := by decide +kernel
theorem d3_18 : decode prog_40_method_2_code 18 = .ok (.lload_n 1, 1) := by decide +kernel
theorem d3_19 : decode prog_40_method_2_code 19 = .ok (.bipush 30, 2) := by decide +kernel
theorem d3_21 : decode prog_40_method_2_code 21 = .ok (.lushr, 1) := by decide +kernel
theorem d3_22 : decode prog_40_method_2_code 22 = .ok (.lxor, 1) := by decide +kernel
theorem d3_23 : decode prog_40_method_2_code 23 = .ok (.ldc2_w 15, 3) := by decide +kernel
theorem d3_26 : decode prog_40_method_2_code 26 = .ok (.lmul, 1) := by decide +kernel
theorem d3_27 : decode prog_40_method_2_code 27 = .ok (.lstore_n 1, 1) := by decide +kernel
theorem d3_28 : decode prog_40_method_2_code 28 = .ok (.lload_n 1, 1) := by decide +kernel
theorem d3_29 : decode prog_40_method_2_code 29 = .ok (.lload_n 1, 1) := by decide +kernel
theorem d3_30 : decode prog_40_method_2_code 30 = .ok (.bipush 27, 2) := by decide +kernel
theorem d3_32 : decode prog_40_method_2_code 32 = .ok (.lushr, 1) := by decide +kernel
theorem d3_33 : decode prog_40_method_2_code 33 = .ok (.lxor, 1) := by decide +kernel
theorem d3_34 : decode prog_40_method_2_code 34 = .ok (.ldc2_w 17, 3) := by decide +kernel
theorem d3_37 : decode prog_40_method_2_code 37 = .ok (.lmul, 1) := by decide +kernel
theorem d3_38 : decode prog_40_method_2_code 38 = .ok (.lstore_n 1, 1) := by decide +kernel
theorem d3_39 : decode prog_40_method_2_code 39 = .ok (.lload_n 1, 1) := by decide +kernel
theorem d3_40 : decode prog_40_method_2_code 40 = .ok (.lload_n 1, 1) := by decide +kernel
theorem d3_41 : decode prog_40_method_2_code 41 = .ok (.bipush 31, 2) := by decide +kernel
theorem d3_43 : decode prog_40_method_2_code 43 = .ok (.lushr, 1) := by decide +kernel
theorem d3_44 : decode prog_40_method_2_code 44 = .ok (.lxor, 1) := by decide +kernel
theorem d3_45 : decode prog_40_method_2_code 45 = .ok (.lreturn, 1) := by decide +kernel
theorem pn_3 : plainName "com/example/termweave/termweave/sample/SplitMix64" = true := by first | (simp [plainName, overriddenIn]; done) | decide +kernel
theorem d4_0 : decode method_3_code 0 = .ok (.lload_n 0, 1) := by decide +kernel
theorem d4_1 : decode method_3_code 1 = .ok (.lload_n 0, 1) := by decide +kernel
theorem d4_2 : decode method_3_code 2 = .ok (.bipush 31, 2) := by decide +kernel
theorem d4_4 : decode method_3_code 4 = .ok (.lushr, 1) := by decide +kernel
theorem d4_5 : decode method_3_code 5 = .ok (.lxor, 1) := by decide +kernel
theorem d4_6 : decode method_3_code 6 = .ok (.lload_n 0, 1) := by decide +kernel
theorem d4_7 : decode method_3_code 7 = .ok (.bipush 62, 2) := by decide +kernel
theorem d4_9 : decode method_3_code 9 = .ok (.lushr, 1) := by decide +kernel
theorem d4_10 : decode method_3_code 10 = .ok (.lxor, 1) := by decide +kernel
theorem d4_11 : decode method_3_code 11 = .ok (.lstore_n 0, 1) := by decide +kernel
theorem d4_12 : decode method_3_code 12 = .ok (.lload_n 0, 1) := by decide +kernel
theorem d4_13 : decode method_3_code 13 = .ok (.ldc2_w 9, 3) := by decide +kernel
theorem d4_16 : decode method_3_code 16 = .ok (.invokestatic 11, 3) := by decide +kernel
theorem d4_19 : decode method_3_code 19 = .ok (.lmul, 1) := by decide +kernel
theorem d4_20 : decode method_3_code 20 = .ok (.lstore_n 0, 1) := by decide +kernel
theorem d4_21 : decode method_3_code 21 = .ok (.lload_n 0, 1) := by decide +kernel
theorem d4_22 : decode method_3_code 22 = .ok (.lload_n 0, 1) := by decide +kernel
theorem d4_23 : decode method_3_code 23 = .ok (.bipush 27, 2) := by decide +kernel
theorem d4_25 : decode method_3_code 25 = .ok (.lushr, 1) := by decide +kernel
theorem d4_26 : decode method_3_code 26 = .ok (.lxor, 1) := by decide +kernel
theorem d4_27 : decode method_3_code 27 = .ok (.lload_n 0, 1) := by decide +kernel
theorem d4_28 : decode method_3_code 28 = .ok (.bipush 54, 2) := by decide +kernel
theorem d4_30 : decode method_3_code 30 = .ok (.lushr, 1) := by decide +kernel
theorem d4_31 : decode method_3_code 31 = .ok (.lxor, 1) := by decide +kernel
theorem d4_32 : decode method_3_code 32 = .ok (.lstore_n 0, 1) := by decide +kernel
theorem d4_33 : decode method_3_code 33 = .ok (.lload_n 0, 1) := by decide +kernel
theorem d4_34 : decode method_3_code 34 = .ok (.ldc2_w 17, 3) := by decide +kernel
theorem d4_37 : decode method_3_code 37 = .ok (.invokestatic 11, 3) := by decide +kernel
theorem d4_40 : decode method_3_code 40 = .ok (.lmul, 1) := by decide +kernel
theorem d4_41 : decode method_3_code 41 = .ok (.lstore_n 0, 1) := by decide +kernel
theorem d4_42 : decode method_3_code 42 = .ok (.lload_n 0, 1) := by decide +kernel
theorem d4_43 : decode method_3_code 43 = .ok (.lload_n 0, 1) := by decide +kernel
theorem d4_44 : decode method_3_code 44 = .ok (.bipush 30, 2) := by decide +kernel
theorem d4_46 : decode method_3_code 46 = .ok (.lushr, 1) := by decide +kernel
theorem d4_47 : decode method_3_code 47 = .ok (.lxor, 1) := by decide +kernel
theorem d4_48 : decode method_3_code 48 = .ok (.lload_n 0, 1) := by decide +kernel
theorem d4_49 : decode method_3_code 49 = .ok (.bipush 60, 2) := by decide +kernel
theorem d4_51 : decode method_3_code 51 = .ok (.lushr, 1) := by decide +kernel
theorem d4_52 : decode method_3_code 52 = .ok (.lxor, 1) := by decide +kernel
theorem d4_53 : decode method_3_code 53 = .ok (.lstore_n 0, 1) := by decide +kernel
theorem d4_54 : decode method_3_code 54 = .ok (.lload_n 0, 1) := by decide +kernel
theorem d4_55 : decode method_3_code 55 = .ok (.lreturn, 1) := by decide +kernel
theorem pn_4 : plainName "com/example/termweave/termweave/sample/SplitMix64NextLongPinLaw" = true := by first | (simp [plainName, overriddenIn]; done) | decide +kernel
theorem d5_0 : decode method_2_code 0 = .ok (.lload_n 0, 1) := by decide +kernel
theorem d5_1 : decode method_2_code 1 = .ok (.lstore_n 2, 1) := by decide +kernel
theorem d5_2 : decode method_2_code 2 = .ok (.lload_n 2, 1) := by decide +kernel
theorem d5_3 : decode method_2_code 3 = .ok (.ldc2_w 7, 3) := by decide +kernel
theorem d5_6 : decode method_2_code 6 = .ok (.lload_n 0, 1) := by decide +kernel
theorem d5_7 : decode method_2_code 7 = .ok (.lload_n 2, 1) := by decide +kernel
theorem d5_8 : decode method_2_code 8 = .ok (.lmul, 1) := by decide +kernel
theorem d5_9 : decode method_2_code 9 = .ok (.lsub, 1) := by decide +kernel
theorem d5_10 : decode method_2_code 10 = .ok (.lmul, 1) := by decide +kernel
theorem d5_11 : decode method_2_code 11 = .ok (.lstore_n 2, 1) := by decide +kernel
theorem d5_12 : decode method_2_code 12 = .ok (.lload_n 2, 1) := by decide +kernel
theorem d5_13 : decode method_2_code 13 = .ok (.ldc2_w 7, 3) := by decide +kernel
theorem d5_16 : decode method_2_code 16 = .ok (.lload_n 0, 1) := by decide +kernel
theorem d5_17 : decode method_2_code 17 = .ok (.lload_n 2, 1) := by decide +kernel
theorem d5_18 : decode method_2_code 18 = .ok (.lmul, 1) := by decide +kernel
theorem d5_19 : decode method_2_code 19 = .ok (.lsub, 1) := by decide +kernel
theorem d5_20 : decode method_2_code 20 = .ok (.lmul, 1) := by decide +kernel
theorem d5_21 : decode method_2_code 21 = .ok (.lstore_n 2, 1) := by decide +kernel
theorem d5_22 : decode method_2_code 22 = .ok (.lload_n 2, 1) := by decide +kernel
theorem d5_23 : decode method_2_code 23 = .ok (.ldc2_w 7, 3) := by decide +kernel
theorem d5_26 : decode method_2_code 26 = .ok (.lload_n 0, 1) := by decide +kernel
theorem d5_27 : decode method_2_code 27 = .ok (.lload_n 2, 1) := by decide +kernel
theorem d5_28 : decode method_2_code 28 = .ok (.lmul, 1) := by decide +kernel
theorem d5_29 : decode method_2_code 29 = .ok (.lsub, 1) := by decide +kernel
theorem d5_30 : decode method_2_code 30 = .ok (.lmul, 1) := by decide +kernel
theorem d5_31 : decode method_2_code 31 = .ok (.lstore_n 2, 1) := by decide +kernel
theorem d5_32 : decode method_2_code 32 = .ok (.lload_n 2, 1) := by decide +kernel
theorem d5_33 : decode method_2_code 33 = .ok (.ldc2_w 7, 3) := by decide +kernel
theorem d5_36 : decode method_2_code 36 = .ok (.lload_n 0, 1) := by decide +kernel
theorem d5_37 : decode method_2_code 37 = .ok (.lload_n 2, 1) := by decide +kernel
theorem d5_38 : decode method_2_code 38 = .ok (.lmul, 1) := by decide +kernel
theorem d5_39 : decode method_2_code 39 = .ok (.lsub, 1) := by decide +kernel
theorem d5_40 : decode method_2_code 40 = .ok (.lmul, 1) := by decide +kernel
theorem d5_41 : decode method_2_code 41 = .ok (.lstore_n 2, 1) := by decide +kernel
theorem d5_42 : decode method_2_code 42 = .ok (.lload_n 2, 1) := by decide +kernel
theorem d5_43 : decode method_2_code 43 = .ok (.ldc2_w 7, 3) := by decide +kernel
theorem d5_46 : decode method_2_code 46 = .ok (.lload_n 0, 1) := by decide +kernel
theorem d5_47 : decode method_2_code 47 = .ok (.lload_n 2, 1) := by decide +kernel
theorem d5_48 : decode method_2_code 48 = .ok (.lmul, 1) := by decide +kernel
theorem d5_49 : decode method_2_code 49 = .ok (.lsub, 1) := by decide +kernel
theorem d5_50 : decode method_2_code 50 = .ok (.lmul, 1) := by decide +kernel
theorem d5_51 : decode method_2_code 51 = .ok (.lstore_n 2, 1) := by decide +kernel
theorem d5_52 : decode method_2_code 52 = .ok (.lload_n 2, 1) := by decide +kernel
theorem d5_53 : decode method_2_code 53 = .ok (.lreturn, 1) := by decide +kernel
theorem pn_5 : plainName "com/example/termweave/termweave/sample/SplitMix64NextLongPinLaw" = true := by first | (simp [plainName, overriddenIn]; done) | decide +kernel
theorem pd_0 : parseMethodDescriptor "(J)J" = some ⟨[.long], some .long⟩ := by decide +kernel
theorem pd_1 : parseMethodDescriptor "(J)V" = some ⟨[.long], none⟩ := by decide +kernel
theorem pd_2 : parseMethodDescriptor "()J" = some ⟨[], some .long⟩ := by decide +kernel
def own_us (z : Int64) (k : Int32) : Int64 := ((z.toUInt64 >>> (k &&& 0x3f).toInt64.toUInt64).toInt64)
def own_mix (z : Int64) : Int64 :=
  let a := (z ^^^ own_us z 30) * (-4658895280553007687 : Int64)
  let b := (a ^^^ own_us a 27) * (-7723592293110705685 : Int64)
  (b ^^^ own_us b 31)
def own_inv (a : Int64) : Int64 :=
  let x1 := a * ((2 : Int64) - a * a)
  let x2 := x1 * ((2 : Int64) - a * x1)
  let x3 := x2 * ((2 : Int64) - a * x2)
  let x4 := x3 * ((2 : Int64) - a * x3)
  x4 * ((2 : Int64) - a * x4)
def own_unmix (z : Int64) : Int64 :=
  let a := ((z ^^^ own_us z 31) ^^^ own_us z 62) * own_inv (-7723592293110705685 : Int64)
  let b := ((a ^^^ own_us a 27) ^^^ own_us a 54) * own_inv (-4658895280553007687 : Int64)
  ((b ^^^ own_us b 30) ^^^ own_us b 60)
theorem own_us_bv (z : Int64) (k : Int32) (n : Nat) (hn : n < 64) (hk : (k &&& 0x3f).toInt64.toUInt64 = UInt64.ofNat n) : (own_us z k).toBitVec = z.toBitVec >>> n := by
  unfold own_us
  rw [hk]
  show z.toBitVec >>> (BitVec.ofNat 64 n % 64) = _
  have h : (BitVec.ofNat 64 n % 64).toNat = n := by
    show (BitVec.ofNat 64 n % 64#64).toNat = n
    simp; omega
  rw [BitVec.ushiftRight_eq', h]
theorem own_xs {z : Int64} {k j : Int32} (n : Nat) (h1 : n < 64) (h2 : 2 * n < 64) (h3 : 64 ≤ 3 * n) (hk : (k &&& 0x3f).toInt64.toUInt64 = UInt64.ofNat n) (hj : (j &&& 0x3f).toInt64.toUInt64 = UInt64.ofNat (2 * n)) :
    (((z ^^^ own_us z k) ^^^ own_us (z ^^^ own_us z k) k) ^^^ own_us (z ^^^ own_us z k) j) = z := by
  apply Int64.toBitVec_inj.mp
  simp only [Int64.toBitVec_xor, own_us_bv _ _ n h1 hk, own_us_bv _ _ (2 * n) h2 hj]
  generalize z.toBitVec = b
  apply BitVec.eq_of_getLsbD_eq
  intro i hi
  simp only [BitVec.getLsbD_xor, BitVec.getLsbD_ushiftRight]
  have e1 : n + (n + i) = 2 * n + i := by omega
  have e2 : b.getLsbD (n + (2 * n + i)) = false := BitVec.getLsbD_of_ge _ _ (by omega)
  rw [e1, e2]
  cases b.getLsbD i <;> cases b.getLsbD (n + i) <;> cases b.getLsbD (2 * n + i) <;> rfl
theorem own_inv1 : (-7723592293110705685 : Int64) * own_inv (-7723592293110705685 : Int64) = 1 := by decide +kernel
theorem own_inv2 : (-4658895280553007687 : Int64) * own_inv (-4658895280553007687 : Int64) = 1 := by decide +kernel
theorem own_back (z : Int64) : own_unmix (own_mix z) = z := by
  simp only [own_unmix, own_mix]
  rw [own_xs (k := 31) (j := 62) 31 (by decide) (by decide) (by decide) (by decide) (by decide), Int64.mul_assoc, own_inv1, Int64.mul_one,
    own_xs (k := 27) (j := 54) 27 (by decide) (by decide) (by decide) (by decide) (by decide), Int64.mul_assoc, own_inv2, Int64.mul_one,
    own_xs (k := 30) (j := 60) 30 (by decide) (by decide) (by decide) (by decide) (by decide)]
theorem own_two (x : Int64) : ((x + (-7046029254386353131 : Int64)) + (-7046029254386353131 : Int64)) = (x + (4354685564936845354 : Int64)) := by
  rw [Int64.add_assoc]; rfl
theorem own_three (x : Int64) : (((x + (-7046029254386353131 : Int64)) + (-7046029254386353131 : Int64)) + (-7046029254386353131 : Int64)) = (x + (-2691343689449507777 : Int64)) := by
  rw [own_two, Int64.add_assoc]; rfl
def Q1 (Z : State) (x0 : Addr) (x1 : Int64) (h0 : Heap) (n0 : Nat) (v : Option Value) (h : Heap) (L : List Loc) : Prop := v = none ∧ Fr n0 L ∧ Keep h0 h [x0] ∧ Exa Z h x0 "com/example/termweave/termweave/sample/SplitMix64" ∧ Fld Z h x0 "com/example/termweave/termweave/sample/SplitMix64" "state" "J" (.long x1)
theorem ef_1 (m : MethodId) (x0 : Addr) (x1 : Int64) : entryFrame m #[(.ref x0), (.long x1)] 3 = mkF m 0 #[rv x0, lv x1, .second] [] := by first | (simp [entryFrame, mkF, argsToLocals, Value.category]; done) | rfl
set_option maxRecDepth 65536 in
set_option maxHeartbeats 40000000 in
theorem rm1 (l : Launch) (Z : State) (a0 : Array Value) (hw : ∀ d ∈ tables_1, d.before a0 Z = true) (ws : List Jvm.Cond) (x0 : Addr) (x1 : Int64) (h0 : Heap) (n0 : Nat) (Z0 : n0 ≤ h0.size) (pre_E_x0 : Exa Z h0 x0 "com/example/termweave/termweave/sample/SplitMix64") (pre_F_x0_state : Fld Z h0 x0 "com/example/termweave/termweave/sample/SplitMix64" "state" "J" (.long 0)) (g_x0 : n0 ≤ x0) :
    MetFree l (⟨"com/example/termweave/termweave/sample/SplitMix64", "<init>", "(J)V"⟩ : MethodName) (head1 (Jvm.Cond.code (⟨"com/example/termweave/termweave/sample/SplitMix64", "<init>", "(J)V"⟩ : MethodName) prog_40_method_1_code 3 none :: ws) ({ frames := 1, cells := 0, slots := 0, locals := 12 } : Room)) (fun a U => a = #[(.ref x0), (.long x1)] ∧ Z.Warmed39 U.vm ∧ U.heap = h0) (fun _ _ _ _ _ => True) (fun _ U o U' => ∃ v L, o = .returned v ∧ Q1 Z x0 x1 h0 n0 v U'.heap L ∧ FrameEnd U o U' L ({ frames := 1, cells := 0, slots := 0, locals := 12 } : Room).cells ({ frames := 1, cells := 0, slots := 0, locals := 12 } : Room).slots) := by
  refine MetFree.of_bodySF (plainFor_of_name pn_1) hisR ?_
  intro p e s m args below meth c s₁ Bd hml0 hP hK
  obtain ⟨rfl, hZ, hh⟩ := hP
  have hx := Bd.exec
  have hby := Bd.bytes
  have hml : c.maxLocals = 3 := hml0
  have hown : s.vm.findClass "com/example/termweave/termweave/sample/SplitMix64" = some m.cls := findClass_of_methodNamed Bd.named
  have hnm := (name_of_methodNamed Bd.named Bd.method).1
  have X0 : Stand p l e ({ frames := 1, cells := 0, slots := 0, locals := 12 } : Room) s m #[(.ref x0), (.long x1)] below meth c s₁ [] 0 0 := Stand.of_body Bd
  have e0 : s₁.heap = h0 := by rw [← hh, Bd.state]; rfl
  have N0 := Fr.nil n0
  have Kp0 := Keep.refl h0 [x0]
  have P0 : ∀ t, Steps p.tables e below (s₁.setTop (mkF m 0 #[rv x0, lv x1, .second] [])) t → Steps p.tables e below (s₁.setTop (entryFrame m #[(.ref x0), (.long x1)] 3)) t := fun t k => castTop (ef_1 m x0 x1) k
  obtain ⟨T1, X1, e1, st1⟩ := initO X0 hx hZ hown (hw _ (im 6 rfl)) (hw _ (im 7 rfl)) (hw _ (im 8 rfl)) e0 (g := (mkF m 1 #[rv x0, lv x1, .second] [(.ref x0)])) rfl (by rw [hml]; rfl) rfl (hb hby d1_1) (by decide) (W := 0) (by show 2 * 0 + _ ≤ _; exact Nat.le_of_eq rfl) (by decide)
  obtain ⟨T2, h2, X2, e2, W2, st2⟩ := putF X1 hx hZ hown (host := "") (Or.inl (hw _ (im 9 rfl))) Via.refl e1 pre_F_x0_state pre_E_x0 (Or.inl (hw _ (im 10 rfl))) (hw _ (im 1 rfl)) (ty := .long) (by decide) rfl rfl (g := (mkF m 6 #[rv x0, lv x1, .second] [(.long x1), (.ref x0)])) rfl rfl (hb hby d1_6)
  have Fw2 := pre_F_x0_state.same W2
  have Z2_ : n0 ≤ h2.size := Nat.le_trans Z0 (Nat.le_of_eq W2.size.symm)
  have N2 := Fr.snoc X2 N0 g_x0
  have KK2 := Kp0.wr W2 (Or.inl (List.mem_of_getElem? (i := 0) rfl))
  have P3 := own_go P0 (S' := T2.setTop (mkF m 9 #[rv x0, lv x1, .second] [])) (by
    intro t k
    refine XS.aloadN X0.here hx rfl (hb hby d1_0) rfl rfl ?_
    refine st1 _ ?_
    refine XS.aloadN X1.here hx rfl (hb hby d1_4) rfl rfl ?_
    refine XS.lloadN X1.here hx rfl (hb hby d1_5) rfl ?_
    refine st2 _ ?_
    exact k)
  have q4 := (pre_E_x0.wr W2)
  obtain ⟨fs, hr, hrun, hended, hW, hsame⟩ := X2.leave (v := none) (fun _ => rfl)
  refine ⟨_, _, P3 _ ?_, hrun, hended, _, _, rfl, ?_, ⟨_, rfl⟩, hW, hsame.mono (by decide) (by decide)⟩
  · show Steps p.tables e below (T2.setTop (mkF m 9 #[rv x0, lv x1, .second] [])) _
    exact X2.returnOut hx Bd.returns (hb hby d1_9) hr
  · show Q1 Z x0 x1 h0 n0 _ T2.heap _
    rw [e2]
    exact ⟨rfl, N2, KK2, q4, Fw2⟩
def Q3 (Z : State) (x0 : Addr) (w : Int64) (h0 : Heap) (n0 : Nat) (v : Option Value) (h : Heap) (L : List Loc) : Prop := v = some (.long (own_mix (w + (-7046029254386353131 : Int64)))) ∧ Fr n0 L ∧ Keep h0 h [x0] ∧ Exa Z h x0 "com/example/termweave/termweave/sample/SplitMix64" ∧ Fld Z h x0 "com/example/termweave/termweave/sample/SplitMix64" "state" "J" (.long (w + (-7046029254386353131 : Int64)))
theorem ef_3 (m : MethodId) (x0 : Addr) : entryFrame m #[(.ref x0)] 3 = mkF m 0 #[rv x0, .unset, .unset] [] := by first | (simp [entryFrame, mkF, argsToLocals, Value.category]; done) | rfl
set_option maxRecDepth 65536 in
set_option maxHeartbeats 40000000 in
theorem rm3 (l : Launch) (Z : State) (a0 : Array Value) (hw : ∀ d ∈ tables_1, d.before a0 Z = true) (ws : List Jvm.Cond) (x0 : Addr) (w : Int64) (h0 : Heap) (n0 : Nat) (Z0 : n0 ≤ h0.size) (pre_E_x0 : Exa Z h0 x0 "com/example/termweave/termweave/sample/SplitMix64") (pre_F_x0_state : Fld Z h0 x0 "com/example/termweave/termweave/sample/SplitMix64" "state" "J" (.long w)) (g_x0 : n0 ≤ x0) :
    MetFree l (⟨"com/example/termweave/termweave/sample/SplitMix64", "nextLong", "()J"⟩ : MethodName) (head1 (Jvm.Cond.code (⟨"com/example/termweave/termweave/sample/SplitMix64", "nextLong", "()J"⟩ : MethodName) prog_40_method_2_code 3 (some .long) :: ws) ({ frames := 0, cells := 0, slots := 0, locals := 0 } : Room)) (fun a U => a = #[(.ref x0)] ∧ Z.Warmed39 U.vm ∧ U.heap = h0) (fun _ _ _ _ _ => True) (fun _ U o U' => ∃ v L, o = .returned v ∧ Q3 Z x0 w h0 n0 v U'.heap L ∧ FrameEnd U o U' L ({ frames := 0, cells := 0, slots := 0, locals := 0 } : Room).cells ({ frames := 0, cells := 0, slots := 0, locals := 0 } : Room).slots) := by
  refine MetFree.of_bodySF (plainFor_of_name pn_3) hisR ?_
  intro p e s m args below meth c s₁ Bd hml0 hP hK
  obtain ⟨rfl, hZ, hh⟩ := hP
  have hx := Bd.exec
  have hby := Bd.bytes
  have hml : c.maxLocals = 3 := hml0
  have hown : s.vm.findClass "com/example/termweave/termweave/sample/SplitMix64" = some m.cls := findClass_of_methodNamed Bd.named
  have hnm := (name_of_methodNamed Bd.named Bd.method).1
  have X0 : Stand p l e ({ frames := 0, cells := 0, slots := 0, locals := 0 } : Room) s m #[(.ref x0)] below meth c s₁ [] 0 0 := Stand.of_body Bd
  have e0 : s₁.heap = h0 := by rw [← hh, Bd.state]; rfl
  have N0 := Fr.nil n0
  have Kp0 := Keep.refl h0 [x0]
  have P0 : ∀ t, Steps p.tables e below (s₁.setTop (mkF m 0 #[rv x0, .unset, .unset] [])) t → Steps p.tables e below (s₁.setTop (entryFrame m #[(.ref x0)] 3)) t := fun t k => castTop (ef_3 m x0) k
  obtain ⟨T1, X1, e1, st1⟩ := getF X0 hx hZ hown (host := "") (Or.inl (hw _ (im 9 rfl))) Via.refl e0 pre_F_x0_state (g := (mkF m 2 #[rv x0, .unset, .unset] [(.ref x0), (.ref x0)])) rfl rfl (hb hby d3_2)
  obtain ⟨T2, h2, X2, e2, W2, st2⟩ := putF X1 hx hZ hown (host := "") (Or.inl (hw _ (im 9 rfl))) Via.refl e1 pre_F_x0_state pre_E_x0 (Or.inl (hw _ (im 10 rfl))) (hw _ (im 1 rfl)) (ty := .long) (by decide) rfl rfl (g := (mkF m 9 #[rv x0, .unset, .unset] [(.long (w + (-7046029254386353131 : Int64))), (.ref x0)])) rfl rfl (hb hby d3_9)
  have Fw2 := pre_F_x0_state.same W2
  have Z2_ : n0 ≤ h2.size := Nat.le_trans Z0 (Nat.le_of_eq W2.size.symm)
  have N2 := Fr.snoc X2 N0 g_x0
  have KK2 := Kp0.wr W2 (Or.inl (List.mem_of_getElem? (i := 0) rfl))
  obtain ⟨T3, X3, e3, st3⟩ := getF X2 hx hZ hown (host := "") (Or.inl (hw _ (im 9 rfl))) Via.refl e2 Fw2 (g := (mkF m 13 #[rv x0, .unset, .unset] [(.ref x0)])) rfl rfl (hb hby d3_13)
  have P4 := own_go P0 (S' := T3.setTop (mkF m 39 #[rv x0, lv (((((w + (-7046029254386353131 : Int64)) ^^^ (((w + (-7046029254386353131 : Int64)).toUInt64 >>> ((30 : Int32) &&& 0x3f).toInt64.toUInt64).toInt64)) * (-4658895280553007687 : Int64)) ^^^ (((((w + (-7046029254386353131 : Int64)) ^^^ (((w + (-7046029254386353131 : Int64)).toUInt64 >>> ((30 : Int32) &&& 0x3f).toInt64.toUInt64).toInt64)) * (-4658895280553007687 : Int64)).toUInt64 >>> ((27 : Int32) &&& 0x3f).toInt64.toUInt64).toInt64)) * (-7723592293110705685 : Int64)), .second] [])) (by
    intro t k
    refine XS.aloadN X0.here hx rfl (hb hby d3_0) rfl rfl ?_
    refine XS.dup X0.here hx rfl (hb hby d3_1) rfl rfl ?_
    refine st1 _ ?_
    refine X1.ldc2Long hx hown (mvT hZ (hw _ (im 16 rfl))) (g := (mkF m 5 #[rv x0, .unset, .unset] [(.long w), (.ref x0)])) rfl (hb hby d3_5) _ ?_
    refine XS.ladd X1.here hx rfl (hb hby d3_8) rfl ?_
    refine st2 _ ?_
    refine XS.aloadN X2.here hx rfl (hb hby d3_12) rfl rfl ?_
    refine st3 _ ?_
    show Steps p.tables e below (T3.setTop (mkF m 16 #[rv x0, .unset, .unset] [(.long (w + (-7046029254386353131 : Int64)))])) _
    refine XS.lstoreN X3.here hx rfl (hb hby d3_16) rfl (l' := #[rv x0, lv (w + (-7046029254386353131 : Int64)), .second]) rfl ?_
    refine XS.lloadN X3.here hx rfl (hb hby d3_17) rfl ?_
    refine XS.lloadN X3.here hx rfl (hb hby d3_18) rfl ?_
    refine XS.bipush X3.here hx rfl (hb hby d3_19) ?_
    refine XS.lushr X3.here hx rfl (hb hby d3_21) rfl ?_
    refine XS.lxor X3.here hx rfl (hb hby d3_22) rfl ?_
    refine X3.ldc2Long hx hown (mvT hZ (hw _ (im 17 rfl))) (g := (mkF m 23 #[rv x0, lv (w + (-7046029254386353131 : Int64)), .second] [(.long ((w + (-7046029254386353131 : Int64)) ^^^ (((w + (-7046029254386353131 : Int64)).toUInt64 >>> ((30 : Int32) &&& 0x3f).toInt64.toUInt64).toInt64)))])) rfl (hb hby d3_23) _ ?_
    refine XS.lmul X3.here hx rfl (hb hby d3_26) rfl ?_
    show Steps p.tables e below (T3.setTop (mkF m 27 #[rv x0, lv (w + (-7046029254386353131 : Int64)), .second] [(.long (((w + (-7046029254386353131 : Int64)) ^^^ (((w + (-7046029254386353131 : Int64)).toUInt64 >>> ((30 : Int32) &&& 0x3f).toInt64.toUInt64).toInt64)) * (-4658895280553007687 : Int64)))])) _
    refine XS.lstoreN X3.here hx rfl (hb hby d3_27) rfl (l' := #[rv x0, lv (((w + (-7046029254386353131 : Int64)) ^^^ (((w + (-7046029254386353131 : Int64)).toUInt64 >>> ((30 : Int32) &&& 0x3f).toInt64.toUInt64).toInt64)) * (-4658895280553007687 : Int64)), .second]) rfl ?_
    refine XS.lloadN X3.here hx rfl (hb hby d3_28) rfl ?_
    refine XS.lloadN X3.here hx rfl (hb hby d3_29) rfl ?_
    refine XS.bipush X3.here hx rfl (hb hby d3_30) ?_
    refine XS.lushr X3.here hx rfl (hb hby d3_32) rfl ?_
    refine XS.lxor X3.here hx rfl (hb hby d3_33) rfl ?_
    refine X3.ldc2Long hx hown (mvT hZ (hw _ (im 18 rfl))) (g := (mkF m 34 #[rv x0, lv (((w + (-7046029254386353131 : Int64)) ^^^ (((w + (-7046029254386353131 : Int64)).toUInt64 >>> ((30 : Int32) &&& 0x3f).toInt64.toUInt64).toInt64)) * (-4658895280553007687 : Int64)), .second] [(.long ((((w + (-7046029254386353131 : Int64)) ^^^ (((w + (-7046029254386353131 : Int64)).toUInt64 >>> ((30 : Int32) &&& 0x3f).toInt64.toUInt64).toInt64)) * (-4658895280553007687 : Int64)) ^^^ (((((w + (-7046029254386353131 : Int64)) ^^^ (((w + (-7046029254386353131 : Int64)).toUInt64 >>> ((30 : Int32) &&& 0x3f).toInt64.toUInt64).toInt64)) * (-4658895280553007687 : Int64)).toUInt64 >>> ((27 : Int32) &&& 0x3f).toInt64.toUInt64).toInt64)))])) rfl (hb hby d3_34) _ ?_
    refine XS.lmul X3.here hx rfl (hb hby d3_37) rfl ?_
    show Steps p.tables e below (T3.setTop (mkF m 38 #[rv x0, lv (((w + (-7046029254386353131 : Int64)) ^^^ (((w + (-7046029254386353131 : Int64)).toUInt64 >>> ((30 : Int32) &&& 0x3f).toInt64.toUInt64).toInt64)) * (-4658895280553007687 : Int64)), .second] [(.long (((((w + (-7046029254386353131 : Int64)) ^^^ (((w + (-7046029254386353131 : Int64)).toUInt64 >>> ((30 : Int32) &&& 0x3f).toInt64.toUInt64).toInt64)) * (-4658895280553007687 : Int64)) ^^^ (((((w + (-7046029254386353131 : Int64)) ^^^ (((w + (-7046029254386353131 : Int64)).toUInt64 >>> ((30 : Int32) &&& 0x3f).toInt64.toUInt64).toInt64)) * (-4658895280553007687 : Int64)).toUInt64 >>> ((27 : Int32) &&& 0x3f).toInt64.toUInt64).toInt64)) * (-7723592293110705685 : Int64)))])) _
    refine XS.lstoreN X3.here hx rfl (hb hby d3_38) rfl (l' := #[rv x0, lv (((((w + (-7046029254386353131 : Int64)) ^^^ (((w + (-7046029254386353131 : Int64)).toUInt64 >>> ((30 : Int32) &&& 0x3f).toInt64.toUInt64).toInt64)) * (-4658895280553007687 : Int64)) ^^^ (((((w + (-7046029254386353131 : Int64)) ^^^ (((w + (-7046029254386353131 : Int64)).toUInt64 >>> ((30 : Int32) &&& 0x3f).toInt64.toUInt64).toInt64)) * (-4658895280553007687 : Int64)).toUInt64 >>> ((27 : Int32) &&& 0x3f).toInt64.toUInt64).toInt64)) * (-7723592293110705685 : Int64)), .second]) rfl ?_
    exact k)
  have P5 := own_go P4 (S' := T3.setTop (mkF m 45 #[rv x0, lv (((((w + (-7046029254386353131 : Int64)) ^^^ (((w + (-7046029254386353131 : Int64)).toUInt64 >>> ((30 : Int32) &&& 0x3f).toInt64.toUInt64).toInt64)) * (-4658895280553007687 : Int64)) ^^^ (((((w + (-7046029254386353131 : Int64)) ^^^ (((w + (-7046029254386353131 : Int64)).toUInt64 >>> ((30 : Int32) &&& 0x3f).toInt64.toUInt64).toInt64)) * (-4658895280553007687 : Int64)).toUInt64 >>> ((27 : Int32) &&& 0x3f).toInt64.toUInt64).toInt64)) * (-7723592293110705685 : Int64)), .second] [(.long ((((((w + (-7046029254386353131 : Int64)) ^^^ (((w + (-7046029254386353131 : Int64)).toUInt64 >>> ((30 : Int32) &&& 0x3f).toInt64.toUInt64).toInt64)) * (-4658895280553007687 : Int64)) ^^^ (((((w + (-7046029254386353131 : Int64)) ^^^ (((w + (-7046029254386353131 : Int64)).toUInt64 >>> ((30 : Int32) &&& 0x3f).toInt64.toUInt64).toInt64)) * (-4658895280553007687 : Int64)).toUInt64 >>> ((27 : Int32) &&& 0x3f).toInt64.toUInt64).toInt64)) * (-7723592293110705685 : Int64)) ^^^ (((((((w + (-7046029254386353131 : Int64)) ^^^ (((w + (-7046029254386353131 : Int64)).toUInt64 >>> ((30 : Int32) &&& 0x3f).toInt64.toUInt64).toInt64)) * (-4658895280553007687 : Int64)) ^^^ (((((w + (-7046029254386353131 : Int64)) ^^^ (((w + (-7046029254386353131 : Int64)).toUInt64 >>> ((30 : Int32) &&& 0x3f).toInt64.toUInt64).toInt64)) * (-4658895280553007687 : Int64)).toUInt64 >>> ((27 : Int32) &&& 0x3f).toInt64.toUInt64).toInt64)) * (-7723592293110705685 : Int64)).toUInt64 >>> ((31 : Int32) &&& 0x3f).toInt64.toUInt64).toInt64)))])) (by
    intro t k
    refine XS.lloadN X3.here hx rfl (hb hby d3_39) rfl ?_
    refine XS.lloadN X3.here hx rfl (hb hby d3_40) rfl ?_
    refine XS.bipush X3.here hx rfl (hb hby d3_41) ?_
    refine XS.lushr X3.here hx rfl (hb hby d3_43) rfl ?_
    refine XS.lxor X3.here hx rfl (hb hby d3_44) rfl ?_
    exact k)
  have q6 := (pre_E_x0.wr W2)
  obtain ⟨fs, hr, hrun, hended, hW, hsame⟩ := X3.leave (v := some (.long ((((((w + (-7046029254386353131 : Int64)) ^^^ (((w + (-7046029254386353131 : Int64)).toUInt64 >>> ((30 : Int32) &&& 0x3f).toInt64.toUInt64).toInt64)) * (-4658895280553007687 : Int64)) ^^^ (((((w + (-7046029254386353131 : Int64)) ^^^ (((w + (-7046029254386353131 : Int64)).toUInt64 >>> ((30 : Int32) &&& 0x3f).toInt64.toUInt64).toInt64)) * (-4658895280553007687 : Int64)).toUInt64 >>> ((27 : Int32) &&& 0x3f).toInt64.toUInt64).toInt64)) * (-7723592293110705685 : Int64)) ^^^ (((((((w + (-7046029254386353131 : Int64)) ^^^ (((w + (-7046029254386353131 : Int64)).toUInt64 >>> ((30 : Int32) &&& 0x3f).toInt64.toUInt64).toInt64)) * (-4658895280553007687 : Int64)) ^^^ (((((w + (-7046029254386353131 : Int64)) ^^^ (((w + (-7046029254386353131 : Int64)).toUInt64 >>> ((30 : Int32) &&& 0x3f).toInt64.toUInt64).toInt64)) * (-4658895280553007687 : Int64)).toUInt64 >>> ((27 : Int32) &&& 0x3f).toInt64.toUInt64).toInt64)) * (-7723592293110705685 : Int64)).toUInt64 >>> ((31 : Int32) &&& 0x3f).toInt64.toUInt64).toInt64)))) (fun h => by rw [Bd.returns] at h; cases h)
  refine ⟨_, _, P5 _ ?_, hrun, hended, _, _, rfl, ?_, ⟨_, rfl⟩, hW, hsame.mono (by decide) (by decide)⟩
  · show Steps p.tables e below (T3.setTop (mkF m 45 #[rv x0, lv (((((w + (-7046029254386353131 : Int64)) ^^^ (((w + (-7046029254386353131 : Int64)).toUInt64 >>> ((30 : Int32) &&& 0x3f).toInt64.toUInt64).toInt64)) * (-4658895280553007687 : Int64)) ^^^ (((((w + (-7046029254386353131 : Int64)) ^^^ (((w + (-7046029254386353131 : Int64)).toUInt64 >>> ((30 : Int32) &&& 0x3f).toInt64.toUInt64).toInt64)) * (-4658895280553007687 : Int64)).toUInt64 >>> ((27 : Int32) &&& 0x3f).toInt64.toUInt64).toInt64)) * (-7723592293110705685 : Int64)), .second] [(.long ((((((w + (-7046029254386353131 : Int64)) ^^^ (((w + (-7046029254386353131 : Int64)).toUInt64 >>> ((30 : Int32) &&& 0x3f).toInt64.toUInt64).toInt64)) * (-4658895280553007687 : Int64)) ^^^ (((((w + (-7046029254386353131 : Int64)) ^^^ (((w + (-7046029254386353131 : Int64)).toUInt64 >>> ((30 : Int32) &&& 0x3f).toInt64.toUInt64).toInt64)) * (-4658895280553007687 : Int64)).toUInt64 >>> ((27 : Int32) &&& 0x3f).toInt64.toUInt64).toInt64)) * (-7723592293110705685 : Int64)) ^^^ (((((((w + (-7046029254386353131 : Int64)) ^^^ (((w + (-7046029254386353131 : Int64)).toUInt64 >>> ((30 : Int32) &&& 0x3f).toInt64.toUInt64).toInt64)) * (-4658895280553007687 : Int64)) ^^^ (((((w + (-7046029254386353131 : Int64)) ^^^ (((w + (-7046029254386353131 : Int64)).toUInt64 >>> ((30 : Int32) &&& 0x3f).toInt64.toUInt64).toInt64)) * (-4658895280553007687 : Int64)).toUInt64 >>> ((27 : Int32) &&& 0x3f).toInt64.toUInt64).toInt64)) * (-7723592293110705685 : Int64)).toUInt64 >>> ((31 : Int32) &&& 0x3f).toInt64.toUInt64).toInt64)))])) _
    exact retOut X3 hx (t := .long) Bd.returns rfl (Or.inr (Or.inl ⟨rfl, rfl, _, rfl⟩)) (hb hby d3_45) hr
  · show Q3 Z x0 w h0 n0 _ T3.heap _
    rw [e3]
    exact ⟨(rfl), N2, KK2, q6, Fw2⟩
def Q5 (Z : State) (x0 : Int64) (h0 : Heap) (n0 : Nat) (v : Option Value) (h : Heap) (L : List Loc) : Prop := v = some (.long (own_inv x0)) ∧ Fr n0 L ∧ h = h0
theorem ef_5 (m : MethodId) (x0 : Int64) : entryFrame m #[(.long x0)] 4 = mkF m 0 #[lv x0, .second, .unset, .unset] [] := by first | (simp [entryFrame, mkF, argsToLocals, Value.category]; done) | rfl
set_option maxRecDepth 65536 in
set_option maxHeartbeats 40000000 in
theorem rm5 (l : Launch) (Z : State) (a0 : Array Value) (hw : ∀ d ∈ tables_1, d.before a0 Z = true) (ws : List Jvm.Cond) (x0 : Int64) (h0 : Heap) (n0 : Nat) (Z0 : n0 ≤ h0.size) :
    MetFree l (⟨"com/example/termweave/termweave/sample/SplitMix64NextLongPinLaw", "inv", "(J)J"⟩ : MethodName) (head1 (Jvm.Cond.code (⟨"com/example/termweave/termweave/sample/SplitMix64NextLongPinLaw", "inv", "(J)J"⟩ : MethodName) method_2_code 4 (some .long) :: ws) ({ frames := 0, cells := 0, slots := 0, locals := 0 } : Room)) (fun a U => a = #[(.long x0)] ∧ Z.Warmed39 U.vm ∧ U.heap = h0) (fun _ _ _ _ _ => True) (fun _ U o U' => ∃ v L, o = .returned v ∧ Q5 Z x0 h0 n0 v U'.heap L ∧ FrameEnd U o U' L ({ frames := 0, cells := 0, slots := 0, locals := 0 } : Room).cells ({ frames := 0, cells := 0, slots := 0, locals := 0 } : Room).slots) := by
  refine MetFree.of_bodySF (plainFor_of_name pn_5) hisR ?_
  intro p e s m args below meth c s₁ Bd hml0 hP hK
  obtain ⟨rfl, hZ, hh⟩ := hP
  have hx := Bd.exec
  have hby := Bd.bytes
  have hml : c.maxLocals = 4 := hml0
  have hown : s.vm.findClass "com/example/termweave/termweave/sample/SplitMix64NextLongPinLaw" = some m.cls := findClass_of_methodNamed Bd.named
  have hnm := (name_of_methodNamed Bd.named Bd.method).1
  have X0 : Stand p l e ({ frames := 0, cells := 0, slots := 0, locals := 0 } : Room) s m #[(.long x0)] below meth c s₁ [] 0 0 := Stand.of_body Bd
  have e0 : s₁.heap = h0 := by rw [← hh, Bd.state]; rfl
  have N0 := Fr.nil n0
  have Kp0 := Keep.refl h0 []
  have P0 : ∀ t, Steps p.tables e below (s₁.setTop (mkF m 0 #[lv x0, .second, .unset, .unset] [])) t → Steps p.tables e below (s₁.setTop (entryFrame m #[(.long x0)] 4)) t := fun t k => castTop (ef_5 m x0) k
  have P1 := own_go P0 (S' := s₁.setTop (mkF m 31 #[lv x0, .second, lv ((x0 * ((2 : Int64) - (x0 * x0))) * ((2 : Int64) - (x0 * (x0 * ((2 : Int64) - (x0 * x0)))))), .second] [(.long (((x0 * ((2 : Int64) - (x0 * x0))) * ((2 : Int64) - (x0 * (x0 * ((2 : Int64) - (x0 * x0)))))) * ((2 : Int64) - (x0 * ((x0 * ((2 : Int64) - (x0 * x0))) * ((2 : Int64) - (x0 * (x0 * ((2 : Int64) - (x0 * x0))))))))))])) (by
    intro t k
    refine XS.lloadN X0.here hx rfl (hb hby d5_0) rfl ?_
    refine XS.lstoreN X0.here hx rfl (hb hby d5_1) rfl (l' := #[lv x0, .second, lv x0, .second]) rfl ?_
    refine XS.lloadN X0.here hx rfl (hb hby d5_2) rfl ?_
    refine X0.ldc2Long hx hown (mvT hZ (hw _ (im 27 rfl))) (g := (mkF m 3 #[lv x0, .second, lv x0, .second] [(.long x0)])) rfl (hb hby d5_3) _ ?_
    refine XS.lloadN X0.here hx rfl (hb hby d5_6) rfl ?_
    refine XS.lloadN X0.here hx rfl (hb hby d5_7) rfl ?_
    refine XS.lmul X0.here hx rfl (hb hby d5_8) rfl ?_
    refine XS.lsub X0.here hx rfl (hb hby d5_9) rfl ?_
    show Steps p.tables e below (s₁.setTop (mkF m 10 #[lv x0, .second, lv x0, .second] [(.long ((2 : Int64) - (x0 * x0))), (.long x0)])) _
    refine XS.lmul X0.here hx rfl (hb hby d5_10) rfl ?_
    refine XS.lstoreN X0.here hx rfl (hb hby d5_11) rfl (l' := #[lv x0, .second, lv (x0 * ((2 : Int64) - (x0 * x0))), .second]) rfl ?_
    refine XS.lloadN X0.here hx rfl (hb hby d5_12) rfl ?_
    refine X0.ldc2Long hx hown (mvT hZ (hw _ (im 27 rfl))) (g := (mkF m 13 #[lv x0, .second, lv (x0 * ((2 : Int64) - (x0 * x0))), .second] [(.long (x0 * ((2 : Int64) - (x0 * x0))))])) rfl (hb hby d5_13) _ ?_
    refine XS.lloadN X0.here hx rfl (hb hby d5_16) rfl ?_
    refine XS.lloadN X0.here hx rfl (hb hby d5_17) rfl ?_
    refine XS.lmul X0.here hx rfl (hb hby d5_18) rfl ?_
    refine XS.lsub X0.here hx rfl (hb hby d5_19) rfl ?_
    show Steps p.tables e below (s₁.setTop (mkF m 20 #[lv x0, .second, lv (x0 * ((2 : Int64) - (x0 * x0))), .second] [(.long ((2 : Int64) - (x0 * (x0 * ((2 : Int64) - (x0 * x0)))))), (.long (x0 * ((2 : Int64) - (x0 * x0))))])) _
    refine XS.lmul X0.here hx rfl (hb hby d5_20) rfl ?_
    refine XS.lstoreN X0.here hx rfl (hb hby d5_21) rfl (l' := #[lv x0, .second, lv ((x0 * ((2 : Int64) - (x0 * x0))) * ((2 : Int64) - (x0 * (x0 * ((2 : Int64) - (x0 * x0)))))), .second]) rfl ?_
    refine XS.lloadN X0.here hx rfl (hb hby d5_22) rfl ?_
    refine X0.ldc2Long hx hown (mvT hZ (hw _ (im 27 rfl))) (g := (mkF m 23 #[lv x0, .second, lv ((x0 * ((2 : Int64) - (x0 * x0))) * ((2 : Int64) - (x0 * (x0 * ((2 : Int64) - (x0 * x0)))))), .second] [(.long ((x0 * ((2 : Int64) - (x0 * x0))) * ((2 : Int64) - (x0 * (x0 * ((2 : Int64) - (x0 * x0)))))))])) rfl (hb hby d5_23) _ ?_
    refine XS.lloadN X0.here hx rfl (hb hby d5_26) rfl ?_
    refine XS.lloadN X0.here hx rfl (hb hby d5_27) rfl ?_
    refine XS.lmul X0.here hx rfl (hb hby d5_28) rfl ?_
    refine XS.lsub X0.here hx rfl (hb hby d5_29) rfl ?_
    show Steps p.tables e below (s₁.setTop (mkF m 30 #[lv x0, .second, lv ((x0 * ((2 : Int64) - (x0 * x0))) * ((2 : Int64) - (x0 * (x0 * ((2 : Int64) - (x0 * x0)))))), .second] [(.long ((2 : Int64) - (x0 * ((x0 * ((2 : Int64) - (x0 * x0))) * ((2 : Int64) - (x0 * (x0 * ((2 : Int64) - (x0 * x0))))))))), (.long ((x0 * ((2 : Int64) - (x0 * x0))) * ((2 : Int64) - (x0 * (x0 * ((2 : Int64) - (x0 * x0)))))))])) _
    refine XS.lmul X0.here hx rfl (hb hby d5_30) rfl ?_
    exact k)
  have P2 := own_go P1 (S' := s₁.setTop (mkF m 53 #[lv x0, .second, lv (((((x0 * ((2 : Int64) - (x0 * x0))) * ((2 : Int64) - (x0 * (x0 * ((2 : Int64) - (x0 * x0)))))) * ((2 : Int64) - (x0 * ((x0 * ((2 : Int64) - (x0 * x0))) * ((2 : Int64) - (x0 * (x0 * ((2 : Int64) - (x0 * x0))))))))) * ((2 : Int64) - (x0 * (((x0 * ((2 : Int64) - (x0 * x0))) * ((2 : Int64) - (x0 * (x0 * ((2 : Int64) - (x0 * x0)))))) * ((2 : Int64) - (x0 * ((x0 * ((2 : Int64) - (x0 * x0))) * ((2 : Int64) - (x0 * (x0 * ((2 : Int64) - (x0 * x0)))))))))))) * ((2 : Int64) - (x0 * ((((x0 * ((2 : Int64) - (x0 * x0))) * ((2 : Int64) - (x0 * (x0 * ((2 : Int64) - (x0 * x0)))))) * ((2 : Int64) - (x0 * ((x0 * ((2 : Int64) - (x0 * x0))) * ((2 : Int64) - (x0 * (x0 * ((2 : Int64) - (x0 * x0))))))))) * ((2 : Int64) - (x0 * (((x0 * ((2 : Int64) - (x0 * x0))) * ((2 : Int64) - (x0 * (x0 * ((2 : Int64) - (x0 * x0)))))) * ((2 : Int64) - (x0 * ((x0 * ((2 : Int64) - (x0 * x0))) * ((2 : Int64) - (x0 * (x0 * ((2 : Int64) - (x0 * x0))))))))))))))), .second] [(.long (((((x0 * ((2 : Int64) - (x0 * x0))) * ((2 : Int64) - (x0 * (x0 * ((2 : Int64) - (x0 * x0)))))) * ((2 : Int64) - (x0 * ((x0 * ((2 : Int64) - (x0 * x0))) * ((2 : Int64) - (x0 * (x0 * ((2 : Int64) - (x0 * x0))))))))) * ((2 : Int64) - (x0 * (((x0 * ((2 : Int64) - (x0 * x0))) * ((2 : Int64) - (x0 * (x0 * ((2 : Int64) - (x0 * x0)))))) * ((2 : Int64) - (x0 * ((x0 * ((2 : Int64) - (x0 * x0))) * ((2 : Int64) - (x0 * (x0 * ((2 : Int64) - (x0 * x0)))))))))))) * ((2 : Int64) - (x0 * ((((x0 * ((2 : Int64) - (x0 * x0))) * ((2 : Int64) - (x0 * (x0 * ((2 : Int64) - (x0 * x0)))))) * ((2 : Int64) - (x0 * ((x0 * ((2 : Int64) - (x0 * x0))) * ((2 : Int64) - (x0 * (x0 * ((2 : Int64) - (x0 * x0))))))))) * ((2 : Int64) - (x0 * (((x0 * ((2 : Int64) - (x0 * x0))) * ((2 : Int64) - (x0 * (x0 * ((2 : Int64) - (x0 * x0)))))) * ((2 : Int64) - (x0 * ((x0 * ((2 : Int64) - (x0 * x0))) * ((2 : Int64) - (x0 * (x0 * ((2 : Int64) - (x0 * x0))))))))))))))))])) (by
    intro t k
    refine XS.lstoreN X0.here hx rfl (hb hby d5_31) rfl (l' := #[lv x0, .second, lv (((x0 * ((2 : Int64) - (x0 * x0))) * ((2 : Int64) - (x0 * (x0 * ((2 : Int64) - (x0 * x0)))))) * ((2 : Int64) - (x0 * ((x0 * ((2 : Int64) - (x0 * x0))) * ((2 : Int64) - (x0 * (x0 * ((2 : Int64) - (x0 * x0))))))))), .second]) rfl ?_
    refine XS.lloadN X0.here hx rfl (hb hby d5_32) rfl ?_
    refine X0.ldc2Long hx hown (mvT hZ (hw _ (im 27 rfl))) (g := (mkF m 33 #[lv x0, .second, lv (((x0 * ((2 : Int64) - (x0 * x0))) * ((2 : Int64) - (x0 * (x0 * ((2 : Int64) - (x0 * x0)))))) * ((2 : Int64) - (x0 * ((x0 * ((2 : Int64) - (x0 * x0))) * ((2 : Int64) - (x0 * (x0 * ((2 : Int64) - (x0 * x0))))))))), .second] [(.long (((x0 * ((2 : Int64) - (x0 * x0))) * ((2 : Int64) - (x0 * (x0 * ((2 : Int64) - (x0 * x0)))))) * ((2 : Int64) - (x0 * ((x0 * ((2 : Int64) - (x0 * x0))) * ((2 : Int64) - (x0 * (x0 * ((2 : Int64) - (x0 * x0))))))))))])) rfl (hb hby d5_33) _ ?_
    refine XS.lloadN X0.here hx rfl (hb hby d5_36) rfl ?_
    refine XS.lloadN X0.here hx rfl (hb hby d5_37) rfl ?_
    refine XS.lmul X0.here hx rfl (hb hby d5_38) rfl ?_
    refine XS.lsub X0.here hx rfl (hb hby d5_39) rfl ?_
    refine XS.lmul X0.here hx rfl (hb hby d5_40) rfl ?_
    show Steps p.tables e below (s₁.setTop (mkF m 41 #[lv x0, .second, lv (((x0 * ((2 : Int64) - (x0 * x0))) * ((2 : Int64) - (x0 * (x0 * ((2 : Int64) - (x0 * x0)))))) * ((2 : Int64) - (x0 * ((x0 * ((2 : Int64) - (x0 * x0))) * ((2 : Int64) - (x0 * (x0 * ((2 : Int64) - (x0 * x0))))))))), .second] [(.long ((((x0 * ((2 : Int64) - (x0 * x0))) * ((2 : Int64) - (x0 * (x0 * ((2 : Int64) - (x0 * x0)))))) * ((2 : Int64) - (x0 * ((x0 * ((2 : Int64) - (x0 * x0))) * ((2 : Int64) - (x0 * (x0 * ((2 : Int64) - (x0 * x0))))))))) * ((2 : Int64) - (x0 * (((x0 * ((2 : Int64) - (x0 * x0))) * ((2 : Int64) - (x0 * (x0 * ((2 : Int64) - (x0 * x0)))))) * ((2 : Int64) - (x0 * ((x0 * ((2 : Int64) - (x0 * x0))) * ((2 : Int64) - (x0 * (x0 * ((2 : Int64) - (x0 * x0)))))))))))))])) _
    refine XS.lstoreN X0.here hx rfl (hb hby d5_41) rfl (l' := #[lv x0, .second, lv ((((x0 * ((2 : Int64) - (x0 * x0))) * ((2 : Int64) - (x0 * (x0 * ((2 : Int64) - (x0 * x0)))))) * ((2 : Int64) - (x0 * ((x0 * ((2 : Int64) - (x0 * x0))) * ((2 : Int64) - (x0 * (x0 * ((2 : Int64) - (x0 * x0))))))))) * ((2 : Int64) - (x0 * (((x0 * ((2 : Int64) - (x0 * x0))) * ((2 : Int64) - (x0 * (x0 * ((2 : Int64) - (x0 * x0)))))) * ((2 : Int64) - (x0 * ((x0 * ((2 : Int64) - (x0 * x0))) * ((2 : Int64) - (x0 * (x0 * ((2 : Int64) - (x0 * x0)))))))))))), .second]) rfl ?_
    refine XS.lloadN X0.here hx rfl (hb hby d5_42) rfl ?_
    refine X0.ldc2Long hx hown (mvT hZ (hw _ (im 27 rfl))) (g := (mkF m 43 #[lv x0, .second, lv ((((x0 * ((2 : Int64) - (x0 * x0))) * ((2 : Int64) - (x0 * (x0 * ((2 : Int64) - (x0 * x0)))))) * ((2 : Int64) - (x0 * ((x0 * ((2 : Int64) - (x0 * x0))) * ((2 : Int64) - (x0 * (x0 * ((2 : Int64) - (x0 * x0))))))))) * ((2 : Int64) - (x0 * (((x0 * ((2 : Int64) - (x0 * x0))) * ((2 : Int64) - (x0 * (x0 * ((2 : Int64) - (x0 * x0)))))) * ((2 : Int64) - (x0 * ((x0 * ((2 : Int64) - (x0 * x0))) * ((2 : Int64) - (x0 * (x0 * ((2 : Int64) - (x0 * x0)))))))))))), .second] [(.long ((((x0 * ((2 : Int64) - (x0 * x0))) * ((2 : Int64) - (x0 * (x0 * ((2 : Int64) - (x0 * x0)))))) * ((2 : Int64) - (x0 * ((x0 * ((2 : Int64) - (x0 * x0))) * ((2 : Int64) - (x0 * (x0 * ((2 : Int64) - (x0 * x0))))))))) * ((2 : Int64) - (x0 * (((x0 * ((2 : Int64) - (x0 * x0))) * ((2 : Int64) - (x0 * (x0 * ((2 : Int64) - (x0 * x0)))))) * ((2 : Int64) - (x0 * ((x0 * ((2 : Int64) - (x0 * x0))) * ((2 : Int64) - (x0 * (x0 * ((2 : Int64) - (x0 * x0)))))))))))))])) rfl (hb hby d5_43) _ ?_
    refine XS.lloadN X0.here hx rfl (hb hby d5_46) rfl ?_
    refine XS.lloadN X0.here hx rfl (hb hby d5_47) rfl ?_
    refine XS.lmul X0.here hx rfl (hb hby d5_48) rfl ?_
    refine XS.lsub X0.here hx rfl (hb hby d5_49) rfl ?_
    refine XS.lmul X0.here hx rfl (hb hby d5_50) rfl ?_
    show Steps p.tables e below (s₁.setTop (mkF m 51 #[lv x0, .second, lv ((((x0 * ((2 : Int64) - (x0 * x0))) * ((2 : Int64) - (x0 * (x0 * ((2 : Int64) - (x0 * x0)))))) * ((2 : Int64) - (x0 * ((x0 * ((2 : Int64) - (x0 * x0))) * ((2 : Int64) - (x0 * (x0 * ((2 : Int64) - (x0 * x0))))))))) * ((2 : Int64) - (x0 * (((x0 * ((2 : Int64) - (x0 * x0))) * ((2 : Int64) - (x0 * (x0 * ((2 : Int64) - (x0 * x0)))))) * ((2 : Int64) - (x0 * ((x0 * ((2 : Int64) - (x0 * x0))) * ((2 : Int64) - (x0 * (x0 * ((2 : Int64) - (x0 * x0)))))))))))), .second] [(.long (((((x0 * ((2 : Int64) - (x0 * x0))) * ((2 : Int64) - (x0 * (x0 * ((2 : Int64) - (x0 * x0)))))) * ((2 : Int64) - (x0 * ((x0 * ((2 : Int64) - (x0 * x0))) * ((2 : Int64) - (x0 * (x0 * ((2 : Int64) - (x0 * x0))))))))) * ((2 : Int64) - (x0 * (((x0 * ((2 : Int64) - (x0 * x0))) * ((2 : Int64) - (x0 * (x0 * ((2 : Int64) - (x0 * x0)))))) * ((2 : Int64) - (x0 * ((x0 * ((2 : Int64) - (x0 * x0))) * ((2 : Int64) - (x0 * (x0 * ((2 : Int64) - (x0 * x0)))))))))))) * ((2 : Int64) - (x0 * ((((x0 * ((2 : Int64) - (x0 * x0))) * ((2 : Int64) - (x0 * (x0 * ((2 : Int64) - (x0 * x0)))))) * ((2 : Int64) - (x0 * ((x0 * ((2 : Int64) - (x0 * x0))) * ((2 : Int64) - (x0 * (x0 * ((2 : Int64) - (x0 * x0))))))))) * ((2 : Int64) - (x0 * (((x0 * ((2 : Int64) - (x0 * x0))) * ((2 : Int64) - (x0 * (x0 * ((2 : Int64) - (x0 * x0)))))) * ((2 : Int64) - (x0 * ((x0 * ((2 : Int64) - (x0 * x0))) * ((2 : Int64) - (x0 * (x0 * ((2 : Int64) - (x0 * x0))))))))))))))))])) _
    refine XS.lstoreN X0.here hx rfl (hb hby d5_51) rfl (l' := #[lv x0, .second, lv (((((x0 * ((2 : Int64) - (x0 * x0))) * ((2 : Int64) - (x0 * (x0 * ((2 : Int64) - (x0 * x0)))))) * ((2 : Int64) - (x0 * ((x0 * ((2 : Int64) - (x0 * x0))) * ((2 : Int64) - (x0 * (x0 * ((2 : Int64) - (x0 * x0))))))))) * ((2 : Int64) - (x0 * (((x0 * ((2 : Int64) - (x0 * x0))) * ((2 : Int64) - (x0 * (x0 * ((2 : Int64) - (x0 * x0)))))) * ((2 : Int64) - (x0 * ((x0 * ((2 : Int64) - (x0 * x0))) * ((2 : Int64) - (x0 * (x0 * ((2 : Int64) - (x0 * x0)))))))))))) * ((2 : Int64) - (x0 * ((((x0 * ((2 : Int64) - (x0 * x0))) * ((2 : Int64) - (x0 * (x0 * ((2 : Int64) - (x0 * x0)))))) * ((2 : Int64) - (x0 * ((x0 * ((2 : Int64) - (x0 * x0))) * ((2 : Int64) - (x0 * (x0 * ((2 : Int64) - (x0 * x0))))))))) * ((2 : Int64) - (x0 * (((x0 * ((2 : Int64) - (x0 * x0))) * ((2 : Int64) - (x0 * (x0 * ((2 : Int64) - (x0 * x0)))))) * ((2 : Int64) - (x0 * ((x0 * ((2 : Int64) - (x0 * x0))) * ((2 : Int64) - (x0 * (x0 * ((2 : Int64) - (x0 * x0))))))))))))))), .second]) rfl ?_
    refine XS.lloadN X0.here hx rfl (hb hby d5_52) rfl ?_
    exact k)
  obtain ⟨fs, hr, hrun, hended, hW, hsame⟩ := X0.leave (v := some (.long (((((x0 * ((2 : Int64) - (x0 * x0))) * ((2 : Int64) - (x0 * (x0 * ((2 : Int64) - (x0 * x0)))))) * ((2 : Int64) - (x0 * ((x0 * ((2 : Int64) - (x0 * x0))) * ((2 : Int64) - (x0 * (x0 * ((2 : Int64) - (x0 * x0))))))))) * ((2 : Int64) - (x0 * (((x0 * ((2 : Int64) - (x0 * x0))) * ((2 : Int64) - (x0 * (x0 * ((2 : Int64) - (x0 * x0)))))) * ((2 : Int64) - (x0 * ((x0 * ((2 : Int64) - (x0 * x0))) * ((2 : Int64) - (x0 * (x0 * ((2 : Int64) - (x0 * x0)))))))))))) * ((2 : Int64) - (x0 * ((((x0 * ((2 : Int64) - (x0 * x0))) * ((2 : Int64) - (x0 * (x0 * ((2 : Int64) - (x0 * x0)))))) * ((2 : Int64) - (x0 * ((x0 * ((2 : Int64) - (x0 * x0))) * ((2 : Int64) - (x0 * (x0 * ((2 : Int64) - (x0 * x0))))))))) * ((2 : Int64) - (x0 * (((x0 * ((2 : Int64) - (x0 * x0))) * ((2 : Int64) - (x0 * (x0 * ((2 : Int64) - (x0 * x0)))))) * ((2 : Int64) - (x0 * ((x0 * ((2 : Int64) - (x0 * x0))) * ((2 : Int64) - (x0 * (x0 * ((2 : Int64) - (x0 * x0))))))))))))))))) (fun h => by rw [Bd.returns] at h; cases h)
  refine ⟨_, _, P2 _ ?_, hrun, hended, _, _, rfl, ?_, ⟨_, rfl⟩, hW, hsame.mono (by decide) (by decide)⟩
  · show Steps p.tables e below (s₁.setTop (mkF m 53 #[lv x0, .second, lv (((((x0 * ((2 : Int64) - (x0 * x0))) * ((2 : Int64) - (x0 * (x0 * ((2 : Int64) - (x0 * x0)))))) * ((2 : Int64) - (x0 * ((x0 * ((2 : Int64) - (x0 * x0))) * ((2 : Int64) - (x0 * (x0 * ((2 : Int64) - (x0 * x0))))))))) * ((2 : Int64) - (x0 * (((x0 * ((2 : Int64) - (x0 * x0))) * ((2 : Int64) - (x0 * (x0 * ((2 : Int64) - (x0 * x0)))))) * ((2 : Int64) - (x0 * ((x0 * ((2 : Int64) - (x0 * x0))) * ((2 : Int64) - (x0 * (x0 * ((2 : Int64) - (x0 * x0)))))))))))) * ((2 : Int64) - (x0 * ((((x0 * ((2 : Int64) - (x0 * x0))) * ((2 : Int64) - (x0 * (x0 * ((2 : Int64) - (x0 * x0)))))) * ((2 : Int64) - (x0 * ((x0 * ((2 : Int64) - (x0 * x0))) * ((2 : Int64) - (x0 * (x0 * ((2 : Int64) - (x0 * x0))))))))) * ((2 : Int64) - (x0 * (((x0 * ((2 : Int64) - (x0 * x0))) * ((2 : Int64) - (x0 * (x0 * ((2 : Int64) - (x0 * x0)))))) * ((2 : Int64) - (x0 * ((x0 * ((2 : Int64) - (x0 * x0))) * ((2 : Int64) - (x0 * (x0 * ((2 : Int64) - (x0 * x0))))))))))))))), .second] [(.long (((((x0 * ((2 : Int64) - (x0 * x0))) * ((2 : Int64) - (x0 * (x0 * ((2 : Int64) - (x0 * x0)))))) * ((2 : Int64) - (x0 * ((x0 * ((2 : Int64) - (x0 * x0))) * ((2 : Int64) - (x0 * (x0 * ((2 : Int64) - (x0 * x0))))))))) * ((2 : Int64) - (x0 * (((x0 * ((2 : Int64) - (x0 * x0))) * ((2 : Int64) - (x0 * (x0 * ((2 : Int64) - (x0 * x0)))))) * ((2 : Int64) - (x0 * ((x0 * ((2 : Int64) - (x0 * x0))) * ((2 : Int64) - (x0 * (x0 * ((2 : Int64) - (x0 * x0)))))))))))) * ((2 : Int64) - (x0 * ((((x0 * ((2 : Int64) - (x0 * x0))) * ((2 : Int64) - (x0 * (x0 * ((2 : Int64) - (x0 * x0)))))) * ((2 : Int64) - (x0 * ((x0 * ((2 : Int64) - (x0 * x0))) * ((2 : Int64) - (x0 * (x0 * ((2 : Int64) - (x0 * x0))))))))) * ((2 : Int64) - (x0 * (((x0 * ((2 : Int64) - (x0 * x0))) * ((2 : Int64) - (x0 * (x0 * ((2 : Int64) - (x0 * x0)))))) * ((2 : Int64) - (x0 * ((x0 * ((2 : Int64) - (x0 * x0))) * ((2 : Int64) - (x0 * (x0 * ((2 : Int64) - (x0 * x0))))))))))))))))])) _
    exact retOut X0 hx (t := .long) Bd.returns rfl (Or.inr (Or.inl ⟨rfl, rfl, _, rfl⟩)) (hb hby d5_53) hr
  · show Q5 Z x0 h0 n0 _ s₁.heap _
    rw [e0]
    exact ⟨(rfl), N0, rfl⟩
def Q4 (Z : State) (x0 : Int64) (h0 : Heap) (n0 : Nat) (v : Option Value) (h : Heap) (L : List Loc) : Prop := v = some (.long (own_unmix x0)) ∧ Fr n0 L ∧ h = h0
theorem ef_4 (m : MethodId) (x0 : Int64) : entryFrame m #[(.long x0)] 2 = mkF m 0 #[lv x0, .second] [] := by first | (simp [entryFrame, mkF, argsToLocals, Value.category]; done) | rfl
set_option maxRecDepth 65536 in
set_option maxHeartbeats 40000000 in
theorem rm4 (l : Launch) (Z : State) (a0 : Array Value) (hw : ∀ d ∈ tables_1, d.before a0 Z = true) (ws : List Jvm.Cond) (x0 : Int64) (h0 : Heap) (n0 : Nat) (Z0 : n0 ≤ h0.size) :
    MetFree l (⟨"com/example/termweave/termweave/sample/SplitMix64NextLongPinLaw", "unmix", "(J)J"⟩ : MethodName) (head1 (Jvm.Cond.code (⟨"com/example/termweave/termweave/sample/SplitMix64NextLongPinLaw", "unmix", "(J)J"⟩ : MethodName) method_3_code 2 (some .long) :: ws) ({ frames := 1, cells := 0, slots := 0, locals := 17 } : Room)) (fun a U => a = #[(.long x0)] ∧ Z.Warmed39 U.vm ∧ U.heap = h0) (fun _ _ _ _ _ => True) (fun _ U o U' => ∃ v L, o = .returned v ∧ Q4 Z x0 h0 n0 v U'.heap L ∧ FrameEnd U o U' L ({ frames := 1, cells := 0, slots := 0, locals := 17 } : Room).cells ({ frames := 1, cells := 0, slots := 0, locals := 17 } : Room).slots) := by
  refine MetFree.of_bodySF (plainFor_of_name pn_4) hisR ?_
  intro p e s m args below meth c s₁ Bd hml0 hP hK
  obtain ⟨rfl, hZ, hh⟩ := hP
  have hx := Bd.exec
  have hby := Bd.bytes
  have hml : c.maxLocals = 2 := hml0
  have hown : s.vm.findClass "com/example/termweave/termweave/sample/SplitMix64NextLongPinLaw" = some m.cls := findClass_of_methodNamed Bd.named
  have hnm := (name_of_methodNamed Bd.named Bd.method).1
  have X0 : Stand p l e ({ frames := 1, cells := 0, slots := 0, locals := 17 } : Room) s m #[(.long x0)] below meth c s₁ [] 0 0 := Stand.of_body Bd
  have e0 : s₁.heap = h0 := by rw [← hh, Bd.state]; rfl
  have N0 := Fr.nil n0
  have Kp0 := Keep.refl h0 []
  have P0 : ∀ t, Steps p.tables e below (s₁.setTop (mkF m 0 #[lv x0, .second] [])) t → Steps p.tables e below (s₁.setTop (entryFrame m #[(.long x0)] 2)) t := fun t k => castTop (ef_4 m x0) k
  obtain ⟨_, _, ⟨T1, L1, k1, n1⟩, -, X1, ⟨Lc1, hQ1, l1, y1, z1⟩, st1⟩ := Jvm.LawKit.callS X0 hx (y := (⟨"com/example/termweave/termweave/sample/SplitMix64NextLongPinLaw", "inv", "(J)J"⟩ : MethodName)) hown (mvT hZ (hw _ (im 24 rfl))) (mvT hZ (hw _ (im 25 rfl))) (mvT hZ (hw _ (im 21 rfl))) (mvT hZ (hw _ (im 26 rfl))) (by decide) (backOf (W := 2) (rm5 l Z a0 hw [] (-7723592293110705685 : Int64) h0 n0 Z0 ) hZ (hw _ (im 26 rfl)) (hw _ (im 21 rfl)) (by decide) (by decide)) (g := (mkF m 16 #[lv ((x0 ^^^ ((x0.toUInt64 >>> ((31 : Int32) &&& 0x3f).toInt64.toUInt64).toInt64)) ^^^ ((x0.toUInt64 >>> ((62 : Int32) &&& 0x3f).toInt64.toUInt64).toInt64)), .second] [(.long (-7723592293110705685)), (.long ((x0 ^^^ ((x0.toUInt64 >>> ((31 : Int32) &&& 0x3f).toInt64.toUInt64).toInt64)) ^^^ ((x0.toUInt64 >>> ((62 : Int32) &&& 0x3f).toInt64.toUInt64).toInt64)))])) rfl (by rw [hml]; rfl) (argsL := [(.long (-7723592293110705685))]) (rest := [(.long ((x0 ^^^ ((x0.toUInt64 >>> ((31 : Int32) &&& 0x3f).toInt64.toUInt64).toInt64)) ^^^ ((x0.toUInt64 >>> ((62 : Int32) &&& 0x3f).toInt64.toUInt64).toInt64)))]) (lenOf pd_0 rfl) rfl (by show 2 * 0 + _ ≤ _; exact Nat.le_of_eq rfl) (hb hby d4_16) (fun _ _ => ⟨rfl, e0, (by decide : 0 + 0 ≤ _), (by decide : 0 + 0 ≤ _)⟩)
  dsimp only [Pt.U, Pt.locs, Pt.cells, Pt.slots] at X1 l1 y1 z1 st1 hQ1
  subst l1 y1 z1
  obtain ⟨rfl, N1q, e1⟩ := hQ1
  have N1 := Fr.app N0 N1q
  have P2 := own_go P0 (S' := T1.setTop (mkF m 33 #[lv (((((x0 ^^^ ((x0.toUInt64 >>> ((31 : Int32) &&& 0x3f).toInt64.toUInt64).toInt64)) ^^^ ((x0.toUInt64 >>> ((62 : Int32) &&& 0x3f).toInt64.toUInt64).toInt64)) * (own_inv (-7723592293110705685 : Int64))) ^^^ (((((x0 ^^^ ((x0.toUInt64 >>> ((31 : Int32) &&& 0x3f).toInt64.toUInt64).toInt64)) ^^^ ((x0.toUInt64 >>> ((62 : Int32) &&& 0x3f).toInt64.toUInt64).toInt64)) * (own_inv (-7723592293110705685 : Int64))).toUInt64 >>> ((27 : Int32) &&& 0x3f).toInt64.toUInt64).toInt64)) ^^^ (((((x0 ^^^ ((x0.toUInt64 >>> ((31 : Int32) &&& 0x3f).toInt64.toUInt64).toInt64)) ^^^ ((x0.toUInt64 >>> ((62 : Int32) &&& 0x3f).toInt64.toUInt64).toInt64)) * (own_inv (-7723592293110705685 : Int64))).toUInt64 >>> ((54 : Int32) &&& 0x3f).toInt64.toUInt64).toInt64)), .second] [])) (by
    intro t k
    refine XS.lloadN X0.here hx rfl (hb hby d4_0) rfl ?_
    refine XS.lloadN X0.here hx rfl (hb hby d4_1) rfl ?_
    refine XS.bipush X0.here hx rfl (hb hby d4_2) ?_
    refine XS.lushr X0.here hx rfl (hb hby d4_4) rfl ?_
    refine XS.lxor X0.here hx rfl (hb hby d4_5) rfl ?_
    refine XS.lloadN X0.here hx rfl (hb hby d4_6) rfl ?_
    refine XS.bipush X0.here hx rfl (hb hby d4_7) ?_
    refine XS.lushr X0.here hx rfl (hb hby d4_9) rfl ?_
    show Steps p.tables e below (s₁.setTop (mkF m 10 #[lv x0, .second] [(.long ((x0.toUInt64 >>> ((62 : Int32) &&& 0x3f).toInt64.toUInt64).toInt64)), (.long (x0 ^^^ ((x0.toUInt64 >>> ((31 : Int32) &&& 0x3f).toInt64.toUInt64).toInt64)))])) _
    refine XS.lxor X0.here hx rfl (hb hby d4_10) rfl ?_
    refine XS.lstoreN X0.here hx rfl (hb hby d4_11) rfl (l' := #[lv ((x0 ^^^ ((x0.toUInt64 >>> ((31 : Int32) &&& 0x3f).toInt64.toUInt64).toInt64)) ^^^ ((x0.toUInt64 >>> ((62 : Int32) &&& 0x3f).toInt64.toUInt64).toInt64)), .second]) rfl ?_
    refine XS.lloadN X0.here hx rfl (hb hby d4_12) rfl ?_
    refine X0.ldc2Long hx hown (mvT hZ (hw _ (im 23 rfl))) (g := (mkF m 13 #[lv ((x0 ^^^ ((x0.toUInt64 >>> ((31 : Int32) &&& 0x3f).toInt64.toUInt64).toInt64)) ^^^ ((x0.toUInt64 >>> ((62 : Int32) &&& 0x3f).toInt64.toUInt64).toInt64)), .second] [(.long ((x0 ^^^ ((x0.toUInt64 >>> ((31 : Int32) &&& 0x3f).toInt64.toUInt64).toInt64)) ^^^ ((x0.toUInt64 >>> ((62 : Int32) &&& 0x3f).toInt64.toUInt64).toInt64)))])) rfl (hb hby d4_13) _ ?_
    refine st1 _ ?_
    refine XS.lmul X1.here hx rfl (hb hby d4_19) rfl ?_
    refine XS.lstoreN X1.here hx rfl (hb hby d4_20) rfl (l' := #[lv (((x0 ^^^ ((x0.toUInt64 >>> ((31 : Int32) &&& 0x3f).toInt64.toUInt64).toInt64)) ^^^ ((x0.toUInt64 >>> ((62 : Int32) &&& 0x3f).toInt64.toUInt64).toInt64)) * (own_inv (-7723592293110705685 : Int64))), .second]) rfl ?_
    refine XS.lloadN X1.here hx rfl (hb hby d4_21) rfl ?_
    show Steps p.tables e below (T1.setTop (mkF m 22 #[lv (((x0 ^^^ ((x0.toUInt64 >>> ((31 : Int32) &&& 0x3f).toInt64.toUInt64).toInt64)) ^^^ ((x0.toUInt64 >>> ((62 : Int32) &&& 0x3f).toInt64.toUInt64).toInt64)) * (own_inv (-7723592293110705685 : Int64))), .second] [(.long (((x0 ^^^ ((x0.toUInt64 >>> ((31 : Int32) &&& 0x3f).toInt64.toUInt64).toInt64)) ^^^ ((x0.toUInt64 >>> ((62 : Int32) &&& 0x3f).toInt64.toUInt64).toInt64)) * (own_inv (-7723592293110705685 : Int64))))])) _
    refine XS.lloadN X1.here hx rfl (hb hby d4_22) rfl ?_
    refine XS.bipush X1.here hx rfl (hb hby d4_23) ?_
    refine XS.lushr X1.here hx rfl (hb hby d4_25) rfl ?_
    refine XS.lxor X1.here hx rfl (hb hby d4_26) rfl ?_
    refine XS.lloadN X1.here hx rfl (hb hby d4_27) rfl ?_
    refine XS.bipush X1.here hx rfl (hb hby d4_28) ?_
    refine XS.lushr X1.here hx rfl (hb hby d4_30) rfl ?_
    refine XS.lxor X1.here hx rfl (hb hby d4_31) rfl ?_
    show Steps p.tables e below (T1.setTop (mkF m 32 #[lv (((x0 ^^^ ((x0.toUInt64 >>> ((31 : Int32) &&& 0x3f).toInt64.toUInt64).toInt64)) ^^^ ((x0.toUInt64 >>> ((62 : Int32) &&& 0x3f).toInt64.toUInt64).toInt64)) * (own_inv (-7723592293110705685 : Int64))), .second] [(.long (((((x0 ^^^ ((x0.toUInt64 >>> ((31 : Int32) &&& 0x3f).toInt64.toUInt64).toInt64)) ^^^ ((x0.toUInt64 >>> ((62 : Int32) &&& 0x3f).toInt64.toUInt64).toInt64)) * (own_inv (-7723592293110705685 : Int64))) ^^^ (((((x0 ^^^ ((x0.toUInt64 >>> ((31 : Int32) &&& 0x3f).toInt64.toUInt64).toInt64)) ^^^ ((x0.toUInt64 >>> ((62 : Int32) &&& 0x3f).toInt64.toUInt64).toInt64)) * (own_inv (-7723592293110705685 : Int64))).toUInt64 >>> ((27 : Int32) &&& 0x3f).toInt64.toUInt64).toInt64)) ^^^ (((((x0 ^^^ ((x0.toUInt64 >>> ((31 : Int32) &&& 0x3f).toInt64.toUInt64).toInt64)) ^^^ ((x0.toUInt64 >>> ((62 : Int32) &&& 0x3f).toInt64.toUInt64).toInt64)) * (own_inv (-7723592293110705685 : Int64))).toUInt64 >>> ((54 : Int32) &&& 0x3f).toInt64.toUInt64).toInt64)))])) _
    refine XS.lstoreN X1.here hx rfl (hb hby d4_32) rfl (l' := #[lv (((((x0 ^^^ ((x0.toUInt64 >>> ((31 : Int32) &&& 0x3f).toInt64.toUInt64).toInt64)) ^^^ ((x0.toUInt64 >>> ((62 : Int32) &&& 0x3f).toInt64.toUInt64).toInt64)) * (own_inv (-7723592293110705685 : Int64))) ^^^ (((((x0 ^^^ ((x0.toUInt64 >>> ((31 : Int32) &&& 0x3f).toInt64.toUInt64).toInt64)) ^^^ ((x0.toUInt64 >>> ((62 : Int32) &&& 0x3f).toInt64.toUInt64).toInt64)) * (own_inv (-7723592293110705685 : Int64))).toUInt64 >>> ((27 : Int32) &&& 0x3f).toInt64.toUInt64).toInt64)) ^^^ (((((x0 ^^^ ((x0.toUInt64 >>> ((31 : Int32) &&& 0x3f).toInt64.toUInt64).toInt64)) ^^^ ((x0.toUInt64 >>> ((62 : Int32) &&& 0x3f).toInt64.toUInt64).toInt64)) * (own_inv (-7723592293110705685 : Int64))).toUInt64 >>> ((54 : Int32) &&& 0x3f).toInt64.toUInt64).toInt64)), .second]) rfl ?_
    exact k)
  obtain ⟨_, _, ⟨T3, L3, k3, n3⟩, -, X3, ⟨Lc3, hQ3, l3, y3, z3⟩, st3⟩ := Jvm.LawKit.callS X1 hx (y := (⟨"com/example/termweave/termweave/sample/SplitMix64NextLongPinLaw", "inv", "(J)J"⟩ : MethodName)) hown (mvT hZ (hw _ (im 24 rfl))) (mvT hZ (hw _ (im 25 rfl))) (mvT hZ (hw _ (im 21 rfl))) (mvT hZ (hw _ (im 26 rfl))) (by decide) (backOf (W := 2) (rm5 l Z a0 hw [] (-4658895280553007687 : Int64) h0 n0 Z0 ) hZ (hw _ (im 26 rfl)) (hw _ (im 21 rfl)) (by decide) (by decide)) (g := (mkF m 37 #[lv (((((x0 ^^^ ((x0.toUInt64 >>> ((31 : Int32) &&& 0x3f).toInt64.toUInt64).toInt64)) ^^^ ((x0.toUInt64 >>> ((62 : Int32) &&& 0x3f).toInt64.toUInt64).toInt64)) * (own_inv (-7723592293110705685 : Int64))) ^^^ (((((x0 ^^^ ((x0.toUInt64 >>> ((31 : Int32) &&& 0x3f).toInt64.toUInt64).toInt64)) ^^^ ((x0.toUInt64 >>> ((62 : Int32) &&& 0x3f).toInt64.toUInt64).toInt64)) * (own_inv (-7723592293110705685 : Int64))).toUInt64 >>> ((27 : Int32) &&& 0x3f).toInt64.toUInt64).toInt64)) ^^^ (((((x0 ^^^ ((x0.toUInt64 >>> ((31 : Int32) &&& 0x3f).toInt64.toUInt64).toInt64)) ^^^ ((x0.toUInt64 >>> ((62 : Int32) &&& 0x3f).toInt64.toUInt64).toInt64)) * (own_inv (-7723592293110705685 : Int64))).toUInt64 >>> ((54 : Int32) &&& 0x3f).toInt64.toUInt64).toInt64)), .second] [(.long (-4658895280553007687)), (.long (((((x0 ^^^ ((x0.toUInt64 >>> ((31 : Int32) &&& 0x3f).toInt64.toUInt64).toInt64)) ^^^ ((x0.toUInt64 >>> ((62 : Int32) &&& 0x3f).toInt64.toUInt64).toInt64)) * (own_inv (-7723592293110705685 : Int64))) ^^^ (((((x0 ^^^ ((x0.toUInt64 >>> ((31 : Int32) &&& 0x3f).toInt64.toUInt64).toInt64)) ^^^ ((x0.toUInt64 >>> ((62 : Int32) &&& 0x3f).toInt64.toUInt64).toInt64)) * (own_inv (-7723592293110705685 : Int64))).toUInt64 >>> ((27 : Int32) &&& 0x3f).toInt64.toUInt64).toInt64)) ^^^ (((((x0 ^^^ ((x0.toUInt64 >>> ((31 : Int32) &&& 0x3f).toInt64.toUInt64).toInt64)) ^^^ ((x0.toUInt64 >>> ((62 : Int32) &&& 0x3f).toInt64.toUInt64).toInt64)) * (own_inv (-7723592293110705685 : Int64))).toUInt64 >>> ((54 : Int32) &&& 0x3f).toInt64.toUInt64).toInt64)))])) rfl (by rw [hml]; rfl) (argsL := [(.long (-4658895280553007687))]) (rest := [(.long (((((x0 ^^^ ((x0.toUInt64 >>> ((31 : Int32) &&& 0x3f).toInt64.toUInt64).toInt64)) ^^^ ((x0.toUInt64 >>> ((62 : Int32) &&& 0x3f).toInt64.toUInt64).toInt64)) * (own_inv (-7723592293110705685 : Int64))) ^^^ (((((x0 ^^^ ((x0.toUInt64 >>> ((31 : Int32) &&& 0x3f).toInt64.toUInt64).toInt64)) ^^^ ((x0.toUInt64 >>> ((62 : Int32) &&& 0x3f).toInt64.toUInt64).toInt64)) * (own_inv (-7723592293110705685 : Int64))).toUInt64 >>> ((27 : Int32) &&& 0x3f).toInt64.toUInt64).toInt64)) ^^^ (((((x0 ^^^ ((x0.toUInt64 >>> ((31 : Int32) &&& 0x3f).toInt64.toUInt64).toInt64)) ^^^ ((x0.toUInt64 >>> ((62 : Int32) &&& 0x3f).toInt64.toUInt64).toInt64)) * (own_inv (-7723592293110705685 : Int64))).toUInt64 >>> ((54 : Int32) &&& 0x3f).toInt64.toUInt64).toInt64)))]) (lenOf pd_0 rfl) rfl (by show 2 * 0 + _ ≤ _; exact Nat.le_of_eq rfl) (hb hby d4_37) (fun _ _ => ⟨rfl, e1, (by decide : 0 + 0 ≤ _), (by decide : 0 + 0 ≤ _)⟩)
  dsimp only [Pt.U, Pt.locs, Pt.cells, Pt.slots] at X3 l3 y3 z3 st3 hQ3
  subst l3 y3 z3
  obtain ⟨rfl, N3q, e3⟩ := hQ3
  have N3 := Fr.app N1 N3q
  have P4 := own_go P2 (S' := T3.setTop (mkF m 55 #[lv ((((((((x0 ^^^ ((x0.toUInt64 >>> ((31 : Int32) &&& 0x3f).toInt64.toUInt64).toInt64)) ^^^ ((x0.toUInt64 >>> ((62 : Int32) &&& 0x3f).toInt64.toUInt64).toInt64)) * (own_inv (-7723592293110705685 : Int64))) ^^^ (((((x0 ^^^ ((x0.toUInt64 >>> ((31 : Int32) &&& 0x3f).toInt64.toUInt64).toInt64)) ^^^ ((x0.toUInt64 >>> ((62 : Int32) &&& 0x3f).toInt64.toUInt64).toInt64)) * (own_inv (-7723592293110705685 : Int64))).toUInt64 >>> ((27 : Int32) &&& 0x3f).toInt64.toUInt64).toInt64)) ^^^ (((((x0 ^^^ ((x0.toUInt64 >>> ((31 : Int32) &&& 0x3f).toInt64.toUInt64).toInt64)) ^^^ ((x0.toUInt64 >>> ((62 : Int32) &&& 0x3f).toInt64.toUInt64).toInt64)) * (own_inv (-7723592293110705685 : Int64))).toUInt64 >>> ((54 : Int32) &&& 0x3f).toInt64.toUInt64).toInt64)) * (own_inv (-4658895280553007687 : Int64))) ^^^ ((((((((x0 ^^^ ((x0.toUInt64 >>> ((31 : Int32) &&& 0x3f).toInt64.toUInt64).toInt64)) ^^^ ((x0.toUInt64 >>> ((62 : Int32) &&& 0x3f).toInt64.toUInt64).toInt64)) * (own_inv (-7723592293110705685 : Int64))) ^^^ (((((x0 ^^^ ((x0.toUInt64 >>> ((31 : Int32) &&& 0x3f).toInt64.toUInt64).toInt64)) ^^^ ((x0.toUInt64 >>> ((62 : Int32) &&& 0x3f).toInt64.toUInt64).toInt64)) * (own_inv (-7723592293110705685 : Int64))).toUInt64 >>> ((27 : Int32) &&& 0x3f).toInt64.toUInt64).toInt64)) ^^^ (((((x0 ^^^ ((x0.toUInt64 >>> ((31 : Int32) &&& 0x3f).toInt64.toUInt64).toInt64)) ^^^ ((x0.toUInt64 >>> ((62 : Int32) &&& 0x3f).toInt64.toUInt64).toInt64)) * (own_inv (-7723592293110705685 : Int64))).toUInt64 >>> ((54 : Int32) &&& 0x3f).toInt64.toUInt64).toInt64)) * (own_inv (-4658895280553007687 : Int64))).toUInt64 >>> ((30 : Int32) &&& 0x3f).toInt64.toUInt64).toInt64)) ^^^ ((((((((x0 ^^^ ((x0.toUInt64 >>> ((31 : Int32) &&& 0x3f).toInt64.toUInt64).toInt64)) ^^^ ((x0.toUInt64 >>> ((62 : Int32) &&& 0x3f).toInt64.toUInt64).toInt64)) * (own_inv (-7723592293110705685 : Int64))) ^^^ (((((x0 ^^^ ((x0.toUInt64 >>> ((31 : Int32) &&& 0x3f).toInt64.toUInt64).toInt64)) ^^^ ((x0.toUInt64 >>> ((62 : Int32) &&& 0x3f).toInt64.toUInt64).toInt64)) * (own_inv (-7723592293110705685 : Int64))).toUInt64 >>> ((27 : Int32) &&& 0x3f).toInt64.toUInt64).toInt64)) ^^^ (((((x0 ^^^ ((x0.toUInt64 >>> ((31 : Int32) &&& 0x3f).toInt64.toUInt64).toInt64)) ^^^ ((x0.toUInt64 >>> ((62 : Int32) &&& 0x3f).toInt64.toUInt64).toInt64)) * (own_inv (-7723592293110705685 : Int64))).toUInt64 >>> ((54 : Int32) &&& 0x3f).toInt64.toUInt64).toInt64)) * (own_inv (-4658895280553007687 : Int64))).toUInt64 >>> ((60 : Int32) &&& 0x3f).toInt64.toUInt64).toInt64)), .second] [(.long ((((((((x0 ^^^ ((x0.toUInt64 >>> ((31 : Int32) &&& 0x3f).toInt64.toUInt64).toInt64)) ^^^ ((x0.toUInt64 >>> ((62 : Int32) &&& 0x3f).toInt64.toUInt64).toInt64)) * (own_inv (-7723592293110705685 : Int64))) ^^^ (((((x0 ^^^ ((x0.toUInt64 >>> ((31 : Int32) &&& 0x3f).toInt64.toUInt64).toInt64)) ^^^ ((x0.toUInt64 >>> ((62 : Int32) &&& 0x3f).toInt64.toUInt64).toInt64)) * (own_inv (-7723592293110705685 : Int64))).toUInt64 >>> ((27 : Int32) &&& 0x3f).toInt64.toUInt64).toInt64)) ^^^ (((((x0 ^^^ ((x0.toUInt64 >>> ((31 : Int32) &&& 0x3f).toInt64.toUInt64).toInt64)) ^^^ ((x0.toUInt64 >>> ((62 : Int32) &&& 0x3f).toInt64.toUInt64).toInt64)) * (own_inv (-7723592293110705685 : Int64))).toUInt64 >>> ((54 : Int32) &&& 0x3f).toInt64.toUInt64).toInt64)) * (own_inv (-4658895280553007687 : Int64))) ^^^ ((((((((x0 ^^^ ((x0.toUInt64 >>> ((31 : Int32) &&& 0x3f).toInt64.toUInt64).toInt64)) ^^^ ((x0.toUInt64 >>> ((62 : Int32) &&& 0x3f).toInt64.toUInt64).toInt64)) * (own_inv (-7723592293110705685 : Int64))) ^^^ (((((x0 ^^^ ((x0.toUInt64 >>> ((31 : Int32) &&& 0x3f).toInt64.toUInt64).toInt64)) ^^^ ((x0.toUInt64 >>> ((62 : Int32) &&& 0x3f).toInt64.toUInt64).toInt64)) * (own_inv (-7723592293110705685 : Int64))).toUInt64 >>> ((27 : Int32) &&& 0x3f).toInt64.toUInt64).toInt64)) ^^^ (((((x0 ^^^ ((x0.toUInt64 >>> ((31 : Int32) &&& 0x3f).toInt64.toUInt64).toInt64)) ^^^ ((x0.toUInt64 >>> ((62 : Int32) &&& 0x3f).toInt64.toUInt64).toInt64)) * (own_inv (-7723592293110705685 : Int64))).toUInt64 >>> ((54 : Int32) &&& 0x3f).toInt64.toUInt64).toInt64)) * (own_inv (-4658895280553007687 : Int64))).toUInt64 >>> ((30 : Int32) &&& 0x3f).toInt64.toUInt64).toInt64)) ^^^ ((((((((x0 ^^^ ((x0.toUInt64 >>> ((31 : Int32) &&& 0x3f).toInt64.toUInt64).toInt64)) ^^^ ((x0.toUInt64 >>> ((62 : Int32) &&& 0x3f).toInt64.toUInt64).toInt64)) * (own_inv (-7723592293110705685 : Int64))) ^^^ (((((x0 ^^^ ((x0.toUInt64 >>> ((31 : Int32) &&& 0x3f).toInt64.toUInt64).toInt64)) ^^^ ((x0.toUInt64 >>> ((62 : Int32) &&& 0x3f).toInt64.toUInt64).toInt64)) * (own_inv (-7723592293110705685 : Int64))).toUInt64 >>> ((27 : Int32) &&& 0x3f).toInt64.toUInt64).toInt64)) ^^^ (((((x0 ^^^ ((x0.toUInt64 >>> ((31 : Int32) &&& 0x3f).toInt64.toUInt64).toInt64)) ^^^ ((x0.toUInt64 >>> ((62 : Int32) &&& 0x3f).toInt64.toUInt64).toInt64)) * (own_inv (-7723592293110705685 : Int64))).toUInt64 >>> ((54 : Int32) &&& 0x3f).toInt64.toUInt64).toInt64)) * (own_inv (-4658895280553007687 : Int64))).toUInt64 >>> ((60 : Int32) &&& 0x3f).toInt64.toUInt64).toInt64)))])) (by
    intro t k
    refine XS.lloadN X1.here hx rfl (hb hby d4_33) rfl ?_
    refine X1.ldc2Long hx hown (mvT hZ (hw _ (im 28 rfl))) (g := (mkF m 34 #[lv (((((x0 ^^^ ((x0.toUInt64 >>> ((31 : Int32) &&& 0x3f).toInt64.toUInt64).toInt64)) ^^^ ((x0.toUInt64 >>> ((62 : Int32) &&& 0x3f).toInt64.toUInt64).toInt64)) * (own_inv (-7723592293110705685 : Int64))) ^^^ (((((x0 ^^^ ((x0.toUInt64 >>> ((31 : Int32) &&& 0x3f).toInt64.toUInt64).toInt64)) ^^^ ((x0.toUInt64 >>> ((62 : Int32) &&& 0x3f).toInt64.toUInt64).toInt64)) * (own_inv (-7723592293110705685 : Int64))).toUInt64 >>> ((27 : Int32) &&& 0x3f).toInt64.toUInt64).toInt64)) ^^^ (((((x0 ^^^ ((x0.toUInt64 >>> ((31 : Int32) &&& 0x3f).toInt64.toUInt64).toInt64)) ^^^ ((x0.toUInt64 >>> ((62 : Int32) &&& 0x3f).toInt64.toUInt64).toInt64)) * (own_inv (-7723592293110705685 : Int64))).toUInt64 >>> ((54 : Int32) &&& 0x3f).toInt64.toUInt64).toInt64)), .second] [(.long (((((x0 ^^^ ((x0.toUInt64 >>> ((31 : Int32) &&& 0x3f).toInt64.toUInt64).toInt64)) ^^^ ((x0.toUInt64 >>> ((62 : Int32) &&& 0x3f).toInt64.toUInt64).toInt64)) * (own_inv (-7723592293110705685 : Int64))) ^^^ (((((x0 ^^^ ((x0.toUInt64 >>> ((31 : Int32) &&& 0x3f).toInt64.toUInt64).toInt64)) ^^^ ((x0.toUInt64 >>> ((62 : Int32) &&& 0x3f).toInt64.toUInt64).toInt64)) * (own_inv (-7723592293110705685 : Int64))).toUInt64 >>> ((27 : Int32) &&& 0x3f).toInt64.toUInt64).toInt64)) ^^^ (((((x0 ^^^ ((x0.toUInt64 >>> ((31 : Int32) &&& 0x3f).toInt64.toUInt64).toInt64)) ^^^ ((x0.toUInt64 >>> ((62 : Int32) &&& 0x3f).toInt64.toUInt64).toInt64)) * (own_inv (-7723592293110705685 : Int64))).toUInt64 >>> ((54 : Int32) &&& 0x3f).toInt64.toUInt64).toInt64)))])) rfl (hb hby d4_34) _ ?_
    refine st3 _ ?_
    refine XS.lmul X3.here hx rfl (hb hby d4_40) rfl ?_
    refine XS.lstoreN X3.here hx rfl (hb hby d4_41) rfl (l' := #[lv ((((((x0 ^^^ ((x0.toUInt64 >>> ((31 : Int32) &&& 0x3f).toInt64.toUInt64).toInt64)) ^^^ ((x0.toUInt64 >>> ((62 : Int32) &&& 0x3f).toInt64.toUInt64).toInt64)) * (own_inv (-7723592293110705685 : Int64))) ^^^ (((((x0 ^^^ ((x0.toUInt64 >>> ((31 : Int32) &&& 0x3f).toInt64.toUInt64).toInt64)) ^^^ ((x0.toUInt64 >>> ((62 : Int32) &&& 0x3f).toInt64.toUInt64).toInt64)) * (own_inv (-7723592293110705685 : Int64))).toUInt64 >>> ((27 : Int32) &&& 0x3f).toInt64.toUInt64).toInt64)) ^^^ (((((x0 ^^^ ((x0.toUInt64 >>> ((31 : Int32) &&& 0x3f).toInt64.toUInt64).toInt64)) ^^^ ((x0.toUInt64 >>> ((62 : Int32) &&& 0x3f).toInt64.toUInt64).toInt64)) * (own_inv (-7723592293110705685 : Int64))).toUInt64 >>> ((54 : Int32) &&& 0x3f).toInt64.toUInt64).toInt64)) * (own_inv (-4658895280553007687 : Int64))), .second]) rfl ?_
    refine XS.lloadN X3.here hx rfl (hb hby d4_42) rfl ?_
    refine XS.lloadN X3.here hx rfl (hb hby d4_43) rfl ?_
    refine XS.bipush X3.here hx rfl (hb hby d4_44) ?_
    show Steps p.tables e below (T3.setTop (mkF m 46 #[lv ((((((x0 ^^^ ((x0.toUInt64 >>> ((31 : Int32) &&& 0x3f).toInt64.toUInt64).toInt64)) ^^^ ((x0.toUInt64 >>> ((62 : Int32) &&& 0x3f).toInt64.toUInt64).toInt64)) * (own_inv (-7723592293110705685 : Int64))) ^^^ (((((x0 ^^^ ((x0.toUInt64 >>> ((31 : Int32) &&& 0x3f).toInt64.toUInt64).toInt64)) ^^^ ((x0.toUInt64 >>> ((62 : Int32) &&& 0x3f).toInt64.toUInt64).toInt64)) * (own_inv (-7723592293110705685 : Int64))).toUInt64 >>> ((27 : Int32) &&& 0x3f).toInt64.toUInt64).toInt64)) ^^^ (((((x0 ^^^ ((x0.toUInt64 >>> ((31 : Int32) &&& 0x3f).toInt64.toUInt64).toInt64)) ^^^ ((x0.toUInt64 >>> ((62 : Int32) &&& 0x3f).toInt64.toUInt64).toInt64)) * (own_inv (-7723592293110705685 : Int64))).toUInt64 >>> ((54 : Int32) &&& 0x3f).toInt64.toUInt64).toInt64)) * (own_inv (-4658895280553007687 : Int64))), .second] [(.int 30), (.long ((((((x0 ^^^ ((x0.toUInt64 >>> ((31 : Int32) &&& 0x3f).toInt64.toUInt64).toInt64)) ^^^ ((x0.toUInt64 >>> ((62 : Int32) &&& 0x3f).toInt64.toUInt64).toInt64)) * (own_inv (-7723592293110705685 : Int64))) ^^^ (((((x0 ^^^ ((x0.toUInt64 >>> ((31 : Int32) &&& 0x3f).toInt64.toUInt64).toInt64)) ^^^ ((x0.toUInt64 >>> ((62 : Int32) &&& 0x3f).toInt64.toUInt64).toInt64)) * (own_inv (-7723592293110705685 : Int64))).toUInt64 >>> ((27 : Int32) &&& 0x3f).toInt64.toUInt64).toInt64)) ^^^ (((((x0 ^^^ ((x0.toUInt64 >>> ((31 : Int32) &&& 0x3f).toInt64.toUInt64).toInt64)) ^^^ ((x0.toUInt64 >>> ((62 : Int32) &&& 0x3f).toInt64.toUInt64).toInt64)) * (own_inv (-7723592293110705685 : Int64))).toUInt64 >>> ((54 : Int32) &&& 0x3f).toInt64.toUInt64).toInt64)) * (own_inv (-4658895280553007687 : Int64)))), (.long ((((((x0 ^^^ ((x0.toUInt64 >>> ((31 : Int32) &&& 0x3f).toInt64.toUInt64).toInt64)) ^^^ ((x0.toUInt64 >>> ((62 : Int32) &&& 0x3f).toInt64.toUInt64).toInt64)) * (own_inv (-7723592293110705685 : Int64))) ^^^ (((((x0 ^^^ ((x0.toUInt64 >>> ((31 : Int32) &&& 0x3f).toInt64.toUInt64).toInt64)) ^^^ ((x0.toUInt64 >>> ((62 : Int32) &&& 0x3f).toInt64.toUInt64).toInt64)) * (own_inv (-7723592293110705685 : Int64))).toUInt64 >>> ((27 : Int32) &&& 0x3f).toInt64.toUInt64).toInt64)) ^^^ (((((x0 ^^^ ((x0.toUInt64 >>> ((31 : Int32) &&& 0x3f).toInt64.toUInt64).toInt64)) ^^^ ((x0.toUInt64 >>> ((62 : Int32) &&& 0x3f).toInt64.toUInt64).toInt64)) * (own_inv (-7723592293110705685 : Int64))).toUInt64 >>> ((54 : Int32) &&& 0x3f).toInt64.toUInt64).toInt64)) * (own_inv (-4658895280553007687 : Int64))))])) _
    refine XS.lushr X3.here hx rfl (hb hby d4_46) rfl ?_
    refine XS.lxor X3.here hx rfl (hb hby d4_47) rfl ?_
    refine XS.lloadN X3.here hx rfl (hb hby d4_48) rfl ?_
    refine XS.bipush X3.here hx rfl (hb hby d4_49) ?_
    refine XS.lushr X3.here hx rfl (hb hby d4_51) rfl ?_
    refine XS.lxor X3.here hx rfl (hb hby d4_52) rfl ?_
    refine XS.lstoreN X3.here hx rfl (hb hby d4_53) rfl (l' := #[lv ((((((((x0 ^^^ ((x0.toUInt64 >>> ((31 : Int32) &&& 0x3f).toInt64.toUInt64).toInt64)) ^^^ ((x0.toUInt64 >>> ((62 : Int32) &&& 0x3f).toInt64.toUInt64).toInt64)) * (own_inv (-7723592293110705685 : Int64))) ^^^ (((((x0 ^^^ ((x0.toUInt64 >>> ((31 : Int32) &&& 0x3f).toInt64.toUInt64).toInt64)) ^^^ ((x0.toUInt64 >>> ((62 : Int32) &&& 0x3f).toInt64.toUInt64).toInt64)) * (own_inv (-7723592293110705685 : Int64))).toUInt64 >>> ((27 : Int32) &&& 0x3f).toInt64.toUInt64).toInt64)) ^^^ (((((x0 ^^^ ((x0.toUInt64 >>> ((31 : Int32) &&& 0x3f).toInt64.toUInt64).toInt64)) ^^^ ((x0.toUInt64 >>> ((62 : Int32) &&& 0x3f).toInt64.toUInt64).toInt64)) * (own_inv (-7723592293110705685 : Int64))).toUInt64 >>> ((54 : Int32) &&& 0x3f).toInt64.toUInt64).toInt64)) * (own_inv (-4658895280553007687 : Int64))) ^^^ ((((((((x0 ^^^ ((x0.toUInt64 >>> ((31 : Int32) &&& 0x3f).toInt64.toUInt64).toInt64)) ^^^ ((x0.toUInt64 >>> ((62 : Int32) &&& 0x3f).toInt64.toUInt64).toInt64)) * (own_inv (-7723592293110705685 : Int64))) ^^^ (((((x0 ^^^ ((x0.toUInt64 >>> ((31 : Int32) &&& 0x3f).toInt64.toUInt64).toInt64)) ^^^ ((x0.toUInt64 >>> ((62 : Int32) &&& 0x3f).toInt64.toUInt64).toInt64)) * (own_inv (-7723592293110705685 : Int64))).toUInt64 >>> ((27 : Int32) &&& 0x3f).toInt64.toUInt64).toInt64)) ^^^ (((((x0 ^^^ ((x0.toUInt64 >>> ((31 : Int32) &&& 0x3f).toInt64.toUInt64).toInt64)) ^^^ ((x0.toUInt64 >>> ((62 : Int32) &&& 0x3f).toInt64.toUInt64).toInt64)) * (own_inv (-7723592293110705685 : Int64))).toUInt64 >>> ((54 : Int32) &&& 0x3f).toInt64.toUInt64).toInt64)) * (own_inv (-4658895280553007687 : Int64))).toUInt64 >>> ((30 : Int32) &&& 0x3f).toInt64.toUInt64).toInt64)) ^^^ ((((((((x0 ^^^ ((x0.toUInt64 >>> ((31 : Int32) &&& 0x3f).toInt64.toUInt64).toInt64)) ^^^ ((x0.toUInt64 >>> ((62 : Int32) &&& 0x3f).toInt64.toUInt64).toInt64)) * (own_inv (-7723592293110705685 : Int64))) ^^^ (((((x0 ^^^ ((x0.toUInt64 >>> ((31 : Int32) &&& 0x3f).toInt64.toUInt64).toInt64)) ^^^ ((x0.toUInt64 >>> ((62 : Int32) &&& 0x3f).toInt64.toUInt64).toInt64)) * (own_inv (-7723592293110705685 : Int64))).toUInt64 >>> ((27 : Int32) &&& 0x3f).toInt64.toUInt64).toInt64)) ^^^ (((((x0 ^^^ ((x0.toUInt64 >>> ((31 : Int32) &&& 0x3f).toInt64.toUInt64).toInt64)) ^^^ ((x0.toUInt64 >>> ((62 : Int32) &&& 0x3f).toInt64.toUInt64).toInt64)) * (own_inv (-7723592293110705685 : Int64))).toUInt64 >>> ((54 : Int32) &&& 0x3f).toInt64.toUInt64).toInt64)) * (own_inv (-4658895280553007687 : Int64))).toUInt64 >>> ((60 : Int32) &&& 0x3f).toInt64.toUInt64).toInt64)), .second]) rfl ?_
    refine XS.lloadN X3.here hx rfl (hb hby d4_54) rfl ?_
    show Steps p.tables e below (T3.setTop (mkF m 55 #[lv ((((((((x0 ^^^ ((x0.toUInt64 >>> ((31 : Int32) &&& 0x3f).toInt64.toUInt64).toInt64)) ^^^ ((x0.toUInt64 >>> ((62 : Int32) &&& 0x3f).toInt64.toUInt64).toInt64)) * (own_inv (-7723592293110705685 : Int64))) ^^^ (((((x0 ^^^ ((x0.toUInt64 >>> ((31 : Int32) &&& 0x3f).toInt64.toUInt64).toInt64)) ^^^ ((x0.toUInt64 >>> ((62 : Int32) &&& 0x3f).toInt64.toUInt64).toInt64)) * (own_inv (-7723592293110705685 : Int64))).toUInt64 >>> ((27 : Int32) &&& 0x3f).toInt64.toUInt64).toInt64)) ^^^ (((((x0 ^^^ ((x0.toUInt64 >>> ((31 : Int32) &&& 0x3f).toInt64.toUInt64).toInt64)) ^^^ ((x0.toUInt64 >>> ((62 : Int32) &&& 0x3f).toInt64.toUInt64).toInt64)) * (own_inv (-7723592293110705685 : Int64))).toUInt64 >>> ((54 : Int32) &&& 0x3f).toInt64.toUInt64).toInt64)) * (own_inv (-4658895280553007687 : Int64))) ^^^ ((((((((x0 ^^^ ((x0.toUInt64 >>> ((31 : Int32) &&& 0x3f).toInt64.toUInt64).toInt64)) ^^^ ((x0.toUInt64 >>> ((62 : Int32) &&& 0x3f).toInt64.toUInt64).toInt64)) * (own_inv (-7723592293110705685 : Int64))) ^^^ (((((x0 ^^^ ((x0.toUInt64 >>> ((31 : Int32) &&& 0x3f).toInt64.toUInt64).toInt64)) ^^^ ((x0.toUInt64 >>> ((62 : Int32) &&& 0x3f).toInt64.toUInt64).toInt64)) * (own_inv (-7723592293110705685 : Int64))).toUInt64 >>> ((27 : Int32) &&& 0x3f).toInt64.toUInt64).toInt64)) ^^^ (((((x0 ^^^ ((x0.toUInt64 >>> ((31 : Int32) &&& 0x3f).toInt64.toUInt64).toInt64)) ^^^ ((x0.toUInt64 >>> ((62 : Int32) &&& 0x3f).toInt64.toUInt64).toInt64)) * (own_inv (-7723592293110705685 : Int64))).toUInt64 >>> ((54 : Int32) &&& 0x3f).toInt64.toUInt64).toInt64)) * (own_inv (-4658895280553007687 : Int64))).toUInt64 >>> ((30 : Int32) &&& 0x3f).toInt64.toUInt64).toInt64)) ^^^ ((((((((x0 ^^^ ((x0.toUInt64 >>> ((31 : Int32) &&& 0x3f).toInt64.toUInt64).toInt64)) ^^^ ((x0.toUInt64 >>> ((62 : Int32) &&& 0x3f).toInt64.toUInt64).toInt64)) * (own_inv (-7723592293110705685 : Int64))) ^^^ (((((x0 ^^^ ((x0.toUInt64 >>> ((31 : Int32) &&& 0x3f).toInt64.toUInt64).toInt64)) ^^^ ((x0.toUInt64 >>> ((62 : Int32) &&& 0x3f).toInt64.toUInt64).toInt64)) * (own_inv (-7723592293110705685 : Int64))).toUInt64 >>> ((27 : Int32) &&& 0x3f).toInt64.toUInt64).toInt64)) ^^^ (((((x0 ^^^ ((x0.toUInt64 >>> ((31 : Int32) &&& 0x3f).toInt64.toUInt64).toInt64)) ^^^ ((x0.toUInt64 >>> ((62 : Int32) &&& 0x3f).toInt64.toUInt64).toInt64)) * (own_inv (-7723592293110705685 : Int64))).toUInt64 >>> ((54 : Int32) &&& 0x3f).toInt64.toUInt64).toInt64)) * (own_inv (-4658895280553007687 : Int64))).toUInt64 >>> ((60 : Int32) &&& 0x3f).toInt64.toUInt64).toInt64)), .second] [(.long ((((((((x0 ^^^ ((x0.toUInt64 >>> ((31 : Int32) &&& 0x3f).toInt64.toUInt64).toInt64)) ^^^ ((x0.toUInt64 >>> ((62 : Int32) &&& 0x3f).toInt64.toUInt64).toInt64)) * (own_inv (-7723592293110705685 : Int64))) ^^^ (((((x0 ^^^ ((x0.toUInt64 >>> ((31 : Int32) &&& 0x3f).toInt64.toUInt64).toInt64)) ^^^ ((x0.toUInt64 >>> ((62 : Int32) &&& 0x3f).toInt64.toUInt64).toInt64)) * (own_inv (-7723592293110705685 : Int64))).toUInt64 >>> ((27 : Int32) &&& 0x3f).toInt64.toUInt64).toInt64)) ^^^ (((((x0 ^^^ ((x0.toUInt64 >>> ((31 : Int32) &&& 0x3f).toInt64.toUInt64).toInt64)) ^^^ ((x0.toUInt64 >>> ((62 : Int32) &&& 0x3f).toInt64.toUInt64).toInt64)) * (own_inv (-7723592293110705685 : Int64))).toUInt64 >>> ((54 : Int32) &&& 0x3f).toInt64.toUInt64).toInt64)) * (own_inv (-4658895280553007687 : Int64))) ^^^ ((((((((x0 ^^^ ((x0.toUInt64 >>> ((31 : Int32) &&& 0x3f).toInt64.toUInt64).toInt64)) ^^^ ((x0.toUInt64 >>> ((62 : Int32) &&& 0x3f).toInt64.toUInt64).toInt64)) * (own_inv (-7723592293110705685 : Int64))) ^^^ (((((x0 ^^^ ((x0.toUInt64 >>> ((31 : Int32) &&& 0x3f).toInt64.toUInt64).toInt64)) ^^^ ((x0.toUInt64 >>> ((62 : Int32) &&& 0x3f).toInt64.toUInt64).toInt64)) * (own_inv (-7723592293110705685 : Int64))).toUInt64 >>> ((27 : Int32) &&& 0x3f).toInt64.toUInt64).toInt64)) ^^^ (((((x0 ^^^ ((x0.toUInt64 >>> ((31 : Int32) &&& 0x3f).toInt64.toUInt64).toInt64)) ^^^ ((x0.toUInt64 >>> ((62 : Int32) &&& 0x3f).toInt64.toUInt64).toInt64)) * (own_inv (-7723592293110705685 : Int64))).toUInt64 >>> ((54 : Int32) &&& 0x3f).toInt64.toUInt64).toInt64)) * (own_inv (-4658895280553007687 : Int64))).toUInt64 >>> ((30 : Int32) &&& 0x3f).toInt64.toUInt64).toInt64)) ^^^ ((((((((x0 ^^^ ((x0.toUInt64 >>> ((31 : Int32) &&& 0x3f).toInt64.toUInt64).toInt64)) ^^^ ((x0.toUInt64 >>> ((62 : Int32) &&& 0x3f).toInt64.toUInt64).toInt64)) * (own_inv (-7723592293110705685 : Int64))) ^^^ (((((x0 ^^^ ((x0.toUInt64 >>> ((31 : Int32) &&& 0x3f).toInt64.toUInt64).toInt64)) ^^^ ((x0.toUInt64 >>> ((62 : Int32) &&& 0x3f).toInt64.toUInt64).toInt64)) * (own_inv (-7723592293110705685 : Int64))).toUInt64 >>> ((27 : Int32) &&& 0x3f).toInt64.toUInt64).toInt64)) ^^^ (((((x0 ^^^ ((x0.toUInt64 >>> ((31 : Int32) &&& 0x3f).toInt64.toUInt64).toInt64)) ^^^ ((x0.toUInt64 >>> ((62 : Int32) &&& 0x3f).toInt64.toUInt64).toInt64)) * (own_inv (-7723592293110705685 : Int64))).toUInt64 >>> ((54 : Int32) &&& 0x3f).toInt64.toUInt64).toInt64)) * (own_inv (-4658895280553007687 : Int64))).toUInt64 >>> ((60 : Int32) &&& 0x3f).toInt64.toUInt64).toInt64)))])) _
    exact k)
  obtain ⟨fs, hr, hrun, hended, hW, hsame⟩ := X3.leave (v := some (.long ((((((((x0 ^^^ ((x0.toUInt64 >>> ((31 : Int32) &&& 0x3f).toInt64.toUInt64).toInt64)) ^^^ ((x0.toUInt64 >>> ((62 : Int32) &&& 0x3f).toInt64.toUInt64).toInt64)) * (own_inv (-7723592293110705685 : Int64))) ^^^ (((((x0 ^^^ ((x0.toUInt64 >>> ((31 : Int32) &&& 0x3f).toInt64.toUInt64).toInt64)) ^^^ ((x0.toUInt64 >>> ((62 : Int32) &&& 0x3f).toInt64.toUInt64).toInt64)) * (own_inv (-7723592293110705685 : Int64))).toUInt64 >>> ((27 : Int32) &&& 0x3f).toInt64.toUInt64).toInt64)) ^^^ (((((x0 ^^^ ((x0.toUInt64 >>> ((31 : Int32) &&& 0x3f).toInt64.toUInt64).toInt64)) ^^^ ((x0.toUInt64 >>> ((62 : Int32) &&& 0x3f).toInt64.toUInt64).toInt64)) * (own_inv (-7723592293110705685 : Int64))).toUInt64 >>> ((54 : Int32) &&& 0x3f).toInt64.toUInt64).toInt64)) * (own_inv (-4658895280553007687 : Int64))) ^^^ ((((((((x0 ^^^ ((x0.toUInt64 >>> ((31 : Int32) &&& 0x3f).toInt64.toUInt64).toInt64)) ^^^ ((x0.toUInt64 >>> ((62 : Int32) &&& 0x3f).toInt64.toUInt64).toInt64)) * (own_inv (-7723592293110705685 : Int64))) ^^^ (((((x0 ^^^ ((x0.toUInt64 >>> ((31 : Int32) &&& 0x3f).toInt64.toUInt64).toInt64)) ^^^ ((x0.toUInt64 >>> ((62 : Int32) &&& 0x3f).toInt64.toUInt64).toInt64)) * (own_inv (-7723592293110705685 : Int64))).toUInt64 >>> ((27 : Int32) &&& 0x3f).toInt64.toUInt64).toInt64)) ^^^ (((((x0 ^^^ ((x0.toUInt64 >>> ((31 : Int32) &&& 0x3f).toInt64.toUInt64).toInt64)) ^^^ ((x0.toUInt64 >>> ((62 : Int32) &&& 0x3f).toInt64.toUInt64).toInt64)) * (own_inv (-7723592293110705685 : Int64))).toUInt64 >>> ((54 : Int32) &&& 0x3f).toInt64.toUInt64).toInt64)) * (own_inv (-4658895280553007687 : Int64))).toUInt64 >>> ((30 : Int32) &&& 0x3f).toInt64.toUInt64).toInt64)) ^^^ ((((((((x0 ^^^ ((x0.toUInt64 >>> ((31 : Int32) &&& 0x3f).toInt64.toUInt64).toInt64)) ^^^ ((x0.toUInt64 >>> ((62 : Int32) &&& 0x3f).toInt64.toUInt64).toInt64)) * (own_inv (-7723592293110705685 : Int64))) ^^^ (((((x0 ^^^ ((x0.toUInt64 >>> ((31 : Int32) &&& 0x3f).toInt64.toUInt64).toInt64)) ^^^ ((x0.toUInt64 >>> ((62 : Int32) &&& 0x3f).toInt64.toUInt64).toInt64)) * (own_inv (-7723592293110705685 : Int64))).toUInt64 >>> ((27 : Int32) &&& 0x3f).toInt64.toUInt64).toInt64)) ^^^ (((((x0 ^^^ ((x0.toUInt64 >>> ((31 : Int32) &&& 0x3f).toInt64.toUInt64).toInt64)) ^^^ ((x0.toUInt64 >>> ((62 : Int32) &&& 0x3f).toInt64.toUInt64).toInt64)) * (own_inv (-7723592293110705685 : Int64))).toUInt64 >>> ((54 : Int32) &&& 0x3f).toInt64.toUInt64).toInt64)) * (own_inv (-4658895280553007687 : Int64))).toUInt64 >>> ((60 : Int32) &&& 0x3f).toInt64.toUInt64).toInt64)))) (fun h => by rw [Bd.returns] at h; cases h)
  refine ⟨_, _, P4 _ ?_, hrun, hended, _, _, rfl, ?_, ⟨_, rfl⟩, hW, hsame.mono (by decide) (by decide)⟩
  · show Steps p.tables e below (T3.setTop (mkF m 55 #[lv ((((((((x0 ^^^ ((x0.toUInt64 >>> ((31 : Int32) &&& 0x3f).toInt64.toUInt64).toInt64)) ^^^ ((x0.toUInt64 >>> ((62 : Int32) &&& 0x3f).toInt64.toUInt64).toInt64)) * (own_inv (-7723592293110705685 : Int64))) ^^^ (((((x0 ^^^ ((x0.toUInt64 >>> ((31 : Int32) &&& 0x3f).toInt64.toUInt64).toInt64)) ^^^ ((x0.toUInt64 >>> ((62 : Int32) &&& 0x3f).toInt64.toUInt64).toInt64)) * (own_inv (-7723592293110705685 : Int64))).toUInt64 >>> ((27 : Int32) &&& 0x3f).toInt64.toUInt64).toInt64)) ^^^ (((((x0 ^^^ ((x0.toUInt64 >>> ((31 : Int32) &&& 0x3f).toInt64.toUInt64).toInt64)) ^^^ ((x0.toUInt64 >>> ((62 : Int32) &&& 0x3f).toInt64.toUInt64).toInt64)) * (own_inv (-7723592293110705685 : Int64))).toUInt64 >>> ((54 : Int32) &&& 0x3f).toInt64.toUInt64).toInt64)) * (own_inv (-4658895280553007687 : Int64))) ^^^ ((((((((x0 ^^^ ((x0.toUInt64 >>> ((31 : Int32) &&& 0x3f).toInt64.toUInt64).toInt64)) ^^^ ((x0.toUInt64 >>> ((62 : Int32) &&& 0x3f).toInt64.toUInt64).toInt64)) * (own_inv (-7723592293110705685 : Int64))) ^^^ (((((x0 ^^^ ((x0.toUInt64 >>> ((31 : Int32) &&& 0x3f).toInt64.toUInt64).toInt64)) ^^^ ((x0.toUInt64 >>> ((62 : Int32) &&& 0x3f).toInt64.toUInt64).toInt64)) * (own_inv (-7723592293110705685 : Int64))).toUInt64 >>> ((27 : Int32) &&& 0x3f).toInt64.toUInt64).toInt64)) ^^^ (((((x0 ^^^ ((x0.toUInt64 >>> ((31 : Int32) &&& 0x3f).toInt64.toUInt64).toInt64)) ^^^ ((x0.toUInt64 >>> ((62 : Int32) &&& 0x3f).toInt64.toUInt64).toInt64)) * (own_inv (-7723592293110705685 : Int64))).toUInt64 >>> ((54 : Int32) &&& 0x3f).toInt64.toUInt64).toInt64)) * (own_inv (-4658895280553007687 : Int64))).toUInt64 >>> ((30 : Int32) &&& 0x3f).toInt64.toUInt64).toInt64)) ^^^ ((((((((x0 ^^^ ((x0.toUInt64 >>> ((31 : Int32) &&& 0x3f).toInt64.toUInt64).toInt64)) ^^^ ((x0.toUInt64 >>> ((62 : Int32) &&& 0x3f).toInt64.toUInt64).toInt64)) * (own_inv (-7723592293110705685 : Int64))) ^^^ (((((x0 ^^^ ((x0.toUInt64 >>> ((31 : Int32) &&& 0x3f).toInt64.toUInt64).toInt64)) ^^^ ((x0.toUInt64 >>> ((62 : Int32) &&& 0x3f).toInt64.toUInt64).toInt64)) * (own_inv (-7723592293110705685 : Int64))).toUInt64 >>> ((27 : Int32) &&& 0x3f).toInt64.toUInt64).toInt64)) ^^^ (((((x0 ^^^ ((x0.toUInt64 >>> ((31 : Int32) &&& 0x3f).toInt64.toUInt64).toInt64)) ^^^ ((x0.toUInt64 >>> ((62 : Int32) &&& 0x3f).toInt64.toUInt64).toInt64)) * (own_inv (-7723592293110705685 : Int64))).toUInt64 >>> ((54 : Int32) &&& 0x3f).toInt64.toUInt64).toInt64)) * (own_inv (-4658895280553007687 : Int64))).toUInt64 >>> ((60 : Int32) &&& 0x3f).toInt64.toUInt64).toInt64)), .second] [(.long ((((((((x0 ^^^ ((x0.toUInt64 >>> ((31 : Int32) &&& 0x3f).toInt64.toUInt64).toInt64)) ^^^ ((x0.toUInt64 >>> ((62 : Int32) &&& 0x3f).toInt64.toUInt64).toInt64)) * (own_inv (-7723592293110705685 : Int64))) ^^^ (((((x0 ^^^ ((x0.toUInt64 >>> ((31 : Int32) &&& 0x3f).toInt64.toUInt64).toInt64)) ^^^ ((x0.toUInt64 >>> ((62 : Int32) &&& 0x3f).toInt64.toUInt64).toInt64)) * (own_inv (-7723592293110705685 : Int64))).toUInt64 >>> ((27 : Int32) &&& 0x3f).toInt64.toUInt64).toInt64)) ^^^ (((((x0 ^^^ ((x0.toUInt64 >>> ((31 : Int32) &&& 0x3f).toInt64.toUInt64).toInt64)) ^^^ ((x0.toUInt64 >>> ((62 : Int32) &&& 0x3f).toInt64.toUInt64).toInt64)) * (own_inv (-7723592293110705685 : Int64))).toUInt64 >>> ((54 : Int32) &&& 0x3f).toInt64.toUInt64).toInt64)) * (own_inv (-4658895280553007687 : Int64))) ^^^ ((((((((x0 ^^^ ((x0.toUInt64 >>> ((31 : Int32) &&& 0x3f).toInt64.toUInt64).toInt64)) ^^^ ((x0.toUInt64 >>> ((62 : Int32) &&& 0x3f).toInt64.toUInt64).toInt64)) * (own_inv (-7723592293110705685 : Int64))) ^^^ (((((x0 ^^^ ((x0.toUInt64 >>> ((31 : Int32) &&& 0x3f).toInt64.toUInt64).toInt64)) ^^^ ((x0.toUInt64 >>> ((62 : Int32) &&& 0x3f).toInt64.toUInt64).toInt64)) * (own_inv (-7723592293110705685 : Int64))).toUInt64 >>> ((27 : Int32) &&& 0x3f).toInt64.toUInt64).toInt64)) ^^^ (((((x0 ^^^ ((x0.toUInt64 >>> ((31 : Int32) &&& 0x3f).toInt64.toUInt64).toInt64)) ^^^ ((x0.toUInt64 >>> ((62 : Int32) &&& 0x3f).toInt64.toUInt64).toInt64)) * (own_inv (-7723592293110705685 : Int64))).toUInt64 >>> ((54 : Int32) &&& 0x3f).toInt64.toUInt64).toInt64)) * (own_inv (-4658895280553007687 : Int64))).toUInt64 >>> ((30 : Int32) &&& 0x3f).toInt64.toUInt64).toInt64)) ^^^ ((((((((x0 ^^^ ((x0.toUInt64 >>> ((31 : Int32) &&& 0x3f).toInt64.toUInt64).toInt64)) ^^^ ((x0.toUInt64 >>> ((62 : Int32) &&& 0x3f).toInt64.toUInt64).toInt64)) * (own_inv (-7723592293110705685 : Int64))) ^^^ (((((x0 ^^^ ((x0.toUInt64 >>> ((31 : Int32) &&& 0x3f).toInt64.toUInt64).toInt64)) ^^^ ((x0.toUInt64 >>> ((62 : Int32) &&& 0x3f).toInt64.toUInt64).toInt64)) * (own_inv (-7723592293110705685 : Int64))).toUInt64 >>> ((27 : Int32) &&& 0x3f).toInt64.toUInt64).toInt64)) ^^^ (((((x0 ^^^ ((x0.toUInt64 >>> ((31 : Int32) &&& 0x3f).toInt64.toUInt64).toInt64)) ^^^ ((x0.toUInt64 >>> ((62 : Int32) &&& 0x3f).toInt64.toUInt64).toInt64)) * (own_inv (-7723592293110705685 : Int64))).toUInt64 >>> ((54 : Int32) &&& 0x3f).toInt64.toUInt64).toInt64)) * (own_inv (-4658895280553007687 : Int64))).toUInt64 >>> ((60 : Int32) &&& 0x3f).toInt64.toUInt64).toInt64)))])) _
    exact retOut X3 hx (t := .long) Bd.returns rfl (Or.inr (Or.inl ⟨rfl, rfl, _, rfl⟩)) (hb hby d4_55) hr
  · show Q4 Z x0 h0 n0 _ T3.heap _
    rw [e3]
    exact ⟨(rfl), N3, rfl⟩
def Q0 (Z : State) (x0 : Int64) (h0 : Heap) (n0 : Nat) (v : Option Value) (h : Heap) (L : List Loc) : Prop := v = some (.int 1) ∧ Fr n0 L
theorem ef_0 (m : MethodId) (x0 : Int64) : entryFrame m #[(.long x0)] maxLocals = mkF m 0 #[lv x0, .second, .unset, .unset, .unset, .unset, .unset, .unset, .unset] [] := by first | (simp [entryFrame, mkF, argsToLocals, Value.category, maxLocals]; done) | rfl
set_option maxRecDepth 65536 in
set_option maxHeartbeats 40000000 in
theorem rm0 (l : Launch) (Z : State) (a0 : Array Value) (hw : ∀ d ∈ tables_1, d.before a0 Z = true) (ws : List Jvm.Cond) (x0 : Int64) (h0 : Heap) (n0 : Nat) (Z0 : n0 ≤ h0.size) :
    MetFree l x (head1 (Jvm.Cond.code x code maxLocals ret :: ws) room_1) (fun a U => a = #[(.long x0)] ∧ Z.Warmed39 U.vm ∧ U.heap = h0) (fun _ _ _ _ _ => True) (fun _ U o U' => ∃ v L, o = .returned v ∧ Q0 Z x0 h0 n0 v U'.heap L ∧ FrameEnd U o U' L room_1.cells room_1.slots) := by
  refine MetFree.of_bodySF (plainFor_of_name pn_0) hisR ?_
  intro p e s m args below meth c s₁ Bd hml0 hP hK
  obtain ⟨rfl, hZ, hh⟩ := hP
  have hx := Bd.exec
  have hby := Bd.bytes
  have hml : c.maxLocals = 9 := hml0
  have hown : s.vm.findClass "com/example/termweave/termweave/sample/SplitMix64NextLongPinLaw" = some m.cls := findClass_of_methodNamed Bd.named
  have hnm := (name_of_methodNamed Bd.named Bd.method).1
  have X0 : Stand p l e room_1 s m #[(.long x0)] below meth c s₁ [] 0 0 := Stand.of_body Bd
  have e0 : s₁.heap = h0 := by rw [← hh, Bd.state]; rfl
  have N0 := Fr.nil n0
  have Kp0 := Keep.refl h0 []
  have P0 : ∀ t, Steps p.tables e below (s₁.setTop (mkF m 0 #[lv x0, .second, .unset, .unset, .unset, .unset, .unset, .unset, .unset] [])) t → Steps p.tables e below (s₁.setTop (entryFrame m #[(.long x0)] maxLocals)) t := fun t k => castTop (ef_0 m x0) k
  obtain ⟨T1, h1, X1, e1, E1, A1, D1, -, st1⟩ := newO X0 hx hZ hown (hw _ (im 0 rfl)) (hw _ (im 1 rfl)) (hw _ (im 2 rfl)) e0 (g := (mkF m 0 #[lv x0, .second, .unset, .unset, .unset, .unset, .unset, .unset, .unset] [])) rfl (hb hby at_0) (by decide) (by decide)
  obtain ⟨b1, g1⟩ : ∃ z, z = h0.size := ⟨_, rfl⟩
  rw [← g1] at A1 D1 st1
  have ge_b1 : n0 ≤ b1 := Nat.le_trans Z0 (Nat.le_of_eq g1.symm)
  have Z1_ : n0 ≤ h1.size := Nat.le_trans Z0 E1.1
  have F1_state : Fld Z h1 b1 "com/example/termweave/termweave/sample/SplitMix64" "state" "J" (.long 0) := D1 (Or.inl (hw _ (im 10 rfl))) (ty := .long) (by decide)
  obtain ⟨_, _, ⟨T2, L2, k2, n2⟩, -, X2, ⟨Lc2, hQ2, l2, y2, z2⟩, st2⟩ := X1.specialBack hx (y := (⟨"com/example/termweave/termweave/sample/SplitMix64", "<init>", "(J)V"⟩ : MethodName)) rfl hown (mvT hZ (hw _ (im 3 rfl))) (mvT hZ (hw _ (im 4 rfl))) (mvT hZ (hw _ (im 5 rfl))) (by decide) (backOf (W := 1) (rm1 l Z a0 hw [] b1 x0 h1 n0 Z1_ A1 F1_state ge_b1) hZ (hw _ (im 5 rfl)) (hw _ (im 2 rfl)) (by decide) (by decide)) (g := (mkF m 5 #[lv x0, .second, .unset, .unset, .unset, .unset, .unset, .unset, .unset] [(.long x0), (.ref b1), (.ref b1)])) rfl (by rw [hml]; rfl) (Steps.refl _) (a := b1) (argsL := [(.long x0)]) (rest := [(.ref b1)]) (lenOf pd_1 rfl) rfl (by show 2 * 0 + _ ≤ _; exact Nat.le_of_eq rfl) (hb hby at_5) (fun _ _ => ⟨rfl, e1, (by decide : 1 + 0 ≤ _), (by decide : 1 + 0 ≤ _)⟩)
  dsimp only [Pt.U, Pt.locs, Pt.cells, Pt.slots] at X2 l2 y2 z2 st2 hQ2
  subst l2 y2 z2
  obtain ⟨rfl, N2q, K2, r2_0, r2_1⟩ := hQ2
  have N2 := Fr.app N0 N2q
  have Z2_ : n0 ≤ T2.heap.size := Nat.le_trans Z1_ K2.1
  obtain ⟨cq3, kq3, q3a, q3b, q3c⟩ := isOf hZ rfl r2_0
  obtain ⟨_, _, ⟨T3, L3, k3, n3⟩, -, X3, ⟨Lc3, hQ3, l3, y3, z3⟩, st3⟩ := X2.virtualBack hx (y := (⟨"com/example/termweave/termweave/sample/SplitMix64", "nextLong", "()J"⟩ : MethodName)) (z := (⟨"com/example/termweave/termweave/sample/SplitMix64", "nextLong", "()J"⟩ : MethodName)) hown (mvT hZ (hw _ (im 11 rfl))) (mvT hZ (hw _ (im 12 rfl))) (notFace_of_selects (args := #[]) (mvT hZ (hw _ (im 14 rfl)))) (mvT hZ (hw _ (im 14 rfl))) (mvT hZ (hw _ (im 13 rfl))) (by decide) (backOf (W := 0) (rm3 l Z a0 hw [] b1 x0 T2.heap n0 Z2_ r2_0 r2_1 ge_b1) hZ (hw _ (im 15 rfl)) (hw _ (im 2 rfl)) (by decide) (by decide)) q3a q3c (g := (mkF m 10 #[lv x0, .second, rv b1, .unset, .unset, .unset, .unset, .unset, .unset] [(.ref b1)])) rfl (by rw [hml]; rfl) (Steps.refl _) (argsL := []) (rest := []) (lenOf pd_2 rfl) rfl (by show 2 * 0 + _ ≤ _; exact Nat.le_of_eq rfl) (hb hby at_10) (fun _ _ => ⟨rfl, rfl, (by decide : 1 + 0 ≤ _), (by decide : 1 + 0 ≤ _)⟩)
  dsimp only [Pt.U, Pt.locs, Pt.cells, Pt.slots] at X3 l3 y3 z3 st3 hQ3
  subst l3 y3 z3
  obtain ⟨rfl, N3q, K3, r3_0, r3_1⟩ := hQ3
  have N3 := Fr.app N2 N3q
  have Z3_ : n0 ≤ T3.heap.size := Nat.le_trans Z2_ K3.1
  obtain ⟨cq4, kq4, q4a, q4b, q4c⟩ := isOf hZ rfl r3_0
  obtain ⟨_, _, ⟨T4, L4, k4, n4⟩, -, X4, ⟨Lc4, hQ4, l4, y4, z4⟩, st4⟩ := X3.virtualBack hx (y := (⟨"com/example/termweave/termweave/sample/SplitMix64", "nextLong", "()J"⟩ : MethodName)) (z := (⟨"com/example/termweave/termweave/sample/SplitMix64", "nextLong", "()J"⟩ : MethodName)) hown (mvT hZ (hw _ (im 11 rfl))) (mvT hZ (hw _ (im 12 rfl))) (notFace_of_selects (args := #[]) (mvT hZ (hw _ (im 14 rfl)))) (mvT hZ (hw _ (im 14 rfl))) (mvT hZ (hw _ (im 13 rfl))) (by decide) (backOf (W := 0) (rm3 l Z a0 hw [] b1 (x0 + (-7046029254386353131 : Int64)) T3.heap n0 Z3_ r3_0 r3_1 ge_b1) hZ (hw _ (im 15 rfl)) (hw _ (im 2 rfl)) (by decide) (by decide)) q4a q4c (g := (mkF m 15 #[lv x0, .second, rv b1, lv (own_mix (x0 + (-7046029254386353131 : Int64))), .second, .unset, .unset, .unset, .unset] [(.ref b1)])) rfl (by rw [hml]; rfl) (Steps.refl _) (argsL := []) (rest := []) (lenOf pd_2 rfl) rfl (by show 2 * 0 + _ ≤ _; exact Nat.le_of_eq rfl) (hb hby at_15) (fun _ _ => ⟨rfl, rfl, (by decide : 1 + 0 ≤ _), (by decide : 1 + 0 ≤ _)⟩)
  dsimp only [Pt.U, Pt.locs, Pt.cells, Pt.slots] at X4 l4 y4 z4 st4 hQ4
  subst l4 y4 z4
  obtain ⟨rfl, N4q, K4, r4_0, r4_1⟩ := hQ4
  have N4 := Fr.app N3 N4q
  have Z4_ : n0 ≤ T4.heap.size := Nat.le_trans Z3_ K4.1
  obtain ⟨cq5, kq5, q5a, q5b, q5c⟩ := isOf hZ rfl r4_0
  obtain ⟨_, _, ⟨T5, L5, k5, n5⟩, -, X5, ⟨Lc5, hQ5, l5, y5, z5⟩, st5⟩ := X4.virtualBack hx (y := (⟨"com/example/termweave/termweave/sample/SplitMix64", "nextLong", "()J"⟩ : MethodName)) (z := (⟨"com/example/termweave/termweave/sample/SplitMix64", "nextLong", "()J"⟩ : MethodName)) hown (mvT hZ (hw _ (im 11 rfl))) (mvT hZ (hw _ (im 12 rfl))) (notFace_of_selects (args := #[]) (mvT hZ (hw _ (im 14 rfl)))) (mvT hZ (hw _ (im 14 rfl))) (mvT hZ (hw _ (im 13 rfl))) (by decide) (backOf (W := 0) (rm3 l Z a0 hw [] b1 ((x0 + (-7046029254386353131 : Int64)) + (-7046029254386353131 : Int64)) T4.heap n0 Z4_ r4_0 r4_1 ge_b1) hZ (hw _ (im 15 rfl)) (hw _ (im 2 rfl)) (by decide) (by decide)) q5a q5c (g := (mkF m 21 #[lv x0, .second, rv b1, lv (own_mix (x0 + (-7046029254386353131 : Int64))), .second, lv (own_mix ((x0 + (-7046029254386353131 : Int64)) + (-7046029254386353131 : Int64))), .second, .unset, .unset] [(.ref b1)])) rfl (by rw [hml]; rfl) (Steps.refl _) (argsL := []) (rest := []) (lenOf pd_2 rfl) rfl (by show 2 * 0 + _ ≤ _; exact Nat.le_of_eq rfl) (hb hby at_21) (fun _ _ => ⟨rfl, rfl, (by decide : 1 + 0 ≤ _), (by decide : 1 + 0 ≤ _)⟩)
  dsimp only [Pt.U, Pt.locs, Pt.cells, Pt.slots] at X5 l5 y5 z5 st5 hQ5
  subst l5 y5 z5
  obtain ⟨rfl, N5q, K5, r5_0, r5_1⟩ := hQ5
  have N5 := Fr.app N4 N5q
  have Z5_ : n0 ≤ T5.heap.size := Nat.le_trans Z4_ K5.1
  obtain ⟨_, _, ⟨T6, L6, k6, n6⟩, -, X6, ⟨Lc6, hQ6, l6, y6, z6⟩, st6⟩ := Jvm.LawKit.callS X5 hx (y := (⟨"com/example/termweave/termweave/sample/SplitMix64NextLongPinLaw", "unmix", "(J)J"⟩ : MethodName)) hown (mvT hZ (hw _ (im 19 rfl))) (mvT hZ (hw _ (im 20 rfl))) (mvT hZ (hw _ (im 21 rfl))) (mvT hZ (hw _ (im 22 rfl))) (by decide) (backOf (W := 0) (rm4 l Z a0 hw [] (own_mix (x0 + (-7046029254386353131 : Int64))) T5.heap n0 Z5_ ) hZ (hw _ (im 22 rfl)) (hw _ (im 21 rfl)) (by decide) (by decide)) (g := (mkF m 27 #[lv x0, .second, rv b1, lv (own_mix (x0 + (-7046029254386353131 : Int64))), .second, lv (own_mix ((x0 + (-7046029254386353131 : Int64)) + (-7046029254386353131 : Int64))), .second, lv (own_mix (((x0 + (-7046029254386353131 : Int64)) + (-7046029254386353131 : Int64)) + (-7046029254386353131 : Int64))), .second] [(.long (own_mix (x0 + (-7046029254386353131 : Int64))))])) rfl (by rw [hml]; rfl) (argsL := [(.long (own_mix (x0 + (-7046029254386353131 : Int64))))]) (rest := []) (lenOf pd_0 rfl) rfl (by show 2 * 0 + _ ≤ _; exact Nat.le_of_eq rfl) (hb hby at_27) (fun _ _ => ⟨rfl, rfl, (by decide : 1 + 0 ≤ _), (by decide : 1 + 0 ≤ _)⟩)
  dsimp only [Pt.U, Pt.locs, Pt.cells, Pt.slots] at X6 l6 y6 z6 st6 hQ6
  subst l6 y6 z6
  obtain ⟨rfl, N6q, e6⟩ := hQ6
  have N6 := Fr.app N5 N6q
  have hc36_7 : (own_unmix (own_mix (x0 + (-7046029254386353131 : Int64)))) = (x0 + (-7046029254386353131 : Int64)) := own_back _
  obtain ⟨_, _, ⟨T8, L8, k8, n8⟩, -, X8, ⟨Lc8, hQ8, l8, y8, z8⟩, st8⟩ := Jvm.LawKit.callS X6 hx (y := (⟨"com/example/termweave/termweave/sample/SplitMix64NextLongPinLaw", "unmix", "(J)J"⟩ : MethodName)) hown (mvT hZ (hw _ (im 19 rfl))) (mvT hZ (hw _ (im 20 rfl))) (mvT hZ (hw _ (im 21 rfl))) (mvT hZ (hw _ (im 22 rfl))) (by decide) (backOf (W := 0) (rm4 l Z a0 hw [] (own_mix ((x0 + (-7046029254386353131 : Int64)) + (-7046029254386353131 : Int64))) T5.heap n0 Z5_ ) hZ (hw _ (im 22 rfl)) (hw _ (im 21 rfl)) (by decide) (by decide)) (g := (mkF m 41 #[lv x0, .second, rv b1, lv (own_mix (x0 + (-7046029254386353131 : Int64))), .second, lv (own_mix ((x0 + (-7046029254386353131 : Int64)) + (-7046029254386353131 : Int64))), .second, lv (own_mix (((x0 + (-7046029254386353131 : Int64)) + (-7046029254386353131 : Int64)) + (-7046029254386353131 : Int64))), .second] [(.long (own_mix ((x0 + (-7046029254386353131 : Int64)) + (-7046029254386353131 : Int64))))])) rfl (by rw [hml]; rfl) (argsL := [(.long (own_mix ((x0 + (-7046029254386353131 : Int64)) + (-7046029254386353131 : Int64))))]) (rest := []) (lenOf pd_0 rfl) rfl (by show 2 * 0 + _ ≤ _; exact Nat.le_of_eq rfl) (hb hby at_41) (fun _ _ => ⟨rfl, e6, (by decide : 1 + 0 ≤ _), (by decide : 1 + 0 ≤ _)⟩)
  dsimp only [Pt.U, Pt.locs, Pt.cells, Pt.slots] at X8 l8 y8 z8 st8 hQ8
  subst l8 y8 z8
  obtain ⟨rfl, N8q, e8⟩ := hQ8
  have N8 := Fr.app N6 N8q
  have P9 := own_go P0 (S' := T8.setTop (mkF m 49 #[lv x0, .second, rv b1, lv (own_mix (x0 + (-7046029254386353131 : Int64))), .second, lv (own_mix ((x0 + (-7046029254386353131 : Int64)) + (-7046029254386353131 : Int64))), .second, lv (own_mix (((x0 + (-7046029254386353131 : Int64)) + (-7046029254386353131 : Int64)) + (-7046029254386353131 : Int64))), .second] [(.long (x0 + (4354685564936845354 : Int64))), (.long (own_unmix (own_mix ((x0 + (-7046029254386353131 : Int64)) + (-7046029254386353131 : Int64)))))])) (by
    intro t k
    refine st1 _ ?_
    refine XS.dup X1.here hx rfl (hb hby at_3) rfl rfl ?_
    refine XS.lloadN X1.here hx rfl (hb hby at_4) rfl ?_
    refine st2.trans ?_
    refine XS.astoreN X2.here hx rfl (hb hby at_8) rfl rfl (l' := #[lv x0, .second, rv b1, .unset, .unset, .unset, .unset, .unset, .unset]) rfl ?_
    refine XS.aloadN X2.here hx rfl (hb hby at_9) rfl rfl ?_
    refine st3.trans ?_
    refine XS.lstoreN X3.here hx rfl (hb hby at_13) rfl (l' := #[lv x0, .second, rv b1, lv (own_mix (x0 + (-7046029254386353131 : Int64))), .second, .unset, .unset, .unset, .unset]) rfl ?_
    show Steps p.tables e below (T3.setTop (mkF m 14 #[lv x0, .second, rv b1, lv (own_mix (x0 + (-7046029254386353131 : Int64))), .second, .unset, .unset, .unset, .unset] [])) _
    refine XS.aloadN X3.here hx rfl (hb hby at_14) rfl rfl ?_
    refine st4.trans ?_
    refine XS.lstore X4.here hx rfl (hb hby at_18) rfl (l' := #[lv x0, .second, rv b1, lv (own_mix (x0 + (-7046029254386353131 : Int64))), .second, lv (own_mix ((x0 + (-7046029254386353131 : Int64)) + (-7046029254386353131 : Int64))), .second, .unset, .unset]) rfl ?_
    refine XS.aloadN X4.here hx rfl (hb hby at_20) rfl rfl ?_
    refine st5.trans ?_
    refine XS.lstore X5.here hx rfl (hb hby at_24) rfl (l' := #[lv x0, .second, rv b1, lv (own_mix (x0 + (-7046029254386353131 : Int64))), .second, lv (own_mix ((x0 + (-7046029254386353131 : Int64)) + (-7046029254386353131 : Int64))), .second, lv (own_mix (((x0 + (-7046029254386353131 : Int64)) + (-7046029254386353131 : Int64)) + (-7046029254386353131 : Int64))), .second]) rfl ?_
    refine XS.lloadN X5.here hx rfl (hb hby at_26) rfl ?_
    refine st6 _ ?_
    show Steps p.tables e below (T6.setTop (mkF m 30 #[lv x0, .second, rv b1, lv (own_mix (x0 + (-7046029254386353131 : Int64))), .second, lv (own_mix ((x0 + (-7046029254386353131 : Int64)) + (-7046029254386353131 : Int64))), .second, lv (own_mix (((x0 + (-7046029254386353131 : Int64)) + (-7046029254386353131 : Int64)) + (-7046029254386353131 : Int64))), .second] [(.long (own_unmix (own_mix (x0 + (-7046029254386353131 : Int64)))))])) _
    refine XS.lloadN X6.here hx rfl (hb hby at_30) rfl ?_
    refine X6.ldc2Long hx hown (mvT hZ (hw _ (im 29 rfl))) (g := (mkF m 31 #[lv x0, .second, rv b1, lv (own_mix (x0 + (-7046029254386353131 : Int64))), .second, lv (own_mix ((x0 + (-7046029254386353131 : Int64)) + (-7046029254386353131 : Int64))), .second, lv (own_mix (((x0 + (-7046029254386353131 : Int64)) + (-7046029254386353131 : Int64)) + (-7046029254386353131 : Int64))), .second] [(.long x0), (.long (own_unmix (own_mix (x0 + (-7046029254386353131 : Int64)))))])) rfl (hb hby at_31) _ ?_
    refine XS.ladd X6.here hx rfl (hb hby at_34) rfl ?_
    refine XS.lcmp X6.here hx rfl (hb hby at_35) rfl ?_
    refine XS.ifNo X6.here hx rfl (hb hby at_36) rfl ((if0 _ _).trans (teq ((lw_eq (own_unmix (own_mix (x0 + (-7046029254386353131 : Int64)))) (x0 + (-7046029254386353131 : Int64))).mpr hc36_7)).2) ?_
    refine XS.lload X6.here hx rfl (hb hby at_39) rfl ?_
    refine st8 _ ?_
    refine XS.lloadN X8.here hx rfl (hb hby at_44) rfl ?_
    show Steps p.tables e below (T8.setTop (mkF m 45 #[lv x0, .second, rv b1, lv (own_mix (x0 + (-7046029254386353131 : Int64))), .second, lv (own_mix ((x0 + (-7046029254386353131 : Int64)) + (-7046029254386353131 : Int64))), .second, lv (own_mix (((x0 + (-7046029254386353131 : Int64)) + (-7046029254386353131 : Int64)) + (-7046029254386353131 : Int64))), .second] [(.long x0), (.long (own_unmix (own_mix ((x0 + (-7046029254386353131 : Int64)) + (-7046029254386353131 : Int64)))))])) _
    refine X8.ldc2Long hx hown (mvT hZ (hw _ (im 30 rfl))) (g := (mkF m 45 #[lv x0, .second, rv b1, lv (own_mix (x0 + (-7046029254386353131 : Int64))), .second, lv (own_mix ((x0 + (-7046029254386353131 : Int64)) + (-7046029254386353131 : Int64))), .second, lv (own_mix (((x0 + (-7046029254386353131 : Int64)) + (-7046029254386353131 : Int64)) + (-7046029254386353131 : Int64))), .second] [(.long x0), (.long (own_unmix (own_mix ((x0 + (-7046029254386353131 : Int64)) + (-7046029254386353131 : Int64)))))])) rfl (hb hby at_45) _ ?_
    refine XS.ladd X8.here hx rfl (hb hby at_48) rfl ?_
    exact k)
  have hc50_10 : (own_unmix (own_mix ((x0 + (-7046029254386353131 : Int64)) + (-7046029254386353131 : Int64)))) = (x0 + (4354685564936845354 : Int64)) := (own_back _).trans (own_two x0)
  obtain ⟨_, _, ⟨T11, L11, k11, n11⟩, -, X11, ⟨Lc11, hQ11, l11, y11, z11⟩, st11⟩ := Jvm.LawKit.callS X8 hx (y := (⟨"com/example/termweave/termweave/sample/SplitMix64NextLongPinLaw", "unmix", "(J)J"⟩ : MethodName)) hown (mvT hZ (hw _ (im 19 rfl))) (mvT hZ (hw _ (im 20 rfl))) (mvT hZ (hw _ (im 21 rfl))) (mvT hZ (hw _ (im 22 rfl))) (by decide) (backOf (W := 0) (rm4 l Z a0 hw [] (own_mix (((x0 + (-7046029254386353131 : Int64)) + (-7046029254386353131 : Int64)) + (-7046029254386353131 : Int64))) T5.heap n0 Z5_ ) hZ (hw _ (im 22 rfl)) (hw _ (im 21 rfl)) (by decide) (by decide)) (g := (mkF m 55 #[lv x0, .second, rv b1, lv (own_mix (x0 + (-7046029254386353131 : Int64))), .second, lv (own_mix ((x0 + (-7046029254386353131 : Int64)) + (-7046029254386353131 : Int64))), .second, lv (own_mix (((x0 + (-7046029254386353131 : Int64)) + (-7046029254386353131 : Int64)) + (-7046029254386353131 : Int64))), .second] [(.long (own_mix (((x0 + (-7046029254386353131 : Int64)) + (-7046029254386353131 : Int64)) + (-7046029254386353131 : Int64))))])) rfl (by rw [hml]; rfl) (argsL := [(.long (own_mix (((x0 + (-7046029254386353131 : Int64)) + (-7046029254386353131 : Int64)) + (-7046029254386353131 : Int64))))]) (rest := []) (lenOf pd_0 rfl) rfl (by show 2 * 0 + _ ≤ _; exact Nat.le_of_eq rfl) (hb hby at_55) (fun _ _ => ⟨rfl, e8, (by decide : 1 + 0 ≤ _), (by decide : 1 + 0 ≤ _)⟩)
  dsimp only [Pt.U, Pt.locs, Pt.cells, Pt.slots] at X11 l11 y11 z11 st11 hQ11
  subst l11 y11 z11
  obtain ⟨rfl, N11q, e11⟩ := hQ11
  have N11 := Fr.app N8 N11q
  have hc64_12 : (own_unmix (own_mix (((x0 + (-7046029254386353131 : Int64)) + (-7046029254386353131 : Int64)) + (-7046029254386353131 : Int64)))) = (x0 + (-2691343689449507777 : Int64)) := (own_back _).trans (own_three x0)
  have P13 := own_go P9 (S' := T11.setTop (mkF m 72 #[lv x0, .second, rv b1, lv (own_mix (x0 + (-7046029254386353131 : Int64))), .second, lv (own_mix ((x0 + (-7046029254386353131 : Int64)) + (-7046029254386353131 : Int64))), .second, lv (own_mix (((x0 + (-7046029254386353131 : Int64)) + (-7046029254386353131 : Int64)) + (-7046029254386353131 : Int64))), .second] [(.int 1)])) (by
    intro t k
    refine XS.lcmp X8.here hx rfl (hb hby at_49) rfl ?_
    refine XS.ifNo X8.here hx rfl (hb hby at_50) rfl ((if0 _ _).trans (teq ((lw_eq (own_unmix (own_mix ((x0 + (-7046029254386353131 : Int64)) + (-7046029254386353131 : Int64)))) (x0 + (4354685564936845354 : Int64))).mpr hc50_10)).2) ?_
    refine XS.lload X8.here hx rfl (hb hby at_53) rfl ?_
    refine st11 _ ?_
    refine XS.lloadN X11.here hx rfl (hb hby at_58) rfl ?_
    refine X11.ldc2Long hx hown (mvT hZ (hw _ (im 31 rfl))) (g := (mkF m 59 #[lv x0, .second, rv b1, lv (own_mix (x0 + (-7046029254386353131 : Int64))), .second, lv (own_mix ((x0 + (-7046029254386353131 : Int64)) + (-7046029254386353131 : Int64))), .second, lv (own_mix (((x0 + (-7046029254386353131 : Int64)) + (-7046029254386353131 : Int64)) + (-7046029254386353131 : Int64))), .second] [(.long x0), (.long (own_unmix (own_mix (((x0 + (-7046029254386353131 : Int64)) + (-7046029254386353131 : Int64)) + (-7046029254386353131 : Int64)))))])) rfl (hb hby at_59) _ ?_
    refine XS.ladd X11.here hx rfl (hb hby at_62) rfl ?_
    refine XS.lcmp X11.here hx rfl (hb hby at_63) rfl ?_
    show Steps p.tables e below (T11.setTop (mkF m 64 #[lv x0, .second, rv b1, lv (own_mix (x0 + (-7046029254386353131 : Int64))), .second, lv (own_mix ((x0 + (-7046029254386353131 : Int64)) + (-7046029254386353131 : Int64))), .second, lv (own_mix (((x0 + (-7046029254386353131 : Int64)) + (-7046029254386353131 : Int64)) + (-7046029254386353131 : Int64))), .second] [(.int (lcmpW (own_unmix (own_mix (((x0 + (-7046029254386353131 : Int64)) + (-7046029254386353131 : Int64)) + (-7046029254386353131 : Int64)))) (x0 + (-2691343689449507777 : Int64))))])) _
    refine XS.ifNo X11.here hx rfl (hb hby at_64) rfl ((if0 _ _).trans (teq ((lw_eq (own_unmix (own_mix (((x0 + (-7046029254386353131 : Int64)) + (-7046029254386353131 : Int64)) + (-7046029254386353131 : Int64)))) (x0 + (-2691343689449507777 : Int64))).mpr hc64_12)).2) ?_
    refine XS.iconst X11.here hx rfl (hb hby at_67) ?_
    refine XS.goto X11.here hx rfl (pc0 := 68) (pc' := 72) rfl (hb hby at_68) (by decide) (by decide) ?_
    exact k)
  obtain ⟨fs, hr, hrun, hended, hW, hsame⟩ := X11.leave (v := some (.int 1)) (fun h => by rw [Bd.returns] at h; cases h)
  refine ⟨_, _, P13 _ ?_, hrun, hended, _, _, rfl, ?_, ⟨_, rfl⟩, hW, hsame.mono (by decide) (by decide)⟩
  · show Steps p.tables e below (T11.setTop (mkF m 72 #[lv x0, .second, rv b1, lv (own_mix (x0 + (-7046029254386353131 : Int64))), .second, lv (own_mix ((x0 + (-7046029254386353131 : Int64)) + (-7046029254386353131 : Int64))), .second, lv (own_mix (((x0 + (-7046029254386353131 : Int64)) + (-7046029254386353131 : Int64)) + (-7046029254386353131 : Int64))), .second] [(.int 1)])) _
    exact retN X11 hx (t := .boolean) Bd.returns (by simp) (hb hby at_72) hr
  · show Q0 Z x0 h0 n0 _ T11.heap _
    rw [e11]
    exact ⟨rfl, N11⟩

set_option maxRecDepth 65536 in
set_option maxHeartbeats 40000000 in
theorem comes_1 {Post : Tables → Env → Array Value → State → Outcome → State → Prop} (hpost : ∀ tb e args s v u, (limb_1_1.after args s (.returned v) u = true ∧ limb_1_2.after args s (.returned v) u = true ∧ True) → FrameEnd s (.returned v) u (Jvm.fieldLocs frame_1_writes args s ++ Jvm.arrayLocs frame_1_arrays args s ++ Jvm.staticLocs frame_1_statics s) 16 128 → Post tb e args s (.returned v) u) :
    ArmFor flags0 classFile x code maxLocals ret World_1 tables_1 room_1 Calls_1 rest_1 Pre_1 Post := by
  intro l hfl _ _ p e ha hc hk s m args below hf hA hF happ hP
  obtain ⟨hcalls, hrest, hpre⟩ := hP
  obtain ⟨-, -, -, hnamed, -, -, -, hat⟩ := (Spec.applies_iff hf).mp happ
  obtain ⟨hg, hn⟩ := and_e (Cond.before_iff.mp (show (Jvm.Cond.and given_1 narrow_1).before args s = true from hpre))
  obtain ⟨hcnt, hgs0⟩ := and_e hg
  obtain ⟨w0, rfl⟩ : ∃ w0 : Value, args = #[w0] := by
    have hs : args.size = 1 := by simpa [Cond.value, given_1] using hcnt
    obtain ⟨L⟩ := args
    match L, hs with
    | [w0], _ => exact ⟨w0, rfl⟩
  have hw := fun d (hd : d ∈ tables_1) => atoms_spec (ws := Jvm.Cond.code x code maxLocals ret :: tables_1) hat d (List.mem_cons_of_mem _ hd)
  have hfit : Fit s := fun {y c} hc i hi => by
    obtain ⟨ha, rfl⟩ := Array.getElem?_eq_some_iff.mp hc
    have q := List.all_eq_true.mp ((Array.all_eq_true_iff_forall_mem.mp hF) _ (Array.getElem_mem ha)) i (List.mem_range.mpr hi)
    simpa [Array.getElem?_eq_getElem hi] using q
  obtain ⟨i0, ei0⟩ := isL_v hgs0
  obtain rfl : w0 = (.long i0) := Option.some.inj ei0
  obtain ⟨n, o, h1, h2, h3, _, L, rfl, ⟨rfl, N⟩, hq⟩ := rm0 l s _ hw tables_1 i0 s.heap s.heap.size (Nat.le_refl _)  p e ha hc hk s m _ below hf ((Spec.applies_iff_loose hf).mp happ).1 ⟨rfl, State.Warmed39.refl s, rfl⟩ trivial
  refine ⟨n, _, h1, h2, h3, hpost _ _ _ _ _ _ ⟨Cond.after_iff.mpr rfl, Cond.after_iff.mpr (eq_i res_at (Term.int_eval (1)) rfl), trivial⟩ ⟨hq.1, hq.2.1, (hq.2.2.sift fun y hy => Or.inr (N y hy)).mono (by decide) (by decide)⟩⟩
theorem main_1_1 : Claimed_1_1 := comes_1 fun _ _ _ _ _ _ h hF => ⟨h.1, hF⟩
theorem main_1_2 : Claimed_1_2 := comes_1 fun _ _ _ _ _ _ h hF => ⟨h.2.1, hF⟩
end Jvm.Pilot.@@N@@
namespace Jvm.Pilot.@@N@@
open Jvm Jvm.ClassFile Sem Op Lib Jvm.Free Jvm.Stand Jvm.Pilot.@@N@@.Jvm.D
/-! MADE BY PROGRAM (witnessworld.py) out of the Statement's table words and the real class files: 9 classes; the members and pool entries that the words name. The judged class is class 1, her method 3. -/
namespace start1
open Jvm.ClassFile
def u (s : String) : CpInfo := .utf8 (stringToUtf16 s)
/-- a pool by its gaps: so many unusable entries, then the entry; so many at the end -/
def gap : Nat → List CpInfo → List CpInfo
  | 0, r => r
  | n + 1, r => .unusable :: gap n r
def poolList (es : List (Nat × CpInfo)) (last : Nat) : List CpInfo := es.foldr (fun e r => gap e.1 (e.2 :: r)) (gap last [])
def pool (es : List (Nat × CpInfo)) (last : Nat) : Array CpInfo := ⟨poolList es last⟩
def fileOf (pool : Array CpInfo) (this : Nat) (attrs : Array Attribute := #[]) (ms : Array MethodInfo := #[]) (fl : Nat := 33) (sup : Nat := 0) (ifs : Array Nat := #[]) (fds : Array FieldInfo := #[]) : ClassFile where
  minorVersion := 0
  majorVersion := 65
  constantPool := pool
  accessFlags := fl
  thisClass := this
  superClass := sup
  interfaces := ifs
  fields := fds
  methods := ms
  attributes := attrs
def plain (name : String) (sup : Option ClassId) : Class where
  name := name
  kind := .ordinary
  loader := none
  accessFlags := 33
  super := sup
  interfaces := #[]
  cf := none
  fields := #[]
  methods := #[]
  instanceTypes := #[]
  staticTypes := #[]
  resolved := #[]
  callSites := []
  init := .initialized
  statics := none
  mirror := none

def pool0 : Array CpInfo := pool [(5, u "<init>"), (0, u "()V"), (1, .class_ 10), (1, u "java/lang/Object")] 113

def k0c0 : Code := { maxStack := 0, maxLocals := 1, code := object_method_1_code, exceptionTable := #[], attributes := #[] }
def k0m0 : Method := { name := "<init>", desc := "()V", sig := { parameters := [], returnType := none }, accessFlags := 1, code := some k0c0 }
/-- java/lang/Object -/
def k0 : Class := { plain "java/lang/Object" none with
  accessFlags := 33
  interfaces := #[]
  cf := some (fileOf pool0 8 #[] #[{ accessFlags := 1, nameIndex := 5, descriptorIndex := 6, attributes := #[] }] 33 0 #[] #[])
  fields := #[]
  methods := #[k0m0]
  instanceTypes := #[]
  staticTypes := #[]
  resolved := Array.replicate 124 none
  statics := none }

def pool1 : Array CpInfo := pool [(2, .class_ 4), (1, u "java/lang/Object"), (0, u "<init>"), (0, u "()V"), (0, .long 2), (1, .long 10723151780598845931), (1, .methodref 12 13), (0, .class_ 14), (0, .nameAndType 15 16), (0, u "com/example/termweave/termweave/sample/SplitMix64NextLongPinLaw"), (0, u "inv"), (0, u "(J)J"), (0, .long 13787848793156543929), (1, .class_ 20), (0, u "com/example/termweave/termweave/sample/SplitMix64"), (0, .methodref 19 22), (0, .nameAndType 5 23), (0, u "(J)V"), (0, .methodref 19 25), (0, .nameAndType 26 27), (0, u "nextLong"), (0, u "()J"), (0, .methodref 12 29), (0, .nameAndType 30 16), (0, u "unmix"), (0, .long 11400714819323198485), (1, .long 4354685564936845354), (1, .long 15755400384260043839), (1, u "STEP"), (0, u "J"), (1, u "M1"), (4, u "law"), (0, u "(J)Z")] 3

def k1m0 : Method := { name := "<init>", desc := "()V", sig := { parameters := [], returnType := none }, accessFlags := 2, code := none }
def k1c1 : Code := { maxStack := 8, maxLocals := 4, code := method_2_code, exceptionTable := #[], attributes := #[] }
def k1m1 : Method := { name := "inv", desc := "(J)J", sig := { parameters := [.long], returnType := some .long }, accessFlags := 10, code := some k1c1 }
def k1c2 : Code := { maxStack := 5, maxLocals := 2, code := method_3_code, exceptionTable := #[], attributes := #[] }
def k1m2 : Method := { name := "unmix", desc := "(J)J", sig := { parameters := [.long], returnType := some .long }, accessFlags := 10, code := some k1c2 }
def k1c3 : Code := { maxStack := 6, maxLocals := 9, code := code, exceptionTable := #[], attributes := #[] }
def k1m3 : Method := { name := "law", desc := "(J)Z", sig := { parameters := [.long], returnType := some .boolean }, accessFlags := 9, code := some k1c3 }
/-- com/example/termweave/termweave/sample/SplitMix64NextLongPinLaw -/
def k1 : Class := { plain "com/example/termweave/termweave/sample/SplitMix64NextLongPinLaw" (some 0) with
  accessFlags := 49
  interfaces := #[]
  cf := some (fileOf pool1 12 #[] #[{ accessFlags := 2, nameIndex := 5, descriptorIndex := 6, attributes := #[] }, { accessFlags := 10, nameIndex := 15, descriptorIndex := 16, attributes := #[] }, { accessFlags := 10, nameIndex := 30, descriptorIndex := 16, attributes := #[] }, { accessFlags := 9, nameIndex := 45, descriptorIndex := 46, attributes := #[] }] 49 2 #[] #[{ accessFlags := 26, nameIndex := 37, descriptorIndex := 38, attributes := #[] }, { accessFlags := 26, nameIndex := 40, descriptorIndex := 38, attributes := #[] }])
  fields := #[{ name := "STEP", type := .long, accessFlags := 26, slot := 0, constantValue := 0 }, { name := "M1", type := .long, accessFlags := 26, slot := 1, constantValue := 0 }]
  methods := #[k1m0, k1m1, k1m2, k1m3]
  instanceTypes := #[]
  staticTypes := #[.long, .long]
  resolved := Array.replicate 50 none
  statics := none }

def pool2 : Array CpInfo := pool [(1, .methodref 2 3), (0, .class_ 4), (0, .nameAndType 5 6), (0, u "java/lang/Object"), (0, u "<init>"), (0, u "()V"), (0, .fieldref 8 9), (0, .class_ 10), (0, .nameAndType 11 12), (0, u "com/example/termweave/termweave/sample/SplitMix64"), (0, u "state"), (0, u "J"), (0, .long 11400714819323198485), (1, .long 13787848793156543929), (1, .long 10723151780598845931), (20, u "nextLong"), (0, u "()J"), (50, u "STEP"), (1, u "(J)V")] 24

def k2c0 : Code := { maxStack := 3, maxLocals := 3, code := prog_40_method_1_code, exceptionTable := #[], attributes := #[] }
def k2m0 : Method := { name := "<init>", desc := "(J)V", sig := { parameters := [.long], returnType := none }, accessFlags := 0, code := some k2c0 }
def k2c1 : Code := { maxStack := 5, maxLocals := 3, code := prog_40_method_2_code, exceptionTable := #[], attributes := #[] }
def k2m1 : Method := { name := "nextLong", desc := "()J", sig := { parameters := [], returnType := some .long }, accessFlags := 0, code := some k2c1 }
/-- com/example/termweave/termweave/sample/SplitMix64 -/
def k2 : Class := { plain "com/example/termweave/termweave/sample/SplitMix64" (some 0) with
  accessFlags := 48
  interfaces := #[]
  cf := some (fileOf pool2 8 #[] #[{ accessFlags := 0, nameIndex := 5, descriptorIndex := 92, attributes := #[] }, { accessFlags := 0, nameIndex := 38, descriptorIndex := 39, attributes := #[] }] 48 2 #[] #[{ accessFlags := 26, nameIndex := 90, descriptorIndex := 12, attributes := #[] }, { accessFlags := 2, nameIndex := 11, descriptorIndex := 12, attributes := #[] }])
  fields := #[{ name := "STEP", type := .long, accessFlags := 26, slot := 0, constantValue := 0 }, { name := "state", type := .long, accessFlags := 2, slot := 0, constantValue := 0 }]
  methods := #[k2m0, k2m1]
  instanceTypes := #[.long]
  staticTypes := #[.long]
  resolved := Array.replicate 117 none
  statics := none }

def pool3 : Array CpInfo := pool [(1, u "java/lang/Cloneable"), (0, .class_ 1), (0, u "java/lang/Object"), (0, .class_ 3)] 3

/-- java/lang/Cloneable -/
def k3 : Class := { plain "java/lang/Cloneable" (some 0) with
  accessFlags := 1537
  interfaces := #[]
  cf := some (fileOf pool3 2 #[] #[] 1537 4 #[] #[])
  fields := #[]
  methods := #[]
  instanceTypes := #[]
  staticTypes := #[]
  resolved := Array.replicate 8 none
  statics := none }

def pool4 : Array CpInfo := pool [(1, u "java/io/Serializable"), (0, .class_ 1), (0, u "java/lang/Object"), (0, .class_ 3)] 3

/-- java/io/Serializable -/
def k4 : Class := { plain "java/io/Serializable" (some 0) with
  accessFlags := 1537
  interfaces := #[]
  cf := some (fileOf pool4 2 #[] #[] 1537 4 #[] #[])
  fields := #[]
  methods := #[]
  instanceTypes := #[]
  staticTypes := #[]
  resolved := Array.replicate 8 none
  statics := none }

/-- the primitive byte -/
def k5 : Class := { plain "byte" none with kind := .primitive 'B', accessFlags := 0x411 }
/-- [B -/
def k6 : Class := { plain "[B" (some 0) with kind := .array 5 .byte, interfaces := #[3, 4], accessFlags := 1041 }

/-- the primitive int -/
def k7 : Class := { plain "int" none with kind := .primitive 'I', accessFlags := 0x411 }
/-- [I -/
def k8 : Class := { plain "[I" (some 0) with kind := .array 7 .int, interfaces := #[3, 4], accessFlags := 1041 }

def heap : Heap := #[]
def classes : Array Class := #[k0, k1, k2, k3, k4, k5, k6, k7, k8]
def interned : List (Array UInt16 × Addr) := []
def slotsUsed : Nat := 0
def theMethod : MethodId := ⟨1, 3⟩
def args0 : Array Value := #[.long 5]
def aboutOver (below : List Frame) : State where
  vm := { classes := classes, interned := interned.toArray }
  heap := heap
  slotsUsed := slotsUsed
  threads := #[{ frames := .invoking theMethod args0 :: below }]
def below0 : List Frame := [.native { method := ⟨0, 0⟩, args := #[] }]
def about1 : State := aboutOver below0
def p0 : Program := .bare "" "" ""
def e0 : Env := launch0.env 0 0 0
theorem w_frames : about1.frames = Frame.invoking theMethod args0 :: below0 := rfl
set_option maxRecDepth 65536 in
theorem w_args : argsFit about1.vm theMethod args0 = true := by decide +kernel
set_option maxRecDepth 65536 in
theorem w_heap : heapFits about1 = true := by decide +kernel
set_option maxRecDepth 65536 in
theorem w_runnable : about1.curStatus? = some .runnable := by decide +kernel
set_option maxRecDepth 65536 in
theorem w_alone : about1.alone = true := by decide +kernel
set_option maxRecDepth 65536 in
theorem w_named : about1.methodNamed? x = some theMethod := by decide +kernel
set_option maxRecDepth 65536 in
theorem w_hears : about1.hears theMethod below0 = true := by decide +kernel
set_option maxRecDepth 65536 in
theorem w_ripe : about1.ripe theMethod args0 below0 = true := by decide +kernel
theorem w_running : about1.status = .running := rfl
set_option maxRecDepth 65536 in
theorem w_room : about1.hasRoom e0.platform room_1 = true :=
  launch0.hasRoom_least _ room_1 (by decide +kernel) (by decide +kernel) (by decide +kernel) (by decide +kernel) (by decide +kernel) (by decide +kernel)
theorem allAtoms_all (ts : List Jvm.Cond) (a : Array Jvm.Value) (st : Jvm.State) : (allAtoms ts).before a st = ts.all (fun c => c.before a st) := by
  induction ts with
  | nil => rfl
  | cons c t ih =>
    show (Jvm.Cond.and c (allAtoms t)).before a st = _
    rw [Jvm.Cond.before_and, ih, List.all_cons]
def words1 : List Jvm.Cond := Jvm.Cond.code x code maxLocals ret :: tables_1
/-- a 'code' word, met by the world's own term for the bytes: nothing is compared byte by byte -/
theorem code_word {y : MethodName} {bytes : ByteArray} {mx : Nat} {rt : Option FieldType} {a : Array Value} {s : State} {m : MethodId} {meth : Method} {c : Code} (h1 : s.methodNamed? y = some m) (h2 : s.vm.method? m = some meth) (h3 : meth.code = some c) (h4 : c.code = bytes)
    (h5 : (c.maxLocals == mx && c.exceptionTable.isEmpty && decide (c.maxStack ≤ mostOperands) && decide (meth.sig.returnType = rt) && !meth.locks && decide (parseMethodDescriptor y.desc = some meth.sig)) = true) : (Jvm.Cond.code y bytes mx rt).before a s = true := by
  simp only [Bool.and_eq_true, beq_iff_eq, Bool.not_eq_true', decide_eq_true_eq] at h5
  obtain ⟨⟨⟨⟨⟨g1, g2⟩, g3⟩, g4⟩, g5⟩, g6⟩ := h5
  simp [Cond.before, Cond.holds, Cond.value, h1, h2, h3, h4, g1, g2, g3, g4, g5, g6]
def isCode : Jvm.Cond → Bool
  | .code _ _ _ _ => true
  | _ => false
theorem all_split {L : List Jvm.Cond} {P : Jvm.Cond → Bool} (h1 : L.all (fun c => isCode c || P c) = true) (h2 : ∀ c ∈ L.filter isCode, P c = true) : L.all P = true := by
  refine List.all_eq_true.mpr fun c hc => ?_
  have h := List.all_eq_true.mp h1 c hc
  rcases Bool.eq_false_or_eq_true (isCode c) with hi | hi
  · exact h2 c (List.mem_filter.mpr ⟨hc, hi⟩)
  · simpa [hi] using h
set_option maxRecDepth 65536 in
theorem w_c0 : (Jvm.Cond.code x code maxLocals ret).before args0 about1 = true := code_word (m := ⟨1, 3⟩) (meth := k1m3) (c := k1c3) (by decide +kernel) rfl rfl rfl (by decide +kernel)
set_option maxRecDepth 65536 in
theorem w_c1 : (Jvm.Cond.code ({ cls := "com/example/termweave/termweave/sample/SplitMix64", name := "<init>", desc := "(J)V" } : Jvm.MethodName) prog_40_method_1_code (3 : Nat) (Option.none : Option Jvm.ClassFile.FieldType)).before args0 about1 = true := code_word (m := ⟨2, 0⟩) (meth := k2m0) (c := k2c0) (by decide +kernel) rfl rfl rfl (by decide +kernel)
set_option maxRecDepth 65536 in
theorem w_c2 : (Jvm.Cond.code ({ cls := "java/lang/Object", name := "<init>", desc := "()V" } : Jvm.MethodName) object_method_1_code (1 : Nat) (Option.none : Option Jvm.ClassFile.FieldType)).before args0 about1 = true := code_word (m := ⟨0, 0⟩) (meth := k0m0) (c := k0c0) (by decide +kernel) rfl rfl rfl (by decide +kernel)
set_option maxRecDepth 65536 in
theorem w_c3 : (Jvm.Cond.code ({ cls := "com/example/termweave/termweave/sample/SplitMix64", name := "nextLong", desc := "()J" } : Jvm.MethodName) prog_40_method_2_code (3 : Nat) (Option.some Jvm.ClassFile.FieldType.long)).before args0 about1 = true := code_word (m := ⟨2, 1⟩) (meth := k2m1) (c := k2c1) (by decide +kernel) rfl rfl rfl (by decide +kernel)
set_option maxRecDepth 65536 in
theorem w_c4 : (Jvm.Cond.code ({ cls := "com/example/termweave/termweave/sample/SplitMix64NextLongPinLaw", name := "unmix", desc := "(J)J" } : Jvm.MethodName) method_3_code (2 : Nat) (Option.some Jvm.ClassFile.FieldType.long)).before args0 about1 = true := code_word (m := ⟨1, 2⟩) (meth := k1m2) (c := k1c2) (by decide +kernel) rfl rfl rfl (by decide +kernel)
set_option maxRecDepth 65536 in
theorem w_c5 : (Jvm.Cond.code ({ cls := "com/example/termweave/termweave/sample/SplitMix64NextLongPinLaw", name := "inv", desc := "(J)J" } : Jvm.MethodName) method_2_code (4 : Nat) (Option.some Jvm.ClassFile.FieldType.long)).before args0 about1 = true := code_word (m := ⟨1, 1⟩) (meth := k1m1) (c := k1c1) (by decide +kernel) rfl rfl rfl (by decide +kernel)
def codes1 : List Jvm.Cond := [Jvm.Cond.code x code maxLocals ret, Jvm.Cond.code ({ cls := "com/example/termweave/termweave/sample/SplitMix64", name := "<init>", desc := "(J)V" } : Jvm.MethodName) prog_40_method_1_code (3 : Nat) (Option.none : Option Jvm.ClassFile.FieldType), Jvm.Cond.code ({ cls := "java/lang/Object", name := "<init>", desc := "()V" } : Jvm.MethodName) object_method_1_code (1 : Nat) (Option.none : Option Jvm.ClassFile.FieldType), Jvm.Cond.code ({ cls := "com/example/termweave/termweave/sample/SplitMix64", name := "nextLong", desc := "()J" } : Jvm.MethodName) prog_40_method_2_code (3 : Nat) (Option.some Jvm.ClassFile.FieldType.long), Jvm.Cond.code ({ cls := "com/example/termweave/termweave/sample/SplitMix64NextLongPinLaw", name := "unmix", desc := "(J)J" } : Jvm.MethodName) method_3_code (2 : Nat) (Option.some Jvm.ClassFile.FieldType.long), Jvm.Cond.code ({ cls := "com/example/termweave/termweave/sample/SplitMix64NextLongPinLaw", name := "inv", desc := "(J)J" } : Jvm.MethodName) method_2_code (4 : Nat) (Option.some Jvm.ClassFile.FieldType.long)]
set_option maxRecDepth 65536 in
theorem codes_eq : words1.filter isCode = codes1 := rfl
theorem w_codes : ∀ c ∈ words1.filter isCode, c.before args0 about1 = true := by
  rw [codes_eq]
  intro c hc
  simp only [codes1, List.mem_cons, List.not_mem_nil, or_false] at hc
  rcases hc with rfl | rfl | rfl | rfl | rfl | rfl
  · exact w_c0
  · exact w_c1
  · exact w_c2
  · exact w_c3
  · exact w_c4
  · exact w_c5
set_option maxRecDepth 65536 in
theorem w_t1 : (words1.take 24).all (fun c => isCode c || c.before args0 about1) = true := by decide +kernel
set_option maxRecDepth 65536 in
theorem w_t2 : (words1.drop 24).all (fun c => isCode c || c.before args0 about1) = true := by decide +kernel
theorem w_tables : (allAtoms (Jvm.Cond.code x code maxLocals ret :: tables_1)).before args0 about1 = true := by
  rw [allAtoms_all]
  show words1.all (fun c => c.before args0 about1) = true
  refine all_split ?_ w_codes
  rw [← List.take_append_drop 24 words1, List.all_append, w_t1, w_t2]
  rfl
set_option maxRecDepth 65536 in
theorem w_case : (Jvm.Cond.and given_1 narrow_1).before args0 about1 = true := by decide +kernel
theorem w_applies : (headSpec (Jvm.Cond.code x code maxLocals ret :: tables_1) room_1).applies x e0.platform about1 = true :=
  (Spec.applies_iff w_frames).mpr ⟨w_running, w_runnable, w_alone, w_named, w_hears, w_ripe, w_room, w_tables⟩
theorem atStart : AtStart classFile x code maxLocals ret World_1 tables_1 room_1 Calls_1 rest_1 Pre_1 launch0 p0 e0 about1 theMethod args0 below0 :=
  ⟨lists_1, trivial, launch0.admits_env _ _ _, launch0.least_env, fairChoices_fair.cas, fairChoices_fair.clock, w_frames, w_args, w_heap, w_applies, trivial, trivial, w_case⟩
end start1
theorem witness_1 : WitnessClaimed_1 := ⟨start1.p0, start1.e0, start1.about1, start1.theMethod, start1.args0, start1.below0, start1.atStart⟩
end Jvm.Pilot.@@N@@
