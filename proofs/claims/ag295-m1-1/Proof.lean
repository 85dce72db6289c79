import JvmDerived
import JvmDerived.Pilot.@@N@@Statement
import JvmDerived.Pilot.@@N@@Code
set_option linter.unusedVariables false
set_option linter.unusedSimpArgs false
namespace Jvm.RoadKit
open Sem ClassFile Op Lib Jvm.Stand Jvm.Free Jvm.LawKit
section New
variable {p : Program} {l : Launch} {e : Env} {R : Room} {s : State} {m : MethodId} {args : Array Value} {below : List Frame} {meth : Method} {c : Code} {T : State} {locs : List Loc} {cells slots : Nat}
theorem retI (X : Stand p l e R s m args below meth c T locs cells slots) (hx : p.tables.exec = Jvm.exec) {pc : Nat} {Ls : Array Slot} {z : Int32} {rest : List Value} (hret : meth.sig.returnType = some .int) (hd : decode c.code pc = .ok (.ireturn, 1)) {fs : List Frame}
    (hl : ∀ (f : JFrame) (acts : List Action), f.method = m → f.locked = none → f.entered = [] → (doReturn e (T.setTop f) acts (some (.int z))).1 = T.setFrames fs) : Steps p.tables e below (T.setTop (mkF m pc Ls (.int z :: rest))) (T.setFrames fs) := by
  have hm' : T.vm.method? m = some meth := X.method'
  have hn : narrow .int (.int z) = .int z := rfl
  show Steps p.tables e below (T.setTop { method := m, pc := pc, locals := Ls, stack := _ :: rest, locked := none }) _
  jvm_step X.here [X.here.top, hx, hd, hm', hret, hn]
  first | (intro acts; rw [hl _ acts rfl rfl rfl]) | rw [hl _ _ rfl rfl rfl]
  exact Steps.refl _
end New
end Jvm.RoadKit
namespace Jvm.Pilot.@@N@@
open Jvm Jvm.ClassFile Sem Op Lib Jvm.Free Jvm.Stand Jvm.LawKit Jvm.RoadKit Bundle Jvm.Pilot.@@N@@.Jvm.D
abbrev lv (x : Int64) : Slot := .val (.long x)
theorem im (i : Nat) {d : Jvm.Cond} (h : tables_1[i]? = some d) : d ∈ tables_1 := List.mem_of_getElem? h
theorem own_go {tb : Tables} {e : Env} {below : List Frame} {S S' S0 : State} (P : ∀ t, Steps tb e below S t → Steps tb e below S0 t) (f : ∀ t, Steps tb e below S' t → Steps tb e below S t) : ∀ t, Steps tb e below S' t → Steps tb e below S0 t := fun t k => P t (f t k)
theorem own_sn {Z : State} {a0 : Array Value} {K O n d O' n' d' : String} (L : Laid Z a0 K O n d) (L' : Laid Z a0 K O' n' d') (hn : n ≠ n' := by decide) (ht : (parseFieldDescriptor d).isSome = true := by decide) (ht' : (parseFieldDescriptor d').isSome = true := by decide) : Jvm.RoadKit.slotOf Z O n d ≠ Jvm.RoadKit.slotOf Z O' n' d' := by
  obtain ⟨t, e⟩ := Option.isSome_iff_exists.mp ht
  obtain ⟨t', e'⟩ := Option.isSome_iff_exists.mp ht'
  exact slot_ne L L' hn e e'
theorem pn_0 : plainName "com/example/bylaws_for_tables/bylawsfortables/LineDigestsLeading64PinLaw" = true := by first | (simp [plainName, overriddenIn]; done) | decide +kernel
theorem d1_0 : decode prog_16_method_3_code 0 = .ok (.lconst 0, 1) := by decide +kernel
theorem d1_1 : decode prog_16_method_3_code 1 = .ok (.lstore_n 1, 1) := by decide +kernel
theorem d1_2 : decode prog_16_method_3_code 2 = .ok (.iconst 0, 1) := by decide +kernel
theorem d1_3 : decode prog_16_method_3_code 3 = .ok (.istore_n 3, 1) := by decide +kernel
theorem d1_4 : decode prog_16_method_3_code 4 = .ok (.iload_n 3, 1) := by decide +kernel
theorem d1_5 : decode prog_16_method_3_code 5 = .ok (.bipush 8, 2) := by decide +kernel
theorem d1_7 : decode prog_16_method_3_code 7 = .ok (.if_icmp .ge 23, 3) := by decide +kernel
theorem d1_10 : decode prog_16_method_3_code 10 = .ok (.lload_n 1, 1) := by decide +kernel
theorem d1_11 : decode prog_16_method_3_code 11 = .ok (.bipush 8, 2) := by decide +kernel
theorem d1_13 : decode prog_16_method_3_code 13 = .ok (.lshl, 1) := by decide +kernel
theorem d1_14 : decode prog_16_method_3_code 14 = .ok (.aload_n 0, 1) := by decide +kernel
theorem d1_15 : decode prog_16_method_3_code 15 = .ok (.iload_n 3, 1) := by decide +kernel
theorem d1_16 : decode prog_16_method_3_code 16 = .ok (.baload, 1) := by decide +kernel
theorem d1_17 : decode prog_16_method_3_code 17 = .ok (.sipush 255, 3) := by decide +kernel
theorem d1_20 : decode prog_16_method_3_code 20 = .ok (.iand, 1) := by decide +kernel
theorem d1_21 : decode prog_16_method_3_code 21 = .ok (.i2l, 1) := by decide +kernel
theorem d1_22 : decode prog_16_method_3_code 22 = .ok (.lor, 1) := by decide +kernel
theorem d1_23 : decode prog_16_method_3_code 23 = .ok (.lstore_n 1, 1) := by decide +kernel
theorem d1_24 : decode prog_16_method_3_code 24 = .ok (.iinc 3 1, 3) := by decide +kernel
theorem d1_27 : decode prog_16_method_3_code 27 = .ok (.goto (-23), 3) := by decide +kernel
theorem d1_30 : decode prog_16_method_3_code 30 = .ok (.lload_n 1, 1) := by decide +kernel
theorem d1_31 : decode prog_16_method_3_code 31 = .ok (.lreturn, 1) := by decide +kernel
theorem pn_1 : plainName "com/example/bylaws_for_tables/bylawsfortables/LineDigests" = true := by first | (simp [plainName, overriddenIn]; done) | decide +kernel
theorem pd_0 : parseMethodDescriptor "([B)J" = some ⟨[(.array .byte)], some .long⟩ := by decide +kernel
def own_turn (a : Int64) (y : Int32) : Int64 := ((a <<< ((8 : Int32) &&& 0x3f).toInt64) ||| ((y &&& (255 : Int32)).toInt64))
theorem own_turn_bv (a : Int64) (y : Int32) : (own_turn a y).toBitVec = (a.toBitVec <<< 8) ||| ((y.toBitVec &&& 255#32).setWidth 64) := by
  have h1 : (a <<< ((8 : Int32) &&& 0x3f).toInt64).toBitVec = a.toBitVec <<< 8 := rfl
  unfold own_turn
  rw [Int64.toBitVec_or, h1]
  congr 1
  show (y.toBitVec &&& 255#32).signExtend 64 = _
  apply BitVec.eq_of_getLsbD_eq
  intro i hi
  simp only [BitVec.getLsbD_signExtend, BitVec.getLsbD_setWidth, BitVec.getLsbD_and, BitVec.msb_eq_getLsbD_last]
  by_cases h : i < 32 <;> simp [h, hi]
  intro hh
  have : (255#32).getLsbD i = false := by
    apply BitVec.getLsbD_of_ge; omega
  rw [this]
theorem own_255 (i : Nat) (h : ¬ i < 8) : (255#32).getLsbD i = false := by
  have : (255#32) = (255#8).setWidth 32 := by decide
  rw [this, BitVec.getLsbD_setWidth, BitVec.getLsbD_of_ge _ _ (by omega)]; simp
theorem own_sx (b : BitVec 32) : (((b.signExtend 8).signExtend 32).signExtend 8).signExtend 32 &&& 255#32 = b &&& 255#32 := by
  apply BitVec.eq_of_getLsbD_eq
  intro i hi
  by_cases h : i < 8
  · have h1 : i < 32 := by omega
    simp only [BitVec.getLsbD_and, BitVec.getLsbD_signExtend, h, h1, decide_true, Bool.true_and, if_true]
  · rw [BitVec.getLsbD_and, BitVec.getLsbD_and, own_255 i h]; simp
theorem own_eq (x0 x1 : Int32) : (own_turn (own_turn (own_turn (own_turn (own_turn (own_turn (own_turn (own_turn (0 : Int64) ( (((x0.toUInt32 >>> ((24 : Int32) &&& 31).toUInt32).toInt32).toInt8.toInt32).toInt8.toInt32)) ( (((x0.toUInt32 >>> ((16 : Int32) &&& 31).toUInt32).toInt32).toInt8.toInt32).toInt8.toInt32)) ( (((x0.toUInt32 >>> ((8 : Int32) &&& 31).toUInt32).toInt32).toInt8.toInt32).toInt8.toInt32)) ( (x0.toInt8.toInt32).toInt8.toInt32)) ( (((x1.toUInt32 >>> ((24 : Int32) &&& 31).toUInt32).toInt32).toInt8.toInt32).toInt8.toInt32)) ( (((x1.toUInt32 >>> ((16 : Int32) &&& 31).toUInt32).toInt32).toInt8.toInt32).toInt8.toInt32)) ( (((x1.toUInt32 >>> ((8 : Int32) &&& 31).toUInt32).toInt32).toInt8.toInt32).toInt8.toInt32)) ( (x1.toInt8.toInt32).toInt8.toInt32)) = (((x0.toInt64) <<< ((32 : Int32) &&& 0x3f).toInt64) ||| ((x1.toInt64) &&& (4294967295 : Int64))) := by
  apply Int64.toBitVec_inj.mp
  rw [own_turn_bv, own_turn_bv, own_turn_bv, own_turn_bv, own_turn_bv, own_turn_bv, own_turn_bv, own_turn_bv]
  have s1 (x : Int32) : ((((((x.toUInt32 >>> ((24 : Int32) &&& 31).toUInt32).toInt32).toInt8.toInt32).toInt8.toInt32)).toBitVec &&& 255#32) = ((x.toBitVec >>> 24) &&& 255#32) := own_sx _
  have s2 (x : Int32) : ((((((x.toUInt32 >>> ((16 : Int32) &&& 31).toUInt32).toInt32).toInt8.toInt32).toInt8.toInt32)).toBitVec &&& 255#32) = ((x.toBitVec >>> 16) &&& 255#32) := own_sx _
  have s3 (x : Int32) : ((((((x.toUInt32 >>> ((8 : Int32) &&& 31).toUInt32).toInt32).toInt8.toInt32).toInt8.toInt32)).toBitVec &&& 255#32) = ((x.toBitVec >>> 8) &&& 255#32) := own_sx _
  have s4 (x : Int32) : ((((x.toInt8.toInt32).toInt8.toInt32)).toBitVec &&& 255#32) = (x.toBitVec &&& 255#32) := own_sx _
  rw [s1, s2, s3, s4, s1, s2, s3, s4]
  have r : (((x0.toInt64) <<< ((32 : Int32) &&& 0x3f).toInt64) ||| ((x1.toInt64) &&& (4294967295 : Int64))).toBitVec = ((x0.toBitVec.signExtend 64) <<< 32) ||| ((x1.toBitVec.signExtend 64) &&& 4294967295#64) := rfl
  rw [r]
  generalize x0.toBitVec = a
  generalize x1.toBitVec = b
  have z : (0 : Int64).toBitVec = 0#64 := rfl
  rw [z]
  apply BitVec.eq_of_getLsbD_eq
  intro i hi
  have hh : i = 0 ∨ i = 1 ∨ i = 2 ∨ i = 3 ∨ i = 4 ∨ i = 5 ∨ i = 6 ∨ i = 7 ∨ i = 8 ∨ i = 9 ∨ i = 10 ∨ i = 11 ∨ i = 12 ∨ i = 13 ∨ i = 14 ∨ i = 15 ∨ i = 16 ∨ i = 17 ∨ i = 18 ∨ i = 19 ∨ i = 20 ∨ i = 21 ∨ i = 22 ∨ i = 23 ∨ i = 24 ∨ i = 25 ∨ i = 26 ∨ i = 27 ∨ i = 28 ∨ i = 29 ∨ i = 30 ∨ i = 31 ∨ i = 32 ∨ i = 33 ∨ i = 34 ∨ i = 35 ∨ i = 36 ∨ i = 37 ∨ i = 38 ∨ i = 39 ∨ i = 40 ∨ i = 41 ∨ i = 42 ∨ i = 43 ∨ i = 44 ∨ i = 45 ∨ i = 46 ∨ i = 47 ∨ i = 48 ∨ i = 49 ∨ i = 50 ∨ i = 51 ∨ i = 52 ∨ i = 53 ∨ i = 54 ∨ i = 55 ∨ i = 56 ∨ i = 57 ∨ i = 58 ∨ i = 59 ∨ i = 60 ∨ i = 61 ∨ i = 62 ∨ i = 63 := by omega
  rcases hh with rfl | rfl | rfl | rfl | rfl | rfl | rfl | rfl | rfl | rfl | rfl | rfl | rfl | rfl | rfl | rfl | rfl | rfl | rfl | rfl | rfl | rfl | rfl | rfl | rfl | rfl | rfl | rfl | rfl | rfl | rfl | rfl | rfl | rfl | rfl | rfl | rfl | rfl | rfl | rfl | rfl | rfl | rfl | rfl | rfl | rfl | rfl | rfl | rfl | rfl | rfl | rfl | rfl | rfl | rfl | rfl | rfl | rfl | rfl | rfl | rfl | rfl | rfl | rfl <;> simp only [BitVec.getLsbD_or, BitVec.getLsbD_shiftLeft, BitVec.getLsbD_setWidth, BitVec.getLsbD_and, BitVec.getLsbD_ushiftRight, BitVec.getLsbD_signExtend, BitVec.getLsbD_zero, Nat.reduceLT, Nat.reduceAdd, Nat.reduceSub, decide_true, decide_false, Bool.not_true, Bool.not_false, Bool.true_and, Bool.and_true, Bool.false_and, Bool.and_false, Bool.or_false, Bool.false_or, BitVec.reduceGetLsb, if_true, if_false, Nat.lt_irrefl, Nat.not_lt_zero]
def Q1 (Z : State) (x0 : Addr) (kk : ClassId) (y0 : Int32) (y1 : Int32) (y2 : Int32) (y3 : Int32) (y4 : Int32) (y5 : Int32) (y6 : Int32) (y7 : Int32) (y8 : Int32) (y9 : Int32) (h0 : Heap) (n0 : Nat) (v : Option Value) (h : Heap) (L : List Loc) : Prop := v = some (.long (own_turn (own_turn (own_turn (own_turn (own_turn (own_turn (own_turn (own_turn (0 : Int64) y0) y1) y2) y3) y4) y5) y6) y7)) ∧ Fr n0 L ∧ h = h0
theorem ef_1 (m : MethodId) (x0 : Addr) : entryFrame m #[(.ref x0)] 4 = mkF m 0 #[rv x0, .unset, .unset, .unset] [] := by first | (simp [entryFrame, mkF, argsToLocals, Value.category]; done) | rfl
set_option maxRecDepth 65536 in
set_option maxHeartbeats 40000000 in
theorem rm1 (l : Launch) (Z : State) (a0 : Array Value) (hw : ∀ d ∈ tables_1, d.before a0 Z = true) (ws : List Jvm.Cond) (x0 : Addr) (kk : ClassId) (y0 : Int32) (y1 : Int32) (y2 : Int32) (y3 : Int32) (y4 : Int32) (y5 : Int32) (y6 : Int32) (y7 : Int32) (y8 : Int32) (y9 : Int32) (h0 : Heap) (n0 : Nat) (Z0 : n0 ≤ h0.size) (pre_A_x0 : Arv Z h0 x0 kk .byte (10 : Int32) [(.int y0), (.int y1), (.int y2), (.int y3), (.int y4), (.int y5), (.int y6), (.int y7), (.int y8), (.int y9)] (.int 0)) :
    MetFree l (⟨"com/example/bylaws_for_tables/bylawsfortables/LineDigests", "leading64", "([B)J"⟩ : MethodName) (head1 (Jvm.Cond.code (⟨"com/example/bylaws_for_tables/bylawsfortables/LineDigests", "leading64", "([B)J"⟩ : MethodName) prog_16_method_3_code 4 (some .long) :: ws) ({ frames := 0, cells := 0, slots := 0, locals := 0 } : Room)) (fun a U => a = #[(.ref x0)] ∧ Z.Warmed39 U.vm ∧ U.heap = h0) (fun _ _ _ _ _ => True) (fun _ U o U' => ∃ v L, o = .returned v ∧ Q1 Z x0 kk y0 y1 y2 y3 y4 y5 y6 y7 y8 y9 h0 n0 v U'.heap L ∧ FrameEnd U o U' L ({ frames := 0, cells := 0, slots := 0, locals := 0 } : Room).cells ({ frames := 0, cells := 0, slots := 0, locals := 0 } : Room).slots) := by
  refine MetFree.of_bodySF (plainFor_of_name pn_1) hisR ?_
  intro p e s m args below meth c s₁ Bd hml0 hP hK
  obtain ⟨rfl, hZ, hh⟩ := hP
  have hx := Bd.exec
  have hby := Bd.bytes
  have hml : c.maxLocals = 4 := hml0
  have hown : s.vm.findClass "com/example/bylaws_for_tables/bylawsfortables/LineDigests" = some m.cls := findClass_of_methodNamed Bd.named
  have hnm := (name_of_methodNamed Bd.named Bd.method).1
  have X0 : Stand p l e ({ frames := 0, cells := 0, slots := 0, locals := 0 } : Room) s m #[(.ref x0)] below meth c s₁ [] 0 0 := Stand.of_body Bd
  have e0 : s₁.heap = h0 := by rw [← hh, Bd.state]; rfl
  have N0 := Fr.nil n0
  have Kp0 := Keep.refl h0 []
  have P0 : ∀ t, Steps p.tables e below (s₁.setTop (mkF m 0 #[rv x0, .unset, .unset, .unset] [])) t → Steps p.tables e below (s₁.setTop (entryFrame m #[(.ref x0)] 4)) t := fun t k => castTop (ef_1 m x0) k
  obtain ⟨cl2, Ar2, qa2, S2, Nn2, H2, G2⟩ := id pre_A_x0
  have hin2 : ¬ ((0 : Int32) < 0 ∨ cl2.slots.size ≤ ((0 : Int32)).toNatClampNeg) := inb_of S2 ⟨by decide, by decide⟩
  have hat2 : cl2.slots[((0 : Int32)).toNatClampNeg]? = some (.int y0) := Has.at H2 hin2 rfl
  have P4 := own_go P0 (S' := s₁.setTop (mkF m 15 #[rv x0, lv ((0 : Int64) ||| ((y0 &&& (255 : Int32)).toInt64)), .second, iv 1] [(.ref x0), (.long (((0 : Int64) ||| ((y0 &&& (255 : Int32)).toInt64)) <<< ((8 : Int32) &&& 0x3f).toInt64))])) (by
    intro t k
    refine XS.lconst X0.here hx rfl (hb hby d1_0) ?_
    refine XS.lstoreN X0.here hx rfl (hb hby d1_1) rfl (l' := #[rv x0, lv 0, .second, .unset]) rfl ?_
    refine XS.iconst X0.here hx rfl (hb hby d1_2) ?_
    refine XS.istoreN X0.here hx rfl (hb hby d1_3) rfl (l' := #[rv x0, lv 0, .second, iv 0]) rfl ?_
    refine XS.iloadN X0.here hx rfl (hb hby d1_4) rfl ?_
    refine XS.bipush X0.here hx rfl (hb hby d1_5) ?_
    refine XS.icmpNo X0.here hx rfl (hb hby d1_7) rfl (tlt (by decide)).2.1 ?_
    refine XS.lloadN X0.here hx rfl (hb hby d1_10) rfl ?_
    show Steps p.tables e below (s₁.setTop (mkF m 11 #[rv x0, lv 0, .second, iv 0] [(.long 0)])) _
    refine XS.bipush X0.here hx rfl (hb hby d1_11) ?_
    refine XS.lshl X0.here hx rfl (hb hby d1_13) rfl ?_
    refine XS.aloadN X0.here hx rfl (hb hby d1_14) rfl rfl ?_
    refine XS.iloadN X0.here hx rfl (hb hby d1_15) rfl ?_
    refine X0.baloadBytes hx (j := (0 : Int32)) (v := (.int y0)) (by rw [e0]; exact Ar2.1) (State.isArrayOf_alike hZ.alike Ar2.2.1) Ar2.2.2 hin2 hat2 (g := (mkF m 16 #[rv x0, lv 0, .second, iv 0] [(.int 0), (.ref x0), (.long 0)])) rfl rfl (hb hby d1_16) _ ?_
    refine XS.sipush X0.here hx rfl (hb hby d1_17) ?_
    refine XS.iand X0.here hx rfl (hb hby d1_20) rfl ?_
    refine XS.i2l X0.here hx rfl (hb hby d1_21) rfl ?_
    show Steps p.tables e below (s₁.setTop (mkF m 22 #[rv x0, lv 0, .second, iv 0] [(.long ((y0 &&& (255 : Int32)).toInt64)), (.long 0)])) _
    refine XS.lor X0.here hx rfl (hb hby d1_22) rfl ?_
    refine XS.lstoreN X0.here hx rfl (hb hby d1_23) rfl (l' := #[rv x0, lv ((0 : Int64) ||| ((y0 &&& (255 : Int32)).toInt64)), .second, iv 0]) rfl ?_
    refine XS.iinc X0.here hx rfl (hb hby d1_24) rfl (l' := #[rv x0, lv ((0 : Int64) ||| ((y0 &&& (255 : Int32)).toInt64)), .second, iv 1]) rfl ?_
    refine XS.goto X0.here hx rfl (pc0 := 27) (pc' := 4) rfl (hb hby d1_27) (by decide) (by decide) ?_
    refine XS.iloadN X0.here hx rfl (hb hby d1_4) rfl ?_
    refine XS.bipush X0.here hx rfl (hb hby d1_5) ?_
    refine XS.icmpNo X0.here hx rfl (hb hby d1_7) rfl (tlt (by decide)).2.1 ?_
    refine XS.lloadN X0.here hx rfl (hb hby d1_10) rfl ?_
    show Steps p.tables e below (s₁.setTop (mkF m 11 #[rv x0, lv ((0 : Int64) ||| ((y0 &&& (255 : Int32)).toInt64)), .second, iv 1] [(.long ((0 : Int64) ||| ((y0 &&& (255 : Int32)).toInt64)))])) _
    refine XS.bipush X0.here hx rfl (hb hby d1_11) ?_
    refine XS.lshl X0.here hx rfl (hb hby d1_13) rfl ?_
    refine XS.aloadN X0.here hx rfl (hb hby d1_14) rfl rfl ?_
    exact k)
  obtain ⟨cl5, Ar5, qa5, S5, Nn5, H5, G5⟩ := id pre_A_x0
  have hin5 : ¬ ((1 : Int32) < 0 ∨ cl5.slots.size ≤ ((1 : Int32)).toNatClampNeg) := inb_of S5 ⟨by decide, by decide⟩
  have hat5 : cl5.slots[((1 : Int32)).toNatClampNeg]? = some (.int y1) := Has.at H5 hin5 rfl
  obtain ⟨cl7, Ar7, qa7, S7, Nn7, H7, G7⟩ := id pre_A_x0
  have hin7 : ¬ ((2 : Int32) < 0 ∨ cl7.slots.size ≤ ((2 : Int32)).toNatClampNeg) := inb_of S7 ⟨by decide, by decide⟩
  have hat7 : cl7.slots[((2 : Int32)).toNatClampNeg]? = some (.int y2) := Has.at H7 hin7 rfl
  have P8 := own_go P4 (S' := s₁.setTop (mkF m 5 #[rv x0, lv ((((((0 : Int64) ||| ((y0 &&& (255 : Int32)).toInt64)) <<< ((8 : Int32) &&& 0x3f).toInt64) ||| ((y1 &&& (255 : Int32)).toInt64)) <<< ((8 : Int32) &&& 0x3f).toInt64) ||| ((y2 &&& (255 : Int32)).toInt64)), .second, iv 3] [(.int 3)])) (by
    intro t k
    refine XS.iloadN X0.here hx rfl (hb hby d1_15) rfl ?_
    refine X0.baloadBytes hx (j := (1 : Int32)) (v := (.int y1)) (by rw [e0]; exact Ar5.1) (State.isArrayOf_alike hZ.alike Ar5.2.1) Ar5.2.2 hin5 hat5 (g := (mkF m 16 #[rv x0, lv ((0 : Int64) ||| ((y0 &&& (255 : Int32)).toInt64)), .second, iv 1] [(.int 1), (.ref x0), (.long (((0 : Int64) ||| ((y0 &&& (255 : Int32)).toInt64)) <<< ((8 : Int32) &&& 0x3f).toInt64))])) rfl rfl (hb hby d1_16) _ ?_
    refine XS.sipush X0.here hx rfl (hb hby d1_17) ?_
    refine XS.iand X0.here hx rfl (hb hby d1_20) rfl ?_
    refine XS.i2l X0.here hx rfl (hb hby d1_21) rfl ?_
    refine XS.lor X0.here hx rfl (hb hby d1_22) rfl ?_
    refine XS.lstoreN X0.here hx rfl (hb hby d1_23) rfl (l' := #[rv x0, lv ((((0 : Int64) ||| ((y0 &&& (255 : Int32)).toInt64)) <<< ((8 : Int32) &&& 0x3f).toInt64) ||| ((y1 &&& (255 : Int32)).toInt64)), .second, iv 1]) rfl ?_
    refine XS.iinc X0.here hx rfl (hb hby d1_24) rfl (l' := #[rv x0, lv ((((0 : Int64) ||| ((y0 &&& (255 : Int32)).toInt64)) <<< ((8 : Int32) &&& 0x3f).toInt64) ||| ((y1 &&& (255 : Int32)).toInt64)), .second, iv 2]) rfl ?_
    show Steps p.tables e below (s₁.setTop (mkF m 27 #[rv x0, lv ((((0 : Int64) ||| ((y0 &&& (255 : Int32)).toInt64)) <<< ((8 : Int32) &&& 0x3f).toInt64) ||| ((y1 &&& (255 : Int32)).toInt64)), .second, iv 2] [])) _
    refine XS.goto X0.here hx rfl (pc0 := 27) (pc' := 4) rfl (hb hby d1_27) (by decide) (by decide) ?_
    refine XS.iloadN X0.here hx rfl (hb hby d1_4) rfl ?_
    refine XS.bipush X0.here hx rfl (hb hby d1_5) ?_
    refine XS.icmpNo X0.here hx rfl (hb hby d1_7) rfl (tlt (by decide)).2.1 ?_
    refine XS.lloadN X0.here hx rfl (hb hby d1_10) rfl ?_
    refine XS.bipush X0.here hx rfl (hb hby d1_11) ?_
    refine XS.lshl X0.here hx rfl (hb hby d1_13) rfl ?_
    refine XS.aloadN X0.here hx rfl (hb hby d1_14) rfl rfl ?_
    show Steps p.tables e below (s₁.setTop (mkF m 15 #[rv x0, lv ((((0 : Int64) ||| ((y0 &&& (255 : Int32)).toInt64)) <<< ((8 : Int32) &&& 0x3f).toInt64) ||| ((y1 &&& (255 : Int32)).toInt64)), .second, iv 2] [(.ref x0), (.long (((((0 : Int64) ||| ((y0 &&& (255 : Int32)).toInt64)) <<< ((8 : Int32) &&& 0x3f).toInt64) ||| ((y1 &&& (255 : Int32)).toInt64)) <<< ((8 : Int32) &&& 0x3f).toInt64))])) _
    refine XS.iloadN X0.here hx rfl (hb hby d1_15) rfl ?_
    refine X0.baloadBytes hx (j := (2 : Int32)) (v := (.int y2)) (by rw [e0]; exact Ar7.1) (State.isArrayOf_alike hZ.alike Ar7.2.1) Ar7.2.2 hin7 hat7 (g := (mkF m 16 #[rv x0, lv ((((0 : Int64) ||| ((y0 &&& (255 : Int32)).toInt64)) <<< ((8 : Int32) &&& 0x3f).toInt64) ||| ((y1 &&& (255 : Int32)).toInt64)), .second, iv 2] [(.int 2), (.ref x0), (.long (((((0 : Int64) ||| ((y0 &&& (255 : Int32)).toInt64)) <<< ((8 : Int32) &&& 0x3f).toInt64) ||| ((y1 &&& (255 : Int32)).toInt64)) <<< ((8 : Int32) &&& 0x3f).toInt64))])) rfl rfl (hb hby d1_16) _ ?_
    refine XS.sipush X0.here hx rfl (hb hby d1_17) ?_
    refine XS.iand X0.here hx rfl (hb hby d1_20) rfl ?_
    refine XS.i2l X0.here hx rfl (hb hby d1_21) rfl ?_
    refine XS.lor X0.here hx rfl (hb hby d1_22) rfl ?_
    refine XS.lstoreN X0.here hx rfl (hb hby d1_23) rfl (l' := #[rv x0, lv ((((((0 : Int64) ||| ((y0 &&& (255 : Int32)).toInt64)) <<< ((8 : Int32) &&& 0x3f).toInt64) ||| ((y1 &&& (255 : Int32)).toInt64)) <<< ((8 : Int32) &&& 0x3f).toInt64) ||| ((y2 &&& (255 : Int32)).toInt64)), .second, iv 2]) rfl ?_
    refine XS.iinc X0.here hx rfl (hb hby d1_24) rfl (l' := #[rv x0, lv ((((((0 : Int64) ||| ((y0 &&& (255 : Int32)).toInt64)) <<< ((8 : Int32) &&& 0x3f).toInt64) ||| ((y1 &&& (255 : Int32)).toInt64)) <<< ((8 : Int32) &&& 0x3f).toInt64) ||| ((y2 &&& (255 : Int32)).toInt64)), .second, iv 3]) rfl ?_
    show Steps p.tables e below (s₁.setTop (mkF m 27 #[rv x0, lv ((((((0 : Int64) ||| ((y0 &&& (255 : Int32)).toInt64)) <<< ((8 : Int32) &&& 0x3f).toInt64) ||| ((y1 &&& (255 : Int32)).toInt64)) <<< ((8 : Int32) &&& 0x3f).toInt64) ||| ((y2 &&& (255 : Int32)).toInt64)), .second, iv 3] [])) _
    refine XS.goto X0.here hx rfl (pc0 := 27) (pc' := 4) rfl (hb hby d1_27) (by decide) (by decide) ?_
    refine XS.iloadN X0.here hx rfl (hb hby d1_4) rfl ?_
    exact k)
  obtain ⟨cl10, Ar10, qa10, S10, Nn10, H10, G10⟩ := id pre_A_x0
  have hin10 : ¬ ((3 : Int32) < 0 ∨ cl10.slots.size ≤ ((3 : Int32)).toNatClampNeg) := inb_of S10 ⟨by decide, by decide⟩
  have hat10 : cl10.slots[((3 : Int32)).toNatClampNeg]? = some (.int y3) := Has.at H10 hin10 rfl
  obtain ⟨cl12, Ar12, qa12, S12, Nn12, H12, G12⟩ := id pre_A_x0
  have hin12 : ¬ ((4 : Int32) < 0 ∨ cl12.slots.size ≤ ((4 : Int32)).toNatClampNeg) := inb_of S12 ⟨by decide, by decide⟩
  have hat12 : cl12.slots[((4 : Int32)).toNatClampNeg]? = some (.int y4) := Has.at H12 hin12 rfl
  have P13 := own_go P8 (S' := s₁.setTop (mkF m 22 #[rv x0, lv ((((((((0 : Int64) ||| ((y0 &&& (255 : Int32)).toInt64)) <<< ((8 : Int32) &&& 0x3f).toInt64) ||| ((y1 &&& (255 : Int32)).toInt64)) <<< ((8 : Int32) &&& 0x3f).toInt64) ||| ((y2 &&& (255 : Int32)).toInt64)) <<< ((8 : Int32) &&& 0x3f).toInt64) ||| ((y3 &&& (255 : Int32)).toInt64)), .second, iv 4] [(.long ((y4 &&& (255 : Int32)).toInt64)), (.long (((((((((0 : Int64) ||| ((y0 &&& (255 : Int32)).toInt64)) <<< ((8 : Int32) &&& 0x3f).toInt64) ||| ((y1 &&& (255 : Int32)).toInt64)) <<< ((8 : Int32) &&& 0x3f).toInt64) ||| ((y2 &&& (255 : Int32)).toInt64)) <<< ((8 : Int32) &&& 0x3f).toInt64) ||| ((y3 &&& (255 : Int32)).toInt64)) <<< ((8 : Int32) &&& 0x3f).toInt64))])) (by
    intro t k
    refine XS.bipush X0.here hx rfl (hb hby d1_5) ?_
    refine XS.icmpNo X0.here hx rfl (hb hby d1_7) rfl (tlt (by decide)).2.1 ?_
    refine XS.lloadN X0.here hx rfl (hb hby d1_10) rfl ?_
    refine XS.bipush X0.here hx rfl (hb hby d1_11) ?_
    refine XS.lshl X0.here hx rfl (hb hby d1_13) rfl ?_
    refine XS.aloadN X0.here hx rfl (hb hby d1_14) rfl rfl ?_
    refine XS.iloadN X0.here hx rfl (hb hby d1_15) rfl ?_
    refine X0.baloadBytes hx (j := (3 : Int32)) (v := (.int y3)) (by rw [e0]; exact Ar10.1) (State.isArrayOf_alike hZ.alike Ar10.2.1) Ar10.2.2 hin10 hat10 (g := (mkF m 16 #[rv x0, lv ((((((0 : Int64) ||| ((y0 &&& (255 : Int32)).toInt64)) <<< ((8 : Int32) &&& 0x3f).toInt64) ||| ((y1 &&& (255 : Int32)).toInt64)) <<< ((8 : Int32) &&& 0x3f).toInt64) ||| ((y2 &&& (255 : Int32)).toInt64)), .second, iv 3] [(.int 3), (.ref x0), (.long (((((((0 : Int64) ||| ((y0 &&& (255 : Int32)).toInt64)) <<< ((8 : Int32) &&& 0x3f).toInt64) ||| ((y1 &&& (255 : Int32)).toInt64)) <<< ((8 : Int32) &&& 0x3f).toInt64) ||| ((y2 &&& (255 : Int32)).toInt64)) <<< ((8 : Int32) &&& 0x3f).toInt64))])) rfl rfl (hb hby d1_16) _ ?_
    show Steps p.tables e below (s₁.setTop (mkF m 17 #[rv x0, lv ((((((0 : Int64) ||| ((y0 &&& (255 : Int32)).toInt64)) <<< ((8 : Int32) &&& 0x3f).toInt64) ||| ((y1 &&& (255 : Int32)).toInt64)) <<< ((8 : Int32) &&& 0x3f).toInt64) ||| ((y2 &&& (255 : Int32)).toInt64)), .second, iv 3] [(.int y3), (.long (((((((0 : Int64) ||| ((y0 &&& (255 : Int32)).toInt64)) <<< ((8 : Int32) &&& 0x3f).toInt64) ||| ((y1 &&& (255 : Int32)).toInt64)) <<< ((8 : Int32) &&& 0x3f).toInt64) ||| ((y2 &&& (255 : Int32)).toInt64)) <<< ((8 : Int32) &&& 0x3f).toInt64))])) _
    refine XS.sipush X0.here hx rfl (hb hby d1_17) ?_
    refine XS.iand X0.here hx rfl (hb hby d1_20) rfl ?_
    refine XS.i2l X0.here hx rfl (hb hby d1_21) rfl ?_
    refine XS.lor X0.here hx rfl (hb hby d1_22) rfl ?_
    refine XS.lstoreN X0.here hx rfl (hb hby d1_23) rfl (l' := #[rv x0, lv ((((((((0 : Int64) ||| ((y0 &&& (255 : Int32)).toInt64)) <<< ((8 : Int32) &&& 0x3f).toInt64) ||| ((y1 &&& (255 : Int32)).toInt64)) <<< ((8 : Int32) &&& 0x3f).toInt64) ||| ((y2 &&& (255 : Int32)).toInt64)) <<< ((8 : Int32) &&& 0x3f).toInt64) ||| ((y3 &&& (255 : Int32)).toInt64)), .second, iv 3]) rfl ?_
    refine XS.iinc X0.here hx rfl (hb hby d1_24) rfl (l' := #[rv x0, lv ((((((((0 : Int64) ||| ((y0 &&& (255 : Int32)).toInt64)) <<< ((8 : Int32) &&& 0x3f).toInt64) ||| ((y1 &&& (255 : Int32)).toInt64)) <<< ((8 : Int32) &&& 0x3f).toInt64) ||| ((y2 &&& (255 : Int32)).toInt64)) <<< ((8 : Int32) &&& 0x3f).toInt64) ||| ((y3 &&& (255 : Int32)).toInt64)), .second, iv 4]) rfl ?_
    refine XS.goto X0.here hx rfl (pc0 := 27) (pc' := 4) rfl (hb hby d1_27) (by decide) (by decide) ?_
    refine XS.iloadN X0.here hx rfl (hb hby d1_4) rfl ?_
    show Steps p.tables e below (s₁.setTop (mkF m 5 #[rv x0, lv ((((((((0 : Int64) ||| ((y0 &&& (255 : Int32)).toInt64)) <<< ((8 : Int32) &&& 0x3f).toInt64) ||| ((y1 &&& (255 : Int32)).toInt64)) <<< ((8 : Int32) &&& 0x3f).toInt64) ||| ((y2 &&& (255 : Int32)).toInt64)) <<< ((8 : Int32) &&& 0x3f).toInt64) ||| ((y3 &&& (255 : Int32)).toInt64)), .second, iv 4] [(.int 4)])) _
    refine XS.bipush X0.here hx rfl (hb hby d1_5) ?_
    refine XS.icmpNo X0.here hx rfl (hb hby d1_7) rfl (tlt (by decide)).2.1 ?_
    refine XS.lloadN X0.here hx rfl (hb hby d1_10) rfl ?_
    refine XS.bipush X0.here hx rfl (hb hby d1_11) ?_
    refine XS.lshl X0.here hx rfl (hb hby d1_13) rfl ?_
    refine XS.aloadN X0.here hx rfl (hb hby d1_14) rfl rfl ?_
    refine XS.iloadN X0.here hx rfl (hb hby d1_15) rfl ?_
    refine X0.baloadBytes hx (j := (4 : Int32)) (v := (.int y4)) (by rw [e0]; exact Ar12.1) (State.isArrayOf_alike hZ.alike Ar12.2.1) Ar12.2.2 hin12 hat12 (g := (mkF m 16 #[rv x0, lv ((((((((0 : Int64) ||| ((y0 &&& (255 : Int32)).toInt64)) <<< ((8 : Int32) &&& 0x3f).toInt64) ||| ((y1 &&& (255 : Int32)).toInt64)) <<< ((8 : Int32) &&& 0x3f).toInt64) ||| ((y2 &&& (255 : Int32)).toInt64)) <<< ((8 : Int32) &&& 0x3f).toInt64) ||| ((y3 &&& (255 : Int32)).toInt64)), .second, iv 4] [(.int 4), (.ref x0), (.long (((((((((0 : Int64) ||| ((y0 &&& (255 : Int32)).toInt64)) <<< ((8 : Int32) &&& 0x3f).toInt64) ||| ((y1 &&& (255 : Int32)).toInt64)) <<< ((8 : Int32) &&& 0x3f).toInt64) ||| ((y2 &&& (255 : Int32)).toInt64)) <<< ((8 : Int32) &&& 0x3f).toInt64) ||| ((y3 &&& (255 : Int32)).toInt64)) <<< ((8 : Int32) &&& 0x3f).toInt64))])) rfl rfl (hb hby d1_16) _ ?_
    show Steps p.tables e below (s₁.setTop (mkF m 17 #[rv x0, lv ((((((((0 : Int64) ||| ((y0 &&& (255 : Int32)).toInt64)) <<< ((8 : Int32) &&& 0x3f).toInt64) ||| ((y1 &&& (255 : Int32)).toInt64)) <<< ((8 : Int32) &&& 0x3f).toInt64) ||| ((y2 &&& (255 : Int32)).toInt64)) <<< ((8 : Int32) &&& 0x3f).toInt64) ||| ((y3 &&& (255 : Int32)).toInt64)), .second, iv 4] [(.int y4), (.long (((((((((0 : Int64) ||| ((y0 &&& (255 : Int32)).toInt64)) <<< ((8 : Int32) &&& 0x3f).toInt64) ||| ((y1 &&& (255 : Int32)).toInt64)) <<< ((8 : Int32) &&& 0x3f).toInt64) ||| ((y2 &&& (255 : Int32)).toInt64)) <<< ((8 : Int32) &&& 0x3f).toInt64) ||| ((y3 &&& (255 : Int32)).toInt64)) <<< ((8 : Int32) &&& 0x3f).toInt64))])) _
    refine XS.sipush X0.here hx rfl (hb hby d1_17) ?_
    refine XS.iand X0.here hx rfl (hb hby d1_20) rfl ?_
    refine XS.i2l X0.here hx rfl (hb hby d1_21) rfl ?_
    exact k)
  obtain ⟨cl15, Ar15, qa15, S15, Nn15, H15, G15⟩ := id pre_A_x0
  have hin15 : ¬ ((5 : Int32) < 0 ∨ cl15.slots.size ≤ ((5 : Int32)).toNatClampNeg) := inb_of S15 ⟨by decide, by decide⟩
  have hat15 : cl15.slots[((5 : Int32)).toNatClampNeg]? = some (.int y5) := Has.at H15 hin15 rfl
  have P17 := own_go P13 (S' := s₁.setTop (mkF m 15 #[rv x0, lv ((((((((((((0 : Int64) ||| ((y0 &&& (255 : Int32)).toInt64)) <<< ((8 : Int32) &&& 0x3f).toInt64) ||| ((y1 &&& (255 : Int32)).toInt64)) <<< ((8 : Int32) &&& 0x3f).toInt64) ||| ((y2 &&& (255 : Int32)).toInt64)) <<< ((8 : Int32) &&& 0x3f).toInt64) ||| ((y3 &&& (255 : Int32)).toInt64)) <<< ((8 : Int32) &&& 0x3f).toInt64) ||| ((y4 &&& (255 : Int32)).toInt64)) <<< ((8 : Int32) &&& 0x3f).toInt64) ||| ((y5 &&& (255 : Int32)).toInt64)), .second, iv 6] [(.ref x0), (.long (((((((((((((0 : Int64) ||| ((y0 &&& (255 : Int32)).toInt64)) <<< ((8 : Int32) &&& 0x3f).toInt64) ||| ((y1 &&& (255 : Int32)).toInt64)) <<< ((8 : Int32) &&& 0x3f).toInt64) ||| ((y2 &&& (255 : Int32)).toInt64)) <<< ((8 : Int32) &&& 0x3f).toInt64) ||| ((y3 &&& (255 : Int32)).toInt64)) <<< ((8 : Int32) &&& 0x3f).toInt64) ||| ((y4 &&& (255 : Int32)).toInt64)) <<< ((8 : Int32) &&& 0x3f).toInt64) ||| ((y5 &&& (255 : Int32)).toInt64)) <<< ((8 : Int32) &&& 0x3f).toInt64))])) (by
    intro t k
    refine XS.lor X0.here hx rfl (hb hby d1_22) rfl ?_
    refine XS.lstoreN X0.here hx rfl (hb hby d1_23) rfl (l' := #[rv x0, lv ((((((((((0 : Int64) ||| ((y0 &&& (255 : Int32)).toInt64)) <<< ((8 : Int32) &&& 0x3f).toInt64) ||| ((y1 &&& (255 : Int32)).toInt64)) <<< ((8 : Int32) &&& 0x3f).toInt64) ||| ((y2 &&& (255 : Int32)).toInt64)) <<< ((8 : Int32) &&& 0x3f).toInt64) ||| ((y3 &&& (255 : Int32)).toInt64)) <<< ((8 : Int32) &&& 0x3f).toInt64) ||| ((y4 &&& (255 : Int32)).toInt64)), .second, iv 4]) rfl ?_
    refine XS.iinc X0.here hx rfl (hb hby d1_24) rfl (l' := #[rv x0, lv ((((((((((0 : Int64) ||| ((y0 &&& (255 : Int32)).toInt64)) <<< ((8 : Int32) &&& 0x3f).toInt64) ||| ((y1 &&& (255 : Int32)).toInt64)) <<< ((8 : Int32) &&& 0x3f).toInt64) ||| ((y2 &&& (255 : Int32)).toInt64)) <<< ((8 : Int32) &&& 0x3f).toInt64) ||| ((y3 &&& (255 : Int32)).toInt64)) <<< ((8 : Int32) &&& 0x3f).toInt64) ||| ((y4 &&& (255 : Int32)).toInt64)), .second, iv 5]) rfl ?_
    refine XS.goto X0.here hx rfl (pc0 := 27) (pc' := 4) rfl (hb hby d1_27) (by decide) (by decide) ?_
    refine XS.iloadN X0.here hx rfl (hb hby d1_4) rfl ?_
    refine XS.bipush X0.here hx rfl (hb hby d1_5) ?_
    refine XS.icmpNo X0.here hx rfl (hb hby d1_7) rfl (tlt (by decide)).2.1 ?_
    refine XS.lloadN X0.here hx rfl (hb hby d1_10) rfl ?_
    show Steps p.tables e below (s₁.setTop (mkF m 11 #[rv x0, lv ((((((((((0 : Int64) ||| ((y0 &&& (255 : Int32)).toInt64)) <<< ((8 : Int32) &&& 0x3f).toInt64) ||| ((y1 &&& (255 : Int32)).toInt64)) <<< ((8 : Int32) &&& 0x3f).toInt64) ||| ((y2 &&& (255 : Int32)).toInt64)) <<< ((8 : Int32) &&& 0x3f).toInt64) ||| ((y3 &&& (255 : Int32)).toInt64)) <<< ((8 : Int32) &&& 0x3f).toInt64) ||| ((y4 &&& (255 : Int32)).toInt64)), .second, iv 5] [(.long ((((((((((0 : Int64) ||| ((y0 &&& (255 : Int32)).toInt64)) <<< ((8 : Int32) &&& 0x3f).toInt64) ||| ((y1 &&& (255 : Int32)).toInt64)) <<< ((8 : Int32) &&& 0x3f).toInt64) ||| ((y2 &&& (255 : Int32)).toInt64)) <<< ((8 : Int32) &&& 0x3f).toInt64) ||| ((y3 &&& (255 : Int32)).toInt64)) <<< ((8 : Int32) &&& 0x3f).toInt64) ||| ((y4 &&& (255 : Int32)).toInt64)))])) _
    refine XS.bipush X0.here hx rfl (hb hby d1_11) ?_
    refine XS.lshl X0.here hx rfl (hb hby d1_13) rfl ?_
    refine XS.aloadN X0.here hx rfl (hb hby d1_14) rfl rfl ?_
    refine XS.iloadN X0.here hx rfl (hb hby d1_15) rfl ?_
    refine X0.baloadBytes hx (j := (5 : Int32)) (v := (.int y5)) (by rw [e0]; exact Ar15.1) (State.isArrayOf_alike hZ.alike Ar15.2.1) Ar15.2.2 hin15 hat15 (g := (mkF m 16 #[rv x0, lv ((((((((((0 : Int64) ||| ((y0 &&& (255 : Int32)).toInt64)) <<< ((8 : Int32) &&& 0x3f).toInt64) ||| ((y1 &&& (255 : Int32)).toInt64)) <<< ((8 : Int32) &&& 0x3f).toInt64) ||| ((y2 &&& (255 : Int32)).toInt64)) <<< ((8 : Int32) &&& 0x3f).toInt64) ||| ((y3 &&& (255 : Int32)).toInt64)) <<< ((8 : Int32) &&& 0x3f).toInt64) ||| ((y4 &&& (255 : Int32)).toInt64)), .second, iv 5] [(.int 5), (.ref x0), (.long (((((((((((0 : Int64) ||| ((y0 &&& (255 : Int32)).toInt64)) <<< ((8 : Int32) &&& 0x3f).toInt64) ||| ((y1 &&& (255 : Int32)).toInt64)) <<< ((8 : Int32) &&& 0x3f).toInt64) ||| ((y2 &&& (255 : Int32)).toInt64)) <<< ((8 : Int32) &&& 0x3f).toInt64) ||| ((y3 &&& (255 : Int32)).toInt64)) <<< ((8 : Int32) &&& 0x3f).toInt64) ||| ((y4 &&& (255 : Int32)).toInt64)) <<< ((8 : Int32) &&& 0x3f).toInt64))])) rfl rfl (hb hby d1_16) _ ?_
    refine XS.sipush X0.here hx rfl (hb hby d1_17) ?_
    refine XS.iand X0.here hx rfl (hb hby d1_20) rfl ?_
    refine XS.i2l X0.here hx rfl (hb hby d1_21) rfl ?_
    show Steps p.tables e below (s₁.setTop (mkF m 22 #[rv x0, lv ((((((((((0 : Int64) ||| ((y0 &&& (255 : Int32)).toInt64)) <<< ((8 : Int32) &&& 0x3f).toInt64) ||| ((y1 &&& (255 : Int32)).toInt64)) <<< ((8 : Int32) &&& 0x3f).toInt64) ||| ((y2 &&& (255 : Int32)).toInt64)) <<< ((8 : Int32) &&& 0x3f).toInt64) ||| ((y3 &&& (255 : Int32)).toInt64)) <<< ((8 : Int32) &&& 0x3f).toInt64) ||| ((y4 &&& (255 : Int32)).toInt64)), .second, iv 5] [(.long ((y5 &&& (255 : Int32)).toInt64)), (.long (((((((((((0 : Int64) ||| ((y0 &&& (255 : Int32)).toInt64)) <<< ((8 : Int32) &&& 0x3f).toInt64) ||| ((y1 &&& (255 : Int32)).toInt64)) <<< ((8 : Int32) &&& 0x3f).toInt64) ||| ((y2 &&& (255 : Int32)).toInt64)) <<< ((8 : Int32) &&& 0x3f).toInt64) ||| ((y3 &&& (255 : Int32)).toInt64)) <<< ((8 : Int32) &&& 0x3f).toInt64) ||| ((y4 &&& (255 : Int32)).toInt64)) <<< ((8 : Int32) &&& 0x3f).toInt64))])) _
    refine XS.lor X0.here hx rfl (hb hby d1_22) rfl ?_
    refine XS.lstoreN X0.here hx rfl (hb hby d1_23) rfl (l' := #[rv x0, lv ((((((((((((0 : Int64) ||| ((y0 &&& (255 : Int32)).toInt64)) <<< ((8 : Int32) &&& 0x3f).toInt64) ||| ((y1 &&& (255 : Int32)).toInt64)) <<< ((8 : Int32) &&& 0x3f).toInt64) ||| ((y2 &&& (255 : Int32)).toInt64)) <<< ((8 : Int32) &&& 0x3f).toInt64) ||| ((y3 &&& (255 : Int32)).toInt64)) <<< ((8 : Int32) &&& 0x3f).toInt64) ||| ((y4 &&& (255 : Int32)).toInt64)) <<< ((8 : Int32) &&& 0x3f).toInt64) ||| ((y5 &&& (255 : Int32)).toInt64)), .second, iv 5]) rfl ?_
    refine XS.iinc X0.here hx rfl (hb hby d1_24) rfl (l' := #[rv x0, lv ((((((((((((0 : Int64) ||| ((y0 &&& (255 : Int32)).toInt64)) <<< ((8 : Int32) &&& 0x3f).toInt64) ||| ((y1 &&& (255 : Int32)).toInt64)) <<< ((8 : Int32) &&& 0x3f).toInt64) ||| ((y2 &&& (255 : Int32)).toInt64)) <<< ((8 : Int32) &&& 0x3f).toInt64) ||| ((y3 &&& (255 : Int32)).toInt64)) <<< ((8 : Int32) &&& 0x3f).toInt64) ||| ((y4 &&& (255 : Int32)).toInt64)) <<< ((8 : Int32) &&& 0x3f).toInt64) ||| ((y5 &&& (255 : Int32)).toInt64)), .second, iv 6]) rfl ?_
    refine XS.goto X0.here hx rfl (pc0 := 27) (pc' := 4) rfl (hb hby d1_27) (by decide) (by decide) ?_
    refine XS.iloadN X0.here hx rfl (hb hby d1_4) rfl ?_
    refine XS.bipush X0.here hx rfl (hb hby d1_5) ?_
    refine XS.icmpNo X0.here hx rfl (hb hby d1_7) rfl (tlt (by decide)).2.1 ?_
    refine XS.lloadN X0.here hx rfl (hb hby d1_10) rfl ?_
    show Steps p.tables e below (s₁.setTop (mkF m 11 #[rv x0, lv ((((((((((((0 : Int64) ||| ((y0 &&& (255 : Int32)).toInt64)) <<< ((8 : Int32) &&& 0x3f).toInt64) ||| ((y1 &&& (255 : Int32)).toInt64)) <<< ((8 : Int32) &&& 0x3f).toInt64) ||| ((y2 &&& (255 : Int32)).toInt64)) <<< ((8 : Int32) &&& 0x3f).toInt64) ||| ((y3 &&& (255 : Int32)).toInt64)) <<< ((8 : Int32) &&& 0x3f).toInt64) ||| ((y4 &&& (255 : Int32)).toInt64)) <<< ((8 : Int32) &&& 0x3f).toInt64) ||| ((y5 &&& (255 : Int32)).toInt64)), .second, iv 6] [(.long ((((((((((((0 : Int64) ||| ((y0 &&& (255 : Int32)).toInt64)) <<< ((8 : Int32) &&& 0x3f).toInt64) ||| ((y1 &&& (255 : Int32)).toInt64)) <<< ((8 : Int32) &&& 0x3f).toInt64) ||| ((y2 &&& (255 : Int32)).toInt64)) <<< ((8 : Int32) &&& 0x3f).toInt64) ||| ((y3 &&& (255 : Int32)).toInt64)) <<< ((8 : Int32) &&& 0x3f).toInt64) ||| ((y4 &&& (255 : Int32)).toInt64)) <<< ((8 : Int32) &&& 0x3f).toInt64) ||| ((y5 &&& (255 : Int32)).toInt64)))])) _
    refine XS.bipush X0.here hx rfl (hb hby d1_11) ?_
    refine XS.lshl X0.here hx rfl (hb hby d1_13) rfl ?_
    refine XS.aloadN X0.here hx rfl (hb hby d1_14) rfl rfl ?_
    exact k)
  obtain ⟨cl18, Ar18, qa18, S18, Nn18, H18, G18⟩ := id pre_A_x0
  have hin18 : ¬ ((6 : Int32) < 0 ∨ cl18.slots.size ≤ ((6 : Int32)).toNatClampNeg) := inb_of S18 ⟨by decide, by decide⟩
  have hat18 : cl18.slots[((6 : Int32)).toNatClampNeg]? = some (.int y6) := Has.at H18 hin18 rfl
  obtain ⟨cl20, Ar20, qa20, S20, Nn20, H20, G20⟩ := id pre_A_x0
  have hin20 : ¬ ((7 : Int32) < 0 ∨ cl20.slots.size ≤ ((7 : Int32)).toNatClampNeg) := inb_of S20 ⟨by decide, by decide⟩
  have hat20 : cl20.slots[((7 : Int32)).toNatClampNeg]? = some (.int y7) := Has.at H20 hin20 rfl
  have P21 := own_go P17 (S' := s₁.setTop (mkF m 5 #[rv x0, lv ((((((((((((((((0 : Int64) ||| ((y0 &&& (255 : Int32)).toInt64)) <<< ((8 : Int32) &&& 0x3f).toInt64) ||| ((y1 &&& (255 : Int32)).toInt64)) <<< ((8 : Int32) &&& 0x3f).toInt64) ||| ((y2 &&& (255 : Int32)).toInt64)) <<< ((8 : Int32) &&& 0x3f).toInt64) ||| ((y3 &&& (255 : Int32)).toInt64)) <<< ((8 : Int32) &&& 0x3f).toInt64) ||| ((y4 &&& (255 : Int32)).toInt64)) <<< ((8 : Int32) &&& 0x3f).toInt64) ||| ((y5 &&& (255 : Int32)).toInt64)) <<< ((8 : Int32) &&& 0x3f).toInt64) ||| ((y6 &&& (255 : Int32)).toInt64)) <<< ((8 : Int32) &&& 0x3f).toInt64) ||| ((y7 &&& (255 : Int32)).toInt64)), .second, iv 8] [(.int 8)])) (by
    intro t k
    refine XS.iloadN X0.here hx rfl (hb hby d1_15) rfl ?_
    refine X0.baloadBytes hx (j := (6 : Int32)) (v := (.int y6)) (by rw [e0]; exact Ar18.1) (State.isArrayOf_alike hZ.alike Ar18.2.1) Ar18.2.2 hin18 hat18 (g := (mkF m 16 #[rv x0, lv ((((((((((((0 : Int64) ||| ((y0 &&& (255 : Int32)).toInt64)) <<< ((8 : Int32) &&& 0x3f).toInt64) ||| ((y1 &&& (255 : Int32)).toInt64)) <<< ((8 : Int32) &&& 0x3f).toInt64) ||| ((y2 &&& (255 : Int32)).toInt64)) <<< ((8 : Int32) &&& 0x3f).toInt64) ||| ((y3 &&& (255 : Int32)).toInt64)) <<< ((8 : Int32) &&& 0x3f).toInt64) ||| ((y4 &&& (255 : Int32)).toInt64)) <<< ((8 : Int32) &&& 0x3f).toInt64) ||| ((y5 &&& (255 : Int32)).toInt64)), .second, iv 6] [(.int 6), (.ref x0), (.long (((((((((((((0 : Int64) ||| ((y0 &&& (255 : Int32)).toInt64)) <<< ((8 : Int32) &&& 0x3f).toInt64) ||| ((y1 &&& (255 : Int32)).toInt64)) <<< ((8 : Int32) &&& 0x3f).toInt64) ||| ((y2 &&& (255 : Int32)).toInt64)) <<< ((8 : Int32) &&& 0x3f).toInt64) ||| ((y3 &&& (255 : Int32)).toInt64)) <<< ((8 : Int32) &&& 0x3f).toInt64) ||| ((y4 &&& (255 : Int32)).toInt64)) <<< ((8 : Int32) &&& 0x3f).toInt64) ||| ((y5 &&& (255 : Int32)).toInt64)) <<< ((8 : Int32) &&& 0x3f).toInt64))])) rfl rfl (hb hby d1_16) _ ?_
    refine XS.sipush X0.here hx rfl (hb hby d1_17) ?_
    refine XS.iand X0.here hx rfl (hb hby d1_20) rfl ?_
    refine XS.i2l X0.here hx rfl (hb hby d1_21) rfl ?_
    refine XS.lor X0.here hx rfl (hb hby d1_22) rfl ?_
    refine XS.lstoreN X0.here hx rfl (hb hby d1_23) rfl (l' := #[rv x0, lv ((((((((((((((0 : Int64) ||| ((y0 &&& (255 : Int32)).toInt64)) <<< ((8 : Int32) &&& 0x3f).toInt64) ||| ((y1 &&& (255 : Int32)).toInt64)) <<< ((8 : Int32) &&& 0x3f).toInt64) ||| ((y2 &&& (255 : Int32)).toInt64)) <<< ((8 : Int32) &&& 0x3f).toInt64) ||| ((y3 &&& (255 : Int32)).toInt64)) <<< ((8 : Int32) &&& 0x3f).toInt64) ||| ((y4 &&& (255 : Int32)).toInt64)) <<< ((8 : Int32) &&& 0x3f).toInt64) ||| ((y5 &&& (255 : Int32)).toInt64)) <<< ((8 : Int32) &&& 0x3f).toInt64) ||| ((y6 &&& (255 : Int32)).toInt64)), .second, iv 6]) rfl ?_
    refine XS.iinc X0.here hx rfl (hb hby d1_24) rfl (l' := #[rv x0, lv ((((((((((((((0 : Int64) ||| ((y0 &&& (255 : Int32)).toInt64)) <<< ((8 : Int32) &&& 0x3f).toInt64) ||| ((y1 &&& (255 : Int32)).toInt64)) <<< ((8 : Int32) &&& 0x3f).toInt64) ||| ((y2 &&& (255 : Int32)).toInt64)) <<< ((8 : Int32) &&& 0x3f).toInt64) ||| ((y3 &&& (255 : Int32)).toInt64)) <<< ((8 : Int32) &&& 0x3f).toInt64) ||| ((y4 &&& (255 : Int32)).toInt64)) <<< ((8 : Int32) &&& 0x3f).toInt64) ||| ((y5 &&& (255 : Int32)).toInt64)) <<< ((8 : Int32) &&& 0x3f).toInt64) ||| ((y6 &&& (255 : Int32)).toInt64)), .second, iv 7]) rfl ?_
    show Steps p.tables e below (s₁.setTop (mkF m 27 #[rv x0, lv ((((((((((((((0 : Int64) ||| ((y0 &&& (255 : Int32)).toInt64)) <<< ((8 : Int32) &&& 0x3f).toInt64) ||| ((y1 &&& (255 : Int32)).toInt64)) <<< ((8 : Int32) &&& 0x3f).toInt64) ||| ((y2 &&& (255 : Int32)).toInt64)) <<< ((8 : Int32) &&& 0x3f).toInt64) ||| ((y3 &&& (255 : Int32)).toInt64)) <<< ((8 : Int32) &&& 0x3f).toInt64) ||| ((y4 &&& (255 : Int32)).toInt64)) <<< ((8 : Int32) &&& 0x3f).toInt64) ||| ((y5 &&& (255 : Int32)).toInt64)) <<< ((8 : Int32) &&& 0x3f).toInt64) ||| ((y6 &&& (255 : Int32)).toInt64)), .second, iv 7] [])) _
    refine XS.goto X0.here hx rfl (pc0 := 27) (pc' := 4) rfl (hb hby d1_27) (by decide) (by decide) ?_
    refine XS.iloadN X0.here hx rfl (hb hby d1_4) rfl ?_
    refine XS.bipush X0.here hx rfl (hb hby d1_5) ?_
    refine XS.icmpNo X0.here hx rfl (hb hby d1_7) rfl (tlt (by decide)).2.1 ?_
    refine XS.lloadN X0.here hx rfl (hb hby d1_10) rfl ?_
    refine XS.bipush X0.here hx rfl (hb hby d1_11) ?_
    refine XS.lshl X0.here hx rfl (hb hby d1_13) rfl ?_
    refine XS.aloadN X0.here hx rfl (hb hby d1_14) rfl rfl ?_
    show Steps p.tables e below (s₁.setTop (mkF m 15 #[rv x0, lv ((((((((((((((0 : Int64) ||| ((y0 &&& (255 : Int32)).toInt64)) <<< ((8 : Int32) &&& 0x3f).toInt64) ||| ((y1 &&& (255 : Int32)).toInt64)) <<< ((8 : Int32) &&& 0x3f).toInt64) ||| ((y2 &&& (255 : Int32)).toInt64)) <<< ((8 : Int32) &&& 0x3f).toInt64) ||| ((y3 &&& (255 : Int32)).toInt64)) <<< ((8 : Int32) &&& 0x3f).toInt64) ||| ((y4 &&& (255 : Int32)).toInt64)) <<< ((8 : Int32) &&& 0x3f).toInt64) ||| ((y5 &&& (255 : Int32)).toInt64)) <<< ((8 : Int32) &&& 0x3f).toInt64) ||| ((y6 &&& (255 : Int32)).toInt64)), .second, iv 7] [(.ref x0), (.long (((((((((((((((0 : Int64) ||| ((y0 &&& (255 : Int32)).toInt64)) <<< ((8 : Int32) &&& 0x3f).toInt64) ||| ((y1 &&& (255 : Int32)).toInt64)) <<< ((8 : Int32) &&& 0x3f).toInt64) ||| ((y2 &&& (255 : Int32)).toInt64)) <<< ((8 : Int32) &&& 0x3f).toInt64) ||| ((y3 &&& (255 : Int32)).toInt64)) <<< ((8 : Int32) &&& 0x3f).toInt64) ||| ((y4 &&& (255 : Int32)).toInt64)) <<< ((8 : Int32) &&& 0x3f).toInt64) ||| ((y5 &&& (255 : Int32)).toInt64)) <<< ((8 : Int32) &&& 0x3f).toInt64) ||| ((y6 &&& (255 : Int32)).toInt64)) <<< ((8 : Int32) &&& 0x3f).toInt64))])) _
    refine XS.iloadN X0.here hx rfl (hb hby d1_15) rfl ?_
    refine X0.baloadBytes hx (j := (7 : Int32)) (v := (.int y7)) (by rw [e0]; exact Ar20.1) (State.isArrayOf_alike hZ.alike Ar20.2.1) Ar20.2.2 hin20 hat20 (g := (mkF m 16 #[rv x0, lv ((((((((((((((0 : Int64) ||| ((y0 &&& (255 : Int32)).toInt64)) <<< ((8 : Int32) &&& 0x3f).toInt64) ||| ((y1 &&& (255 : Int32)).toInt64)) <<< ((8 : Int32) &&& 0x3f).toInt64) ||| ((y2 &&& (255 : Int32)).toInt64)) <<< ((8 : Int32) &&& 0x3f).toInt64) ||| ((y3 &&& (255 : Int32)).toInt64)) <<< ((8 : Int32) &&& 0x3f).toInt64) ||| ((y4 &&& (255 : Int32)).toInt64)) <<< ((8 : Int32) &&& 0x3f).toInt64) ||| ((y5 &&& (255 : Int32)).toInt64)) <<< ((8 : Int32) &&& 0x3f).toInt64) ||| ((y6 &&& (255 : Int32)).toInt64)), .second, iv 7] [(.int 7), (.ref x0), (.long (((((((((((((((0 : Int64) ||| ((y0 &&& (255 : Int32)).toInt64)) <<< ((8 : Int32) &&& 0x3f).toInt64) ||| ((y1 &&& (255 : Int32)).toInt64)) <<< ((8 : Int32) &&& 0x3f).toInt64) ||| ((y2 &&& (255 : Int32)).toInt64)) <<< ((8 : Int32) &&& 0x3f).toInt64) ||| ((y3 &&& (255 : Int32)).toInt64)) <<< ((8 : Int32) &&& 0x3f).toInt64) ||| ((y4 &&& (255 : Int32)).toInt64)) <<< ((8 : Int32) &&& 0x3f).toInt64) ||| ((y5 &&& (255 : Int32)).toInt64)) <<< ((8 : Int32) &&& 0x3f).toInt64) ||| ((y6 &&& (255 : Int32)).toInt64)) <<< ((8 : Int32) &&& 0x3f).toInt64))])) rfl rfl (hb hby d1_16) _ ?_
    refine XS.sipush X0.here hx rfl (hb hby d1_17) ?_
    refine XS.iand X0.here hx rfl (hb hby d1_20) rfl ?_
    refine XS.i2l X0.here hx rfl (hb hby d1_21) rfl ?_
    refine XS.lor X0.here hx rfl (hb hby d1_22) rfl ?_
    refine XS.lstoreN X0.here hx rfl (hb hby d1_23) rfl (l' := #[rv x0, lv ((((((((((((((((0 : Int64) ||| ((y0 &&& (255 : Int32)).toInt64)) <<< ((8 : Int32) &&& 0x3f).toInt64) ||| ((y1 &&& (255 : Int32)).toInt64)) <<< ((8 : Int32) &&& 0x3f).toInt64) ||| ((y2 &&& (255 : Int32)).toInt64)) <<< ((8 : Int32) &&& 0x3f).toInt64) ||| ((y3 &&& (255 : Int32)).toInt64)) <<< ((8 : Int32) &&& 0x3f).toInt64) ||| ((y4 &&& (255 : Int32)).toInt64)) <<< ((8 : Int32) &&& 0x3f).toInt64) ||| ((y5 &&& (255 : Int32)).toInt64)) <<< ((8 : Int32) &&& 0x3f).toInt64) ||| ((y6 &&& (255 : Int32)).toInt64)) <<< ((8 : Int32) &&& 0x3f).toInt64) ||| ((y7 &&& (255 : Int32)).toInt64)), .second, iv 7]) rfl ?_
    refine XS.iinc X0.here hx rfl (hb hby d1_24) rfl (l' := #[rv x0, lv ((((((((((((((((0 : Int64) ||| ((y0 &&& (255 : Int32)).toInt64)) <<< ((8 : Int32) &&& 0x3f).toInt64) ||| ((y1 &&& (255 : Int32)).toInt64)) <<< ((8 : Int32) &&& 0x3f).toInt64) ||| ((y2 &&& (255 : Int32)).toInt64)) <<< ((8 : Int32) &&& 0x3f).toInt64) ||| ((y3 &&& (255 : Int32)).toInt64)) <<< ((8 : Int32) &&& 0x3f).toInt64) ||| ((y4 &&& (255 : Int32)).toInt64)) <<< ((8 : Int32) &&& 0x3f).toInt64) ||| ((y5 &&& (255 : Int32)).toInt64)) <<< ((8 : Int32) &&& 0x3f).toInt64) ||| ((y6 &&& (255 : Int32)).toInt64)) <<< ((8 : Int32) &&& 0x3f).toInt64) ||| ((y7 &&& (255 : Int32)).toInt64)), .second, iv 8]) rfl ?_
    show Steps p.tables e below (s₁.setTop (mkF m 27 #[rv x0, lv ((((((((((((((((0 : Int64) ||| ((y0 &&& (255 : Int32)).toInt64)) <<< ((8 : Int32) &&& 0x3f).toInt64) ||| ((y1 &&& (255 : Int32)).toInt64)) <<< ((8 : Int32) &&& 0x3f).toInt64) ||| ((y2 &&& (255 : Int32)).toInt64)) <<< ((8 : Int32) &&& 0x3f).toInt64) ||| ((y3 &&& (255 : Int32)).toInt64)) <<< ((8 : Int32) &&& 0x3f).toInt64) ||| ((y4 &&& (255 : Int32)).toInt64)) <<< ((8 : Int32) &&& 0x3f).toInt64) ||| ((y5 &&& (255 : Int32)).toInt64)) <<< ((8 : Int32) &&& 0x3f).toInt64) ||| ((y6 &&& (255 : Int32)).toInt64)) <<< ((8 : Int32) &&& 0x3f).toInt64) ||| ((y7 &&& (255 : Int32)).toInt64)), .second, iv 8] [])) _
    refine XS.goto X0.here hx rfl (pc0 := 27) (pc' := 4) rfl (hb hby d1_27) (by decide) (by decide) ?_
    refine XS.iloadN X0.here hx rfl (hb hby d1_4) rfl ?_
    exact k)
  have P23 := own_go P21 (S' := s₁.setTop (mkF m 31 #[rv x0, lv ((((((((((((((((0 : Int64) ||| ((y0 &&& (255 : Int32)).toInt64)) <<< ((8 : Int32) &&& 0x3f).toInt64) ||| ((y1 &&& (255 : Int32)).toInt64)) <<< ((8 : Int32) &&& 0x3f).toInt64) ||| ((y2 &&& (255 : Int32)).toInt64)) <<< ((8 : Int32) &&& 0x3f).toInt64) ||| ((y3 &&& (255 : Int32)).toInt64)) <<< ((8 : Int32) &&& 0x3f).toInt64) ||| ((y4 &&& (255 : Int32)).toInt64)) <<< ((8 : Int32) &&& 0x3f).toInt64) ||| ((y5 &&& (255 : Int32)).toInt64)) <<< ((8 : Int32) &&& 0x3f).toInt64) ||| ((y6 &&& (255 : Int32)).toInt64)) <<< ((8 : Int32) &&& 0x3f).toInt64) ||| ((y7 &&& (255 : Int32)).toInt64)), .second, iv 8] [(.long ((((((((((((((((0 : Int64) ||| ((y0 &&& (255 : Int32)).toInt64)) <<< ((8 : Int32) &&& 0x3f).toInt64) ||| ((y1 &&& (255 : Int32)).toInt64)) <<< ((8 : Int32) &&& 0x3f).toInt64) ||| ((y2 &&& (255 : Int32)).toInt64)) <<< ((8 : Int32) &&& 0x3f).toInt64) ||| ((y3 &&& (255 : Int32)).toInt64)) <<< ((8 : Int32) &&& 0x3f).toInt64) ||| ((y4 &&& (255 : Int32)).toInt64)) <<< ((8 : Int32) &&& 0x3f).toInt64) ||| ((y5 &&& (255 : Int32)).toInt64)) <<< ((8 : Int32) &&& 0x3f).toInt64) ||| ((y6 &&& (255 : Int32)).toInt64)) <<< ((8 : Int32) &&& 0x3f).toInt64) ||| ((y7 &&& (255 : Int32)).toInt64)))])) (by
    intro t k
    refine XS.bipush X0.here hx rfl (hb hby d1_5) ?_
    refine XS.icmpYes X0.here hx rfl (pc0 := 7) (pc' := 30) rfl (hb hby d1_7) rfl (flt (by decide)).2.1 (by decide) (by decide) ?_
    refine XS.lloadN X0.here hx rfl (hb hby d1_30) rfl ?_
    exact k)
  obtain ⟨fs, hr, hrun, hended, hW, hsame⟩ := X0.leave (v := some (.long ((((((((((((((((0 : Int64) ||| ((y0 &&& (255 : Int32)).toInt64)) <<< ((8 : Int32) &&& 0x3f).toInt64) ||| ((y1 &&& (255 : Int32)).toInt64)) <<< ((8 : Int32) &&& 0x3f).toInt64) ||| ((y2 &&& (255 : Int32)).toInt64)) <<< ((8 : Int32) &&& 0x3f).toInt64) ||| ((y3 &&& (255 : Int32)).toInt64)) <<< ((8 : Int32) &&& 0x3f).toInt64) ||| ((y4 &&& (255 : Int32)).toInt64)) <<< ((8 : Int32) &&& 0x3f).toInt64) ||| ((y5 &&& (255 : Int32)).toInt64)) <<< ((8 : Int32) &&& 0x3f).toInt64) ||| ((y6 &&& (255 : Int32)).toInt64)) <<< ((8 : Int32) &&& 0x3f).toInt64) ||| ((y7 &&& (255 : Int32)).toInt64)))) (fun h => by rw [Bd.returns] at h; cases h)
  refine ⟨_, _, P23 _ ?_, hrun, hended, _, _, rfl, ?_, ⟨_, rfl⟩, hW, hsame.mono (by decide) (by decide)⟩
  · show Steps p.tables e below (s₁.setTop (mkF m 31 #[rv x0, lv ((((((((((((((((0 : Int64) ||| ((y0 &&& (255 : Int32)).toInt64)) <<< ((8 : Int32) &&& 0x3f).toInt64) ||| ((y1 &&& (255 : Int32)).toInt64)) <<< ((8 : Int32) &&& 0x3f).toInt64) ||| ((y2 &&& (255 : Int32)).toInt64)) <<< ((8 : Int32) &&& 0x3f).toInt64) ||| ((y3 &&& (255 : Int32)).toInt64)) <<< ((8 : Int32) &&& 0x3f).toInt64) ||| ((y4 &&& (255 : Int32)).toInt64)) <<< ((8 : Int32) &&& 0x3f).toInt64) ||| ((y5 &&& (255 : Int32)).toInt64)) <<< ((8 : Int32) &&& 0x3f).toInt64) ||| ((y6 &&& (255 : Int32)).toInt64)) <<< ((8 : Int32) &&& 0x3f).toInt64) ||| ((y7 &&& (255 : Int32)).toInt64)), .second, iv 8] [(.long ((((((((((((((((0 : Int64) ||| ((y0 &&& (255 : Int32)).toInt64)) <<< ((8 : Int32) &&& 0x3f).toInt64) ||| ((y1 &&& (255 : Int32)).toInt64)) <<< ((8 : Int32) &&& 0x3f).toInt64) ||| ((y2 &&& (255 : Int32)).toInt64)) <<< ((8 : Int32) &&& 0x3f).toInt64) ||| ((y3 &&& (255 : Int32)).toInt64)) <<< ((8 : Int32) &&& 0x3f).toInt64) ||| ((y4 &&& (255 : Int32)).toInt64)) <<< ((8 : Int32) &&& 0x3f).toInt64) ||| ((y5 &&& (255 : Int32)).toInt64)) <<< ((8 : Int32) &&& 0x3f).toInt64) ||| ((y6 &&& (255 : Int32)).toInt64)) <<< ((8 : Int32) &&& 0x3f).toInt64) ||| ((y7 &&& (255 : Int32)).toInt64)))])) _
    exact retOut X0 hx (t := .long) Bd.returns rfl (Or.inr (Or.inl ⟨rfl, rfl, _, rfl⟩)) (hb hby d1_31) hr
  · show Q1 Z x0 kk y0 y1 y2 y3 y4 y5 y6 y7 y8 y9 h0 n0 _ s₁.heap _
    rw [e0]
    exact ⟨(rfl), N0, rfl⟩
def Q0 (Z : State) (x0 : Int32) (x1 : Int32) (x2 : Int32) (h0 : Heap) (n0 : Nat) (v : Option Value) (h : Heap) (L : List Loc) : Prop := v = some (.int 1) ∧ Fr n0 L
theorem ef_0 (m : MethodId) (x0 : Int32) (x1 : Int32) (x2 : Int32) : entryFrame m #[(.int x0), (.int x1), (.int x2)] maxLocals = mkF m 0 #[iv x0, iv x1, iv x2, .unset, .unset, .unset] [] := by first | (simp [entryFrame, mkF, argsToLocals, Value.category, maxLocals]; done) | rfl
set_option maxRecDepth 65536 in
set_option maxHeartbeats 40000000 in
theorem rm0 (l : Launch) (Z : State) (a0 : Array Value) (hw : ∀ d ∈ tables_1, d.before a0 Z = true) (ws : List Jvm.Cond) (x0 : Int32) (x1 : Int32) (x2 : Int32) (h0 : Heap) (n0 : Nat) (Z0 : n0 ≤ h0.size) :
    MetFree l x (head1 (Jvm.Cond.code x code maxLocals ret :: ws) room_1) (fun a U => a = #[(.int x0), (.int x1), (.int x2)] ∧ Z.Warmed39 U.vm ∧ U.heap = h0) (fun _ _ _ _ _ => True) (fun _ U o U' => ∃ v L, o = .returned v ∧ Q0 Z x0 x1 x2 h0 n0 v U'.heap L ∧ FrameEnd U o U' L room_1.cells room_1.slots) := by
  refine MetFree.of_bodySF (plainFor_of_name pn_0) hisR ?_
  intro p e s m args below meth c s₁ Bd hml0 hP hK
  obtain ⟨rfl, hZ, hh⟩ := hP
  have hx := Bd.exec
  have hby := Bd.bytes
  have hml : c.maxLocals = 6 := hml0
  have hown : s.vm.findClass "com/example/bylaws_for_tables/bylawsfortables/LineDigestsLeading64PinLaw" = some m.cls := findClass_of_methodNamed Bd.named
  have hnm := (name_of_methodNamed Bd.named Bd.method).1
  have X0 : Stand p l e room_1 s m #[(.int x0), (.int x1), (.int x2)] below meth c s₁ [] 0 0 := Stand.of_body Bd
  have e0 : s₁.heap = h0 := by rw [← hh, Bd.state]; rfl
  have N0 := Fr.nil n0
  have Kp0 := Keep.refl h0 []
  have P0 : ∀ t, Steps p.tables e below (s₁.setTop (mkF m 0 #[iv x0, iv x1, iv x2, .unset, .unset, .unset] [])) t → Steps p.tables e below (s₁.setTop (entryFrame m #[(.int x0), (.int x1), (.int x2)] maxLocals)) t := fun t k => castTop (ef_0 m x0 x1 x2) k
  obtain ⟨T1, h1, k1, X1, e1, E1, A1, st1⟩ := newP X0 hx hZ (hw _ (im 0 rfl)) e0 (g := (mkF m 2 #[iv x0, iv x1, iv x2, .unset, .unset, .unset] [(.int 10)])) rfl (hb hby at_2) rfl (by decide) (cap := 10) (by decide) (by decide) (by decide) (by decide)
  obtain ⟨b1, g1⟩ : ∃ z, z = h0.size := ⟨_, rfl⟩
  rw [← g1] at A1 st1
  have ge_b1 : n0 ≤ b1 := Nat.le_trans Z0 (Nat.le_of_eq g1.symm)
  have Z1_ : n0 ≤ h1.size := Nat.le_trans Z0 E1.1
  have V1 : Arv Z h1 b1 k1 .byte (10 : Int32) [(.int 0), (.int 0), (.int 0), (.int 0), (.int 0), (.int 0), (.int 0), (.int 0), (.int 0), (.int 0)] (.int 0) := (Arv.new A1 (by decide)).pad (pad_rep [] (.int 0) 10)
  obtain ⟨cl2, Ar2, qa2, S2, Nn2, H2, G2⟩ := id V1
  have hin2 : ¬ ((0 : Int32) < 0 ∨ cl2.slots.size ≤ ((0 : Int32)).toNatClampNeg) := inb_of S2 ⟨by decide, by decide⟩
  obtain ⟨T3, h3, X3, e3, W3, st3⟩ := stB X1 hx hZ e1 Ar2 (j := (0 : Int32)) hin2 (g := (mkF m 12 #[iv x0, iv x1, iv x2, rv b1, .unset, .unset] [(.int (((x0.toUInt32 >>> ((24 : Int32) &&& 31).toUInt32).toInt32).toInt8.toInt32)), (.int 0), (.ref b1)])) rfl rfl (hb hby at_12)
  have Z3_ : n0 ≤ h3.size := Nat.le_trans Z1_ (Nat.le_of_eq W3.size.symm)
  have N3 := Fr.snoc X3 N0 ge_b1
  have V3 : Arv Z h3 b1 k1 .byte (10 : Int32) [(.int (nar .byte (((x0.toUInt32 >>> ((24 : Int32) &&& 31).toUInt32).toInt32).toInt8.toInt32))), (.int 0), (.int 0), (.int 0), (.int 0), (.int 0), (.int 0), (.int 0), (.int 0), (.int 0)] (.int 0) := Arv.set Ar2 qa2 S2 Nn2 H2 G2 (fits_nar_byte _) W3 0 rfl (Nat.le_of_ble_eq_true rfl)
  obtain ⟨cl4, Ar4, qa4, S4, Nn4, H4, G4⟩ := id V3
  have hin4 : ¬ ((1 : Int32) < 0 ∨ cl4.slots.size ≤ ((1 : Int32)).toNatClampNeg) := inb_of S4 ⟨by decide, by decide⟩
  obtain ⟨T5, h5, X5, e5, W5, st5⟩ := stB X3 hx hZ e3 Ar4 (j := (1 : Int32)) hin4 (g := (mkF m 20 #[iv x0, iv x1, iv x2, rv b1, .unset, .unset] [(.int (((x0.toUInt32 >>> ((16 : Int32) &&& 31).toUInt32).toInt32).toInt8.toInt32)), (.int 1), (.ref b1)])) rfl rfl (hb hby at_20)
  have Z5_ : n0 ≤ h5.size := Nat.le_trans Z3_ (Nat.le_of_eq W5.size.symm)
  have N5 := Fr.snoc X5 N3 ge_b1
  have V5 : Arv Z h5 b1 k1 .byte (10 : Int32) [(.int (nar .byte (((x0.toUInt32 >>> ((24 : Int32) &&& 31).toUInt32).toInt32).toInt8.toInt32))), (.int (nar .byte (((x0.toUInt32 >>> ((16 : Int32) &&& 31).toUInt32).toInt32).toInt8.toInt32))), (.int 0), (.int 0), (.int 0), (.int 0), (.int 0), (.int 0), (.int 0), (.int 0)] (.int 0) := Arv.set Ar4 qa4 S4 Nn4 H4 G4 (fits_nar_byte _) W5 1 rfl (Nat.le_of_ble_eq_true rfl)
  obtain ⟨cl6, Ar6, qa6, S6, Nn6, H6, G6⟩ := id V5
  have hin6 : ¬ ((2 : Int32) < 0 ∨ cl6.slots.size ≤ ((2 : Int32)).toNatClampNeg) := inb_of S6 ⟨by decide, by decide⟩
  obtain ⟨T7, h7, X7, e7, W7, st7⟩ := stB X5 hx hZ e5 Ar6 (j := (2 : Int32)) hin6 (g := (mkF m 28 #[iv x0, iv x1, iv x2, rv b1, .unset, .unset] [(.int (((x0.toUInt32 >>> ((8 : Int32) &&& 31).toUInt32).toInt32).toInt8.toInt32)), (.int 2), (.ref b1)])) rfl rfl (hb hby at_28)
  have Z7_ : n0 ≤ h7.size := Nat.le_trans Z5_ (Nat.le_of_eq W7.size.symm)
  have N7 := Fr.snoc X7 N5 ge_b1
  have V7 : Arv Z h7 b1 k1 .byte (10 : Int32) [(.int (nar .byte (((x0.toUInt32 >>> ((24 : Int32) &&& 31).toUInt32).toInt32).toInt8.toInt32))), (.int (nar .byte (((x0.toUInt32 >>> ((16 : Int32) &&& 31).toUInt32).toInt32).toInt8.toInt32))), (.int (nar .byte (((x0.toUInt32 >>> ((8 : Int32) &&& 31).toUInt32).toInt32).toInt8.toInt32))), (.int 0), (.int 0), (.int 0), (.int 0), (.int 0), (.int 0), (.int 0)] (.int 0) := Arv.set Ar6 qa6 S6 Nn6 H6 G6 (fits_nar_byte _) W7 2 rfl (Nat.le_of_ble_eq_true rfl)
  have P8 := own_go P0 (S' := T7.setTop (mkF m 30 #[iv x0, iv x1, iv x2, rv b1, .unset, .unset] [(.ref b1)])) (by
    intro t k
    refine XS.bipush X0.here hx rfl (hb hby at_0) ?_
    refine st1 _ ?_
    refine XS.astoreN X1.here hx rfl (hb hby at_4) rfl rfl (l' := #[iv x0, iv x1, iv x2, rv b1, .unset, .unset]) rfl ?_
    refine XS.aloadN X1.here hx rfl (hb hby at_5) rfl rfl ?_
    refine XS.iconst X1.here hx rfl (hb hby at_6) ?_
    refine XS.iloadN X1.here hx rfl (hb hby at_7) rfl ?_
    refine XS.bipush X1.here hx rfl (hb hby at_8) ?_
    refine XS.iushr X1.here hx rfl (hb hby at_10) rfl ?_
    show Steps p.tables e below (T1.setTop (mkF m 11 #[iv x0, iv x1, iv x2, rv b1, .unset, .unset] [(.int ((x0.toUInt32 >>> ((24 : Int32) &&& 31).toUInt32).toInt32)), (.int 0), (.ref b1)])) _
    refine XS.i2b X1.here hx rfl (hb hby at_11) rfl ?_
    refine st3 _ ?_
    refine XS.aloadN X3.here hx rfl (hb hby at_13) rfl rfl ?_
    refine XS.iconst X3.here hx rfl (hb hby at_14) ?_
    refine XS.iloadN X3.here hx rfl (hb hby at_15) rfl ?_
    refine XS.bipush X3.here hx rfl (hb hby at_16) ?_
    refine XS.iushr X3.here hx rfl (hb hby at_18) rfl ?_
    refine XS.i2b X3.here hx rfl (hb hby at_19) rfl ?_
    show Steps p.tables e below (T3.setTop (mkF m 20 #[iv x0, iv x1, iv x2, rv b1, .unset, .unset] [(.int (((x0.toUInt32 >>> ((16 : Int32) &&& 31).toUInt32).toInt32).toInt8.toInt32)), (.int 1), (.ref b1)])) _
    refine st5 _ ?_
    refine XS.aloadN X5.here hx rfl (hb hby at_21) rfl rfl ?_
    refine XS.iconst X5.here hx rfl (hb hby at_22) ?_
    refine XS.iloadN X5.here hx rfl (hb hby at_23) rfl ?_
    refine XS.bipush X5.here hx rfl (hb hby at_24) ?_
    refine XS.iushr X5.here hx rfl (hb hby at_26) rfl ?_
    refine XS.i2b X5.here hx rfl (hb hby at_27) rfl ?_
    refine st7 _ ?_
    show Steps p.tables e below (T7.setTop (mkF m 29 #[iv x0, iv x1, iv x2, rv b1, .unset, .unset] [])) _
    refine XS.aloadN X7.here hx rfl (hb hby at_29) rfl rfl ?_
    exact k)
  obtain ⟨cl9, Ar9, qa9, S9, Nn9, H9, G9⟩ := id V7
  have hin9 : ¬ ((3 : Int32) < 0 ∨ cl9.slots.size ≤ ((3 : Int32)).toNatClampNeg) := inb_of S9 ⟨by decide, by decide⟩
  obtain ⟨T10, h10, X10, e10, W10, st10⟩ := stB X7 hx hZ e7 Ar9 (j := (3 : Int32)) hin9 (g := (mkF m 33 #[iv x0, iv x1, iv x2, rv b1, .unset, .unset] [(.int (x0.toInt8.toInt32)), (.int 3), (.ref b1)])) rfl rfl (hb hby at_33)
  have Z10_ : n0 ≤ h10.size := Nat.le_trans Z7_ (Nat.le_of_eq W10.size.symm)
  have N10 := Fr.snoc X10 N7 ge_b1
  have V10 : Arv Z h10 b1 k1 .byte (10 : Int32) [(.int (nar .byte (((x0.toUInt32 >>> ((24 : Int32) &&& 31).toUInt32).toInt32).toInt8.toInt32))), (.int (nar .byte (((x0.toUInt32 >>> ((16 : Int32) &&& 31).toUInt32).toInt32).toInt8.toInt32))), (.int (nar .byte (((x0.toUInt32 >>> ((8 : Int32) &&& 31).toUInt32).toInt32).toInt8.toInt32))), (.int (nar .byte (x0.toInt8.toInt32))), (.int 0), (.int 0), (.int 0), (.int 0), (.int 0), (.int 0)] (.int 0) := Arv.set Ar9 qa9 S9 Nn9 H9 G9 (fits_nar_byte _) W10 3 rfl (Nat.le_of_ble_eq_true rfl)
  obtain ⟨cl11, Ar11, qa11, S11, Nn11, H11, G11⟩ := id V10
  have hin11 : ¬ ((4 : Int32) < 0 ∨ cl11.slots.size ≤ ((4 : Int32)).toNatClampNeg) := inb_of S11 ⟨by decide, by decide⟩
  obtain ⟨T12, h12, X12, e12, W12, st12⟩ := stB X10 hx hZ e10 Ar11 (j := (4 : Int32)) hin11 (g := (mkF m 41 #[iv x0, iv x1, iv x2, rv b1, .unset, .unset] [(.int (((x1.toUInt32 >>> ((24 : Int32) &&& 31).toUInt32).toInt32).toInt8.toInt32)), (.int 4), (.ref b1)])) rfl rfl (hb hby at_41)
  have Z12_ : n0 ≤ h12.size := Nat.le_trans Z10_ (Nat.le_of_eq W12.size.symm)
  have N12 := Fr.snoc X12 N10 ge_b1
  have V12 : Arv Z h12 b1 k1 .byte (10 : Int32) [(.int (nar .byte (((x0.toUInt32 >>> ((24 : Int32) &&& 31).toUInt32).toInt32).toInt8.toInt32))), (.int (nar .byte (((x0.toUInt32 >>> ((16 : Int32) &&& 31).toUInt32).toInt32).toInt8.toInt32))), (.int (nar .byte (((x0.toUInt32 >>> ((8 : Int32) &&& 31).toUInt32).toInt32).toInt8.toInt32))), (.int (nar .byte (x0.toInt8.toInt32))), (.int (nar .byte (((x1.toUInt32 >>> ((24 : Int32) &&& 31).toUInt32).toInt32).toInt8.toInt32))), (.int 0), (.int 0), (.int 0), (.int 0), (.int 0)] (.int 0) := Arv.set Ar11 qa11 S11 Nn11 H11 G11 (fits_nar_byte _) W12 4 rfl (Nat.le_of_ble_eq_true rfl)
  obtain ⟨cl13, Ar13, qa13, S13, Nn13, H13, G13⟩ := id V12
  have hin13 : ¬ ((5 : Int32) < 0 ∨ cl13.slots.size ≤ ((5 : Int32)).toNatClampNeg) := inb_of S13 ⟨by decide, by decide⟩
  obtain ⟨T14, h14, X14, e14, W14, st14⟩ := stB X12 hx hZ e12 Ar13 (j := (5 : Int32)) hin13 (g := (mkF m 49 #[iv x0, iv x1, iv x2, rv b1, .unset, .unset] [(.int (((x1.toUInt32 >>> ((16 : Int32) &&& 31).toUInt32).toInt32).toInt8.toInt32)), (.int 5), (.ref b1)])) rfl rfl (hb hby at_49)
  have Z14_ : n0 ≤ h14.size := Nat.le_trans Z12_ (Nat.le_of_eq W14.size.symm)
  have N14 := Fr.snoc X14 N12 ge_b1
  have V14 : Arv Z h14 b1 k1 .byte (10 : Int32) [(.int (nar .byte (((x0.toUInt32 >>> ((24 : Int32) &&& 31).toUInt32).toInt32).toInt8.toInt32))), (.int (nar .byte (((x0.toUInt32 >>> ((16 : Int32) &&& 31).toUInt32).toInt32).toInt8.toInt32))), (.int (nar .byte (((x0.toUInt32 >>> ((8 : Int32) &&& 31).toUInt32).toInt32).toInt8.toInt32))), (.int (nar .byte (x0.toInt8.toInt32))), (.int (nar .byte (((x1.toUInt32 >>> ((24 : Int32) &&& 31).toUInt32).toInt32).toInt8.toInt32))), (.int (nar .byte (((x1.toUInt32 >>> ((16 : Int32) &&& 31).toUInt32).toInt32).toInt8.toInt32))), (.int 0), (.int 0), (.int 0), (.int 0)] (.int 0) := Arv.set Ar13 qa13 S13 Nn13 H13 G13 (fits_nar_byte _) W14 5 rfl (Nat.le_of_ble_eq_true rfl)
  obtain ⟨cl15, Ar15, qa15, S15, Nn15, H15, G15⟩ := id V14
  have hin15 : ¬ ((6 : Int32) < 0 ∨ cl15.slots.size ≤ ((6 : Int32)).toNatClampNeg) := inb_of S15 ⟨by decide, by decide⟩
  obtain ⟨T16, h16, X16, e16, W16, st16⟩ := stB X14 hx hZ e14 Ar15 (j := (6 : Int32)) hin15 (g := (mkF m 58 #[iv x0, iv x1, iv x2, rv b1, .unset, .unset] [(.int (((x1.toUInt32 >>> ((8 : Int32) &&& 31).toUInt32).toInt32).toInt8.toInt32)), (.int 6), (.ref b1)])) rfl rfl (hb hby at_58)
  have Z16_ : n0 ≤ h16.size := Nat.le_trans Z14_ (Nat.le_of_eq W16.size.symm)
  have N16 := Fr.snoc X16 N14 ge_b1
  have V16 : Arv Z h16 b1 k1 .byte (10 : Int32) [(.int (nar .byte (((x0.toUInt32 >>> ((24 : Int32) &&& 31).toUInt32).toInt32).toInt8.toInt32))), (.int (nar .byte (((x0.toUInt32 >>> ((16 : Int32) &&& 31).toUInt32).toInt32).toInt8.toInt32))), (.int (nar .byte (((x0.toUInt32 >>> ((8 : Int32) &&& 31).toUInt32).toInt32).toInt8.toInt32))), (.int (nar .byte (x0.toInt8.toInt32))), (.int (nar .byte (((x1.toUInt32 >>> ((24 : Int32) &&& 31).toUInt32).toInt32).toInt8.toInt32))), (.int (nar .byte (((x1.toUInt32 >>> ((16 : Int32) &&& 31).toUInt32).toInt32).toInt8.toInt32))), (.int (nar .byte (((x1.toUInt32 >>> ((8 : Int32) &&& 31).toUInt32).toInt32).toInt8.toInt32))), (.int 0), (.int 0), (.int 0)] (.int 0) := Arv.set Ar15 qa15 S15 Nn15 H15 G15 (fits_nar_byte _) W16 6 rfl (Nat.le_of_ble_eq_true rfl)
  have P17 := own_go P8 (S' := T16.setTop (mkF m 59 #[iv x0, iv x1, iv x2, rv b1, .unset, .unset] [])) (by
    intro t k
    refine XS.iconst X7.here hx rfl (hb hby at_30) ?_
    refine XS.iloadN X7.here hx rfl (hb hby at_31) rfl ?_
    refine XS.i2b X7.here hx rfl (hb hby at_32) rfl ?_
    refine st10 _ ?_
    refine XS.aloadN X10.here hx rfl (hb hby at_34) rfl rfl ?_
    refine XS.iconst X10.here hx rfl (hb hby at_35) ?_
    refine XS.iloadN X10.here hx rfl (hb hby at_36) rfl ?_
    refine XS.bipush X10.here hx rfl (hb hby at_37) ?_
    show Steps p.tables e below (T10.setTop (mkF m 39 #[iv x0, iv x1, iv x2, rv b1, .unset, .unset] [(.int 24), (.int x1), (.int 4), (.ref b1)])) _
    refine XS.iushr X10.here hx rfl (hb hby at_39) rfl ?_
    refine XS.i2b X10.here hx rfl (hb hby at_40) rfl ?_
    refine st12 _ ?_
    refine XS.aloadN X12.here hx rfl (hb hby at_42) rfl rfl ?_
    refine XS.iconst X12.here hx rfl (hb hby at_43) ?_
    refine XS.iloadN X12.here hx rfl (hb hby at_44) rfl ?_
    refine XS.bipush X12.here hx rfl (hb hby at_45) ?_
    refine XS.iushr X12.here hx rfl (hb hby at_47) rfl ?_
    show Steps p.tables e below (T12.setTop (mkF m 48 #[iv x0, iv x1, iv x2, rv b1, .unset, .unset] [(.int ((x1.toUInt32 >>> ((16 : Int32) &&& 31).toUInt32).toInt32)), (.int 5), (.ref b1)])) _
    refine XS.i2b X12.here hx rfl (hb hby at_48) rfl ?_
    refine st14 _ ?_
    refine XS.aloadN X14.here hx rfl (hb hby at_50) rfl rfl ?_
    refine XS.bipush X14.here hx rfl (hb hby at_51) ?_
    refine XS.iloadN X14.here hx rfl (hb hby at_53) rfl ?_
    refine XS.bipush X14.here hx rfl (hb hby at_54) ?_
    refine XS.iushr X14.here hx rfl (hb hby at_56) rfl ?_
    refine XS.i2b X14.here hx rfl (hb hby at_57) rfl ?_
    show Steps p.tables e below (T14.setTop (mkF m 58 #[iv x0, iv x1, iv x2, rv b1, .unset, .unset] [(.int (((x1.toUInt32 >>> ((8 : Int32) &&& 31).toUInt32).toInt32).toInt8.toInt32)), (.int 6), (.ref b1)])) _
    refine st16 _ ?_
    exact k)
  obtain ⟨cl18, Ar18, qa18, S18, Nn18, H18, G18⟩ := id V16
  have hin18 : ¬ ((7 : Int32) < 0 ∨ cl18.slots.size ≤ ((7 : Int32)).toNatClampNeg) := inb_of S18 ⟨by decide, by decide⟩
  obtain ⟨T19, h19, X19, e19, W19, st19⟩ := stB X16 hx hZ e16 Ar18 (j := (7 : Int32)) hin18 (g := (mkF m 64 #[iv x0, iv x1, iv x2, rv b1, .unset, .unset] [(.int (x1.toInt8.toInt32)), (.int 7), (.ref b1)])) rfl rfl (hb hby at_64)
  have Z19_ : n0 ≤ h19.size := Nat.le_trans Z16_ (Nat.le_of_eq W19.size.symm)
  have N19 := Fr.snoc X19 N16 ge_b1
  have V19 : Arv Z h19 b1 k1 .byte (10 : Int32) [(.int (nar .byte (((x0.toUInt32 >>> ((24 : Int32) &&& 31).toUInt32).toInt32).toInt8.toInt32))), (.int (nar .byte (((x0.toUInt32 >>> ((16 : Int32) &&& 31).toUInt32).toInt32).toInt8.toInt32))), (.int (nar .byte (((x0.toUInt32 >>> ((8 : Int32) &&& 31).toUInt32).toInt32).toInt8.toInt32))), (.int (nar .byte (x0.toInt8.toInt32))), (.int (nar .byte (((x1.toUInt32 >>> ((24 : Int32) &&& 31).toUInt32).toInt32).toInt8.toInt32))), (.int (nar .byte (((x1.toUInt32 >>> ((16 : Int32) &&& 31).toUInt32).toInt32).toInt8.toInt32))), (.int (nar .byte (((x1.toUInt32 >>> ((8 : Int32) &&& 31).toUInt32).toInt32).toInt8.toInt32))), (.int (nar .byte (x1.toInt8.toInt32))), (.int 0), (.int 0)] (.int 0) := Arv.set Ar18 qa18 S18 Nn18 H18 G18 (fits_nar_byte _) W19 7 rfl (Nat.le_of_ble_eq_true rfl)
  obtain ⟨cl20, Ar20, qa20, S20, Nn20, H20, G20⟩ := id V19
  have hin20 : ¬ ((8 : Int32) < 0 ∨ cl20.slots.size ≤ ((8 : Int32)).toNatClampNeg) := inb_of S20 ⟨by decide, by decide⟩
  obtain ⟨T21, h21, X21, e21, W21, st21⟩ := stB X19 hx hZ e19 Ar20 (j := (8 : Int32)) hin20 (g := (mkF m 70 #[iv x0, iv x1, iv x2, rv b1, .unset, .unset] [(.int (x2.toInt8.toInt32)), (.int 8), (.ref b1)])) rfl rfl (hb hby at_70)
  have Z21_ : n0 ≤ h21.size := Nat.le_trans Z19_ (Nat.le_of_eq W21.size.symm)
  have N21 := Fr.snoc X21 N19 ge_b1
  have V21 : Arv Z h21 b1 k1 .byte (10 : Int32) [(.int (nar .byte (((x0.toUInt32 >>> ((24 : Int32) &&& 31).toUInt32).toInt32).toInt8.toInt32))), (.int (nar .byte (((x0.toUInt32 >>> ((16 : Int32) &&& 31).toUInt32).toInt32).toInt8.toInt32))), (.int (nar .byte (((x0.toUInt32 >>> ((8 : Int32) &&& 31).toUInt32).toInt32).toInt8.toInt32))), (.int (nar .byte (x0.toInt8.toInt32))), (.int (nar .byte (((x1.toUInt32 >>> ((24 : Int32) &&& 31).toUInt32).toInt32).toInt8.toInt32))), (.int (nar .byte (((x1.toUInt32 >>> ((16 : Int32) &&& 31).toUInt32).toInt32).toInt8.toInt32))), (.int (nar .byte (((x1.toUInt32 >>> ((8 : Int32) &&& 31).toUInt32).toInt32).toInt8.toInt32))), (.int (nar .byte (x1.toInt8.toInt32))), (.int (nar .byte (x2.toInt8.toInt32))), (.int 0)] (.int 0) := Arv.set Ar20 qa20 S20 Nn20 H20 G20 (fits_nar_byte _) W21 8 rfl (Nat.le_of_ble_eq_true rfl)
  obtain ⟨cl22, Ar22, qa22, S22, Nn22, H22, G22⟩ := id V21
  have hin22 : ¬ ((9 : Int32) < 0 ∨ cl22.slots.size ≤ ((9 : Int32)).toNatClampNeg) := inb_of S22 ⟨by decide, by decide⟩
  obtain ⟨T23, h23, X23, e23, W23, st23⟩ := stB X21 hx hZ e21 Ar22 (j := (9 : Int32)) hin22 (g := (mkF m 79 #[iv x0, iv x1, iv x2, rv b1, .unset, .unset] [(.int (((x2.toUInt32 >>> ((8 : Int32) &&& 31).toUInt32).toInt32).toInt8.toInt32)), (.int 9), (.ref b1)])) rfl rfl (hb hby at_79)
  have Z23_ : n0 ≤ h23.size := Nat.le_trans Z21_ (Nat.le_of_eq W23.size.symm)
  have N23 := Fr.snoc X23 N21 ge_b1
  have V23 : Arv Z h23 b1 k1 .byte (10 : Int32) [(.int (nar .byte (((x0.toUInt32 >>> ((24 : Int32) &&& 31).toUInt32).toInt32).toInt8.toInt32))), (.int (nar .byte (((x0.toUInt32 >>> ((16 : Int32) &&& 31).toUInt32).toInt32).toInt8.toInt32))), (.int (nar .byte (((x0.toUInt32 >>> ((8 : Int32) &&& 31).toUInt32).toInt32).toInt8.toInt32))), (.int (nar .byte (x0.toInt8.toInt32))), (.int (nar .byte (((x1.toUInt32 >>> ((24 : Int32) &&& 31).toUInt32).toInt32).toInt8.toInt32))), (.int (nar .byte (((x1.toUInt32 >>> ((16 : Int32) &&& 31).toUInt32).toInt32).toInt8.toInt32))), (.int (nar .byte (((x1.toUInt32 >>> ((8 : Int32) &&& 31).toUInt32).toInt32).toInt8.toInt32))), (.int (nar .byte (x1.toInt8.toInt32))), (.int (nar .byte (x2.toInt8.toInt32))), (.int (nar .byte (((x2.toUInt32 >>> ((8 : Int32) &&& 31).toUInt32).toInt32).toInt8.toInt32)))] (.int 0) := Arv.set Ar22 qa22 S22 Nn22 H22 G22 (fits_nar_byte _) W23 9 rfl (Nat.le_of_ble_eq_true rfl)
  have P24 := own_go P17 (S' := T23.setTop (mkF m 91 #[iv x0, iv x1, iv x2, rv b1, .unset, .unset] [(.long ((x1.toInt64) &&& (4294967295 : Int64))), (.long ((x0.toInt64) <<< ((32 : Int32) &&& 0x3f).toInt64))])) (by
    intro t k
    refine XS.aloadN X16.here hx rfl (hb hby at_59) rfl rfl ?_
    refine XS.bipush X16.here hx rfl (hb hby at_60) ?_
    refine XS.iloadN X16.here hx rfl (hb hby at_62) rfl ?_
    refine XS.i2b X16.here hx rfl (hb hby at_63) rfl ?_
    refine st19 _ ?_
    refine XS.aloadN X19.here hx rfl (hb hby at_65) rfl rfl ?_
    refine XS.bipush X19.here hx rfl (hb hby at_66) ?_
    refine XS.iloadN X19.here hx rfl (hb hby at_68) rfl ?_
    show Steps p.tables e below (T19.setTop (mkF m 69 #[iv x0, iv x1, iv x2, rv b1, .unset, .unset] [(.int x2), (.int 8), (.ref b1)])) _
    refine XS.i2b X19.here hx rfl (hb hby at_69) rfl ?_
    refine st21 _ ?_
    refine XS.aloadN X21.here hx rfl (hb hby at_71) rfl rfl ?_
    refine XS.bipush X21.here hx rfl (hb hby at_72) ?_
    refine XS.iloadN X21.here hx rfl (hb hby at_74) rfl ?_
    refine XS.bipush X21.here hx rfl (hb hby at_75) ?_
    refine XS.iushr X21.here hx rfl (hb hby at_77) rfl ?_
    refine XS.i2b X21.here hx rfl (hb hby at_78) rfl ?_
    show Steps p.tables e below (T21.setTop (mkF m 79 #[iv x0, iv x1, iv x2, rv b1, .unset, .unset] [(.int (((x2.toUInt32 >>> ((8 : Int32) &&& 31).toUInt32).toInt32).toInt8.toInt32)), (.int 9), (.ref b1)])) _
    refine st23 _ ?_
    refine XS.iloadN X23.here hx rfl (hb hby at_80) rfl ?_
    refine XS.i2l X23.here hx rfl (hb hby at_81) rfl ?_
    refine XS.bipush X23.here hx rfl (hb hby at_82) ?_
    refine XS.lshl X23.here hx rfl (hb hby at_84) rfl ?_
    refine XS.iloadN X23.here hx rfl (hb hby at_85) rfl ?_
    refine XS.i2l X23.here hx rfl (hb hby at_86) rfl ?_
    refine X23.ldc2Long hx hown (mvT hZ (hw _ (im 1 rfl))) (g := (mkF m 87 #[iv x0, iv x1, iv x2, rv b1, .unset, .unset] [(.long (x1.toInt64)), (.long ((x0.toInt64) <<< ((32 : Int32) &&& 0x3f).toInt64))])) rfl (hb hby at_87) _ ?_
    show Steps p.tables e below (T23.setTop (mkF m 90 #[iv x0, iv x1, iv x2, rv b1, .unset, .unset] [(.long 4294967295), (.long (x1.toInt64)), (.long ((x0.toInt64) <<< ((32 : Int32) &&& 0x3f).toInt64))])) _
    refine XS.land X23.here hx rfl (hb hby at_90) rfl ?_
    exact k)
  obtain ⟨_, _, ⟨T25, L25, k25, n25⟩, -, X25, ⟨Lc25, hQ25, l25, y25, z25⟩, st25⟩ := Jvm.LawKit.callS X23 hx (y := (⟨"com/example/bylaws_for_tables/bylawsfortables/LineDigests", "leading64", "([B)J"⟩ : MethodName)) hown (mvT hZ (hw _ (im 2 rfl))) (mvT hZ (hw _ (im 3 rfl))) (mvT hZ (hw _ (im 4 rfl))) (mvT hZ (hw _ (im 5 rfl))) (by decide) (backOf (W := 0) (rm1 l Z a0 hw [] b1 k1 (nar .byte (((x0.toUInt32 >>> ((24 : Int32) &&& 31).toUInt32).toInt32).toInt8.toInt32)) (nar .byte (((x0.toUInt32 >>> ((16 : Int32) &&& 31).toUInt32).toInt32).toInt8.toInt32)) (nar .byte (((x0.toUInt32 >>> ((8 : Int32) &&& 31).toUInt32).toInt32).toInt8.toInt32)) (nar .byte (x0.toInt8.toInt32)) (nar .byte (((x1.toUInt32 >>> ((24 : Int32) &&& 31).toUInt32).toInt32).toInt8.toInt32)) (nar .byte (((x1.toUInt32 >>> ((16 : Int32) &&& 31).toUInt32).toInt32).toInt8.toInt32)) (nar .byte (((x1.toUInt32 >>> ((8 : Int32) &&& 31).toUInt32).toInt32).toInt8.toInt32)) (nar .byte (x1.toInt8.toInt32)) (nar .byte (x2.toInt8.toInt32)) (nar .byte (((x2.toUInt32 >>> ((8 : Int32) &&& 31).toUInt32).toInt32).toInt8.toInt32)) h23 n0 Z23_ V23) hZ (hw _ (im 5 rfl)) (hw _ (im 4 rfl)) (by decide) (by decide)) (g := (mkF m 95 #[iv x0, iv x1, iv x2, rv b1, lv (((x0.toInt64) <<< ((32 : Int32) &&& 0x3f).toInt64) ||| ((x1.toInt64) &&& (4294967295 : Int64))), .second] [(.ref b1)])) rfl (by rw [hml]; rfl) (argsL := [(.ref b1)]) (rest := []) (lenOf pd_0 rfl) rfl (by show 2 * 0 + _ ≤ _; exact Nat.le_of_eq rfl) (hb hby at_95) (fun _ _ => ⟨rfl, e23, (by decide : 1 + 0 ≤ _), (by decide : 10 + 0 ≤ _)⟩)
  dsimp only [Pt.U, Pt.locs, Pt.cells, Pt.slots] at X25 l25 y25 z25 st25 hQ25
  subst l25 y25 z25
  obtain ⟨rfl, N25q, e25⟩ := hQ25
  have N25 := Fr.app N23 N25q
  have hc101_26 : (own_turn (own_turn (own_turn (own_turn (own_turn (own_turn (own_turn (own_turn (0 : Int64) (nar .byte (((x0.toUInt32 >>> ((24 : Int32) &&& 31).toUInt32).toInt32).toInt8.toInt32))) (nar .byte (((x0.toUInt32 >>> ((16 : Int32) &&& 31).toUInt32).toInt32).toInt8.toInt32))) (nar .byte (((x0.toUInt32 >>> ((8 : Int32) &&& 31).toUInt32).toInt32).toInt8.toInt32))) (nar .byte (x0.toInt8.toInt32))) (nar .byte (((x1.toUInt32 >>> ((24 : Int32) &&& 31).toUInt32).toInt32).toInt8.toInt32))) (nar .byte (((x1.toUInt32 >>> ((16 : Int32) &&& 31).toUInt32).toInt32).toInt8.toInt32))) (nar .byte (((x1.toUInt32 >>> ((8 : Int32) &&& 31).toUInt32).toInt32).toInt8.toInt32))) (nar .byte (x1.toInt8.toInt32))) = (((x0.toInt64) <<< ((32 : Int32) &&& 0x3f).toInt64) ||| ((x1.toInt64) &&& (4294967295 : Int64))) := own_eq x0 x1
  have P27 := own_go P24 (S' := T25.setTop (mkF m 109 #[iv x0, iv x1, iv x2, rv b1, lv (((x0.toInt64) <<< ((32 : Int32) &&& 0x3f).toInt64) ||| ((x1.toInt64) &&& (4294967295 : Int64))), .second] [(.int 1)])) (by
    intro t k
    refine XS.lor X23.here hx rfl (hb hby at_91) rfl ?_
    refine XS.lstore X23.here hx rfl (hb hby at_92) rfl (l' := #[iv x0, iv x1, iv x2, rv b1, lv (((x0.toInt64) <<< ((32 : Int32) &&& 0x3f).toInt64) ||| ((x1.toInt64) &&& (4294967295 : Int64))), .second]) rfl ?_
    refine XS.aloadN X23.here hx rfl (hb hby at_94) rfl rfl ?_
    refine st25 _ ?_
    refine XS.lload X25.here hx rfl (hb hby at_98) rfl ?_
    refine XS.lcmp X25.here hx rfl (hb hby at_100) rfl ?_
    refine XS.ifNo X25.here hx rfl (hb hby at_101) rfl ((if0 _ _).trans (teq ((lw_eq (own_turn (own_turn (own_turn (own_turn (own_turn (own_turn (own_turn (own_turn (0 : Int64) (nar .byte (((x0.toUInt32 >>> ((24 : Int32) &&& 31).toUInt32).toInt32).toInt8.toInt32))) (nar .byte (((x0.toUInt32 >>> ((16 : Int32) &&& 31).toUInt32).toInt32).toInt8.toInt32))) (nar .byte (((x0.toUInt32 >>> ((8 : Int32) &&& 31).toUInt32).toInt32).toInt8.toInt32))) (nar .byte (x0.toInt8.toInt32))) (nar .byte (((x1.toUInt32 >>> ((24 : Int32) &&& 31).toUInt32).toInt32).toInt8.toInt32))) (nar .byte (((x1.toUInt32 >>> ((16 : Int32) &&& 31).toUInt32).toInt32).toInt8.toInt32))) (nar .byte (((x1.toUInt32 >>> ((8 : Int32) &&& 31).toUInt32).toInt32).toInt8.toInt32))) (nar .byte (x1.toInt8.toInt32))) (((x0.toInt64) <<< ((32 : Int32) &&& 0x3f).toInt64) ||| ((x1.toInt64) &&& (4294967295 : Int64)))).mpr hc101_26)).2) ?_
    refine XS.iconst X25.here hx rfl (hb hby at_104) ?_
    show Steps p.tables e below (T25.setTop (mkF m 105 #[iv x0, iv x1, iv x2, rv b1, lv (((x0.toInt64) <<< ((32 : Int32) &&& 0x3f).toInt64) ||| ((x1.toInt64) &&& (4294967295 : Int64))), .second] [(.int 1)])) _
    refine XS.goto X25.here hx rfl (pc0 := 105) (pc' := 109) rfl (hb hby at_105) (by decide) (by decide) ?_
    exact k)
  obtain ⟨fs, hr, hrun, hended, hW, hsame⟩ := X25.leave (v := some (.int 1)) (fun h => by rw [Bd.returns] at h; cases h)
  refine ⟨_, _, P27 _ ?_, hrun, hended, _, _, rfl, ?_, ⟨_, rfl⟩, hW, hsame.mono (by decide) (by decide)⟩
  · show Steps p.tables e below (T25.setTop (mkF m 109 #[iv x0, iv x1, iv x2, rv b1, lv (((x0.toInt64) <<< ((32 : Int32) &&& 0x3f).toInt64) ||| ((x1.toInt64) &&& (4294967295 : Int64))), .second] [(.int 1)])) _
    exact retN X25 hx (t := .boolean) Bd.returns (by simp) (hb hby at_109) hr
  · show Q0 Z x0 x1 x2 h0 n0 _ T25.heap _
    rw [e25]
    exact ⟨rfl, N25⟩

set_option maxRecDepth 65536 in
set_option maxHeartbeats 40000000 in
theorem comes_1 {Post : Tables → Env → Array Value → State → Outcome → State → Prop} (hpost : ∀ tb e args s v u, (limb_1_1.after args s (.returned v) u = true ∧ limb_1_2.after args s (.returned v) u = true ∧ True) → FrameEnd s (.returned v) u (Jvm.fieldLocs frame_1_writes args s ++ Jvm.arrayLocs frame_1_arrays args s ++ Jvm.staticLocs frame_1_statics s) 16 128 → Post tb e args s (.returned v) u) :
    ArmFor flags0 classFile x code maxLocals ret World_1 tables_1 room_1 Calls_1 rest_1 Pre_1 Post := by
  intro l hfl _ _ p e ha hc hk s m args below hf hA hF happ hP
  obtain ⟨hcalls, hrest, hpre⟩ := hP
  obtain ⟨-, -, -, hnamed, -, -, -, hat⟩ := (Spec.applies_iff hf).mp happ
  obtain ⟨hg, hn⟩ := and_e (Cond.before_iff.mp (show (Jvm.Cond.and given_1 narrow_1).before args s = true from hpre))
  obtain ⟨hcnt, hgs0⟩ := and_e hg
  obtain ⟨hk0, hgs1⟩ := and_e hgs0
  obtain ⟨hk1, hgs2⟩ := and_e hgs1
  obtain ⟨w0, w1, w2, rfl⟩ : ∃ w0 w1 w2 : Value, args = #[w0, w1, w2] := by
    have hs : args.size = 3 := by simpa [Cond.value, given_1] using hcnt
    obtain ⟨L⟩ := args
    match L, hs with
    | [w0, w1, w2], _ => exact ⟨w0, w1, w2, rfl⟩
  have hw := fun d (hd : d ∈ tables_1) => atoms_spec (ws := Jvm.Cond.code x code maxLocals ret :: tables_1) hat d (List.mem_cons_of_mem _ hd)
  have hfit : Fit s := fun {y c} hc i hi => by
    obtain ⟨ha, rfl⟩ := Array.getElem?_eq_some_iff.mp hc
    have q := List.all_eq_true.mp ((Array.all_eq_true_iff_forall_mem.mp hF) _ (Array.getElem_mem ha)) i (List.mem_range.mpr hi)
    simpa [Array.getElem?_eq_getElem hi] using q
  obtain ⟨i0, ei0⟩ := is_v hk0
  obtain rfl : w0 = (.int i0) := Option.some.inj ei0
  obtain ⟨i1, ei1⟩ := is_v hk1
  obtain rfl : w1 = (.int i1) := Option.some.inj ei1
  obtain ⟨i2, ei2⟩ := is_v hgs2
  obtain rfl : w2 = (.int i2) := Option.some.inj ei2
  obtain ⟨n, o, h1, h2, h3, _, L, rfl, ⟨rfl, N⟩, hq⟩ := rm0 l s _ hw tables_1 i0 i1 i2 s.heap s.heap.size (Nat.le_refl _)  p e ha hc hk s m _ below hf ((Spec.applies_iff_loose hf).mp happ).1 ⟨rfl, State.Warmed39.refl s, rfl⟩ trivial
  refine ⟨n, _, h1, h2, h3, hpost _ _ _ _ _ _ ⟨Cond.after_iff.mpr rfl, Cond.after_iff.mpr (eq_i res_at (Term.int_eval (1)) rfl), trivial⟩ ⟨hq.1, hq.2.1, (hq.2.2.sift fun y hy => Or.inr (N y hy)).mono (by decide) (by decide)⟩⟩
theorem main_1_1 : Claimed_1_1 := comes_1 fun _ _ _ _ _ _ h hF => ⟨h.1, hF⟩
theorem main_1_2 : Claimed_1_2 := comes_1 fun _ _ _ _ _ _ h hF => ⟨h.2.1, hF⟩
end Jvm.Pilot.@@N@@
namespace Jvm.Pilot.@@N@@
open Jvm Jvm.ClassFile Sem Op Lib Jvm.Free Jvm.Stand Jvm.Pilot.@@N@@.Jvm.D
/-! MADE BY PROGRAM (witnessworld.py) out of the Statement's table words and the real class files: 9 classes; the members and pool entries that the words name. The judged class is class 1, her method 1. -/
namespace start1
open Jvm.ClassFile
def u (s : String) : CpInfo := .utf8 (stringToUtf16 s)
/-- a pool by its gaps: so many unusable entries, then the entry; so many at the end -/
def gap : Nat → List CpInfo → List CpInfo
  | 0, r => r
  | n + 1, r => .unusable :: gap n r
def poolList (es : List (Nat × CpInfo)) (last : Nat) : List CpInfo := es.foldr (fun e r => gap e.1 (e.2 :: r)) (gap last [])
def pool (es : List (Nat × CpInfo)) (last : Nat) : Array CpInfo := ⟨poolList es last⟩
def fileOf (pool : Array CpInfo) (this : Nat) (attrs : Array Attribute := #[]) (ms : Array MethodInfo := #[]) (fl : Nat := 33) (sup : Nat := 0) (ifs : Array Nat := #[]) (fds : Array FieldInfo := #[]) : ClassFile where
  minorVersion := 0
  majorVersion := 65
  constantPool := pool
  accessFlags := fl
  thisClass := this
  superClass := sup
  interfaces := ifs
  fields := fds
  methods := ms
  attributes := attrs
def plain (name : String) (sup : Option ClassId) : Class where
  name := name
  kind := .ordinary
  loader := none
  accessFlags := 33
  super := sup
  interfaces := #[]
  cf := none
  fields := #[]
  methods := #[]
  instanceTypes := #[]
  staticTypes := #[]
  resolved := #[]
  callSites := []
  init := .initialized
  statics := none
  mirror := none

def pool0 : Array CpInfo := pool [(5, u "<init>"), (0, u "()V"), (1, .class_ 10), (1, u "java/lang/Object")] 113

def k0m0 : Method := { name := "<init>", desc := "()V", sig := { parameters := [], returnType := none }, accessFlags := 1, code := none }
/-- java/lang/Object -/
def k0 : Class := { plain "java/lang/Object" none with
  accessFlags := 33
  interfaces := #[]
  cf := some (fileOf pool0 8 #[] #[{ accessFlags := 1, nameIndex := 5, descriptorIndex := 6, attributes := #[] }] 33 0 #[] #[])
  fields := #[]
  methods := #[k0m0]
  instanceTypes := #[]
  staticTypes := #[]
  resolved := Array.replicate 124 none
  statics := none }

def pool1 : Array CpInfo := pool [(2, .class_ 4), (1, u "java/lang/Object"), (0, u "<init>"), (0, u "()V"), (0, .long 4294967295), (1, .methodref 10 11), (0, .class_ 12), (0, .nameAndType 13 14), (0, u "com/example/bylaws_for_tables/bylawsfortables/LineDigests"), (0, u "leading64"), (0, u "([B)J"), (0, .class_ 16), (0, u "com/example/bylaws_for_tables/bylawsfortables/LineDigestsLeading64PinLaw"), (2, u "law"), (0, u "(III)Z")] 5

def k1m0 : Method := { name := "<init>", desc := "()V", sig := { parameters := [], returnType := none }, accessFlags := 1, code := none }
def k1c1 : Code := { maxStack := 6, maxLocals := 6, code := code, exceptionTable := #[], attributes := #[] }
def k1m1 : Method := { name := "law", desc := "(III)Z", sig := { parameters := [.int, .int, .int], returnType := some .boolean }, accessFlags := 9, code := some k1c1 }
/-- com/example/bylaws_for_tables/bylawsfortables/LineDigestsLeading64PinLaw -/
def k1 : Class := { plain "com/example/bylaws_for_tables/bylawsfortables/LineDigestsLeading64PinLaw" (some 0) with
  accessFlags := 49
  interfaces := #[]
  cf := some (fileOf pool1 15 #[] #[{ accessFlags := 1, nameIndex := 5, descriptorIndex := 6, attributes := #[] }, { accessFlags := 9, nameIndex := 19, descriptorIndex := 20, attributes := #[] }] 49 2 #[] #[])
  fields := #[]
  methods := #[k1m0, k1m1]
  instanceTypes := #[]
  staticTypes := #[]
  resolved := Array.replicate 26 none
  statics := none }

def pool2 : Array CpInfo := pool [(2, .class_ 4), (1, u "java/lang/Object"), (0, u "<init>"), (0, u "()V"), (1, .class_ 10), (1, u "com/example/bylaws_for_tables/bylawsfortables/LineDigests"), (4, u "line"), (0, u "Ljava/security/MessageDigest;"), (2, u "chunk"), (0, u "[B"), (2, u "ended"), (0, u "[J"), (30, u "started"), (0, u "Z"), (2, u "blanks"), (6, u "endedCount"), (0, u "I"), (12, u "chunkLength"), (10, u "leading64"), (0, u "([B)J"), (14, u "CHUNK")] 10

def k2m0 : Method := { name := "<init>", desc := "()V", sig := { parameters := [], returnType := none }, accessFlags := 0, code := none }
def k2c1 : Code := { maxStack := 4, maxLocals := 4, code := prog_16_method_3_code, exceptionTable := #[], attributes := #[] }
def k2m1 : Method := { name := "leading64", desc := "([B)J", sig := { parameters := [(.array .byte)], returnType := some .long }, accessFlags := 8, code := some k2c1 }
/-- com/example/bylaws_for_tables/bylawsfortables/LineDigests -/
def k2 : Class := { plain "com/example/bylaws_for_tables/bylawsfortables/LineDigests" (some 0) with
  accessFlags := 48
  interfaces := #[]
  cf := some (fileOf pool2 8 #[] #[{ accessFlags := 0, nameIndex := 5, descriptorIndex := 6, attributes := #[] }, { accessFlags := 8, nameIndex := 91, descriptorIndex := 92, attributes := #[] }] 48 2 #[] #[{ accessFlags := 26, nameIndex := 107, descriptorIndex := 67, attributes := #[] }, { accessFlags := 18, nameIndex := 15, descriptorIndex := 16, attributes := #[] }, { accessFlags := 18, nameIndex := 19, descriptorIndex := 20, attributes := #[] }, { accessFlags := 2, nameIndex := 80, descriptorIndex := 67, attributes := #[] }, { accessFlags := 2, nameIndex := 55, descriptorIndex := 56, attributes := #[] }, { accessFlags := 2, nameIndex := 59, descriptorIndex := 56, attributes := #[] }, { accessFlags := 2, nameIndex := 23, descriptorIndex := 24, attributes := #[] }, { accessFlags := 2, nameIndex := 66, descriptorIndex := 67, attributes := #[] }])
  fields := #[{ name := "CHUNK", type := .int, accessFlags := 26, slot := 0, constantValue := 0 }, { name := "line", type := (.object "java/security/MessageDigest"), accessFlags := 18, slot := 0, constantValue := 0 }, { name := "chunk", type := (.array .byte), accessFlags := 18, slot := 1, constantValue := 0 }, { name := "chunkLength", type := .int, accessFlags := 2, slot := 2, constantValue := 0 }, { name := "started", type := .boolean, accessFlags := 2, slot := 3, constantValue := 0 }, { name := "blanks", type := .boolean, accessFlags := 2, slot := 4, constantValue := 0 }, { name := "ended", type := (.array .long), accessFlags := 2, slot := 5, constantValue := 0 }, { name := "endedCount", type := .int, accessFlags := 2, slot := 6, constantValue := 0 }]
  methods := #[k2m0, k2m1]
  instanceTypes := #[(.object "java/security/MessageDigest"), (.array .byte), .int, .boolean, .boolean, (.array .long), .int]
  staticTypes := #[.int]
  resolved := Array.replicate 118 none
  statics := none }

def pool3 : Array CpInfo := pool [(1, u "java/lang/Cloneable"), (0, .class_ 1), (0, u "java/lang/Object"), (0, .class_ 3)] 3

/-- java/lang/Cloneable -/
def k3 : Class := { plain "java/lang/Cloneable" (some 0) with
  accessFlags := 1537
  interfaces := #[]
  cf := some (fileOf pool3 2 #[] #[] 1537 4 #[] #[])
  fields := #[]
  methods := #[]
  instanceTypes := #[]
  staticTypes := #[]
  resolved := Array.replicate 8 none
  statics := none }

def pool4 : Array CpInfo := pool [(1, u "java/io/Serializable"), (0, .class_ 1), (0, u "java/lang/Object"), (0, .class_ 3)] 3

/-- java/io/Serializable -/
def k4 : Class := { plain "java/io/Serializable" (some 0) with
  accessFlags := 1537
  interfaces := #[]
  cf := some (fileOf pool4 2 #[] #[] 1537 4 #[] #[])
  fields := #[]
  methods := #[]
  instanceTypes := #[]
  staticTypes := #[]
  resolved := Array.replicate 8 none
  statics := none }

/-- the primitive byte -/
def k5 : Class := { plain "byte" none with kind := .primitive 'B', accessFlags := 0x411 }
/-- [B -/
def k6 : Class := { plain "[B" (some 0) with kind := .array 5 .byte, interfaces := #[3, 4], accessFlags := 1041 }

/-- the primitive int -/
def k7 : Class := { plain "int" none with kind := .primitive 'I', accessFlags := 0x411 }
/-- [I -/
def k8 : Class := { plain "[I" (some 0) with kind := .array 7 .int, interfaces := #[3, 4], accessFlags := 1041 }

def heap : Heap := #[]
def classes : Array Class := #[k0, k1, k2, k3, k4, k5, k6, k7, k8]
def interned : List (Array UInt16 × Addr) := []
def slotsUsed : Nat := 0
def theMethod : MethodId := ⟨1, 1⟩
def args0 : Array Value := #[.int 5, .int 6, .int 7]
def aboutOver (below : List Frame) : State where
  vm := { classes := classes, interned := interned.toArray }
  heap := heap
  slotsUsed := slotsUsed
  threads := #[{ frames := .invoking theMethod args0 :: below }]
def below0 : List Frame := [.native { method := ⟨0, 0⟩, args := #[] }]
def about1 : State := aboutOver below0
def p0 : Program := .bare "" "" ""
def e0 : Env := launch0.env 0 0 0
theorem w_frames : about1.frames = Frame.invoking theMethod args0 :: below0 := rfl
set_option maxRecDepth 65536 in
theorem w_args : argsFit about1.vm theMethod args0 = true := by decide +kernel
set_option maxRecDepth 65536 in
theorem w_heap : heapFits about1 = true := by decide +kernel
set_option maxRecDepth 65536 in
theorem w_runnable : about1.curStatus? = some .runnable := by decide +kernel
set_option maxRecDepth 65536 in
theorem w_alone : about1.alone = true := by decide +kernel
set_option maxRecDepth 65536 in
theorem w_named : about1.methodNamed? x = some theMethod := by decide +kernel
set_option maxRecDepth 65536 in
theorem w_hears : about1.hears theMethod below0 = true := by decide +kernel
set_option maxRecDepth 65536 in
theorem w_ripe : about1.ripe theMethod args0 below0 = true := by decide +kernel
theorem w_running : about1.status = .running := rfl
set_option maxRecDepth 65536 in
theorem w_room : about1.hasRoom e0.platform room_1 = true :=
  launch0.hasRoom_least _ room_1 (by decide +kernel) (by decide +kernel) (by decide +kernel) (by decide +kernel) (by decide +kernel) (by decide +kernel)
theorem allAtoms_all (ts : List Jvm.Cond) (a : Array Jvm.Value) (st : Jvm.State) : (allAtoms ts).before a st = ts.all (fun c => c.before a st) := by
  induction ts with
  | nil => rfl
  | cons c t ih =>
    show (Jvm.Cond.and c (allAtoms t)).before a st = _
    rw [Jvm.Cond.before_and, ih, List.all_cons]
def words1 : List Jvm.Cond := Jvm.Cond.code x code maxLocals ret :: tables_1
/-- a 'code' word, met by the world's own term for the bytes: nothing is compared byte by byte -/
theorem code_word {y : MethodName} {bytes : ByteArray} {mx : Nat} {rt : Option FieldType} {a : Array Value} {s : State} {m : MethodId} {meth : Method} {c : Code} (h1 : s.methodNamed? y = some m) (h2 : s.vm.method? m = some meth) (h3 : meth.code = some c) (h4 : c.code = bytes)
    (h5 : (c.maxLocals == mx && c.exceptionTable.isEmpty && decide (c.maxStack ≤ mostOperands) && decide (meth.sig.returnType = rt) && !meth.locks && decide (parseMethodDescriptor y.desc = some meth.sig)) = true) : (Jvm.Cond.code y bytes mx rt).before a s = true := by
  simp only [Bool.and_eq_true, beq_iff_eq, Bool.not_eq_true', decide_eq_true_eq] at h5
  obtain ⟨⟨⟨⟨⟨g1, g2⟩, g3⟩, g4⟩, g5⟩, g6⟩ := h5
  simp [Cond.before, Cond.holds, Cond.value, h1, h2, h3, h4, g1, g2, g3, g4, g5, g6]
def isCode : Jvm.Cond → Bool
  | .code _ _ _ _ => true
  | _ => false
theorem all_split {L : List Jvm.Cond} {P : Jvm.Cond → Bool} (h1 : L.all (fun c => isCode c || P c) = true) (h2 : ∀ c ∈ L.filter isCode, P c = true) : L.all P = true := by
  refine List.all_eq_true.mpr fun c hc => ?_
  have h := List.all_eq_true.mp h1 c hc
  rcases Bool.eq_false_or_eq_true (isCode c) with hi | hi
  · exact h2 c (List.mem_filter.mpr ⟨hc, hi⟩)
  · simpa [hi] using h
set_option maxRecDepth 65536 in
theorem w_c0 : (Jvm.Cond.code x code maxLocals ret).before args0 about1 = true := code_word (m := ⟨1, 1⟩) (meth := k1m1) (c := k1c1) (by decide +kernel) rfl rfl rfl (by decide +kernel)
set_option maxRecDepth 65536 in
theorem w_c1 : (Jvm.Cond.code ({ cls := "com/example/bylaws_for_tables/bylawsfortables/LineDigests", name := "leading64", desc := "([B)J" } : Jvm.MethodName) prog_16_method_3_code (4 : Nat) (Option.some Jvm.ClassFile.FieldType.long)).before args0 about1 = true := code_word (m := ⟨2, 1⟩) (meth := k2m1) (c := k2c1) (by decide +kernel) rfl rfl rfl (by decide +kernel)
def codes1 : List Jvm.Cond := [Jvm.Cond.code x code maxLocals ret, Jvm.Cond.code ({ cls := "com/example/bylaws_for_tables/bylawsfortables/LineDigests", name := "leading64", desc := "([B)J" } : Jvm.MethodName) prog_16_method_3_code (4 : Nat) (Option.some Jvm.ClassFile.FieldType.long)]
set_option maxRecDepth 65536 in
theorem codes_eq : words1.filter isCode = codes1 := rfl
theorem w_codes : ∀ c ∈ words1.filter isCode, c.before args0 about1 = true := by
  rw [codes_eq]
  intro c hc
  simp only [codes1, List.mem_cons, List.not_mem_nil, or_false] at hc
  rcases hc with rfl | rfl
  · exact w_c0
  · exact w_c1
set_option maxRecDepth 65536 in
theorem w_t1 : words1.all (fun c => isCode c || c.before args0 about1) = true := by decide +kernel
theorem w_tables : (allAtoms (Jvm.Cond.code x code maxLocals ret :: tables_1)).before args0 about1 = true := by
  rw [allAtoms_all]
  show words1.all (fun c => c.before args0 about1) = true
  refine all_split ?_ w_codes
  rw [w_t1]
set_option maxRecDepth 65536 in
theorem w_case : (Jvm.Cond.and given_1 narrow_1).before args0 about1 = true := by decide +kernel
theorem w_applies : (headSpec (Jvm.Cond.code x code maxLocals ret :: tables_1) room_1).applies x e0.platform about1 = true :=
  (Spec.applies_iff w_frames).mpr ⟨w_running, w_runnable, w_alone, w_named, w_hears, w_ripe, w_room, w_tables⟩
theorem atStart : AtStart classFile x code maxLocals ret World_1 tables_1 room_1 Calls_1 rest_1 Pre_1 launch0 p0 e0 about1 theMethod args0 below0 :=
  ⟨lists_1, trivial, launch0.admits_env _ _ _, launch0.least_env, fairChoices_fair.cas, fairChoices_fair.clock, w_frames, w_args, w_heap, w_applies, trivial, trivial, w_case⟩
end start1
theorem witness_1 : WitnessClaimed_1 := ⟨start1.p0, start1.e0, start1.about1, start1.theMethod, start1.args0, start1.below0, start1.atStart⟩
end Jvm.Pilot.@@N@@
