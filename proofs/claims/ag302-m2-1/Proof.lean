import JvmDerived
import JvmDerived.Pilot.@@N@@Statement
import JvmDerived.Pilot.@@N@@Code
set_option linter.unusedVariables false
set_option linter.unusedSimpArgs false
namespace Jvm.RoadKit
open Sem ClassFile Op Lib Jvm.Stand Jvm.Free Jvm.LawKit
section New
variable {p : Program} {l : Launch} {e : Env} {R : Room} {s : State} {m : MethodId} {args : Array Value} {below : List Frame} {meth : Method} {c : Code} {T : State} {locs : List Loc} {cells slots : Nat}
theorem retI (X : Stand p l e R s m args below meth c T locs cells slots) (hx : p.tables.exec = Jvm.exec) {pc : Nat} {Ls : Array Slot} {z : Int32} {rest : List Value} (hret : meth.sig.returnType = some .int) (hd : decode c.code pc = .ok (.ireturn, 1)) {fs : List Frame}
    (hl : ∀ (f : JFrame) (acts : List Action), f.method = m → f.locked = none → f.entered = [] → (doReturn e (T.setTop f) acts (some (.int z))).1 = T.setFrames fs) : Steps p.tables e below (T.setTop (mkF m pc Ls (.int z :: rest))) (T.setFrames fs) := by
  have hm' : T.vm.method? m = some meth := X.method'
  have hn : narrow .int (.int z) = .int z := rfl
  show Steps p.tables e below (T.setTop { method := m, pc := pc, locals := Ls, stack := _ :: rest, locked := none }) _
  jvm_step X.here [X.here.top, hx, hd, hm', hret, hn]
  first | (intro acts; rw [hl _ acts rfl rfl rfl]) | rw [hl _ _ rfl rfl rfl]
  exact Steps.refl _
end New
end Jvm.RoadKit
namespace Jvm.Pilot.@@N@@
open Jvm Jvm.ClassFile Sem Op Lib Jvm.Free Jvm.Stand Jvm.LawKit Jvm.RoadKit Bundle Jvm.Pilot.@@N@@.Jvm.D
abbrev lv (x : Int64) : Slot := .val (.long x)
theorem im (i : Nat) {d : Jvm.Cond} (h : tables_1[i]? = some d) : d ∈ tables_1 := List.mem_of_getElem? h
theorem own_go {tb : Tables} {e : Env} {below : List Frame} {S S' S0 : State} (P : ∀ t, Steps tb e below S t → Steps tb e below S0 t) (f : ∀ t, Steps tb e below S' t → Steps tb e below S t) : ∀ t, Steps tb e below S' t → Steps tb e below S0 t := fun t k => P t (f t k)
theorem own_sn {Z : State} {a0 : Array Value} {K O n d O' n' d' : String} (L : Laid Z a0 K O n d) (L' : Laid Z a0 K O' n' d') (hn : n ≠ n' := by decide) (ht : (parseFieldDescriptor d).isSome = true := by decide) (ht' : (parseFieldDescriptor d').isSome = true := by decide) : Jvm.RoadKit.slotOf Z O n d ≠ Jvm.RoadKit.slotOf Z O' n' d' := by
  obtain ⟨t, e⟩ := Option.isSome_iff_exists.mp ht
  obtain ⟨t', e'⟩ := Option.isSome_iff_exists.mp ht'
  exact slot_ne L L' hn e e'
theorem pn_0 : plainName "com/example/termweave/termweave/term/BitVecSortEqualsPinLaw" = true := by first | (simp [plainName, overriddenIn]; done) | decide +kernel
theorem d1_0 : decode prog_106_method_1_code 0 = .ok (.aload_n 0, 1) := by decide +kernel
theorem d1_1 : decode prog_106_method_1_code 1 = .ok (.invokespecial 1, 3) := by decide +kernel
theorem d1_4 : decode prog_106_method_1_code 4 = .ok (.iload_n 1, 1) := by decide +kernel
theorem d1_5 : decode prog_106_method_1_code 5 = .ok (.iconst 1, 1) := by decide +kernel
theorem d1_6 : decode prog_106_method_1_code 6 = .ok (.if_icmp .lt 9, 3) := by decide +kernel
theorem d1_9 : decode prog_106_method_1_code 9 = .ok (.iload_n 1, 1) := by decide +kernel
theorem d1_10 : decode prog_106_method_1_code 10 = .ok (.ldc 9, 2) := by decide +kernel
theorem d1_12 : decode prog_106_method_1_code 12 = .ok (.if_icmp .le 11, 3) := by decide +kernel
theorem d1_15 : decode prog_106_method_1_code 15 = .ok (.iload_n 1, 1) := by decide +kernel
theorem d1_16 : decode prog_106_method_1_code 16 = .ok (.invokestatic 10, 3) := by decide +kernel
theorem d1_19 : decode prog_106_method_1_code 19 = .ok (.invokestatic 16, 3) := by decide +kernel
theorem d1_22 : decode prog_106_method_1_code 22 = .ok (.athrow, 1) := by decide +kernel
theorem d1_23 : decode prog_106_method_1_code 23 = .ok (.aload_n 0, 1) := by decide +kernel
theorem d1_24 : decode prog_106_method_1_code 24 = .ok (.iload_n 1, 1) := by decide +kernel
theorem d1_25 : decode prog_106_method_1_code 25 = .ok (.putfield 20, 3) := by decide +kernel
theorem d1_28 : decode prog_106_method_1_code 28 = .ok (.return_, 1) := by decide +kernel
theorem pn_1 : plainName "com/example/termweave/termweave/term/BitVecSort" = true := by first | (simp [plainName, overriddenIn]; done) | decide +kernel
theorem d2_0 : decode jdk_30_method_1_code 0 = .ok (.aload_n 0, 1) := by decide +kernel
theorem d2_1 : decode jdk_30_method_1_code 1 = .ok (.invokespecial 1, 3) := by decide +kernel
theorem d2_4 : decode jdk_30_method_1_code 4 = .ok (.return_, 1) := by decide +kernel
theorem pn_2 : plainName "java/lang/Record" = true := by first | (simp [plainName, overriddenIn]; done) | decide +kernel
theorem d4_0 : decode prog_106_method_4_code 0 = .ok (.aload_n 1, 1) := by decide +kernel
theorem d4_1 : decode prog_106_method_4_code 1 = .ok (.instanceof 7, 3) := by decide +kernel
theorem d4_4 : decode prog_106_method_4_code 4 = .ok (.ifCond .eq 23, 3) := by decide +kernel
theorem d4_7 : decode prog_106_method_4_code 7 = .ok (.aload_n 1, 1) := by decide +kernel
theorem d4_8 : decode prog_106_method_4_code 8 = .ok (.checkcast 7, 3) := by decide +kernel
theorem d4_11 : decode prog_106_method_4_code 11 = .ok (.astore_n 2, 1) := by decide +kernel
theorem d4_12 : decode prog_106_method_4_code 12 = .ok (.aload_n 2, 1) := by decide +kernel
theorem d4_13 : decode prog_106_method_4_code 13 = .ok (.getfield 20, 3) := by decide +kernel
theorem d4_16 : decode prog_106_method_4_code 16 = .ok (.aload_n 0, 1) := by decide +kernel
theorem d4_17 : decode prog_106_method_4_code 17 = .ok (.getfield 20, 3) := by decide +kernel
theorem d4_20 : decode prog_106_method_4_code 20 = .ok (.if_icmp .ne 7, 3) := by decide +kernel
theorem d4_23 : decode prog_106_method_4_code 23 = .ok (.iconst 1, 1) := by decide +kernel
theorem d4_24 : decode prog_106_method_4_code 24 = .ok (.goto 4, 3) := by decide +kernel
theorem d4_27 : decode prog_106_method_4_code 27 = .ok (.iconst 0, 1) := by decide +kernel
theorem d4_28 : decode prog_106_method_4_code 28 = .ok (.ireturn, 1) := by decide +kernel
theorem pn_4 : plainName "com/example/termweave/termweave/term/BitVecSort" = true := by first | (simp [plainName, overriddenIn]; done) | decide +kernel
theorem d5_0 : decode prog_102_method_1_code 0 = .ok (.aload_n 0, 1) := by decide +kernel
theorem d5_1 : decode prog_102_method_1_code 1 = .ok (.invokespecial 1, 3) := by decide +kernel
theorem d5_4 : decode prog_102_method_1_code 4 = .ok (.aload_n 1, 1) := by decide +kernel
theorem d5_5 : decode prog_102_method_1_code 5 = .ok (.ldc 7, 2) := by decide +kernel
theorem d5_7 : decode prog_102_method_1_code 7 = .ok (.invokestatic 9, 3) := by decide +kernel
theorem d5_10 : decode prog_102_method_1_code 10 = .ok (.pop, 1) := by decide +kernel
theorem d5_11 : decode prog_102_method_1_code 11 = .ok (.aload_n 2, 1) := by decide +kernel
theorem d5_12 : decode prog_102_method_1_code 12 = .ok (.ldc 15, 2) := by decide +kernel
theorem d5_14 : decode prog_102_method_1_code 14 = .ok (.invokestatic 9, 3) := by decide +kernel
theorem d5_17 : decode prog_102_method_1_code 17 = .ok (.pop, 1) := by decide +kernel
theorem d5_18 : decode prog_102_method_1_code 18 = .ok (.aload_n 0, 1) := by decide +kernel
theorem d5_19 : decode prog_102_method_1_code 19 = .ok (.aload_n 1, 1) := by decide +kernel
theorem d5_20 : decode prog_102_method_1_code 20 = .ok (.putfield 17, 3) := by decide +kernel
theorem d5_23 : decode prog_102_method_1_code 23 = .ok (.aload_n 0, 1) := by decide +kernel
theorem d5_24 : decode prog_102_method_1_code 24 = .ok (.aload_n 2, 1) := by decide +kernel
theorem d5_25 : decode prog_102_method_1_code 25 = .ok (.putfield 22, 3) := by decide +kernel
theorem d5_28 : decode prog_102_method_1_code 28 = .ok (.return_, 1) := by decide +kernel
theorem pn_5 : plainName "com/example/termweave/termweave/term/ArraySort" = true := by first | (simp [plainName, overriddenIn]; done) | decide +kernel
theorem d6_0 : decode jdk_31_method_11_code 0 = .ok (.aload_n 0, 1) := by decide +kernel
theorem d6_1 : decode jdk_31_method_11_code 1 = .ok (.ifnonnull 12, 3) := by decide +kernel
theorem d6_4 : decode jdk_31_method_11_code 4 = .ok (.new 84, 3) := by decide +kernel
theorem d6_7 : decode jdk_31_method_11_code 7 = .ok (.dup, 1) := by decide +kernel
theorem d6_8 : decode jdk_31_method_11_code 8 = .ok (.aload_n 1, 1) := by decide +kernel
theorem d6_9 : decode jdk_31_method_11_code 9 = .ok (.invokespecial 87, 3) := by decide +kernel
theorem d6_12 : decode jdk_31_method_11_code 12 = .ok (.athrow, 1) := by decide +kernel
theorem d6_13 : decode jdk_31_method_11_code 13 = .ok (.aload_n 0, 1) := by decide +kernel
theorem d6_14 : decode jdk_31_method_11_code 14 = .ok (.areturn, 1) := by decide +kernel
theorem pn_6 : plainName "java/util/Objects" = true := by first | (simp [plainName, overriddenIn]; done) | decide +kernel
theorem d7_0 : decode jdk_33_method_22_code 0 = .ok (.iload_n 0, 1) := by decide +kernel
theorem d7_1 : decode jdk_33_method_22_code 1 = .ok (.bipush (-128), 2) := by decide +kernel
theorem d7_3 : decode jdk_33_method_22_code 3 = .ok (.if_icmp .lt 20, 3) := by decide +kernel
theorem d7_6 : decode jdk_33_method_22_code 6 = .ok (.iload_n 0, 1) := by decide +kernel
theorem d7_7 : decode jdk_33_method_22_code 7 = .ok (.getstatic 191, 3) := by decide +kernel
theorem d7_10 : decode jdk_33_method_22_code 10 = .ok (.if_icmp .gt 13, 3) := by decide +kernel
theorem d7_13 : decode jdk_33_method_22_code 13 = .ok (.getstatic 195, 3) := by decide +kernel
theorem d7_16 : decode jdk_33_method_22_code 16 = .ok (.iload_n 0, 1) := by decide +kernel
theorem d7_17 : decode jdk_33_method_22_code 17 = .ok (.sipush 128, 3) := by decide +kernel
theorem d7_20 : decode jdk_33_method_22_code 20 = .ok (.iadd, 1) := by decide +kernel
theorem d7_21 : decode jdk_33_method_22_code 21 = .ok (.aaload, 1) := by decide +kernel
theorem d7_22 : decode jdk_33_method_22_code 22 = .ok (.areturn, 1) := by decide +kernel
theorem d7_23 : decode jdk_33_method_22_code 23 = .ok (.new 1, 3) := by decide +kernel
theorem d7_26 : decode jdk_33_method_22_code 26 = .ok (.dup, 1) := by decide +kernel
theorem d7_27 : decode jdk_33_method_22_code 27 = .ok (.iload_n 0, 1) := by decide +kernel
theorem d7_28 : decode jdk_33_method_22_code 28 = .ok (.invokespecial 199, 3) := by decide +kernel
theorem d7_31 : decode jdk_33_method_22_code 31 = .ok (.areturn, 1) := by decide +kernel
theorem pn_7 : plainName "java/lang/Integer" = true := by first | (simp [plainName, overriddenIn]; done) | decide +kernel
theorem d8_0 : decode jdk_33_method_23_code 0 = .ok (.aload_n 0, 1) := by decide +kernel
theorem d8_1 : decode jdk_33_method_23_code 1 = .ok (.invokespecial 202, 3) := by decide +kernel
theorem d8_4 : decode jdk_33_method_23_code 4 = .ok (.aload_n 0, 1) := by decide +kernel
theorem d8_5 : decode jdk_33_method_23_code 5 = .ok (.iload_n 1, 1) := by decide +kernel
theorem d8_6 : decode jdk_33_method_23_code 6 = .ok (.putfield 205, 3) := by decide +kernel
theorem d8_9 : decode jdk_33_method_23_code 9 = .ok (.return_, 1) := by decide +kernel
theorem pn_8 : plainName "java/lang/Integer" = true := by first | (simp [plainName, overriddenIn]; done) | decide +kernel
theorem d9_0 : decode jdk_18_method_1_code 0 = .ok (.aload_n 0, 1) := by decide +kernel
theorem d9_1 : decode jdk_18_method_1_code 1 = .ok (.invokespecial 1, 3) := by decide +kernel
theorem d9_4 : decode jdk_18_method_1_code 4 = .ok (.return_, 1) := by decide +kernel
theorem pn_9 : plainName "java/lang/Number" = true := by first | (simp [plainName, overriddenIn]; done) | decide +kernel
theorem pd_0 : parseMethodDescriptor "()V" = some ⟨[], none⟩ := by decide +kernel
theorem pd_1 : parseMethodDescriptor "(Ljava/lang/Object;Ljava/lang/String;)Ljava/lang/Object;" = some ⟨[(.object "java/lang/Object"), (.object "java/lang/String")], some (.object "java/lang/Object")⟩ := by decide +kernel
theorem la_0 {Z : State} {a0 : Array Value} (hw : ∀ d ∈ tables_1, d.before a0 Z = true) : Laid Z a0 "com/example/termweave/termweave/term/ArraySort" "com/example/termweave/termweave/term/ArraySort" "element" "Lcom/example/termweave/termweave/term/Sort;" := (Or.inr (hw _ (im 48 rfl)))
theorem la_1 {Z : State} {a0 : Array Value} (hw : ∀ d ∈ tables_1, d.before a0 Z = true) : Laid Z a0 "com/example/termweave/termweave/term/ArraySort" "com/example/termweave/termweave/term/ArraySort" "index" "Lcom/example/termweave/termweave/term/Sort;" := (Or.inr (hw _ (im 46 rfl)))
theorem pd_2 : parseMethodDescriptor "(I)V" = some ⟨[.int], none⟩ := by decide +kernel
theorem pd_3 : parseMethodDescriptor "(Ljava/lang/Object;)Z" = some ⟨[(.object "java/lang/Object")], some .boolean⟩ := by decide +kernel
theorem pd_4 : parseMethodDescriptor "(I)Ljava/lang/Integer;" = some ⟨[.int], some (.object "java/lang/Integer")⟩ := by decide +kernel
theorem pd_5 : parseMethodDescriptor "(Lcom/example/termweave/termweave/term/Sort;Lcom/example/termweave/termweave/term/Sort;)V" = some ⟨[(.object "com/example/termweave/termweave/term/Sort"), (.object "com/example/termweave/termweave/term/Sort")], none⟩ := by decide +kernel
theorem own_atoms {Z : State} {a0 : Array Value} (hw : ∀ d ∈ tables_1, d.before a0 Z = true) : ∀ a ∈ Bundle.stringAtoms, a.before a0 Z = true := fun a ha => hw a ((by decide +kernel : ∀ a ∈ Bundle.stringAtoms, a ∈ tables_1) a ha)
theorem own_NS_root {Z : State} {a0 : Array Value} {O K : String} {n : Nat} (w : (Jvm.Cond.noSuperclass O).before a0 Z = true) (wk : (Jvm.Cond.instantiable K n).before a0 Z = true) (hn : O ≠ K) : NS Z O K := by
  obtain ⟨c, k, h1, h2, h3, -, -⟩ := Cond.noSuperclass_spec w
  obtain ⟨t, kt, g1, -⟩ := Cond.instantiable_spec wk
  have ne := ids_ne h1 g1 hn
  refine ⟨c, t, h1, g1, fun fuel => ?_⟩
  cases fuel with
  | zero => rfl
  | succ f => simp [Vm.isSubclassAux, ne, h2, h3]
theorem own_NS_no {Z : State} {a0 : Array Value} {C S K : String} {n : Nat} (w : (Jvm.Cond.superclass C S).before a0 Z = true) (wk : (Jvm.Cond.instantiable K n).before a0 Z = true) (q : NS Z C K) (hn : C ≠ K) : ∃ c t, Z.vm.findClass C = some c ∧ Z.vm.findClass K = some t ∧ Z.vm.assignable c t = false := by
  obtain ⟨c, t, h0, g0, n3⟩ := q
  obtain ⟨p, k, kp, h1, h2, h3, h4, h5, -, h7⟩ := Cond.superclass_spec h0 w
  obtain ⟨t', k', g1, g2, g5, g7, -, -⟩ := Cond.instantiable_spec wk
  cases g0.symm.trans g1
  have ne := ids_ne h0 g0 hn
  have g8 : k'.isInterface = false := by
    cases hi : k'.isInterface with
    | false => rfl
    | true => simp [hi] at g7
  refine ⟨c, t, h0, g0, ?_⟩
  show Z.vm.assignableAux (255 + 1) c t = false
  simp [Vm.assignableAux, ne, h2, g2, h5, g5, g8, Vm.isSubclass, n3]
theorem own_w (x : Int32) : ¬ (((x &&& (65535 : Int32)) + (1 : Int32)) < (1 : Int32)) ∧ ¬ ((65536 : Int32) < ((x &&& (65535 : Int32)) + (1 : Int32))) := by
  have h := c_mask x 65535 16 (by decide) (by decide)
  have h1 := c_iadd (x &&& 65535) 1
  have k1 : (1 : Int32).toInt = 1 := by decide
  have k2 : (65536 : Int32).toInt = 65536 := by decide
  have r := rng32 ((x &&& 65535) + 1)
  rw [h, k1] at h1
  rw [Int32.lt_iff_toInt_lt, Int32.lt_iff_toInt_lt, k1, k2]
  omega
theorem own_w2 {P : Prop} [Decidable P] {x y v : Int32} (hv : v = (if P then ((y &&& (65535 : Int32)) + (1 : Int32)) else ((x &&& (65535 : Int32)) + (1 : Int32)))) : ¬ (v < (1 : Int32)) ∧ ¬ ((65536 : Int32) < v) := by
  rw [hv]
  split
  · exact own_w y
  · exact own_w x
theorem own_idx (x : Int32) (h1 : ¬ (x < (-128 : Int32))) (h2 : ¬ ((127 : Int32) < x)) : ¬ (x + (128 : Int32)) < 0 ∧ (x + (128 : Int32)) < (256 : Int32) := by
  rw [Int32.lt_iff_toInt_lt] at h1 h2
  have k1 : (-128 : Int32).toInt = -128 := by decide
  have k2 : (127 : Int32).toInt = 127 := by decide
  have k3 : (128 : Int32).toInt = 128 := by decide
  have k4 : (256 : Int32).toInt = 256 := by decide
  have k5 : (0 : Int32).toInt = 0 := by decide
  rw [k1] at h1
  rw [k2] at h2
  have c2 := c_iadd x 128
  have r2 := rng32 (x + 128)
  rw [k3] at c2
  rw [Int32.lt_iff_toInt_lt, Int32.lt_iff_toInt_lt, k4, k5]
  omega
theorem own_ite {a b v : Int32} (h : v = (if a = b then (1 : Int32) else (0 : Int32))) : (if b = a then (1 : Int32) else (0 : Int32)) = v := by
  rw [h]; by_cases h1 : a = b
  · rw [if_pos h1, if_pos h1.symm]
  · rw [if_neg h1, if_neg (fun q => h1 q.symm)]
theorem own_len {args : Array Value} {s : State} {t : Term} {a : Addr} {c : Cell} {z : Int32} (ev : t.eval args s none [] s = some (.ref a)) (ha : s.arrayAt? a = some c) (h : (Term.length t).eval args s none [] s = some (.int z)) : c.slots.size < 2 ^ 31 ∧ c.slots.size.toInt32 = z := by
  by_cases hl : c.slots.size < 2 ^ 31
  · exact ⟨hl, Value.int.inj (Option.some.inj ((len_f ev ha hl).symm.trans h))⟩
  · simp [Term.eval, ev, ha, hl] at h
theorem own_sub {args : Array Value} {first s : State} {o : Option Outcome} {idx : List Nat} {a b : Term} {x y : Int32} (h1 : a.eval args first o idx s = some (.int x)) (h2 : b.eval args first o idx s = some (.int y)) : (Term.sub a b).eval args first o idx s = some (.int (x - y)) := by simp [Term.eval, h1, h2]

def Q2 (Z : State) (x0 : Addr) (h0 : Heap) (n0 : Nat) (v : Option Value) (h : Heap) (L : List Loc) : Prop := v = none ∧ Fr n0 L ∧ h = h0
theorem ef_2 (m : MethodId) (x0 : Addr) : entryFrame m #[(.ref x0)] 1 = mkF m 0 #[rv x0] [] := by first | (simp [entryFrame, mkF, argsToLocals, Value.category]; done) | rfl
set_option maxRecDepth 65536 in
set_option maxHeartbeats 40000000 in
theorem rm2 (l : Launch) (Z : State) (a0 : Array Value) (hw : ∀ d ∈ tables_1, d.before a0 Z = true) (ws : List Jvm.Cond) (x0 : Addr) (h0 : Heap) (n0 : Nat) (Z0 : n0 ≤ h0.size) :
    MetFree l (⟨"java/lang/Record", "<init>", "()V"⟩ : MethodName) (head1 (Jvm.Cond.code (⟨"java/lang/Record", "<init>", "()V"⟩ : MethodName) jdk_30_method_1_code 1 none :: ws) ({ frames := 1, cells := 0, slots := 0, locals := 12 } : Room)) (fun a U => a = #[(.ref x0)] ∧ Z.Warmed39 U.vm ∧ U.heap = h0) (fun _ _ _ _ _ => True) (fun _ U o U' => ∃ v L, o = .returned v ∧ Q2 Z x0 h0 n0 v U'.heap L ∧ FrameEnd U o U' L ({ frames := 1, cells := 0, slots := 0, locals := 12 } : Room).cells ({ frames := 1, cells := 0, slots := 0, locals := 12 } : Room).slots) := by
  refine MetFree.of_bodySF (plainFor_of_name pn_2) hisR ?_
  intro p e s m args below meth c s₁ Bd hml0 hP hK
  obtain ⟨rfl, hZ, hh⟩ := hP
  have hx := Bd.exec
  have hby := Bd.bytes
  have hml : c.maxLocals = 1 := hml0
  have hown : s.vm.findClass "java/lang/Record" = some m.cls := findClass_of_methodNamed Bd.named
  have hnm := (name_of_methodNamed Bd.named Bd.method).1
  have X0 : Stand p l e ({ frames := 1, cells := 0, slots := 0, locals := 12 } : Room) s m #[(.ref x0)] below meth c s₁ [] 0 0 := Stand.of_body Bd
  have e0 : s₁.heap = h0 := by rw [← hh, Bd.state]; rfl
  have N0 := Fr.nil n0
  have Kp0 := Keep.refl h0 []
  have P0 : ∀ t, Steps p.tables e below (s₁.setTop (mkF m 0 #[rv x0] [])) t → Steps p.tables e below (s₁.setTop (entryFrame m #[(.ref x0)] 1)) t := fun t k => castTop (ef_2 m x0) k
  obtain ⟨T1, X1, e1, st1⟩ := initO X0 hx hZ hown (hw _ (im 12 rfl)) (hw _ (im 13 rfl)) (hw _ (im 14 rfl)) e0 (g := (mkF m 1 #[rv x0] [(.ref x0)])) rfl (by rw [hml]; rfl) rfl (hb hby d2_1) (by decide) (W := 0) (by show 2 * 0 + _ ≤ _; exact Nat.le_of_eq rfl) (by decide)
  have P2 := own_go P0 (S' := T1.setTop (mkF m 4 #[rv x0] [])) (by
    intro t k
    refine XS.aloadN X0.here hx rfl (hb hby d2_0) rfl rfl ?_
    refine st1 _ ?_
    exact k)
  obtain ⟨fs, hr, hrun, hended, hW, hsame⟩ := X1.leave (v := none) (fun _ => rfl)
  refine ⟨_, _, P2 _ ?_, hrun, hended, _, _, rfl, ?_, ⟨_, rfl⟩, hW, hsame.mono (by decide) (by decide)⟩
  · show Steps p.tables e below (T1.setTop (mkF m 4 #[rv x0] [])) _
    exact X1.returnOut hx Bd.returns (hb hby d2_4) hr
  · show Q2 Z x0 h0 n0 _ T1.heap _
    rw [e1]
    exact ⟨rfl, N0, rfl⟩
def Q1 (Z : State) (x0 : Addr) (x1 : Int32) (h0 : Heap) (n0 : Nat) (v : Option Value) (h : Heap) (L : List Loc) : Prop := v = none ∧ Fr n0 L ∧ Keep h0 h [x0] ∧ Exa Z h x0 "com/example/termweave/termweave/term/BitVecSort" ∧ Fld Z h x0 "com/example/termweave/termweave/term/BitVecSort" "width" "I" (.int x1)
theorem ef_1 (m : MethodId) (x0 : Addr) (x1 : Int32) : entryFrame m #[(.ref x0), (.int x1)] 2 = mkF m 0 #[rv x0, iv x1] [] := by first | (simp [entryFrame, mkF, argsToLocals, Value.category]; done) | rfl
set_option maxRecDepth 65536 in
set_option maxHeartbeats 40000000 in
theorem rm1 (l : Launch) (Z : State) (a0 : Array Value) (hw : ∀ d ∈ tables_1, d.before a0 Z = true) (ws : List Jvm.Cond) (x0 : Addr) (x1 : Int32) (h0 : Heap) (n0 : Nat) (Z0 : n0 ≤ h0.size) (pre_E_x0 : Exa Z h0 x0 "com/example/termweave/termweave/term/BitVecSort") (pre_F_x0_width : Fld Z h0 x0 "com/example/termweave/termweave/term/BitVecSort" "width" "I" (.int 0)) (g_x0 : n0 ≤ x0) (hlo : ¬ (x1 < (1 : Int32))) (hhi : ¬ ((65536 : Int32) < x1)) :
    MetFree l (⟨"com/example/termweave/termweave/term/BitVecSort", "<init>", "(I)V"⟩ : MethodName) (head1 (Jvm.Cond.code (⟨"com/example/termweave/termweave/term/BitVecSort", "<init>", "(I)V"⟩ : MethodName) prog_106_method_1_code 2 none :: ws) ({ frames := 2, cells := 0, slots := 0, locals := 24 } : Room)) (fun a U => a = #[(.ref x0), (.int x1)] ∧ Z.Warmed39 U.vm ∧ U.heap = h0) (fun _ _ _ _ _ => True) (fun _ U o U' => ∃ v L, o = .returned v ∧ Q1 Z x0 x1 h0 n0 v U'.heap L ∧ FrameEnd U o U' L ({ frames := 2, cells := 0, slots := 0, locals := 24 } : Room).cells ({ frames := 2, cells := 0, slots := 0, locals := 24 } : Room).slots) := by
  refine MetFree.of_bodySF (plainFor_of_name pn_1) hisR ?_
  intro p e s m args below meth c s₁ Bd hml0 hP hK
  obtain ⟨rfl, hZ, hh⟩ := hP
  have hx := Bd.exec
  have hby := Bd.bytes
  have hml : c.maxLocals = 2 := hml0
  have hown : s.vm.findClass "com/example/termweave/termweave/term/BitVecSort" = some m.cls := findClass_of_methodNamed Bd.named
  have hnm := (name_of_methodNamed Bd.named Bd.method).1
  have X0 : Stand p l e ({ frames := 2, cells := 0, slots := 0, locals := 24 } : Room) s m #[(.ref x0), (.int x1)] below meth c s₁ [] 0 0 := Stand.of_body Bd
  have e0 : s₁.heap = h0 := by rw [← hh, Bd.state]; rfl
  have N0 := Fr.nil n0
  have Kp0 := Keep.refl h0 [x0]
  have P0 : ∀ t, Steps p.tables e below (s₁.setTop (mkF m 0 #[rv x0, iv x1] [])) t → Steps p.tables e below (s₁.setTop (entryFrame m #[(.ref x0), (.int x1)] 2)) t := fun t k => castTop (ef_1 m x0 x1) k
  obtain ⟨_, _, ⟨T1, L1, k1, n1⟩, -, X1, ⟨Lc1, hQ1, l1, y1, z1⟩, st1⟩ := X0.specialBack hx (y := (⟨"java/lang/Record", "<init>", "()V"⟩ : MethodName)) rfl hown (mvT hZ (hw _ (im 7 rfl))) (mvT hZ (hw _ (im 8 rfl))) (mvT hZ (hw _ (im 11 rfl))) (by decide) (backOf (W := 0) (rm2 l Z a0 hw [] x0 h0 n0 Z0 ) hZ (hw _ (im 11 rfl)) (hw _ (im 10 rfl)) (by decide) (by decide)) (g := (mkF m 1 #[rv x0, iv x1] [(.ref x0)])) rfl (by rw [hml]; rfl) (Steps.refl _) (a := x0) (argsL := []) (rest := []) (lenOf pd_0 rfl) rfl (by show 2 * 0 + _ ≤ _; exact Nat.le_of_eq rfl) (hb hby d1_1) (fun _ _ => ⟨rfl, e0, (by decide : 0 + 0 ≤ _), (by decide : 0 + 0 ≤ _)⟩)
  dsimp only [Pt.U, Pt.locs, Pt.cells, Pt.slots] at X1 l1 y1 z1 st1 hQ1
  subst l1 y1 z1
  obtain ⟨rfl, N1q, e1⟩ := hQ1
  have N1 := Fr.app N0 N1q
  have hc6_2 : ¬ (x1 < (1 : Int32)) := hlo
  have hc12_3 : ¬ ((65536 : Int32) < x1) := hhi
  obtain ⟨T4, h4, X4, e4, W4, st4⟩ := putF X1 hx hZ hown (host := "") (Or.inl (hw _ (im 16 rfl))) Via.refl e1 pre_F_x0_width pre_E_x0 (Or.inr ⟨(hw _ (im 17 rfl)), rfl, hnm⟩) (hw _ (im 2 rfl)) (ty := .int) (by decide) rfl rfl (g := (mkF m 25 #[rv x0, iv x1] [(.int x1), (.ref x0)])) rfl rfl (hb hby d1_25)
  have Fw4 := pre_F_x0_width.same W4
  have Z4_ : n0 ≤ h4.size := Nat.le_trans Z0 (Nat.le_of_eq W4.size.symm)
  have N4 := Fr.snoc X4 N1 g_x0
  have KK4 := Kp0.wr W4 (Or.inl (List.mem_of_getElem? (i := 0) rfl))
  have P5 := own_go P0 (S' := T4.setTop (mkF m 28 #[rv x0, iv x1] [])) (by
    intro t k
    refine XS.aloadN X0.here hx rfl (hb hby d1_0) rfl rfl ?_
    refine st1.trans ?_
    refine XS.iloadN X1.here hx rfl (hb hby d1_4) rfl ?_
    refine XS.iconst X1.here hx rfl (hb hby d1_5) ?_
    refine XS.icmpNo X1.here hx rfl (hb hby d1_6) rfl (flt hc6_2).1 ?_
    refine XS.iloadN X1.here hx rfl (hb hby d1_9) rfl ?_
    refine X1.ldcInt hx hown (mvT hZ (hw _ (im 15 rfl))) (g := (mkF m 10 #[rv x0, iv x1] [(.int x1)])) rfl (hb hby d1_10) _ ?_
    refine XS.icmpYes X1.here hx rfl (pc0 := 12) (pc' := 23) rfl (hb hby d1_12) rfl (flt hc12_3).2.2.2 (by decide) (by decide) ?_
    show Steps p.tables e below (T1.setTop (mkF m 23 #[rv x0, iv x1] [])) _
    refine XS.aloadN X1.here hx rfl (hb hby d1_23) rfl rfl ?_
    refine XS.iloadN X1.here hx rfl (hb hby d1_24) rfl ?_
    refine st4 _ ?_
    exact k)
  have q6 := (pre_E_x0.wr W4)
  obtain ⟨fs, hr, hrun, hended, hW, hsame⟩ := X4.leave (v := none) (fun _ => rfl)
  refine ⟨_, _, P5 _ ?_, hrun, hended, _, _, rfl, ?_, ⟨_, rfl⟩, hW, hsame.mono (by decide) (by decide)⟩
  · show Steps p.tables e below (T4.setTop (mkF m 28 #[rv x0, iv x1] [])) _
    exact X4.returnOut hx Bd.returns (hb hby d1_28) hr
  · show Q1 Z x0 x1 h0 n0 _ T4.heap _
    rw [e4]
    exact ⟨rfl, N4, KK4, q6, Fw4⟩
def Q4 (Z : State) (x0 : Addr) (x1 : Addr) (a : Int32) (b : Int32) (h0 : Heap) (n0 : Nat) (v : Option Value) (h : Heap) (L : List Loc) : Prop := v = some (.int (if b = a then (1 : Int32) else (0 : Int32))) ∧ Fr n0 L ∧ h = h0
theorem ef_4 (m : MethodId) (x0 : Addr) (x1 : Addr) : entryFrame m #[(.ref x0), (.ref x1)] 3 = mkF m 0 #[rv x0, rv x1, .unset] [] := by first | (simp [entryFrame, mkF, argsToLocals, Value.category]; done) | rfl
set_option maxRecDepth 65536 in
set_option maxHeartbeats 40000000 in
theorem rm4 (l : Launch) (Z : State) (a0 : Array Value) (hw : ∀ d ∈ tables_1, d.before a0 Z = true) (ws : List Jvm.Cond) (x0 : Addr) (x1 : Addr) (a : Int32) (b : Int32) (h0 : Heap) (n0 : Nat) (Z0 : n0 ≤ h0.size) (pre_E_x1 : Exa Z h0 x1 "com/example/termweave/termweave/term/BitVecSort") (pre_F_x0_width : Fld Z h0 x0 "com/example/termweave/termweave/term/BitVecSort" "width" "I" (.int a)) (pre_F_x1_width : Fld Z h0 x1 "com/example/termweave/termweave/term/BitVecSort" "width" "I" (.int b)) :
    MetFree l (⟨"com/example/termweave/termweave/term/BitVecSort", "equals", "(Ljava/lang/Object;)Z"⟩ : MethodName) (head1 (Jvm.Cond.code (⟨"com/example/termweave/termweave/term/BitVecSort", "equals", "(Ljava/lang/Object;)Z"⟩ : MethodName) prog_106_method_4_code 3 (some .boolean) :: ws) ({ frames := 0, cells := 0, slots := 0, locals := 0 } : Room)) (fun a U => a = #[(.ref x0), (.ref x1)] ∧ Z.Warmed39 U.vm ∧ U.heap = h0) (fun _ _ _ _ _ => True) (fun _ U o U' => ∃ v L, o = .returned v ∧ Q4 Z x0 x1 a b h0 n0 v U'.heap L ∧ FrameEnd U o U' L ({ frames := 0, cells := 0, slots := 0, locals := 0 } : Room).cells ({ frames := 0, cells := 0, slots := 0, locals := 0 } : Room).slots) := by
  refine MetFree.of_bodySF (plainFor_of_name pn_4) hisR ?_
  intro p e s m args below meth c s₁ Bd hml0 hP hK
  obtain ⟨rfl, hZ, hh⟩ := hP
  have hx := Bd.exec
  have hby := Bd.bytes
  have hml : c.maxLocals = 3 := hml0
  have hown : s.vm.findClass "com/example/termweave/termweave/term/BitVecSort" = some m.cls := findClass_of_methodNamed Bd.named
  have hnm := (name_of_methodNamed Bd.named Bd.method).1
  have X0 : Stand p l e ({ frames := 0, cells := 0, slots := 0, locals := 0 } : Room) s m #[(.ref x0), (.ref x1)] below meth c s₁ [] 0 0 := Stand.of_body Bd
  have e0 : s₁.heap = h0 := by rw [← hh, Bd.state]; rfl
  have N0 := Fr.nil n0
  have Kp0 := Keep.refl h0 []
  have P0 : ∀ t, Steps p.tables e below (s₁.setTop (mkF m 0 #[rv x0, rv x1, .unset] [])) t → Steps p.tables e below (s₁.setTop (entryFrame m #[(.ref x0), (.ref x1)] 3)) t := fun t k => castTop (ef_4 m x0 x1) k
  obtain ⟨T1, X1, e1, st1⟩ := instY X0 hx hZ hown (hw _ (im 23 rfl)) e0 (Ins.self pre_E_x1) (g := (mkF m 1 #[rv x0, rv x1, .unset] [(.ref x1)])) rfl rfl (hb hby d4_1)
  obtain ⟨T3, X3, e3, st3⟩ := castY X1 hx hZ hown (hw _ (im 23 rfl)) e1 (Ins.self pre_E_x1) (g := (mkF m 8 #[rv x0, rv x1, .unset] [(.ref x1)])) rfl rfl (hb hby d4_8)
  obtain ⟨T4, X4, e4, st4⟩ := getF X3 hx hZ hown (host := "") (Or.inl (hw _ (im 16 rfl))) Via.refl e3 pre_F_x1_width (g := (mkF m 13 #[rv x0, rv x1, rv x1] [(.ref x1)])) rfl rfl (hb hby d4_13)
  obtain ⟨T5, X5, e5, st5⟩ := getF X4 hx hZ hown (host := "") (Or.inl (hw _ (im 16 rfl))) Via.refl e4 pre_F_x0_width (g := (mkF m 17 #[rv x0, rv x1, rv x1] [(.ref x0), (.int b)])) rfl rfl (hb hby d4_17)
  have P7 := own_go P0 (S' := T5.setTop (mkF m 20 #[rv x0, rv x1, rv x1] [(.int a), (.int b)])) (by
    intro t k
    refine XS.aloadN X0.here hx rfl (hb hby d4_0) rfl rfl ?_
    refine st1 _ ?_
    refine XS.ifNo X1.here hx rfl (hb hby d4_4) rfl ((if0 _ _).trans (feq (by decide)).1) ?_
    refine XS.aloadN X1.here hx rfl (hb hby d4_7) rfl rfl ?_
    refine st3 _ ?_
    refine XS.astoreN X3.here hx rfl (hb hby d4_11) rfl rfl (l' := #[rv x0, rv x1, rv x1]) rfl ?_
    refine XS.aloadN X3.here hx rfl (hb hby d4_12) rfl rfl ?_
    refine st4 _ ?_
    show Steps p.tables e below (T4.setTop (mkF m 16 #[rv x0, rv x1, rv x1] [(.int b)])) _
    refine XS.aloadN X4.here hx rfl (hb hby d4_16) rfl rfl ?_
    refine st5 _ ?_
    exact k)
  by_cases hc20_6 : b = a
  · have P8 := own_go P7 (S' := T5.setTop (mkF m 28 #[rv x0, rv x1, rv x1] [(.int 1)])) (by
      intro t k
      refine XS.icmpNo X5.here hx rfl (hb hby d4_20) rfl (teq hc20_6).2 ?_
      refine XS.iconst X5.here hx rfl (hb hby d4_23) ?_
      refine XS.goto X5.here hx rfl (pc0 := 24) (pc' := 28) rfl (hb hby d4_24) (by decide) (by decide) ?_
      exact k)
    obtain ⟨fs, hr, hrun, hended, hW, hsame⟩ := X5.leave (v := some (.int 1)) (fun h => by rw [Bd.returns] at h; cases h)
    refine ⟨_, _, P8 _ ?_, hrun, hended, _, _, rfl, ?_, ⟨_, rfl⟩, hW, hsame.mono (by decide) (by decide)⟩
    · show Steps p.tables e below (T5.setTop (mkF m 28 #[rv x0, rv x1, rv x1] [(.int 1)])) _
      exact retN X5 hx (t := .boolean) Bd.returns (by simp) (hb hby d4_28) hr
    · show Q4 Z x0 x1 a b h0 n0 _ T5.heap _
      rw [e5]
      exact ⟨(by first | rfl | simp [hc20_6]), N0, rfl⟩
  · have P9 := own_go P7 (S' := T5.setTop (mkF m 28 #[rv x0, rv x1, rv x1] [(.int 0)])) (by
      intro t k
      refine XS.icmpYes X5.here hx rfl (pc0 := 20) (pc' := 27) rfl (hb hby d4_20) rfl (feq hc20_6).2 (by decide) (by decide) ?_
      refine XS.iconst X5.here hx rfl (hb hby d4_27) ?_
      exact k)
    obtain ⟨fs, hr, hrun, hended, hW, hsame⟩ := X5.leave (v := some (.int 0)) (fun h => by rw [Bd.returns] at h; cases h)
    refine ⟨_, _, P9 _ ?_, hrun, hended, _, _, rfl, ?_, ⟨_, rfl⟩, hW, hsame.mono (by decide) (by decide)⟩
    · show Steps p.tables e below (T5.setTop (mkF m 28 #[rv x0, rv x1, rv x1] [(.int 0)])) _
      exact retN X5 hx (t := .boolean) Bd.returns (by simp) (hb hby d4_28) hr
    · show Q4 Z x0 x1 a b h0 n0 _ T5.heap _
      rw [e5]
      exact ⟨(by first | rfl | simp [hc20_6]), N0, rfl⟩
def Q4n (Z : State) (x0 : Addr) (h0 : Heap) (n0 : Nat) (v : Option Value) (h : Heap) (L : List Loc) : Prop := v = some (.int 0) ∧ Fr n0 L ∧ h = h0
theorem ef_4n (m : MethodId) (x0 : Addr) : entryFrame m #[(.ref x0), .null] 3 = mkF m 0 #[rv x0, .val .null, .unset] [] := by first | (simp [entryFrame, mkF, argsToLocals, Value.category]; done) | rfl
set_option maxRecDepth 65536 in
set_option maxHeartbeats 40000000 in
theorem rm4n (l : Launch) (Z : State) (a0 : Array Value) (hw : ∀ d ∈ tables_1, d.before a0 Z = true) (ws : List Jvm.Cond) (x0 : Addr) (h0 : Heap) (n0 : Nat) (Z0 : n0 ≤ h0.size) :
    MetFree l (⟨"com/example/termweave/termweave/term/BitVecSort", "equals", "(Ljava/lang/Object;)Z"⟩ : MethodName) (head1 (Jvm.Cond.code (⟨"com/example/termweave/termweave/term/BitVecSort", "equals", "(Ljava/lang/Object;)Z"⟩ : MethodName) prog_106_method_4_code 3 (some .boolean) :: ws) ({ frames := 0, cells := 0, slots := 0, locals := 0 } : Room)) (fun a U => a = #[(.ref x0), .null] ∧ Z.Warmed39 U.vm ∧ U.heap = h0) (fun _ _ _ _ _ => True) (fun _ U o U' => ∃ v L, o = .returned v ∧ Q4n Z x0 h0 n0 v U'.heap L ∧ FrameEnd U o U' L ({ frames := 0, cells := 0, slots := 0, locals := 0 } : Room).cells ({ frames := 0, cells := 0, slots := 0, locals := 0 } : Room).slots) := by
  refine MetFree.of_bodySF (plainFor_of_name pn_4) hisR ?_
  intro p e s m args below meth c s₁ Bd hml0 hP hK
  obtain ⟨rfl, hZ, hh⟩ := hP
  have hx := Bd.exec
  have hby := Bd.bytes
  have hml : c.maxLocals = 3 := hml0
  have hown : s.vm.findClass "com/example/termweave/termweave/term/BitVecSort" = some m.cls := findClass_of_methodNamed Bd.named
  have hnm := (name_of_methodNamed Bd.named Bd.method).1
  have X0 : Stand p l e ({ frames := 0, cells := 0, slots := 0, locals := 0 } : Room) s m #[(.ref x0), .null] below meth c s₁ [] 0 0 := Stand.of_body Bd
  have e0 : s₁.heap = h0 := by rw [← hh, Bd.state]; rfl
  have N0 := Fr.nil n0
  have Kp0 := Keep.refl h0 []
  have P0 : ∀ t, Steps p.tables e below (s₁.setTop (mkF m 0 #[rv x0, .val .null, .unset] [])) t → Steps p.tables e below (s₁.setTop (entryFrame m #[(.ref x0), .null] 3)) t := fun t k => castTop (ef_4n m x0) k
  have P2 := own_go P0 (S' := s₁.setTop (mkF m 28 #[rv x0, .val .null, .unset] [(.int 0)])) (by
    intro t k
    refine XS.aloadN X0.here hx rfl (hb hby d4_0) rfl rfl ?_
    refine X0.instanceofNull hx (g := (mkF m 1 #[rv x0, .val .null, .unset] [.null])) rfl rfl (hb hby d4_1) _ ?_
    refine XS.ifYes X0.here hx rfl (pc0 := 4) (pc' := 27) rfl (hb hby d4_4) rfl ((if0 _ _).trans (teq (by decide)).1) (by decide) (by decide) ?_
    refine XS.iconst X0.here hx rfl (hb hby d4_27) ?_
    exact k)
  obtain ⟨fs, hr, hrun, hended, hW, hsame⟩ := X0.leave (v := some (.int 0)) (fun h => by rw [Bd.returns] at h; cases h)
  refine ⟨_, _, P2 _ ?_, hrun, hended, _, _, rfl, ?_, ⟨_, rfl⟩, hW, hsame.mono (by decide) (by decide)⟩
  · show Steps p.tables e below (s₁.setTop (mkF m 28 #[rv x0, .val .null, .unset] [(.int 0)])) _
    exact retN X0 hx (t := .boolean) Bd.returns (by simp) (hb hby d4_28) hr
  · show Q4n Z x0 h0 n0 _ s₁.heap _
    rw [e0]
    exact ⟨rfl, N0, rfl⟩
def Q4b (Z : State) (x0 : Addr) (x1 : Addr) (h0 : Heap) (n0 : Nat) (v : Option Value) (h : Heap) (L : List Loc) : Prop := v = some (.int 0) ∧ Fr n0 L ∧ h = h0
theorem ef_4b (m : MethodId) (x0 : Addr) (x1 : Addr) : entryFrame m #[(.ref x0), (.ref x1)] 3 = mkF m 0 #[rv x0, rv x1, .unset] [] := by first | (simp [entryFrame, mkF, argsToLocals, Value.category]; done) | rfl
set_option maxRecDepth 65536 in
set_option maxHeartbeats 40000000 in
theorem rm4b (l : Launch) (Z : State) (a0 : Array Value) (hw : ∀ d ∈ tables_1, d.before a0 Z = true) (ws : List Jvm.Cond) (x0 : Addr) (x1 : Addr) (h0 : Heap) (n0 : Nat) (Z0 : n0 ≤ h0.size) (pre_E_x1 : Exa Z h0 x1 "com/example/termweave/termweave/term/BoolSort") :
    MetFree l (⟨"com/example/termweave/termweave/term/BitVecSort", "equals", "(Ljava/lang/Object;)Z"⟩ : MethodName) (head1 (Jvm.Cond.code (⟨"com/example/termweave/termweave/term/BitVecSort", "equals", "(Ljava/lang/Object;)Z"⟩ : MethodName) prog_106_method_4_code 3 (some .boolean) :: ws) ({ frames := 0, cells := 0, slots := 0, locals := 0 } : Room)) (fun a U => a = #[(.ref x0), (.ref x1)] ∧ Z.Warmed39 U.vm ∧ U.heap = h0) (fun _ _ _ _ _ => True) (fun _ U o U' => ∃ v L, o = .returned v ∧ Q4b Z x0 x1 h0 n0 v U'.heap L ∧ FrameEnd U o U' L ({ frames := 0, cells := 0, slots := 0, locals := 0 } : Room).cells ({ frames := 0, cells := 0, slots := 0, locals := 0 } : Room).slots) := by
  refine MetFree.of_bodySF (plainFor_of_name pn_4) hisR ?_
  intro p e s m args below meth c s₁ Bd hml0 hP hK
  obtain ⟨rfl, hZ, hh⟩ := hP
  have hx := Bd.exec
  have hby := Bd.bytes
  have hml : c.maxLocals = 3 := hml0
  have hown : s.vm.findClass "com/example/termweave/termweave/term/BitVecSort" = some m.cls := findClass_of_methodNamed Bd.named
  have hnm := (name_of_methodNamed Bd.named Bd.method).1
  have X0 : Stand p l e ({ frames := 0, cells := 0, slots := 0, locals := 0 } : Room) s m #[(.ref x0), (.ref x1)] below meth c s₁ [] 0 0 := Stand.of_body Bd
  have e0 : s₁.heap = h0 := by rw [← hh, Bd.state]; rfl
  have N0 := Fr.nil n0
  have Kp0 := Keep.refl h0 []
  have P0 : ∀ t, Steps p.tables e below (s₁.setTop (mkF m 0 #[rv x0, rv x1, .unset] [])) t → Steps p.tables e below (s₁.setTop (entryFrame m #[(.ref x0), (.ref x1)] 3)) t := fun t k => castTop (ef_4b m x0 x1) k
  obtain ⟨T1, X1, e1, st1⟩ := instNo X0 hx hZ hown (hw _ (im 23 rfl)) e0 pre_E_x1 (own_NS_no (hw _ (im 55 rfl)) (hw _ (im 2 rfl)) (NS.step (hw _ (im 55 rfl)) (NS.step (hw _ (im 56 rfl)) (own_NS_root (hw _ (im 51 rfl)) (hw _ (im 2 rfl)) (by decide)) (by decide)) (by decide)) (by decide)) (g := (mkF m 1 #[rv x0, rv x1, .unset] [(.ref x1)])) rfl rfl (hb hby d4_1)
  have P3 := own_go P0 (S' := T1.setTop (mkF m 28 #[rv x0, rv x1, .unset] [(.int 0)])) (by
    intro t k
    refine XS.aloadN X0.here hx rfl (hb hby d4_0) rfl rfl ?_
    refine st1 _ ?_
    refine XS.ifYes X1.here hx rfl (pc0 := 4) (pc' := 27) rfl (hb hby d4_4) rfl ((if0 _ _).trans (teq (by decide)).1) (by decide) (by decide) ?_
    refine XS.iconst X1.here hx rfl (hb hby d4_27) ?_
    exact k)
  obtain ⟨fs, hr, hrun, hended, hW, hsame⟩ := X1.leave (v := some (.int 0)) (fun h => by rw [Bd.returns] at h; cases h)
  refine ⟨_, _, P3 _ ?_, hrun, hended, _, _, rfl, ?_, ⟨_, rfl⟩, hW, hsame.mono (by decide) (by decide)⟩
  · show Steps p.tables e below (T1.setTop (mkF m 28 #[rv x0, rv x1, .unset] [(.int 0)])) _
    exact retN X1 hx (t := .boolean) Bd.returns (by simp) (hb hby d4_28) hr
  · show Q4b Z x0 x1 h0 n0 _ T1.heap _
    rw [e1]
    exact ⟨rfl, N0, rfl⟩
def Q4i (Z : State) (x0 : Addr) (x1 : Addr) (h0 : Heap) (n0 : Nat) (v : Option Value) (h : Heap) (L : List Loc) : Prop := v = some (.int 0) ∧ Fr n0 L ∧ h = h0
theorem ef_4i (m : MethodId) (x0 : Addr) (x1 : Addr) : entryFrame m #[(.ref x0), (.ref x1)] 3 = mkF m 0 #[rv x0, rv x1, .unset] [] := by first | (simp [entryFrame, mkF, argsToLocals, Value.category]; done) | rfl
set_option maxRecDepth 65536 in
set_option maxHeartbeats 40000000 in
theorem rm4i (l : Launch) (Z : State) (a0 : Array Value) (hw : ∀ d ∈ tables_1, d.before a0 Z = true) (ws : List Jvm.Cond) (x0 : Addr) (x1 : Addr) (h0 : Heap) (n0 : Nat) (Z0 : n0 ≤ h0.size) (pre_E_x1 : Exa Z h0 x1 "java/lang/Integer") :
    MetFree l (⟨"com/example/termweave/termweave/term/BitVecSort", "equals", "(Ljava/lang/Object;)Z"⟩ : MethodName) (head1 (Jvm.Cond.code (⟨"com/example/termweave/termweave/term/BitVecSort", "equals", "(Ljava/lang/Object;)Z"⟩ : MethodName) prog_106_method_4_code 3 (some .boolean) :: ws) ({ frames := 0, cells := 0, slots := 0, locals := 0 } : Room)) (fun a U => a = #[(.ref x0), (.ref x1)] ∧ Z.Warmed39 U.vm ∧ U.heap = h0) (fun _ _ _ _ _ => True) (fun _ U o U' => ∃ v L, o = .returned v ∧ Q4i Z x0 x1 h0 n0 v U'.heap L ∧ FrameEnd U o U' L ({ frames := 0, cells := 0, slots := 0, locals := 0 } : Room).cells ({ frames := 0, cells := 0, slots := 0, locals := 0 } : Room).slots) := by
  refine MetFree.of_bodySF (plainFor_of_name pn_4) hisR ?_
  intro p e s m args below meth c s₁ Bd hml0 hP hK
  obtain ⟨rfl, hZ, hh⟩ := hP
  have hx := Bd.exec
  have hby := Bd.bytes
  have hml : c.maxLocals = 3 := hml0
  have hown : s.vm.findClass "com/example/termweave/termweave/term/BitVecSort" = some m.cls := findClass_of_methodNamed Bd.named
  have hnm := (name_of_methodNamed Bd.named Bd.method).1
  have X0 : Stand p l e ({ frames := 0, cells := 0, slots := 0, locals := 0 } : Room) s m #[(.ref x0), (.ref x1)] below meth c s₁ [] 0 0 := Stand.of_body Bd
  have e0 : s₁.heap = h0 := by rw [← hh, Bd.state]; rfl
  have N0 := Fr.nil n0
  have Kp0 := Keep.refl h0 []
  have P0 : ∀ t, Steps p.tables e below (s₁.setTop (mkF m 0 #[rv x0, rv x1, .unset] [])) t → Steps p.tables e below (s₁.setTop (entryFrame m #[(.ref x0), (.ref x1)] 3)) t := fun t k => castTop (ef_4i m x0 x1) k
  obtain ⟨T1, X1, e1, st1⟩ := instNo X0 hx hZ hown (hw _ (im 23 rfl)) e0 pre_E_x1 (own_NS_no (hw _ (im 64 rfl)) (hw _ (im 2 rfl)) (NS.step (hw _ (im 64 rfl)) (NS.step (hw _ (im 65 rfl)) (own_NS_root (hw _ (im 51 rfl)) (hw _ (im 2 rfl)) (by decide)) (by decide)) (by decide)) (by decide)) (g := (mkF m 1 #[rv x0, rv x1, .unset] [(.ref x1)])) rfl rfl (hb hby d4_1)
  have P3 := own_go P0 (S' := T1.setTop (mkF m 28 #[rv x0, rv x1, .unset] [(.int 0)])) (by
    intro t k
    refine XS.aloadN X0.here hx rfl (hb hby d4_0) rfl rfl ?_
    refine st1 _ ?_
    refine XS.ifYes X1.here hx rfl (pc0 := 4) (pc' := 27) rfl (hb hby d4_4) rfl ((if0 _ _).trans (teq (by decide)).1) (by decide) (by decide) ?_
    refine XS.iconst X1.here hx rfl (hb hby d4_27) ?_
    exact k)
  obtain ⟨fs, hr, hrun, hended, hW, hsame⟩ := X1.leave (v := some (.int 0)) (fun h => by rw [Bd.returns] at h; cases h)
  refine ⟨_, _, P3 _ ?_, hrun, hended, _, _, rfl, ?_, ⟨_, rfl⟩, hW, hsame.mono (by decide) (by decide)⟩
  · show Steps p.tables e below (T1.setTop (mkF m 28 #[rv x0, rv x1, .unset] [(.int 0)])) _
    exact retN X1 hx (t := .boolean) Bd.returns (by simp) (hb hby d4_28) hr
  · show Q4i Z x0 x1 h0 n0 _ T1.heap _
    rw [e1]
    exact ⟨rfl, N0, rfl⟩
def Q4a (Z : State) (x0 : Addr) (x1 : Addr) (h0 : Heap) (n0 : Nat) (v : Option Value) (h : Heap) (L : List Loc) : Prop := v = some (.int 0) ∧ Fr n0 L ∧ h = h0
theorem ef_4a (m : MethodId) (x0 : Addr) (x1 : Addr) : entryFrame m #[(.ref x0), (.ref x1)] 3 = mkF m 0 #[rv x0, rv x1, .unset] [] := by first | (simp [entryFrame, mkF, argsToLocals, Value.category]; done) | rfl
set_option maxRecDepth 65536 in
set_option maxHeartbeats 40000000 in
theorem rm4a (l : Launch) (Z : State) (a0 : Array Value) (hw : ∀ d ∈ tables_1, d.before a0 Z = true) (ws : List Jvm.Cond) (x0 : Addr) (x1 : Addr) (h0 : Heap) (n0 : Nat) (Z0 : n0 ≤ h0.size) (pre_E_x1 : Exa Z h0 x1 "com/example/termweave/termweave/term/ArraySort") :
    MetFree l (⟨"com/example/termweave/termweave/term/BitVecSort", "equals", "(Ljava/lang/Object;)Z"⟩ : MethodName) (head1 (Jvm.Cond.code (⟨"com/example/termweave/termweave/term/BitVecSort", "equals", "(Ljava/lang/Object;)Z"⟩ : MethodName) prog_106_method_4_code 3 (some .boolean) :: ws) ({ frames := 0, cells := 0, slots := 0, locals := 0 } : Room)) (fun a U => a = #[(.ref x0), (.ref x1)] ∧ Z.Warmed39 U.vm ∧ U.heap = h0) (fun _ _ _ _ _ => True) (fun _ U o U' => ∃ v L, o = .returned v ∧ Q4a Z x0 x1 h0 n0 v U'.heap L ∧ FrameEnd U o U' L ({ frames := 0, cells := 0, slots := 0, locals := 0 } : Room).cells ({ frames := 0, cells := 0, slots := 0, locals := 0 } : Room).slots) := by
  refine MetFree.of_bodySF (plainFor_of_name pn_4) hisR ?_
  intro p e s m args below meth c s₁ Bd hml0 hP hK
  obtain ⟨rfl, hZ, hh⟩ := hP
  have hx := Bd.exec
  have hby := Bd.bytes
  have hml : c.maxLocals = 3 := hml0
  have hown : s.vm.findClass "com/example/termweave/termweave/term/BitVecSort" = some m.cls := findClass_of_methodNamed Bd.named
  have hnm := (name_of_methodNamed Bd.named Bd.method).1
  have X0 : Stand p l e ({ frames := 0, cells := 0, slots := 0, locals := 0 } : Room) s m #[(.ref x0), (.ref x1)] below meth c s₁ [] 0 0 := Stand.of_body Bd
  have e0 : s₁.heap = h0 := by rw [← hh, Bd.state]; rfl
  have N0 := Fr.nil n0
  have Kp0 := Keep.refl h0 []
  have P0 : ∀ t, Steps p.tables e below (s₁.setTop (mkF m 0 #[rv x0, rv x1, .unset] [])) t → Steps p.tables e below (s₁.setTop (entryFrame m #[(.ref x0), (.ref x1)] 3)) t := fun t k => castTop (ef_4a m x0 x1) k
  obtain ⟨T1, X1, e1, st1⟩ := instNo X0 hx hZ hown (hw _ (im 23 rfl)) e0 pre_E_x1 (own_NS_no (hw _ (im 49 rfl)) (hw _ (im 2 rfl)) (NS.step (hw _ (im 49 rfl)) (NS.step (hw _ (im 50 rfl)) (own_NS_root (hw _ (im 51 rfl)) (hw _ (im 2 rfl)) (by decide)) (by decide)) (by decide)) (by decide)) (g := (mkF m 1 #[rv x0, rv x1, .unset] [(.ref x1)])) rfl rfl (hb hby d4_1)
  have P3 := own_go P0 (S' := T1.setTop (mkF m 28 #[rv x0, rv x1, .unset] [(.int 0)])) (by
    intro t k
    refine XS.aloadN X0.here hx rfl (hb hby d4_0) rfl rfl ?_
    refine st1 _ ?_
    refine XS.ifYes X1.here hx rfl (pc0 := 4) (pc' := 27) rfl (hb hby d4_4) rfl ((if0 _ _).trans (teq (by decide)).1) (by decide) (by decide) ?_
    refine XS.iconst X1.here hx rfl (hb hby d4_27) ?_
    exact k)
  obtain ⟨fs, hr, hrun, hended, hW, hsame⟩ := X1.leave (v := some (.int 0)) (fun h => by rw [Bd.returns] at h; cases h)
  refine ⟨_, _, P3 _ ?_, hrun, hended, _, _, rfl, ?_, ⟨_, rfl⟩, hW, hsame.mono (by decide) (by decide)⟩
  · show Steps p.tables e below (T1.setTop (mkF m 28 #[rv x0, rv x1, .unset] [(.int 0)])) _
    exact retN X1 hx (t := .boolean) Bd.returns (by simp) (hb hby d4_28) hr
  · show Q4a Z x0 x1 h0 n0 _ T1.heap _
    rw [e1]
    exact ⟨rfl, N0, rfl⟩
def Q6 (Z : State) (x0 : Addr) (x1 : Addr) (h0 : Heap) (n0 : Nat) (v : Option Value) (h : Heap) (L : List Loc) : Prop := v = some (.ref x0) ∧ Fr n0 L ∧ h = h0
theorem ef_6 (m : MethodId) (x0 : Addr) (x1 : Addr) : entryFrame m #[(.ref x0), (.ref x1)] 2 = mkF m 0 #[rv x0, rv x1] [] := by first | (simp [entryFrame, mkF, argsToLocals, Value.category]; done) | rfl
set_option maxRecDepth 65536 in
set_option maxHeartbeats 40000000 in
theorem rm6 (l : Launch) (Z : State) (a0 : Array Value) (hw : ∀ d ∈ tables_1, d.before a0 Z = true) (ws : List Jvm.Cond) (x0 : Addr) (x1 : Addr) (h0 : Heap) (n0 : Nat) (Z0 : n0 ≤ h0.size) :
    MetFree l (⟨"java/util/Objects", "requireNonNull", "(Ljava/lang/Object;Ljava/lang/String;)Ljava/lang/Object;"⟩ : MethodName) (head1 (Jvm.Cond.code (⟨"java/util/Objects", "requireNonNull", "(Ljava/lang/Object;Ljava/lang/String;)Ljava/lang/Object;"⟩ : MethodName) jdk_31_method_11_code 2 (some (.object "java/lang/Object")) :: ws) ({ frames := 0, cells := 0, slots := 0, locals := 0 } : Room)) (fun a U => a = #[(.ref x0), (.ref x1)] ∧ Z.Warmed39 U.vm ∧ U.heap = h0) (fun _ _ _ _ _ => True) (fun _ U o U' => ∃ v L, o = .returned v ∧ Q6 Z x0 x1 h0 n0 v U'.heap L ∧ FrameEnd U o U' L ({ frames := 0, cells := 0, slots := 0, locals := 0 } : Room).cells ({ frames := 0, cells := 0, slots := 0, locals := 0 } : Room).slots) := by
  refine MetFree.of_bodySF (plainFor_of_name pn_6) hisR ?_
  intro p e s m args below meth c s₁ Bd hml0 hP hK
  obtain ⟨rfl, hZ, hh⟩ := hP
  have hx := Bd.exec
  have hby := Bd.bytes
  have hml : c.maxLocals = 2 := hml0
  have hown : s.vm.findClass "java/util/Objects" = some m.cls := findClass_of_methodNamed Bd.named
  have hnm := (name_of_methodNamed Bd.named Bd.method).1
  have X0 : Stand p l e ({ frames := 0, cells := 0, slots := 0, locals := 0 } : Room) s m #[(.ref x0), (.ref x1)] below meth c s₁ [] 0 0 := Stand.of_body Bd
  have e0 : s₁.heap = h0 := by rw [← hh, Bd.state]; rfl
  have N0 := Fr.nil n0
  have Kp0 := Keep.refl h0 []
  have P0 : ∀ t, Steps p.tables e below (s₁.setTop (mkF m 0 #[rv x0, rv x1] [])) t → Steps p.tables e below (s₁.setTop (entryFrame m #[(.ref x0), (.ref x1)] 2)) t := fun t k => castTop (ef_6 m x0 x1) k
  have P1 := own_go P0 (S' := s₁.setTop (mkF m 14 #[rv x0, rv x1] [(.ref x0)])) (by
    intro t k
    refine XS.aloadN X0.here hx rfl (hb hby d6_0) rfl rfl ?_
    refine XS.ifnonnullYes X0.here hx rfl (pc0 := 1) (pc' := 13) rfl (hb hby d6_1) rfl (by decide) (by decide) ?_
    refine XS.aloadN X0.here hx rfl (hb hby d6_13) rfl rfl ?_
    exact k)
  obtain ⟨fs, hr, hrun, hended, hW, hsame⟩ := X0.leave (v := some (.ref x0)) (fun h => by rw [Bd.returns] at h; cases h)
  refine ⟨_, _, P1 _ ?_, hrun, hended, _, _, rfl, ?_, ⟨_, rfl⟩, hW, hsame.mono (by decide) (by decide)⟩
  · show Steps p.tables e below (s₁.setTop (mkF m 14 #[rv x0, rv x1] [(.ref x0)])) _
    exact retOut X0 hx (t := (.object "java/lang/Object")) Bd.returns rfl (Or.inr (Or.inr (Or.inr (Or.inr ⟨rfl, rfl, rfl⟩)))) (hb hby d6_14) hr
  · show Q6 Z x0 x1 h0 n0 _ s₁.heap _
    rw [e0]
    exact ⟨rfl, N0, rfl⟩
def Q5 (Z : State) (x0 : Addr) (x1 : Addr) (x2 : Addr) (h0 : Heap) (n0 : Nat) (v : Option Value) (h : Heap) (L : List Loc) : Prop := v = none ∧ Fr n0 L ∧ Keep h0 h [x0] ∧ Exa Z h x0 "com/example/termweave/termweave/term/ArraySort"
theorem ef_5 (m : MethodId) (x0 : Addr) (x1 : Addr) (x2 : Addr) : entryFrame m #[(.ref x0), (.ref x1), (.ref x2)] 3 = mkF m 0 #[rv x0, rv x1, rv x2] [] := by first | (simp [entryFrame, mkF, argsToLocals, Value.category]; done) | rfl
set_option maxRecDepth 65536 in
set_option maxHeartbeats 40000000 in
theorem rm5 (l : Launch) (Z : State) (a0 : Array Value) (hw : ∀ d ∈ tables_1, d.before a0 Z = true) (ws : List Jvm.Cond) (x0 : Addr) (x1 : Addr) (x2 : Addr) (h0 : Heap) (n0 : Nat) (Z0 : n0 ≤ h0.size) (pre_E_x0 : Exa Z h0 x0 "com/example/termweave/termweave/term/ArraySort") (pre_F_x0_index : Fld Z h0 x0 "com/example/termweave/termweave/term/ArraySort" "index" "Lcom/example/termweave/termweave/term/Sort;" .null) (pre_F_x0_element : Fld Z h0 x0 "com/example/termweave/termweave/term/ArraySort" "element" "Lcom/example/termweave/termweave/term/Sort;" .null) (g_x0 : n0 ≤ x0) :
    MetFree l (⟨"com/example/termweave/termweave/term/ArraySort", "<init>", "(Lcom/example/termweave/termweave/term/Sort;Lcom/example/termweave/termweave/term/Sort;)V"⟩ : MethodName) (head1 (Jvm.Cond.code (⟨"com/example/termweave/termweave/term/ArraySort", "<init>", "(Lcom/example/termweave/termweave/term/Sort;Lcom/example/termweave/termweave/term/Sort;)V"⟩ : MethodName) prog_102_method_1_code 3 none :: ws) ({ frames := 2, cells := 4, slots := 56, locals := 24 } : Room)) (fun a U => a = #[(.ref x0), (.ref x1), (.ref x2)] ∧ Z.Warmed39 U.vm ∧ U.heap = h0) (fun _ _ _ _ _ => True) (fun _ U o U' => ∃ v L, o = .returned v ∧ Q5 Z x0 x1 x2 h0 n0 v U'.heap L ∧ ReturnedEndW U o U' L ({ frames := 2, cells := 4, slots := 56, locals := 24 } : Room).cells ({ frames := 2, cells := 4, slots := 56, locals := 24 } : Room).slots) := by
  refine MetFree.of_bodySF (plainFor_of_name pn_5) hisR ?_
  intro p e s m args below meth c s₁ Bd hml0 hP hK
  obtain ⟨rfl, hZ, hh⟩ := hP
  have hx := Bd.exec
  have hby := Bd.bytes
  have hml : c.maxLocals = 3 := hml0
  have hown : s.vm.findClass "com/example/termweave/termweave/term/ArraySort" = some m.cls := findClass_of_methodNamed Bd.named
  have hnm := (name_of_methodNamed Bd.named Bd.method).1
  have X0 : Stand p l e ({ frames := 2, cells := 4, slots := 56, locals := 24 } : Room) (s.setVm s.vm) m #[(.ref x0), (.ref x1), (.ref x2)] below meth c s₁ [] 0 0 := Stand.of_body Bd
  have e0 : s₁.heap = h0 := by rw [← hh, Bd.state]; rfl
  have N0 := Fr.nil n0
  have Kp0 := Keep.refl h0 [x0]
  have hS0 : s.Since s.vm 0 := (State.WarmedH.refl s).since 0
  have hk0 : 0 ≤ h0.size := Nat.zero_le _
  replace hZ : Z.Warmed39 (s.setVm s.vm).vm := hZ
  replace hown : (s.setVm s.vm).vm.findClass "com/example/termweave/termweave/term/ArraySort" = some m.cls := hown
  have P0 : ∀ t, Steps p.tables e below (s₁.setTop (mkF m 0 #[rv x0, rv x1, rv x2] [])) t → Steps p.tables e below (s₁.setTop (entryFrame m #[(.ref x0), (.ref x1), (.ref x2)] 3)) t := fun t k => castTop (ef_5 m x0 x1 x2) k
  obtain ⟨_, _, ⟨T1, L1, k1, n1⟩, -, X1, ⟨Lc1, hQ1, l1, y1, z1⟩, st1⟩ := X0.specialBack hx (y := (⟨"java/lang/Record", "<init>", "()V"⟩ : MethodName)) rfl hown (mvT hZ (hw _ (im 31 rfl))) (mvT hZ (hw _ (im 8 rfl))) (mvT hZ (hw _ (im 11 rfl))) (by decide) (backOf (W := 0) (rm2 l Z a0 hw [] x0 h0 n0 Z0 ) hZ (hw _ (im 11 rfl)) (hw _ (im 10 rfl)) (by decide) (by decide)) (g := (mkF m 1 #[rv x0, rv x1, rv x2] [(.ref x0)])) rfl (by rw [hml]; rfl) (Steps.refl _) (a := x0) (argsL := []) (rest := []) (lenOf pd_0 rfl) rfl (by show 2 * 0 + _ ≤ _; exact Nat.le_of_eq rfl) (hb hby d5_1) (fun _ _ => ⟨rfl, e0, (by decide : 0 + 0 ≤ _), (by decide : 0 + 0 ≤ _)⟩)
  dsimp only [Pt.U, Pt.locs, Pt.cells, Pt.slots] at X1 l1 y1 z1 st1 hQ1
  subst l1 y1 z1
  obtain ⟨rfl, N1q, e1⟩ := hQ1
  have N1 := Fr.app N0 N1q
  obtain ⟨b2, T2, h2, k2, X2, e2, E2, hS2, hk2, hZ2, hown2, st2⟩ := ldcS X1 hx hZ hown (hw _ (im 32 rfl)) (own_atoms hw) e1 hS0 hk0 (g := (mkF m 5 #[rv x0, rv x1, rv x2] [(.ref x1)])) rfl (hb hby d5_5) (n := 20) (by decide) (by decide) (by decide) (by decide)
  have Z2_ : n0 ≤ h2.size := Nat.le_trans Z0 E2.1
  have hk2_ := Nat.le_trans hk0 E2.1
  have KK2 := Kp0.ext E2
  obtain ⟨_, _, ⟨T3, L3, k3, n3⟩, -, X3, ⟨Lc3, hQ3, l3, y3, z3⟩, st3⟩ := Jvm.LawKit.callS X2 hx (y := (⟨"java/util/Objects", "requireNonNull", "(Ljava/lang/Object;Ljava/lang/String;)Ljava/lang/Object;"⟩ : MethodName)) hown2 (mvT hZ2 (hw _ (im 40 rfl))) (mvT hZ2 (hw _ (im 41 rfl))) (mvT hZ2 (hw _ (im 42 rfl))) (mvT hZ2 (hw _ (im 43 rfl))) (by decide) (backOf (W := 0) (rm6 l Z a0 hw [] x1 b2 h2 n0 Z2_ ) hZ2 (hw _ (im 43 rfl)) (hw _ (im 42 rfl)) (by decide) (by decide)) (g := (mkF m 7 #[rv x0, rv x1, rv x2] [(.ref b2), (.ref x1)])) rfl (by rw [hml]; rfl) (argsL := [(.ref x1), (.ref b2)]) (rest := []) (lenOf pd_1 rfl) rfl (by show 2 * 0 + _ ≤ _; exact Nat.le_of_eq rfl) (hb hby d5_7) (fun _ _ => ⟨rfl, e2, (by decide : 2 + 0 ≤ _), (by decide : 24 + 0 ≤ _)⟩)
  dsimp only [Pt.U, Pt.locs, Pt.cells, Pt.slots] at X3 l3 y3 z3 st3 hQ3
  subst l3 y3 z3
  obtain ⟨rfl, N3q, e3⟩ := hQ3
  have N3 := Fr.app N1 N3q
  obtain ⟨b4, T4, h4, k4, X4, e4, E4, hS4, hk4, hZ4, hown4, st4⟩ := ldcS X3 hx hZ2 hown2 (hw _ (im 44 rfl)) (own_atoms hw) e3 hS2 hk2 (g := (mkF m 12 #[rv x0, rv x1, rv x2] [(.ref x2)])) rfl (hb hby d5_12) (n := 28) (by decide) (by decide) (by decide) (by decide)
  have Z4_ : n0 ≤ h4.size := Nat.le_trans Z2_ E4.1
  have hk4_ := Nat.le_trans hk2 E4.1
  have KK4 := KK2.ext E4
  obtain ⟨_, _, ⟨T5, L5, k5, n5⟩, -, X5, ⟨Lc5, hQ5, l5, y5, z5⟩, st5⟩ := Jvm.LawKit.callS X4 hx (y := (⟨"java/util/Objects", "requireNonNull", "(Ljava/lang/Object;Ljava/lang/String;)Ljava/lang/Object;"⟩ : MethodName)) hown4 (mvT hZ4 (hw _ (im 40 rfl))) (mvT hZ4 (hw _ (im 41 rfl))) (mvT hZ4 (hw _ (im 42 rfl))) (mvT hZ4 (hw _ (im 43 rfl))) (by decide) (backOf (W := 0) (rm6 l Z a0 hw [] x2 b4 h4 n0 Z4_ ) hZ4 (hw _ (im 43 rfl)) (hw _ (im 42 rfl)) (by decide) (by decide)) (g := (mkF m 14 #[rv x0, rv x1, rv x2] [(.ref b4), (.ref x2)])) rfl (by rw [hml]; rfl) (argsL := [(.ref x2), (.ref b4)]) (rest := []) (lenOf pd_1 rfl) rfl (by show 2 * 0 + _ ≤ _; exact Nat.le_of_eq rfl) (hb hby d5_14) (fun _ _ => ⟨rfl, e4, (by decide : 4 + 0 ≤ _), (by decide : 56 + 0 ≤ _)⟩)
  dsimp only [Pt.U, Pt.locs, Pt.cells, Pt.slots] at X5 l5 y5 z5 st5 hQ5
  subst l5 y5 z5
  obtain ⟨rfl, N5q, e5⟩ := hQ5
  have N5 := Fr.app N3 N5q
  have q6 := ((pre_F_x0_index.ext E2).ext E4)
  have q7 := ((pre_E_x0.ext E2).ext E4)
  obtain ⟨T8, h8, X8, e8, W8, st8⟩ := putF X5 hx hZ4 hown4 (host := "") (Or.inl (hw _ (im 45 rfl))) Via.refl e5 q6 q7 (Or.inr ⟨(hw _ (im 46 rfl)), rfl, hnm⟩) (hw _ (im 26 rfl)) (ty := (.object "com/example/termweave/termweave/term/Sort")) (by decide) rfl rfl (g := (mkF m 20 #[rv x0, rv x1, rv x2] [(.ref x1), (.ref x0)])) rfl rfl (hb hby d5_20)
  have Fw8 := q6.same W8
  have Z8_ : n0 ≤ h8.size := Nat.le_trans Z4_ (Nat.le_of_eq W8.size.symm)
  have hk8_ := Nat.le_trans hk4 (Nat.le_of_eq W8.size.symm)
  have N8 := Fr.snoc X8 N5 g_x0
  have KK8 := KK4.wr W8 (Or.inl (List.mem_of_getElem? (i := 0) rfl))
  have q9 := (((pre_F_x0_element.ext E2).ext E4).other W8 (Or.inr (own_sn (la_0 hw) (la_1 hw))))
  have q10 := (q7.wr W8)
  obtain ⟨T11, h11, X11, e11, W11, st11⟩ := putF X8 hx hZ4 hown4 (host := "") (Or.inl (hw _ (im 47 rfl))) Via.refl e8 q9 q10 (Or.inr ⟨(hw _ (im 48 rfl)), rfl, hnm⟩) (hw _ (im 26 rfl)) (ty := (.object "com/example/termweave/termweave/term/Sort")) (by decide) rfl rfl (g := (mkF m 25 #[rv x0, rv x1, rv x2] [(.ref x2), (.ref x0)])) rfl rfl (hb hby d5_25)
  have Fw11 := q9.same W11
  have Z11_ : n0 ≤ h11.size := Nat.le_trans Z8_ (Nat.le_of_eq W11.size.symm)
  have hk11_ := Nat.le_trans hk8_ (Nat.le_of_eq W11.size.symm)
  have N11 := Fr.snoc X11 N8 g_x0
  have KK11 := KK8.wr W11 (Or.inl (List.mem_of_getElem? (i := 0) rfl))
  have P12 := own_go P0 (S' := T11.setTop (mkF m 28 #[rv x0, rv x1, rv x2] [])) (by
    intro t k
    refine XS.aloadN X0.here hx rfl (hb hby d5_0) rfl rfl ?_
    refine st1.trans ?_
    refine XS.aloadN X1.here hx rfl (hb hby d5_4) rfl rfl ?_
    refine st2 _ ?_
    refine st3 _ ?_
    refine XS.pop X3.here hx rfl (hb hby d5_10) rfl rfl ?_
    refine XS.aloadN X3.here hx rfl (hb hby d5_11) rfl rfl ?_
    refine st4 _ ?_
    show Steps p.tables e below (T4.setTop (mkF m 14 #[rv x0, rv x1, rv x2] [(.ref b4), (.ref x2)])) _
    refine st5 _ ?_
    refine XS.pop X5.here hx rfl (hb hby d5_17) rfl rfl ?_
    refine XS.aloadN X5.here hx rfl (hb hby d5_18) rfl rfl ?_
    refine XS.aloadN X5.here hx rfl (hb hby d5_19) rfl rfl ?_
    refine st8 _ ?_
    refine XS.aloadN X8.here hx rfl (hb hby d5_23) rfl rfl ?_
    refine XS.aloadN X8.here hx rfl (hb hby d5_24) rfl rfl ?_
    refine st11 _ ?_
    show Steps p.tables e below (T11.setTop (mkF m 28 #[rv x0, rv x1, rv x2] [])) _
    exact k)
  have q13 := (q10.wr W11)
  obtain ⟨fs, hr, hrun, hended, hend⟩ := X11.leaveW hS4 (by rw [e11]; exact hk11_) (v := none) (fun _ => rfl)
  refine ⟨_, _, P12 _ ?_, hrun, hended, _, _, rfl, ?_, hend.1, hend.2.1, hend.2.2.1, hend.2.2.2.mono (by decide) (by decide)⟩
  · show Steps p.tables e below (T11.setTop (mkF m 28 #[rv x0, rv x1, rv x2] [])) _
    exact X11.returnOut hx Bd.returns (hb hby d5_28) hr
  · show Q5 Z x0 x1 x2 h0 n0 _ T11.heap _
    rw [e11]
    exact ⟨rfl, N11, KK11, q13⟩
def Q9 (Z : State) (x0 : Addr) (h0 : Heap) (n0 : Nat) (v : Option Value) (h : Heap) (L : List Loc) : Prop := v = none ∧ Fr n0 L ∧ h = h0
theorem ef_9 (m : MethodId) (x0 : Addr) : entryFrame m #[(.ref x0)] 1 = mkF m 0 #[rv x0] [] := by first | (simp [entryFrame, mkF, argsToLocals, Value.category]; done) | rfl
set_option maxRecDepth 65536 in
set_option maxHeartbeats 40000000 in
theorem rm9 (l : Launch) (Z : State) (a0 : Array Value) (hw : ∀ d ∈ tables_1, d.before a0 Z = true) (ws : List Jvm.Cond) (x0 : Addr) (h0 : Heap) (n0 : Nat) (Z0 : n0 ≤ h0.size) :
    MetFree l (⟨"java/lang/Number", "<init>", "()V"⟩ : MethodName) (head1 (Jvm.Cond.code (⟨"java/lang/Number", "<init>", "()V"⟩ : MethodName) jdk_18_method_1_code 1 none :: ws) ({ frames := 1, cells := 0, slots := 0, locals := 12 } : Room)) (fun a U => a = #[(.ref x0)] ∧ Z.Warmed39 U.vm ∧ U.heap = h0) (fun _ _ _ _ _ => True) (fun _ U o U' => ∃ v L, o = .returned v ∧ Q9 Z x0 h0 n0 v U'.heap L ∧ FrameEnd U o U' L ({ frames := 1, cells := 0, slots := 0, locals := 12 } : Room).cells ({ frames := 1, cells := 0, slots := 0, locals := 12 } : Room).slots) := by
  refine MetFree.of_bodySF (plainFor_of_name pn_9) hisR ?_
  intro p e s m args below meth c s₁ Bd hml0 hP hK
  obtain ⟨rfl, hZ, hh⟩ := hP
  have hx := Bd.exec
  have hby := Bd.bytes
  have hml : c.maxLocals = 1 := hml0
  have hown : s.vm.findClass "java/lang/Number" = some m.cls := findClass_of_methodNamed Bd.named
  have hnm := (name_of_methodNamed Bd.named Bd.method).1
  have X0 : Stand p l e ({ frames := 1, cells := 0, slots := 0, locals := 12 } : Room) s m #[(.ref x0)] below meth c s₁ [] 0 0 := Stand.of_body Bd
  have e0 : s₁.heap = h0 := by rw [← hh, Bd.state]; rfl
  have N0 := Fr.nil n0
  have Kp0 := Keep.refl h0 []
  have P0 : ∀ t, Steps p.tables e below (s₁.setTop (mkF m 0 #[rv x0] [])) t → Steps p.tables e below (s₁.setTop (entryFrame m #[(.ref x0)] 1)) t := fun t k => castTop (ef_9 m x0) k
  obtain ⟨T1, X1, e1, st1⟩ := initO X0 hx hZ hown (hw _ (im 78 rfl)) (hw _ (im 13 rfl)) (hw _ (im 14 rfl)) e0 (g := (mkF m 1 #[rv x0] [(.ref x0)])) rfl (by rw [hml]; rfl) rfl (hb hby d9_1) (by decide) (W := 0) (by show 2 * 0 + _ ≤ _; exact Nat.le_of_eq rfl) (by decide)
  have P2 := own_go P0 (S' := T1.setTop (mkF m 4 #[rv x0] [])) (by
    intro t k
    refine XS.aloadN X0.here hx rfl (hb hby d9_0) rfl rfl ?_
    refine st1 _ ?_
    exact k)
  obtain ⟨fs, hr, hrun, hended, hW, hsame⟩ := X1.leave (v := none) (fun _ => rfl)
  refine ⟨_, _, P2 _ ?_, hrun, hended, _, _, rfl, ?_, ⟨_, rfl⟩, hW, hsame.mono (by decide) (by decide)⟩
  · show Steps p.tables e below (T1.setTop (mkF m 4 #[rv x0] [])) _
    exact X1.returnOut hx Bd.returns (hb hby d9_4) hr
  · show Q9 Z x0 h0 n0 _ T1.heap _
    rw [e1]
    exact ⟨rfl, N0, rfl⟩
def Q8 (Z : State) (x0 : Addr) (x1 : Int32) (h0 : Heap) (n0 : Nat) (v : Option Value) (h : Heap) (L : List Loc) : Prop := v = none ∧ Fr n0 L ∧ Keep h0 h [x0] ∧ Exa Z h x0 "java/lang/Integer"
theorem ef_8 (m : MethodId) (x0 : Addr) (x1 : Int32) : entryFrame m #[(.ref x0), (.int x1)] 2 = mkF m 0 #[rv x0, iv x1] [] := by first | (simp [entryFrame, mkF, argsToLocals, Value.category]; done) | rfl
set_option maxRecDepth 65536 in
set_option maxHeartbeats 40000000 in
theorem rm8 (l : Launch) (Z : State) (a0 : Array Value) (hw : ∀ d ∈ tables_1, d.before a0 Z = true) (ws : List Jvm.Cond) (x0 : Addr) (x1 : Int32) (h0 : Heap) (n0 : Nat) (Z0 : n0 ≤ h0.size) (pre_E_x0 : Exa Z h0 x0 "java/lang/Integer") (pre_F_x0_value : Fld Z h0 x0 "java/lang/Integer" "value" "I" (.int 0)) (g_x0 : n0 ≤ x0) :
    MetFree l (⟨"java/lang/Integer", "<init>", "(I)V"⟩ : MethodName) (head1 (Jvm.Cond.code (⟨"java/lang/Integer", "<init>", "(I)V"⟩ : MethodName) jdk_33_method_23_code 2 none :: ws) ({ frames := 2, cells := 0, slots := 0, locals := 24 } : Room)) (fun a U => a = #[(.ref x0), (.int x1)] ∧ Z.Warmed39 U.vm ∧ U.heap = h0) (fun _ _ _ _ _ => True) (fun _ U o U' => ∃ v L, o = .returned v ∧ Q8 Z x0 x1 h0 n0 v U'.heap L ∧ FrameEnd U o U' L ({ frames := 2, cells := 0, slots := 0, locals := 24 } : Room).cells ({ frames := 2, cells := 0, slots := 0, locals := 24 } : Room).slots) := by
  refine MetFree.of_bodySF (plainFor_of_name pn_8) hisR ?_
  intro p e s m args below meth c s₁ Bd hml0 hP hK
  obtain ⟨rfl, hZ, hh⟩ := hP
  have hx := Bd.exec
  have hby := Bd.bytes
  have hml : c.maxLocals = 2 := hml0
  have hown : s.vm.findClass "java/lang/Integer" = some m.cls := findClass_of_methodNamed Bd.named
  have hnm := (name_of_methodNamed Bd.named Bd.method).1
  have X0 : Stand p l e ({ frames := 2, cells := 0, slots := 0, locals := 24 } : Room) s m #[(.ref x0), (.int x1)] below meth c s₁ [] 0 0 := Stand.of_body Bd
  have e0 : s₁.heap = h0 := by rw [← hh, Bd.state]; rfl
  have N0 := Fr.nil n0
  have Kp0 := Keep.refl h0 [x0]
  have P0 : ∀ t, Steps p.tables e below (s₁.setTop (mkF m 0 #[rv x0, iv x1] [])) t → Steps p.tables e below (s₁.setTop (entryFrame m #[(.ref x0), (.int x1)] 2)) t := fun t k => castTop (ef_8 m x0 x1) k
  obtain ⟨_, _, ⟨T1, L1, k1, n1⟩, -, X1, ⟨Lc1, hQ1, l1, y1, z1⟩, st1⟩ := X0.specialBack hx (y := (⟨"java/lang/Number", "<init>", "()V"⟩ : MethodName)) rfl hown (mvT hZ (hw _ (im 72 rfl))) (mvT hZ (hw _ (im 73 rfl))) (mvT hZ (hw _ (im 77 rfl))) (by decide) (backOf (W := 0) (rm9 l Z a0 hw [] x0 h0 n0 Z0 ) hZ (hw _ (im 77 rfl)) (hw _ (im 76 rfl)) (by decide) (by decide)) (g := (mkF m 1 #[rv x0, iv x1] [(.ref x0)])) rfl (by rw [hml]; rfl) (Steps.refl _) (a := x0) (argsL := []) (rest := []) (lenOf pd_0 rfl) rfl (by show 2 * 0 + _ ≤ _; exact Nat.le_of_eq rfl) (hb hby d8_1) (fun _ _ => ⟨rfl, e0, (by decide : 0 + 0 ≤ _), (by decide : 0 + 0 ≤ _)⟩)
  dsimp only [Pt.U, Pt.locs, Pt.cells, Pt.slots] at X1 l1 y1 z1 st1 hQ1
  subst l1 y1 z1
  obtain ⟨rfl, N1q, e1⟩ := hQ1
  have N1 := Fr.app N0 N1q
  obtain ⟨T2, h2, X2, e2, W2, st2⟩ := putF X1 hx hZ hown (host := "") (Or.inl (hw _ (im 79 rfl))) Via.refl e1 pre_F_x0_value pre_E_x0 (Or.inr ⟨(hw _ (im 80 rfl)), rfl, hnm⟩) (hw _ (im 67 rfl)) (ty := .int) (by decide) rfl rfl (g := (mkF m 6 #[rv x0, iv x1] [(.int x1), (.ref x0)])) rfl rfl (hb hby d8_6)
  have Fw2 := pre_F_x0_value.same W2
  have Z2_ : n0 ≤ h2.size := Nat.le_trans Z0 (Nat.le_of_eq W2.size.symm)
  have N2 := Fr.snoc X2 N1 g_x0
  have KK2 := Kp0.wr W2 (Or.inl (List.mem_of_getElem? (i := 0) rfl))
  have P3 := own_go P0 (S' := T2.setTop (mkF m 9 #[rv x0, iv x1] [])) (by
    intro t k
    refine XS.aloadN X0.here hx rfl (hb hby d8_0) rfl rfl ?_
    refine st1.trans ?_
    refine XS.aloadN X1.here hx rfl (hb hby d8_4) rfl rfl ?_
    refine XS.iloadN X1.here hx rfl (hb hby d8_5) rfl ?_
    refine st2 _ ?_
    exact k)
  have q4 := (pre_E_x0.wr W2)
  obtain ⟨fs, hr, hrun, hended, hW, hsame⟩ := X2.leave (v := none) (fun _ => rfl)
  refine ⟨_, _, P3 _ ?_, hrun, hended, _, _, rfl, ?_, ⟨_, rfl⟩, hW, hsame.mono (by decide) (by decide)⟩
  · show Steps p.tables e below (T2.setTop (mkF m 9 #[rv x0, iv x1] [])) _
    exact X2.returnOut hx Bd.returns (hb hby d8_9) hr
  · show Q8 Z x0 x1 h0 n0 _ T2.heap _
    rw [e2]
    exact ⟨rfl, N2, KK2, q4⟩
def Q7 (Z : State) (x0 : Int32) (ca : Addr) (cl : Cell) (h0 : Heap) (n0 : Nat) (v : Option Value) (h : Heap) (L : List Loc) : Prop := ∃ (b : Addr), v = some (.ref b) ∧ Fr n0 L ∧ Keep h0 h [] ∧ Exa Z h b "java/lang/Integer"
theorem ef_7 (m : MethodId) (x0 : Int32) : entryFrame m #[(.int x0)] 1 = mkF m 0 #[iv x0] [] := by first | (simp [entryFrame, mkF, argsToLocals, Value.category]; done) | rfl
set_option maxRecDepth 65536 in
set_option maxHeartbeats 40000000 in
theorem rm7 (l : Launch) (Z : State) (a0 : Array Value) (hw : ∀ d ∈ tables_1, d.before a0 Z = true) (ws : List Jvm.Cond) (x0 : Int32) (ca : Addr) (cl : Cell) (h0 : Heap) (n0 : Nat) (Z0 : n0 ≤ h0.size) (O0 : Old Z n0 h0) (pre_S_high : Sta Z Z.heap "java/lang/Integer$IntegerCache" "high" "I" (.int 127)) (pre_S_cache : Sta Z Z.heap "java/lang/Integer$IntegerCache" "cache" "[Ljava/lang/Integer;" (.ref ca)) (BX : Bxs Z ca cl "java/lang/Integer" "I" (256 : Int32) (fun j => .int (j - (128 : Int32)))) :
    MetFree l (⟨"java/lang/Integer", "valueOf", "(I)Ljava/lang/Integer;"⟩ : MethodName) (head1 (Jvm.Cond.code (⟨"java/lang/Integer", "valueOf", "(I)Ljava/lang/Integer;"⟩ : MethodName) jdk_33_method_22_code 1 (some (.object "java/lang/Integer")) :: ws) ({ frames := 3, cells := 1, slots := 1, locals := 38 } : Room)) (fun a U => a = #[(.int x0)] ∧ Z.Warmed39 U.vm ∧ U.heap = h0) (fun _ _ _ _ _ => True) (fun _ U o U' => ∃ v L, o = .returned v ∧ Q7 Z x0 ca cl h0 n0 v U'.heap L ∧ FrameEnd U o U' L ({ frames := 3, cells := 1, slots := 1, locals := 38 } : Room).cells ({ frames := 3, cells := 1, slots := 1, locals := 38 } : Room).slots) := by
  refine MetFree.of_bodySF (plainFor_of_name pn_7) hisR ?_
  intro p e s m args below meth c s₁ Bd hml0 hP hK
  obtain ⟨rfl, hZ, hh⟩ := hP
  have hx := Bd.exec
  have hby := Bd.bytes
  have hml : c.maxLocals = 1 := hml0
  have hown : s.vm.findClass "java/lang/Integer" = some m.cls := findClass_of_methodNamed Bd.named
  have hnm := (name_of_methodNamed Bd.named Bd.method).1
  have X0 : Stand p l e ({ frames := 3, cells := 1, slots := 1, locals := 38 } : Room) s m #[(.int x0)] below meth c s₁ [] 0 0 := Stand.of_body Bd
  have e0 : s₁.heap = h0 := by rw [← hh, Bd.state]; rfl
  have N0 := Fr.nil n0
  have Kp0 := Keep.refl h0 []
  have P0 : ∀ t, Steps p.tables e below (s₁.setTop (mkF m 0 #[iv x0] [])) t → Steps p.tables e below (s₁.setTop (entryFrame m #[(.int x0)] 1)) t := fun t k => castTop (ef_7 m x0) k
  have P2 := own_go P0 (S' := s₁.setTop (mkF m 3 #[iv x0] [(.int (-128)), (.int x0)])) (by
    intro t k
    refine XS.iloadN X0.here hx rfl (hb hby d7_0) rfl ?_
    refine XS.bipush X0.here hx rfl (hb hby d7_1) ?_
    exact k)
  by_cases hc3_1 : x0 < (-128 : Int32)
  · obtain ⟨T3, h3, X3, e3, E3, A3, D3, -, st3⟩ := newO X0 hx hZ hown (hw _ (im 66 rfl)) (hw _ (im 67 rfl)) (hw _ (im 59 rfl)) e0 (g := (mkF m 23 #[iv x0] [])) rfl (hb hby d7_23) (by decide) (by decide)
    obtain ⟨b3, g3⟩ : ∃ z, z = h0.size := ⟨_, rfl⟩
    rw [← g3] at A3 D3 st3
    have ge_b3 : n0 ≤ b3 := Nat.le_trans Z0 (Nat.le_of_eq g3.symm)
    have sz_b3 : h0.size ≤ b3 := Nat.le_trans Kp0.1 (Nat.le_of_eq g3.symm)
    have Z3_ : n0 ≤ h3.size := Nat.le_trans Z0 E3.1
    have O3_ := O0.ext E3
    have KK3 := Kp0.ext E3
    have F3_value : Fld Z h3 b3 "java/lang/Integer" "value" "I" (.int 0) := D3 (Or.inr (hw _ (im 80 rfl))) (ty := .int) (by decide)
    obtain ⟨_, _, ⟨T4, L4, k4, n4⟩, -, X4, ⟨Lc4, hQ4, l4, y4, z4⟩, st4⟩ := X3.specialBack hx (y := (⟨"java/lang/Integer", "<init>", "(I)V"⟩ : MethodName)) rfl hown (mvT hZ (hw _ (im 68 rfl))) (mvT hZ (hw _ (im 69 rfl))) (mvT hZ (hw _ (im 71 rfl))) (by decide) (backOf (W := 1) (rm8 l Z a0 hw [] b3 x0 h3 n0 Z3_ A3 F3_value ge_b3) hZ (hw _ (im 71 rfl)) (hw _ (im 59 rfl)) (by decide) (by decide)) (g := (mkF m 28 #[iv x0] [(.int x0), (.ref b3), (.ref b3)])) rfl (by rw [hml]; rfl) (Steps.refl _) (a := b3) (argsL := [(.int x0)]) (rest := [(.ref b3)]) (lenOf pd_2 rfl) rfl (by show 2 * 0 + _ ≤ _; exact Nat.le_of_eq rfl) (hb hby d7_28) (fun _ _ => ⟨rfl, e3, (by decide : 1 + 0 ≤ _), (by decide : 1 + 0 ≤ _)⟩)
    dsimp only [Pt.U, Pt.locs, Pt.cells, Pt.slots] at X4 l4 y4 z4 st4 hQ4
    subst l4 y4 z4
    obtain ⟨rfl, N4q, K4, r4_0⟩ := hQ4
    have N4 := Fr.app N0 N4q
    have Z4_ : n0 ≤ T4.heap.size := Nat.le_trans Z3_ K4.1
    have O4_ := O3_.keep K4 (allS ge_b3 all0)
    have KK4 := KK3.trans K4 (allS (Or.inr sz_b3) all0)
    have P5 := own_go P2 (S' := T4.setTop (mkF m 31 #[iv x0] [(.ref b3)])) (by
      intro t k
      refine XS.icmpYes X0.here hx rfl (pc0 := 3) (pc' := 23) rfl (hb hby d7_3) rfl (tlt hc3_1).1 (by decide) (by decide) ?_
      refine st3 _ ?_
      refine XS.dup X3.here hx rfl (hb hby d7_26) rfl rfl ?_
      refine XS.iloadN X3.here hx rfl (hb hby d7_27) rfl ?_
      refine st4.trans ?_
      exact k)
    obtain ⟨fs, hr, hrun, hended, hW, hsame⟩ := X4.leave (v := some (.ref b3)) (fun h => by rw [Bd.returns] at h; cases h)
    refine ⟨_, _, P5 _ ?_, hrun, hended, _, _, rfl, ?_, ⟨_, rfl⟩, hW, hsame.mono (by decide) (by decide)⟩
    · show Steps p.tables e below (T4.setTop (mkF m 31 #[iv x0] [(.ref b3)])) _
      exact retOut X4 hx (t := (.object "java/lang/Integer")) Bd.returns rfl (Or.inr (Or.inr (Or.inr (Or.inr ⟨rfl, rfl, rfl⟩)))) (hb hby d7_31) hr
    · show Q7 Z x0 ca cl h0 n0 _ T4.heap _
      exact ⟨b3, rfl, N4, KK4, r4_0⟩
  · obtain ⟨T6, X6, e6, st6⟩ := getS2 X0 hx hZ hown (host := "") (Or.inl (hw _ (im 61 rfl))) Via.refl e0 (pre_S_high.ext O0.2) (g := (mkF m 7 #[iv x0] [(.int x0)])) rfl (hb hby d7_7)
    have P8 := own_go P2 (S' := T6.setTop (mkF m 10 #[iv x0] [(.int 127), (.int x0)])) (by
      intro t k
      refine XS.icmpNo X0.here hx rfl (hb hby d7_3) rfl (flt hc3_1).1 ?_
      refine XS.iloadN X0.here hx rfl (hb hby d7_6) rfl ?_
      refine st6 _ ?_
      exact k)
    by_cases hc10_7 : (127 : Int32) < x0
    · obtain ⟨T9, h9, X9, e9, E9, A9, D9, -, st9⟩ := newO X6 hx hZ hown (hw _ (im 66 rfl)) (hw _ (im 67 rfl)) (hw _ (im 59 rfl)) e6 (g := (mkF m 23 #[iv x0] [])) rfl (hb hby d7_23) (by decide) (by decide)
      obtain ⟨b9, g9⟩ : ∃ z, z = h0.size := ⟨_, rfl⟩
      rw [← g9] at A9 D9 st9
      have ge_b9 : n0 ≤ b9 := Nat.le_trans Z0 (Nat.le_of_eq g9.symm)
      have sz_b9 : h0.size ≤ b9 := Nat.le_trans Kp0.1 (Nat.le_of_eq g9.symm)
      have Z9_ : n0 ≤ h9.size := Nat.le_trans Z0 E9.1
      have O9_ := O0.ext E9
      have KK9 := Kp0.ext E9
      have F9_value : Fld Z h9 b9 "java/lang/Integer" "value" "I" (.int 0) := D9 (Or.inr (hw _ (im 80 rfl))) (ty := .int) (by decide)
      obtain ⟨_, _, ⟨T10, L10, k10, n10⟩, -, X10, ⟨Lc10, hQ10, l10, y10, z10⟩, st10⟩ := X9.specialBack hx (y := (⟨"java/lang/Integer", "<init>", "(I)V"⟩ : MethodName)) rfl hown (mvT hZ (hw _ (im 68 rfl))) (mvT hZ (hw _ (im 69 rfl))) (mvT hZ (hw _ (im 71 rfl))) (by decide) (backOf (W := 1) (rm8 l Z a0 hw [] b9 x0 h9 n0 Z9_ A9 F9_value ge_b9) hZ (hw _ (im 71 rfl)) (hw _ (im 59 rfl)) (by decide) (by decide)) (g := (mkF m 28 #[iv x0] [(.int x0), (.ref b9), (.ref b9)])) rfl (by rw [hml]; rfl) (Steps.refl _) (a := b9) (argsL := [(.int x0)]) (rest := [(.ref b9)]) (lenOf pd_2 rfl) rfl (by show 2 * 0 + _ ≤ _; exact Nat.le_of_eq rfl) (hb hby d7_28) (fun _ _ => ⟨rfl, e9, (by decide : 1 + 0 ≤ _), (by decide : 1 + 0 ≤ _)⟩)
      dsimp only [Pt.U, Pt.locs, Pt.cells, Pt.slots] at X10 l10 y10 z10 st10 hQ10
      subst l10 y10 z10
      obtain ⟨rfl, N10q, K10, r10_0⟩ := hQ10
      have N10 := Fr.app N0 N10q
      have Z10_ : n0 ≤ T10.heap.size := Nat.le_trans Z9_ K10.1
      have O10_ := O9_.keep K10 (allS ge_b9 all0)
      have KK10 := KK9.trans K10 (allS (Or.inr sz_b9) all0)
      have P11 := own_go P8 (S' := T10.setTop (mkF m 31 #[iv x0] [(.ref b9)])) (by
        intro t k
        refine XS.icmpYes X6.here hx rfl (pc0 := 10) (pc' := 23) rfl (hb hby d7_10) rfl (tlt hc10_7).2.2.1 (by decide) (by decide) ?_
        refine st9 _ ?_
        refine XS.dup X9.here hx rfl (hb hby d7_26) rfl rfl ?_
        refine XS.iloadN X9.here hx rfl (hb hby d7_27) rfl ?_
        refine st10.trans ?_
        exact k)
      obtain ⟨fs, hr, hrun, hended, hW, hsame⟩ := X10.leave (v := some (.ref b9)) (fun h => by rw [Bd.returns] at h; cases h)
      refine ⟨_, _, P11 _ ?_, hrun, hended, _, _, rfl, ?_, ⟨_, rfl⟩, hW, hsame.mono (by decide) (by decide)⟩
      · show Steps p.tables e below (T10.setTop (mkF m 31 #[iv x0] [(.ref b9)])) _
        exact retOut X10 hx (t := (.object "java/lang/Integer")) Bd.returns rfl (Or.inr (Or.inr (Or.inr (Or.inr ⟨rfl, rfl, rfl⟩)))) (hb hby d7_31) hr
      · show Q7 Z x0 ca cl h0 n0 _ T10.heap _
        exact ⟨b9, rfl, N10, KK10, r10_0⟩
    · obtain ⟨T12, X12, e12, st12⟩ := getS2 X6 hx hZ hown (host := "") (Or.inl (hw _ (im 63 rfl))) Via.refl e6 (pre_S_cache.ext O0.2) (g := (mkF m 13 #[iv x0] [])) rfl (hb hby d7_13)
      have hj13 := own_idx x0 hc3_1 hc10_7
      obtain ⟨b13, hat13, Eb13, -⟩ := BX.2.2.2 (x0 + (128 : Int32)) (inb_of BX.2.1 hj13)
      obtain ⟨Ar13, -, -⟩ := BX.ext O0.2
      have P14 := own_go P8 (S' := T12.setTop (mkF m 22 #[iv x0] [(.ref b13)])) (by
        intro t k
        refine XS.icmpNo X6.here hx rfl (hb hby d7_10) rfl (flt hc10_7).2.2.1 ?_
        refine st12 _ ?_
        refine XS.iloadN X12.here hx rfl (hb hby d7_16) rfl ?_
        refine XS.sipush X12.here hx rfl (hb hby d7_17) ?_
        refine XS.iadd X12.here hx rfl (hb hby d7_20) rfl ?_
        refine X12.aaload hx (j := (x0 + (128 : Int32))) (v := (.ref b13)) (by rw [e12]; exact Ar13.1) (State.isArrayOf_alike hZ.alike Ar13.2.1) rfl Ar13.2.2 (inb_of BX.2.1 hj13) hat13 (g := (mkF m 21 #[iv x0] [(.int (x0 + (128 : Int32))), (.ref ca)])) rfl rfl (hb hby d7_21) _ ?_
        exact k)
      obtain ⟨fs, hr, hrun, hended, hW, hsame⟩ := X12.leave (v := some (.ref b13)) (fun h => by rw [Bd.returns] at h; cases h)
      refine ⟨_, _, P14 _ ?_, hrun, hended, _, _, rfl, ?_, ⟨_, rfl⟩, hW, hsame.mono (by decide) (by decide)⟩
      · show Steps p.tables e below (T12.setTop (mkF m 22 #[iv x0] [(.ref b13)])) _
        exact retOut X12 hx (t := (.object "java/lang/Integer")) Bd.returns rfl (Or.inr (Or.inr (Or.inr (Or.inr ⟨rfl, rfl, rfl⟩)))) (hb hby d7_22) hr
      · show Q7 Z x0 ca cl h0 n0 _ T12.heap _
        rw [e12]
        exact ⟨b13, rfl, N0, Kp0, (Eb13.ext O0.2)⟩
def Q0 (Z : State) (x0 : Int32) (x1 : Int32) (x2 : Int32) (ca : Addr) (cl : Cell) (bo : Addr) (h0 : Heap) (n0 : Nat) (v : Option Value) (h : Heap) (L : List Loc) : Prop := v = some (.int 1) ∧ Fr n0 L
theorem ef_0 (m : MethodId) (x0 : Int32) (x1 : Int32) (x2 : Int32) : entryFrame m #[(.int x0), (.int x1), (.int x2)] maxLocals = mkF m 0 #[iv x0, iv x1, iv x2, .unset, .unset, .unset, .unset, .unset, .unset] [] := by first | (simp [entryFrame, mkF, argsToLocals, Value.category, maxLocals]; done) | rfl
set_option maxRecDepth 65536 in
set_option maxHeartbeats 40000000 in
theorem rm0 (l : Launch) (Z : State) (a0 : Array Value) (hw : ∀ d ∈ tables_1, d.before a0 Z = true) (ws : List Jvm.Cond) (x0 : Int32) (x1 : Int32) (x2 : Int32) (ca : Addr) (cl : Cell) (bo : Addr) (h0 : Heap) (n0 : Nat) (Z0 : n0 ≤ h0.size) (O0 : Old Z n0 h0) (pre_S_high : Sta Z Z.heap "java/lang/Integer$IntegerCache" "high" "I" (.int 127)) (pre_S_cache : Sta Z Z.heap "java/lang/Integer$IntegerCache" "cache" "[Ljava/lang/Integer;" (.ref ca)) (BX : Bxs Z ca cl "java/lang/Integer" "I" (256 : Int32) (fun j => .int (j - (128 : Int32)))) (pre_S_BOOL : Sta Z Z.heap "com/example/termweave/termweave/term/BoolSort" "BOOL" "Lcom/example/termweave/termweave/term/BoolSort;" (.ref bo)) (pre_E_bo : Exa Z Z.heap bo "com/example/termweave/termweave/term/BoolSort") :
    MetFree l x (head1 (Jvm.Cond.code x code maxLocals ret :: ws) room_1) (fun a U => a = #[(.int x0), (.int x1), (.int x2)] ∧ Z.Warmed39 U.vm ∧ U.heap = h0) (fun _ _ _ _ _ => True) (fun _ U o U' => ∃ v L, o = .returned v ∧ Q0 Z x0 x1 x2 ca cl bo h0 n0 v U'.heap L ∧ ReturnedEndW U o U' L room_1.cells room_1.slots) := by
  refine MetFree.of_bodySF (plainFor_of_name pn_0) hisR ?_
  intro p e s m args below meth c s₁ Bd hml0 hP hK
  obtain ⟨rfl, hZ, hh⟩ := hP
  have hx := Bd.exec
  have hby := Bd.bytes
  have hml : c.maxLocals = 9 := hml0
  have hown : s.vm.findClass "com/example/termweave/termweave/term/BitVecSortEqualsPinLaw" = some m.cls := findClass_of_methodNamed Bd.named
  have hnm := (name_of_methodNamed Bd.named Bd.method).1
  have X0 : Stand p l e room_1 (s.setVm s.vm) m #[(.int x0), (.int x1), (.int x2)] below meth c s₁ [] 0 0 := Stand.of_body Bd
  have e0 : s₁.heap = h0 := by rw [← hh, Bd.state]; rfl
  have N0 := Fr.nil n0
  have Kp0 := Keep.refl h0 []
  have hS0 : s.Since s.vm 0 := (State.WarmedH.refl s).since 0
  have hk0 : 0 ≤ h0.size := Nat.zero_le _
  replace hZ : Z.Warmed39 (s.setVm s.vm).vm := hZ
  replace hown : (s.setVm s.vm).vm.findClass "com/example/termweave/termweave/term/BitVecSortEqualsPinLaw" = some m.cls := hown
  have P0 : ∀ t, Steps p.tables e below (s₁.setTop (mkF m 0 #[iv x0, iv x1, iv x2, .unset, .unset, .unset, .unset, .unset, .unset] [])) t → Steps p.tables e below (s₁.setTop (entryFrame m #[(.int x0), (.int x1), (.int x2)] maxLocals)) t := fun t k => castTop (ef_0 m x0 x1 x2) k
  have P3 := own_go P0 (S' := s₁.setTop (mkF m 11 #[iv x0, iv x1, iv x2, iv ((x0 &&& (65535 : Int32)) + (1 : Int32)), .unset, .unset, .unset, .unset, .unset] [(.int (x2 &&& (8 : Int32)))])) (by
    intro t k
    refine XS.iloadN X0.here hx rfl (hb hby at_0) rfl ?_
    refine X0.ldcInt hx hown (mvT hZ (hw _ (im 0 rfl))) (g := (mkF m 1 #[iv x0, iv x1, iv x2, .unset, .unset, .unset, .unset, .unset, .unset] [(.int x0)])) rfl (hb hby at_1) _ ?_
    refine XS.iand X0.here hx rfl (hb hby at_3) rfl ?_
    refine XS.iconst X0.here hx rfl (hb hby at_4) ?_
    refine XS.iadd X0.here hx rfl (hb hby at_5) rfl ?_
    refine XS.istoreN X0.here hx rfl (hb hby at_6) rfl (l' := #[iv x0, iv x1, iv x2, iv ((x0 &&& (65535 : Int32)) + (1 : Int32)), .unset, .unset, .unset, .unset, .unset]) rfl ?_
    refine XS.iloadN X0.here hx rfl (hb hby at_7) rfl ?_
    refine XS.bipush X0.here hx rfl (hb hby at_8) ?_
    show Steps p.tables e below (s₁.setTop (mkF m 10 #[iv x0, iv x1, iv x2, iv ((x0 &&& (65535 : Int32)) + (1 : Int32)), .unset, .unset, .unset, .unset, .unset] [(.int 8), (.int x2)])) _
    refine XS.iand X0.here hx rfl (hb hby at_10) rfl ?_
    exact k)
  obtain ⟨v2_0, hv2_0⟩ : ∃ z : Int32, z = (if (x2 &&& (8 : Int32)) = (0 : Int32) then ((x1 &&& (65535 : Int32)) + (1 : Int32)) else ((x0 &&& (65535 : Int32)) + (1 : Int32))) := ⟨_, rfl⟩
  have P5 := own_go P3 (S' := s₁.setTop (mkF m 24 #[iv x0, iv x1, iv x2, iv ((x0 &&& (65535 : Int32)) + (1 : Int32)), .unset, .unset, .unset, .unset, .unset] [(.int v2_0)])) (by
    intro t k
    by_cases hc11_4 : (x2 &&& (8 : Int32)) = (0 : Int32)
    · refine XS.ifYes X0.here hx rfl (pc0 := 11) (pc' := 18) rfl (hb hby at_11) rfl ((if0 _ _).trans (teq hc11_4).1) (by decide) (by decide) ?_
      refine XS.iloadN X0.here hx rfl (hb hby at_18) rfl ?_
      refine X0.ldcInt hx hown (mvT hZ (hw _ (im 0 rfl))) (g := (mkF m 19 #[iv x0, iv x1, iv x2, iv ((x0 &&& (65535 : Int32)) + (1 : Int32)), .unset, .unset, .unset, .unset, .unset] [(.int x1)])) rfl (hb hby at_19) _ ?_
      refine XS.iand X0.here hx rfl (hb hby at_21) rfl ?_
      refine XS.iconst X0.here hx rfl (hb hby at_22) ?_
      refine XS.iadd X0.here hx rfl (hb hby at_23) rfl ?_
      have q_v2_0 : v2_0 = ((x1 &&& (65535 : Int32)) + (1 : Int32)) := by rw [hv2_0, if_pos hc11_4]
      subst q_v2_0
      exact k
    · refine XS.ifNo X0.here hx rfl (hb hby at_11) rfl ((if0 _ _).trans (feq hc11_4).1) ?_
      refine XS.iloadN X0.here hx rfl (hb hby at_14) rfl ?_
      refine XS.goto X0.here hx rfl (pc0 := 15) (pc' := 24) rfl (hb hby at_15) (by decide) (by decide) ?_
      have q_v2_0 : v2_0 = ((x0 &&& (65535 : Int32)) + (1 : Int32)) := by rw [hv2_0, if_neg hc11_4]
      subst q_v2_0
      exact k)
  obtain ⟨T6, h6, X6, e6, E6, A6, D6, -, st6⟩ := newO X0 hx hZ hown (hw _ (im 1 rfl)) (hw _ (im 2 rfl)) (hw _ (im 3 rfl)) e0 (g := (mkF m 26 #[iv x0, iv x1, iv x2, iv ((x0 &&& (65535 : Int32)) + (1 : Int32)), iv v2_0, .unset, .unset, .unset, .unset] [])) rfl (hb hby at_26) (by decide) (by decide)
  obtain ⟨b6, g6⟩ : ∃ z, z = h0.size := ⟨_, rfl⟩
  rw [← g6] at A6 D6 st6
  have ge_b6 : n0 ≤ b6 := Nat.le_trans Z0 (Nat.le_of_eq g6.symm)
  have Z6_ : n0 ≤ h6.size := Nat.le_trans Z0 E6.1
  have hk6_ := Nat.le_trans hk0 E6.1
  have O6_ := O0.ext E6
  have F6_width : Fld Z h6 b6 "com/example/termweave/termweave/term/BitVecSort" "width" "I" (.int 0) := D6 (Or.inr (hw _ (im 17 rfl))) (ty := .int) (by decide)
  obtain ⟨_, _, ⟨T7, L7, k7, n7⟩, -, X7, ⟨Lc7, hQ7, l7, y7, z7⟩, st7⟩ := X6.specialBack hx (y := (⟨"com/example/termweave/termweave/term/BitVecSort", "<init>", "(I)V"⟩ : MethodName)) rfl hown (mvT hZ (hw _ (im 4 rfl))) (mvT hZ (hw _ (im 5 rfl))) (mvT hZ (hw _ (im 6 rfl))) (by decide) (backOf (W := 1) (rm1 l Z a0 hw [] b6 ((x0 &&& (65535 : Int32)) + (1 : Int32)) h6 n0 Z6_ A6 F6_width ge_b6 ((own_w x0).1) ((own_w x0).2)) hZ (hw _ (im 6 rfl)) (hw _ (im 3 rfl)) (by decide) (by decide)) (g := (mkF m 31 #[iv x0, iv x1, iv x2, iv ((x0 &&& (65535 : Int32)) + (1 : Int32)), iv v2_0, .unset, .unset, .unset, .unset] [(.int ((x0 &&& (65535 : Int32)) + (1 : Int32))), (.ref b6), (.ref b6)])) rfl (by rw [hml]; rfl) (Steps.refl _) (a := b6) (argsL := [(.int ((x0 &&& (65535 : Int32)) + (1 : Int32)))]) (rest := [(.ref b6)]) (lenOf pd_2 rfl) rfl (by show 2 * 0 + _ ≤ _; exact Nat.le_of_eq rfl) (hb hby at_31) (fun _ _ => ⟨rfl, e6, (by decide : 1 + 0 ≤ _), (by decide : 1 + 0 ≤ _)⟩)
  dsimp only [Pt.U, Pt.locs, Pt.cells, Pt.slots] at X7 l7 y7 z7 st7 hQ7
  subst l7 y7 z7
  obtain ⟨rfl, N7q, K7, r7_0, r7_1⟩ := hQ7
  have N7 := Fr.app N0 N7q
  have Z7_ : n0 ≤ T7.heap.size := Nat.le_trans Z6_ K7.1
  have hk7_ := Nat.le_trans hk6_ K7.1
  have O7_ := O6_.keep K7 (allS ge_b6 all0)
  have P9 := own_go P5 (S' := T7.setTop (mkF m 45 #[iv x0, iv x1, iv x2, iv ((x0 &&& (65535 : Int32)) + (1 : Int32)), iv v2_0, rv b6, iv (x2 &&& (7 : Int32)), .unset, .unset] [(.int 4), (.int (x2 &&& (7 : Int32)))])) (by
    intro t k
    refine XS.istore X0.here hx rfl (hb hby at_24) rfl (l' := #[iv x0, iv x1, iv x2, iv ((x0 &&& (65535 : Int32)) + (1 : Int32)), iv v2_0, .unset, .unset, .unset, .unset]) rfl ?_
    refine st6 _ ?_
    refine XS.dup X6.here hx rfl (hb hby at_29) rfl rfl ?_
    refine XS.iloadN X6.here hx rfl (hb hby at_30) rfl ?_
    refine st7.trans ?_
    refine XS.astore X7.here hx rfl (hb hby at_34) rfl rfl (l' := #[iv x0, iv x1, iv x2, iv ((x0 &&& (65535 : Int32)) + (1 : Int32)), iv v2_0, rv b6, .unset, .unset, .unset]) rfl ?_
    refine XS.iloadN X7.here hx rfl (hb hby at_36) rfl ?_
    refine XS.bipush X7.here hx rfl (hb hby at_37) ?_
    show Steps p.tables e below (T7.setTop (mkF m 39 #[iv x0, iv x1, iv x2, iv ((x0 &&& (65535 : Int32)) + (1 : Int32)), iv v2_0, rv b6, .unset, .unset, .unset] [(.int 7), (.int x2)])) _
    refine XS.iand X7.here hx rfl (hb hby at_39) rfl ?_
    refine XS.istore X7.here hx rfl (hb hby at_40) rfl (l' := #[iv x0, iv x1, iv x2, iv ((x0 &&& (65535 : Int32)) + (1 : Int32)), iv v2_0, rv b6, iv (x2 &&& (7 : Int32)), .unset, .unset]) rfl ?_
    refine XS.iload X7.here hx rfl (hb hby at_42) rfl ?_
    refine XS.iconst X7.here hx rfl (hb hby at_44) ?_
    exact k)
  by_cases hc45_8 : (x2 &&& (7 : Int32)) < (4 : Int32)
  · obtain ⟨T10, h10, X10, e10, E10, A10, D10, -, st10⟩ := newO X7 hx hZ hown (hw _ (im 1 rfl)) (hw _ (im 2 rfl)) (hw _ (im 3 rfl)) rfl (g := (mkF m 48 #[iv x0, iv x1, iv x2, iv ((x0 &&& (65535 : Int32)) + (1 : Int32)), iv v2_0, rv b6, iv (x2 &&& (7 : Int32)), .unset, .unset] [])) rfl (hb hby at_48) (by decide) (by decide)
    obtain ⟨b10, g10⟩ : ∃ z, z = T7.heap.size := ⟨_, rfl⟩
    rw [← g10] at A10 D10 st10
    have ge_b10 : n0 ≤ b10 := Nat.le_trans Z7_ (Nat.le_of_eq g10.symm)
    have Z10_ : n0 ≤ h10.size := Nat.le_trans Z7_ E10.1
    have hk10_ := Nat.le_trans hk7_ E10.1
    have O10_ := O7_.ext E10
    have F10_width : Fld Z h10 b10 "com/example/termweave/termweave/term/BitVecSort" "width" "I" (.int 0) := D10 (Or.inr (hw _ (im 17 rfl))) (ty := .int) (by decide)
    obtain ⟨_, _, ⟨T11, L11, k11, n11⟩, -, X11, ⟨Lc11, hQ11, l11, y11, z11⟩, st11⟩ := X10.specialBack hx (y := (⟨"com/example/termweave/termweave/term/BitVecSort", "<init>", "(I)V"⟩ : MethodName)) rfl hown (mvT hZ (hw _ (im 4 rfl))) (mvT hZ (hw _ (im 5 rfl))) (mvT hZ (hw _ (im 6 rfl))) (by decide) (backOf (W := 1) (rm1 l Z a0 hw [] b10 v2_0 h10 n0 Z10_ A10 F10_width ge_b10 ((own_w2 hv2_0).1) ((own_w2 hv2_0).2)) hZ (hw _ (im 6 rfl)) (hw _ (im 3 rfl)) (by decide) (by decide)) (g := (mkF m 54 #[iv x0, iv x1, iv x2, iv ((x0 &&& (65535 : Int32)) + (1 : Int32)), iv v2_0, rv b6, iv (x2 &&& (7 : Int32)), .unset, .unset] [(.int v2_0), (.ref b10), (.ref b10)])) rfl (by rw [hml]; rfl) (Steps.refl _) (a := b10) (argsL := [(.int v2_0)]) (rest := [(.ref b10)]) (lenOf pd_2 rfl) rfl (by show 2 * 0 + _ ≤ _; exact Nat.le_of_eq rfl) (hb hby at_54) (fun _ _ => ⟨rfl, e10, (by decide : 2 + 0 ≤ _), (by decide : 2 + 0 ≤ _)⟩)
    dsimp only [Pt.U, Pt.locs, Pt.cells, Pt.slots] at X11 l11 y11 z11 st11 hQ11
    subst l11 y11 z11
    obtain ⟨rfl, N11q, K11, r11_0, r11_1⟩ := hQ11
    have N11 := Fr.app N7 N11q
    have Z11_ : n0 ≤ T11.heap.size := Nat.le_trans Z10_ K11.1
    have hk11_ := Nat.le_trans hk10_ K11.1
    have O11_ := O10_.keep K11 (allS ge_b10 all0)
    have P14 := own_go P9 (S' := T11.setTop (mkF m 62 #[iv x0, iv x1, iv x2, iv ((x0 &&& (65535 : Int32)) + (1 : Int32)), iv v2_0, rv b6, iv (x2 &&& (7 : Int32)), rv b10, .unset] [(.int v2_0), (.int ((x0 &&& (65535 : Int32)) + (1 : Int32)))])) (by
      intro t k
      refine XS.icmpNo X7.here hx rfl (hb hby at_45) rfl (tlt hc45_8).2.1 ?_
      refine st10 _ ?_
      refine XS.dup X10.here hx rfl (hb hby at_51) rfl rfl ?_
      refine XS.iload X10.here hx rfl (hb hby at_52) rfl ?_
      refine st11.trans ?_
      refine XS.astore X11.here hx rfl (hb hby at_57) rfl rfl (l' := #[iv x0, iv x1, iv x2, iv ((x0 &&& (65535 : Int32)) + (1 : Int32)), iv v2_0, rv b6, iv (x2 &&& (7 : Int32)), rv b10, .unset]) rfl ?_
      refine XS.iloadN X11.here hx rfl (hb hby at_59) rfl ?_
      refine XS.iload X11.here hx rfl (hb hby at_60) rfl ?_
      show Steps p.tables e below (T11.setTop (mkF m 62 #[iv x0, iv x1, iv x2, iv ((x0 &&& (65535 : Int32)) + (1 : Int32)), iv v2_0, rv b6, iv (x2 &&& (7 : Int32)), rv b10, .unset] [(.int v2_0), (.int ((x0 &&& (65535 : Int32)) + (1 : Int32)))])) _
      exact k)
    obtain ⟨v13_0, hv13_0⟩ : ∃ z : Int32, z = (if ((x0 &&& (65535 : Int32)) + (1 : Int32)) = v2_0 then (1 : Int32) else (0 : Int32)) := ⟨_, rfl⟩
    have P16 := own_go P14 (S' := T11.setTop (mkF m 70 #[iv x0, iv x1, iv x2, iv ((x0 &&& (65535 : Int32)) + (1 : Int32)), iv v2_0, rv b6, iv (x2 &&& (7 : Int32)), rv b10, .unset] [(.int v13_0)])) (by
      intro t k
      by_cases hc62_15 : ((x0 &&& (65535 : Int32)) + (1 : Int32)) = v2_0
      · refine XS.icmpNo X11.here hx rfl (hb hby at_62) rfl (teq hc62_15).2 ?_
        refine XS.iconst X11.here hx rfl (hb hby at_65) ?_
        refine XS.goto X11.here hx rfl (pc0 := 66) (pc' := 70) rfl (hb hby at_66) (by decide) (by decide) ?_
        have q_v13_0 : v13_0 = (1 : Int32) := by rw [hv13_0, if_pos hc62_15]
        subst q_v13_0
        exact k
      · refine XS.icmpYes X11.here hx rfl (pc0 := 62) (pc' := 69) rfl (hb hby at_62) rfl (feq hc62_15).2 (by decide) (by decide) ?_
        refine XS.iconst X11.here hx rfl (hb hby at_69) ?_
        have q_v13_0 : v13_0 = (0 : Int32) := by rw [hv13_0, if_neg hc62_15]
        subst q_v13_0
        exact k)
    have q18 := (Nat.lt_of_lt_of_le A6.lt K7.1)
    have ne17 : b6 ≠ b10 := Nat.ne_of_lt (Nat.lt_of_lt_of_le q18 (Nat.le_of_eq g10.symm))
    have ni19 := (ninS ne17 nin0)
    have q20 := ((r7_1.ext E10).keep K11 ni19)
    have q22 := ((r7_0.ext E10).keep K11)
    obtain ⟨cq21, kq21, q21a, q21b, q21c⟩ := isOf hZ rfl q22
    obtain ⟨_, _, ⟨T21, L21, k21, n21⟩, -, X21, ⟨Lc21, hQ21, l21, y21, z21⟩, st21⟩ := X11.virtualBack hx (y := (⟨"com/example/termweave/termweave/term/BitVecSort", "equals", "(Ljava/lang/Object;)Z"⟩ : MethodName)) (z := (⟨"com/example/termweave/termweave/term/BitVecSort", "equals", "(Ljava/lang/Object;)Z"⟩ : MethodName)) hown (mvT hZ (hw _ (im 18 rfl))) (mvT hZ (hw _ (im 19 rfl))) (notFace_of_selects (args := #[]) (mvT hZ (hw _ (im 21 rfl)))) (mvT hZ (hw _ (im 21 rfl))) (mvT hZ (hw _ (im 20 rfl))) (by decide) (backOf (W := 0) (rm4 l Z a0 hw [] b6 b10 ((x0 &&& (65535 : Int32)) + (1 : Int32)) v2_0 T11.heap n0 Z11_ r11_0 q20 r11_1) hZ (hw _ (im 22 rfl)) (hw _ (im 3 rfl)) (by decide) (by decide)) q21a q21c (g := (mkF m 146 #[iv x0, iv x1, iv x2, iv ((x0 &&& (65535 : Int32)) + (1 : Int32)), iv v2_0, rv b6, iv (x2 &&& (7 : Int32)), rv b10, iv v13_0] [(.ref b10), (.ref b6)])) rfl (by rw [hml]; rfl) (Steps.refl _) (argsL := [(.ref b10)]) (rest := []) (lenOf pd_3 rfl) rfl (by show 2 * 0 + _ ≤ _; exact Nat.le_of_eq rfl) (hb hby at_146) (fun _ _ => ⟨rfl, rfl, (by decide : 2 + 0 ≤ _), (by decide : 2 + 0 ≤ _)⟩)
    dsimp only [Pt.U, Pt.locs, Pt.cells, Pt.slots] at X21 l21 y21 z21 st21 hQ21
    subst l21 y21 z21
    obtain ⟨rfl, N21q, e21⟩ := hQ21
    have N21 := Fr.app N11 N21q
    have hc151_23 : (if v2_0 = ((x0 &&& (65535 : Int32)) + (1 : Int32)) then (1 : Int32) else (0 : Int32)) = v13_0 := own_ite hv13_0
    obtain ⟨cq24, kq24, q24a, q24b, q24c⟩ := isOf hZ e21 q22
    obtain ⟨_, _, ⟨T24, L24, k24, n24⟩, -, X24, ⟨Lc24, hQ24, l24, y24, z24⟩, st24⟩ := X21.virtualBack hx (y := (⟨"com/example/termweave/termweave/term/BitVecSort", "equals", "(Ljava/lang/Object;)Z"⟩ : MethodName)) (z := (⟨"com/example/termweave/termweave/term/BitVecSort", "equals", "(Ljava/lang/Object;)Z"⟩ : MethodName)) hown (mvT hZ (hw _ (im 18 rfl))) (mvT hZ (hw _ (im 19 rfl))) (notFace_of_selects (args := #[]) (mvT hZ (hw _ (im 21 rfl)))) (mvT hZ (hw _ (im 21 rfl))) (mvT hZ (hw _ (im 20 rfl))) (by decide) (backOf (W := 0) (rm4 l Z a0 hw [] b6 b6 ((x0 &&& (65535 : Int32)) + (1 : Int32)) ((x0 &&& (65535 : Int32)) + (1 : Int32)) T11.heap n0 Z11_ q22 q20 q20) hZ (hw _ (im 22 rfl)) (hw _ (im 3 rfl)) (by decide) (by decide)) q24a q24c (g := (mkF m 158 #[iv x0, iv x1, iv x2, iv ((x0 &&& (65535 : Int32)) + (1 : Int32)), iv v2_0, rv b6, iv (x2 &&& (7 : Int32)), rv b10, iv v13_0] [(.ref b6), (.ref b6)])) rfl (by rw [hml]; rfl) (Steps.refl _) (argsL := [(.ref b6)]) (rest := []) (lenOf pd_3 rfl) rfl (by show 2 * 0 + _ ≤ _; exact Nat.le_of_eq rfl) (hb hby at_158) (fun _ _ => ⟨rfl, e21, (by decide : 2 + 0 ≤ _), (by decide : 2 + 0 ≤ _)⟩)
    dsimp only [Pt.U, Pt.locs, Pt.cells, Pt.slots] at X24 l24 y24 z24 st24 hQ24
    subst l24 y24 z24
    obtain ⟨rfl, N24q, e24⟩ := hQ24
    have N24 := Fr.app N21 N24q
    have hc161_25 : ((x0 &&& (65535 : Int32)) + (1 : Int32)) = ((x0 &&& (65535 : Int32)) + (1 : Int32)) := rfl
    have P26 := own_go P16 (S' := T24.setTop (mkF m 169 #[iv x0, iv x1, iv x2, iv ((x0 &&& (65535 : Int32)) + (1 : Int32)), iv v2_0, rv b6, iv (x2 &&& (7 : Int32)), rv b10, iv v13_0] [(.int 1)])) (by
      intro t k
      refine XS.istore X11.here hx rfl (hb hby at_70) rfl (l' := #[iv x0, iv x1, iv x2, iv ((x0 &&& (65535 : Int32)) + (1 : Int32)), iv v2_0, rv b6, iv (x2 &&& (7 : Int32)), rv b10, iv v13_0]) rfl ?_
      refine XS.goto X11.here hx rfl (pc0 := 72) (pc' := 142) rfl (hb hby at_72) (by decide) (by decide) ?_
      refine XS.aload X11.here hx rfl (hb hby at_142) rfl rfl ?_
      refine XS.aload X11.here hx rfl (hb hby at_144) rfl rfl ?_
      refine st21.trans ?_
      refine XS.iload X21.here hx rfl (hb hby at_149) rfl ?_
      refine XS.icmpNo X21.here hx rfl (hb hby at_151) rfl (teq hc151_23).2 ?_
      refine XS.aload X21.here hx rfl (hb hby at_154) rfl rfl ?_
      show Steps p.tables e below (T21.setTop (mkF m 156 #[iv x0, iv x1, iv x2, iv ((x0 &&& (65535 : Int32)) + (1 : Int32)), iv v2_0, rv b6, iv (x2 &&& (7 : Int32)), rv b10, iv v13_0] [(.ref b6)])) _
      refine XS.aload X21.here hx rfl (hb hby at_156) rfl rfl ?_
      refine st24.trans ?_
      refine XS.ifNo X24.here hx rfl (hb hby at_161) rfl ((if0 _ _).trans (feq (by rw [if_pos hc161_25]; decide)).1) ?_
      refine XS.iconst X24.here hx rfl (hb hby at_164) ?_
      refine XS.goto X24.here hx rfl (pc0 := 165) (pc' := 169) rfl (hb hby at_165) (by decide) (by decide) ?_
      exact k)
    obtain ⟨fs, hr, hrun, hended, hend⟩ := X24.leaveW hS0 (by rw [e24]; exact hk11_) (v := some (.int 1)) (fun h => by rw [Bd.returns] at h; cases h)
    refine ⟨_, _, P26 _ ?_, hrun, hended, _, _, rfl, ?_, hend.1, hend.2.1, hend.2.2.1, hend.2.2.2.mono (by decide) (by decide)⟩
    · show Steps p.tables e below (T24.setTop (mkF m 169 #[iv x0, iv x1, iv x2, iv ((x0 &&& (65535 : Int32)) + (1 : Int32)), iv v2_0, rv b6, iv (x2 &&& (7 : Int32)), rv b10, iv v13_0] [(.int 1)])) _
      exact retN X24 hx (t := .boolean) Bd.returns (by simp) (hb hby at_169) hr
    · show Q0 Z x0 x1 x2 ca cl bo h0 n0 _ T24.heap _
      rw [e24]
      exact ⟨rfl, N24⟩
  · have P28 := own_go P9 (S' := T7.setTop (mkF m 78 #[iv x0, iv x1, iv x2, iv ((x0 &&& (65535 : Int32)) + (1 : Int32)), iv v2_0, rv b6, iv (x2 &&& (7 : Int32)), .unset, .unset] [(.int 4), (.int (x2 &&& (7 : Int32)))])) (by
      intro t k
      refine XS.icmpYes X7.here hx rfl (pc0 := 45) (pc' := 75) rfl (hb hby at_45) rfl (flt hc45_8).2.1 (by decide) (by decide) ?_
      refine XS.iload X7.here hx rfl (hb hby at_75) rfl ?_
      refine XS.iconst X7.here hx rfl (hb hby at_77) ?_
      exact k)
    by_cases hc78_27 : (x2 &&& (7 : Int32)) = (4 : Int32)
    · obtain ⟨cq29, kq29, q29a, q29b, q29c⟩ := isOf hZ rfl r7_0
      obtain ⟨_, _, ⟨T29, L29, k29, n29⟩, -, X29, ⟨Lc29, hQ29, l29, y29, z29⟩, st29⟩ := X7.virtualBack hx (y := (⟨"com/example/termweave/termweave/term/BitVecSort", "equals", "(Ljava/lang/Object;)Z"⟩ : MethodName)) (z := (⟨"com/example/termweave/termweave/term/BitVecSort", "equals", "(Ljava/lang/Object;)Z"⟩ : MethodName)) hown (mvT hZ (hw _ (im 18 rfl))) (mvT hZ (hw _ (im 19 rfl))) (notFace_of_selects (args := #[]) (mvT hZ (hw _ (im 21 rfl)))) (mvT hZ (hw _ (im 21 rfl))) (mvT hZ (hw _ (im 20 rfl))) (by decide) (backOf (W := 0) (rm4n l Z a0 hw [] b6 T7.heap n0 Z7_ ) hZ (hw _ (im 22 rfl)) (hw _ (im 3 rfl)) (by decide) (by decide)) q29a q29c (g := (mkF m 146 #[iv x0, iv x1, iv x2, iv ((x0 &&& (65535 : Int32)) + (1 : Int32)), iv v2_0, rv b6, iv (x2 &&& (7 : Int32)), .val .null, iv 0] [.null, (.ref b6)])) rfl (by rw [hml]; rfl) (Steps.refl _) (argsL := [.null]) (rest := []) (lenOf pd_3 rfl) rfl (by show 2 * 0 + _ ≤ _; exact Nat.le_of_eq rfl) (hb hby at_146) (fun _ _ => ⟨rfl, rfl, (by decide : 1 + 0 ≤ _), (by decide : 1 + 0 ≤ _)⟩)
      dsimp only [Pt.U, Pt.locs, Pt.cells, Pt.slots] at X29 l29 y29 z29 st29 hQ29
      subst l29 y29 z29
      obtain ⟨rfl, N29q, e29⟩ := hQ29
      have N29 := Fr.app N7 N29q
      obtain ⟨cq31, kq31, q31a, q31b, q31c⟩ := isOf hZ e29 r7_0
      obtain ⟨_, _, ⟨T31, L31, k31, n31⟩, -, X31, ⟨Lc31, hQ31, l31, y31, z31⟩, st31⟩ := X29.virtualBack hx (y := (⟨"com/example/termweave/termweave/term/BitVecSort", "equals", "(Ljava/lang/Object;)Z"⟩ : MethodName)) (z := (⟨"com/example/termweave/termweave/term/BitVecSort", "equals", "(Ljava/lang/Object;)Z"⟩ : MethodName)) hown (mvT hZ (hw _ (im 18 rfl))) (mvT hZ (hw _ (im 19 rfl))) (notFace_of_selects (args := #[]) (mvT hZ (hw _ (im 21 rfl)))) (mvT hZ (hw _ (im 21 rfl))) (mvT hZ (hw _ (im 20 rfl))) (by decide) (backOf (W := 0) (rm4 l Z a0 hw [] b6 b6 ((x0 &&& (65535 : Int32)) + (1 : Int32)) ((x0 &&& (65535 : Int32)) + (1 : Int32)) T7.heap n0 Z7_ r7_0 r7_1 r7_1) hZ (hw _ (im 22 rfl)) (hw _ (im 3 rfl)) (by decide) (by decide)) q31a q31c (g := (mkF m 158 #[iv x0, iv x1, iv x2, iv ((x0 &&& (65535 : Int32)) + (1 : Int32)), iv v2_0, rv b6, iv (x2 &&& (7 : Int32)), .val .null, iv 0] [(.ref b6), (.ref b6)])) rfl (by rw [hml]; rfl) (Steps.refl _) (argsL := [(.ref b6)]) (rest := []) (lenOf pd_3 rfl) rfl (by show 2 * 0 + _ ≤ _; exact Nat.le_of_eq rfl) (hb hby at_158) (fun _ _ => ⟨rfl, e29, (by decide : 1 + 0 ≤ _), (by decide : 1 + 0 ≤ _)⟩)
      dsimp only [Pt.U, Pt.locs, Pt.cells, Pt.slots] at X31 l31 y31 z31 st31 hQ31
      subst l31 y31 z31
      obtain ⟨rfl, N31q, e31⟩ := hQ31
      have N31 := Fr.app N29 N31q
      have hc161_32 : ((x0 &&& (65535 : Int32)) + (1 : Int32)) = ((x0 &&& (65535 : Int32)) + (1 : Int32)) := rfl
      have P33 := own_go P28 (S' := T31.setTop (mkF m 169 #[iv x0, iv x1, iv x2, iv ((x0 &&& (65535 : Int32)) + (1 : Int32)), iv v2_0, rv b6, iv (x2 &&& (7 : Int32)), .val .null, iv 0] [(.int 1)])) (by
        intro t k
        refine XS.icmpNo X7.here hx rfl (hb hby at_78) rfl (teq hc78_27).2 ?_
        refine XS.aconstNull X7.here hx rfl (hb hby at_81) ?_
        refine XS.astore X7.here hx rfl (hb hby at_82) rfl rfl (l' := #[iv x0, iv x1, iv x2, iv ((x0 &&& (65535 : Int32)) + (1 : Int32)), iv v2_0, rv b6, iv (x2 &&& (7 : Int32)), .val .null, .unset]) rfl ?_
        refine XS.iconst X7.here hx rfl (hb hby at_84) ?_
        refine XS.istore X7.here hx rfl (hb hby at_85) rfl (l' := #[iv x0, iv x1, iv x2, iv ((x0 &&& (65535 : Int32)) + (1 : Int32)), iv v2_0, rv b6, iv (x2 &&& (7 : Int32)), .val .null, iv 0]) rfl ?_
        refine XS.goto X7.here hx rfl (pc0 := 87) (pc' := 142) rfl (hb hby at_87) (by decide) (by decide) ?_
        refine XS.aload X7.here hx rfl (hb hby at_142) rfl rfl ?_
        refine XS.aload X7.here hx rfl (hb hby at_144) rfl rfl ?_
        show Steps p.tables e below (T7.setTop (mkF m 146 #[iv x0, iv x1, iv x2, iv ((x0 &&& (65535 : Int32)) + (1 : Int32)), iv v2_0, rv b6, iv (x2 &&& (7 : Int32)), .val .null, iv 0] [.null, (.ref b6)])) _
        refine st29.trans ?_
        refine XS.iload X29.here hx rfl (hb hby at_149) rfl ?_
        refine XS.icmpNo X29.here hx rfl (hb hby at_151) rfl (teq (by decide)).2 ?_
        refine XS.aload X29.here hx rfl (hb hby at_154) rfl rfl ?_
        refine XS.aload X29.here hx rfl (hb hby at_156) rfl rfl ?_
        refine st31.trans ?_
        refine XS.ifNo X31.here hx rfl (hb hby at_161) rfl ((if0 _ _).trans (feq (by rw [if_pos hc161_32]; decide)).1) ?_
        refine XS.iconst X31.here hx rfl (hb hby at_164) ?_
        show Steps p.tables e below (T31.setTop (mkF m 165 #[iv x0, iv x1, iv x2, iv ((x0 &&& (65535 : Int32)) + (1 : Int32)), iv v2_0, rv b6, iv (x2 &&& (7 : Int32)), .val .null, iv 0] [(.int 1)])) _
        refine XS.goto X31.here hx rfl (pc0 := 165) (pc' := 169) rfl (hb hby at_165) (by decide) (by decide) ?_
        exact k)
      obtain ⟨fs, hr, hrun, hended, hend⟩ := X31.leaveW hS0 (by rw [e31]; exact hk7_) (v := some (.int 1)) (fun h => by rw [Bd.returns] at h; cases h)
      refine ⟨_, _, P33 _ ?_, hrun, hended, _, _, rfl, ?_, hend.1, hend.2.1, hend.2.2.1, hend.2.2.2.mono (by decide) (by decide)⟩
      · show Steps p.tables e below (T31.setTop (mkF m 169 #[iv x0, iv x1, iv x2, iv ((x0 &&& (65535 : Int32)) + (1 : Int32)), iv v2_0, rv b6, iv (x2 &&& (7 : Int32)), .val .null, iv 0] [(.int 1)])) _
        exact retN X31 hx (t := .boolean) Bd.returns (by simp) (hb hby at_169) hr
      · show Q0 Z x0 x1 x2 ca cl bo h0 n0 _ T31.heap _
        rw [e31]
        exact ⟨rfl, N31⟩
    · have P35 := own_go P28 (S' := T7.setTop (mkF m 93 #[iv x0, iv x1, iv x2, iv ((x0 &&& (65535 : Int32)) + (1 : Int32)), iv v2_0, rv b6, iv (x2 &&& (7 : Int32)), .unset, .unset] [(.int 5), (.int (x2 &&& (7 : Int32)))])) (by
        intro t k
        refine XS.icmpYes X7.here hx rfl (pc0 := 78) (pc' := 90) rfl (hb hby at_78) rfl (feq hc78_27).2 (by decide) (by decide) ?_
        refine XS.iload X7.here hx rfl (hb hby at_90) rfl ?_
        refine XS.iconst X7.here hx rfl (hb hby at_92) ?_
        exact k)
      by_cases hc93_34 : (x2 &&& (7 : Int32)) = (5 : Int32)
      · obtain ⟨T36, X36, e36, st36⟩ := getS2 X7 hx hZ hown (host := "") (Or.inl (hw _ (im 52 rfl))) Via.refl rfl (pre_S_BOOL.ext O7_.2) (g := (mkF m 96 #[iv x0, iv x1, iv x2, iv ((x0 &&& (65535 : Int32)) + (1 : Int32)), iv v2_0, rv b6, iv (x2 &&& (7 : Int32)), .unset, .unset] [])) rfl (hb hby at_96)
        obtain ⟨cq37, kq37, q37a, q37b, q37c⟩ := isOf hZ e36 r7_0
        obtain ⟨_, _, ⟨T37, L37, k37, n37⟩, -, X37, ⟨Lc37, hQ37, l37, y37, z37⟩, st37⟩ := X36.virtualBack hx (y := (⟨"com/example/termweave/termweave/term/BitVecSort", "equals", "(Ljava/lang/Object;)Z"⟩ : MethodName)) (z := (⟨"com/example/termweave/termweave/term/BitVecSort", "equals", "(Ljava/lang/Object;)Z"⟩ : MethodName)) hown (mvT hZ (hw _ (im 18 rfl))) (mvT hZ (hw _ (im 19 rfl))) (notFace_of_selects (args := #[]) (mvT hZ (hw _ (im 21 rfl)))) (mvT hZ (hw _ (im 21 rfl))) (mvT hZ (hw _ (im 20 rfl))) (by decide) (backOf (W := 0) (rm4b l Z a0 hw [] b6 bo T7.heap n0 Z7_ (pre_E_bo.ext O7_.2)) hZ (hw _ (im 22 rfl)) (hw _ (im 3 rfl)) (by decide) (by decide)) q37a q37c (g := (mkF m 146 #[iv x0, iv x1, iv x2, iv ((x0 &&& (65535 : Int32)) + (1 : Int32)), iv v2_0, rv b6, iv (x2 &&& (7 : Int32)), rv bo, iv 0] [(.ref bo), (.ref b6)])) rfl (by rw [hml]; rfl) (Steps.refl _) (argsL := [(.ref bo)]) (rest := []) (lenOf pd_3 rfl) rfl (by show 2 * 0 + _ ≤ _; exact Nat.le_of_eq rfl) (hb hby at_146) (fun _ _ => ⟨rfl, e36, (by decide : 1 + 0 ≤ _), (by decide : 1 + 0 ≤ _)⟩)
        dsimp only [Pt.U, Pt.locs, Pt.cells, Pt.slots] at X37 l37 y37 z37 st37 hQ37
        subst l37 y37 z37
        obtain ⟨rfl, N37q, e37⟩ := hQ37
        have N37 := Fr.app N7 N37q
        obtain ⟨cq39, kq39, q39a, q39b, q39c⟩ := isOf hZ e37 r7_0
        obtain ⟨_, _, ⟨T39, L39, k39, n39⟩, -, X39, ⟨Lc39, hQ39, l39, y39, z39⟩, st39⟩ := X37.virtualBack hx (y := (⟨"com/example/termweave/termweave/term/BitVecSort", "equals", "(Ljava/lang/Object;)Z"⟩ : MethodName)) (z := (⟨"com/example/termweave/termweave/term/BitVecSort", "equals", "(Ljava/lang/Object;)Z"⟩ : MethodName)) hown (mvT hZ (hw _ (im 18 rfl))) (mvT hZ (hw _ (im 19 rfl))) (notFace_of_selects (args := #[]) (mvT hZ (hw _ (im 21 rfl)))) (mvT hZ (hw _ (im 21 rfl))) (mvT hZ (hw _ (im 20 rfl))) (by decide) (backOf (W := 0) (rm4 l Z a0 hw [] b6 b6 ((x0 &&& (65535 : Int32)) + (1 : Int32)) ((x0 &&& (65535 : Int32)) + (1 : Int32)) T7.heap n0 Z7_ r7_0 r7_1 r7_1) hZ (hw _ (im 22 rfl)) (hw _ (im 3 rfl)) (by decide) (by decide)) q39a q39c (g := (mkF m 158 #[iv x0, iv x1, iv x2, iv ((x0 &&& (65535 : Int32)) + (1 : Int32)), iv v2_0, rv b6, iv (x2 &&& (7 : Int32)), rv bo, iv 0] [(.ref b6), (.ref b6)])) rfl (by rw [hml]; rfl) (Steps.refl _) (argsL := [(.ref b6)]) (rest := []) (lenOf pd_3 rfl) rfl (by show 2 * 0 + _ ≤ _; exact Nat.le_of_eq rfl) (hb hby at_158) (fun _ _ => ⟨rfl, e37, (by decide : 1 + 0 ≤ _), (by decide : 1 + 0 ≤ _)⟩)
        dsimp only [Pt.U, Pt.locs, Pt.cells, Pt.slots] at X39 l39 y39 z39 st39 hQ39
        subst l39 y39 z39
        obtain ⟨rfl, N39q, e39⟩ := hQ39
        have N39 := Fr.app N37 N39q
        have hc161_40 : ((x0 &&& (65535 : Int32)) + (1 : Int32)) = ((x0 &&& (65535 : Int32)) + (1 : Int32)) := rfl
        have P41 := own_go P35 (S' := T39.setTop (mkF m 169 #[iv x0, iv x1, iv x2, iv ((x0 &&& (65535 : Int32)) + (1 : Int32)), iv v2_0, rv b6, iv (x2 &&& (7 : Int32)), rv bo, iv 0] [(.int 1)])) (by
          intro t k
          refine XS.icmpNo X7.here hx rfl (hb hby at_93) rfl (teq hc93_34).2 ?_
          refine st36 _ ?_
          refine XS.astore X36.here hx rfl (hb hby at_99) rfl rfl (l' := #[iv x0, iv x1, iv x2, iv ((x0 &&& (65535 : Int32)) + (1 : Int32)), iv v2_0, rv b6, iv (x2 &&& (7 : Int32)), rv bo, .unset]) rfl ?_
          refine XS.iconst X36.here hx rfl (hb hby at_101) ?_
          refine XS.istore X36.here hx rfl (hb hby at_102) rfl (l' := #[iv x0, iv x1, iv x2, iv ((x0 &&& (65535 : Int32)) + (1 : Int32)), iv v2_0, rv b6, iv (x2 &&& (7 : Int32)), rv bo, iv 0]) rfl ?_
          refine XS.goto X36.here hx rfl (pc0 := 104) (pc' := 142) rfl (hb hby at_104) (by decide) (by decide) ?_
          refine XS.aload X36.here hx rfl (hb hby at_142) rfl rfl ?_
          refine XS.aload X36.here hx rfl (hb hby at_144) rfl rfl ?_
          show Steps p.tables e below (T36.setTop (mkF m 146 #[iv x0, iv x1, iv x2, iv ((x0 &&& (65535 : Int32)) + (1 : Int32)), iv v2_0, rv b6, iv (x2 &&& (7 : Int32)), rv bo, iv 0] [(.ref bo), (.ref b6)])) _
          refine st37.trans ?_
          refine XS.iload X37.here hx rfl (hb hby at_149) rfl ?_
          refine XS.icmpNo X37.here hx rfl (hb hby at_151) rfl (teq (by decide)).2 ?_
          refine XS.aload X37.here hx rfl (hb hby at_154) rfl rfl ?_
          refine XS.aload X37.here hx rfl (hb hby at_156) rfl rfl ?_
          refine st39.trans ?_
          refine XS.ifNo X39.here hx rfl (hb hby at_161) rfl ((if0 _ _).trans (feq (by rw [if_pos hc161_40]; decide)).1) ?_
          refine XS.iconst X39.here hx rfl (hb hby at_164) ?_
          show Steps p.tables e below (T39.setTop (mkF m 165 #[iv x0, iv x1, iv x2, iv ((x0 &&& (65535 : Int32)) + (1 : Int32)), iv v2_0, rv b6, iv (x2 &&& (7 : Int32)), rv bo, iv 0] [(.int 1)])) _
          refine XS.goto X39.here hx rfl (pc0 := 165) (pc' := 169) rfl (hb hby at_165) (by decide) (by decide) ?_
          exact k)
        obtain ⟨fs, hr, hrun, hended, hend⟩ := X39.leaveW hS0 (by rw [e39]; exact hk7_) (v := some (.int 1)) (fun h => by rw [Bd.returns] at h; cases h)
        refine ⟨_, _, P41 _ ?_, hrun, hended, _, _, rfl, ?_, hend.1, hend.2.1, hend.2.2.1, hend.2.2.2.mono (by decide) (by decide)⟩
        · show Steps p.tables e below (T39.setTop (mkF m 169 #[iv x0, iv x1, iv x2, iv ((x0 &&& (65535 : Int32)) + (1 : Int32)), iv v2_0, rv b6, iv (x2 &&& (7 : Int32)), rv bo, iv 0] [(.int 1)])) _
          exact retN X39 hx (t := .boolean) Bd.returns (by simp) (hb hby at_169) hr
        · show Q0 Z x0 x1 x2 ca cl bo h0 n0 _ T39.heap _
          rw [e39]
          exact ⟨rfl, N39⟩
      · have P43 := own_go P35 (S' := T7.setTop (mkF m 111 #[iv x0, iv x1, iv x2, iv ((x0 &&& (65535 : Int32)) + (1 : Int32)), iv v2_0, rv b6, iv (x2 &&& (7 : Int32)), .unset, .unset] [(.int 6), (.int (x2 &&& (7 : Int32)))])) (by
          intro t k
          refine XS.icmpYes X7.here hx rfl (pc0 := 93) (pc' := 107) rfl (hb hby at_93) rfl (feq hc93_34).2 (by decide) (by decide) ?_
          refine XS.iload X7.here hx rfl (hb hby at_107) rfl ?_
          refine XS.bipush X7.here hx rfl (hb hby at_109) ?_
          exact k)
        by_cases hc111_42 : (x2 &&& (7 : Int32)) = (6 : Int32)
        · obtain ⟨_, _, ⟨T44, L44, k44, n44⟩, -, X44, ⟨Lc44, hQ44, l44, y44, z44⟩, st44⟩ := Jvm.LawKit.callS X7 hx (y := (⟨"java/lang/Integer", "valueOf", "(I)Ljava/lang/Integer;"⟩ : MethodName)) hown (mvT hZ (hw _ (im 57 rfl))) (mvT hZ (hw _ (im 58 rfl))) (mvT hZ (hw _ (im 59 rfl))) (mvT hZ (hw _ (im 60 rfl))) (by decide) (backOf (W := 0) (rm7 l Z a0 hw [] ((x0 &&& (65535 : Int32)) + (1 : Int32)) ca cl T7.heap n0 Z7_ O7_ pre_S_high pre_S_cache (BX)) hZ (hw _ (im 60 rfl)) (hw _ (im 59 rfl)) (by decide) (by decide)) (g := (mkF m 115 #[iv x0, iv x1, iv x2, iv ((x0 &&& (65535 : Int32)) + (1 : Int32)), iv v2_0, rv b6, iv (x2 &&& (7 : Int32)), .unset, .unset] [(.int ((x0 &&& (65535 : Int32)) + (1 : Int32)))])) rfl (by rw [hml]; rfl) (argsL := [(.int ((x0 &&& (65535 : Int32)) + (1 : Int32)))]) (rest := []) (lenOf pd_4 rfl) rfl (by show 2 * 0 + _ ≤ _; exact Nat.le_of_eq rfl) (hb hby at_115) (fun _ _ => ⟨rfl, rfl, (by decide : 1 + 1 ≤ _), (by decide : 1 + 1 ≤ _)⟩)
          dsimp only [Pt.U, Pt.locs, Pt.cells, Pt.slots] at X44 l44 y44 z44 st44 hQ44
          subst l44 y44 z44
          obtain ⟨b_44, rfl, N44q, K44, r44_0⟩ := hQ44
          have N44 := Fr.app N7 N44q
          have Z44_ : n0 ≤ T44.heap.size := Nat.le_trans Z7_ K44.1
          have hk44_ := Nat.le_trans hk7_ K44.1
          have O44_ := O7_.keep K44 all0
          have q46 := (r7_0.keep K44)
          obtain ⟨cq45, kq45, q45a, q45b, q45c⟩ := isOf hZ rfl q46
          obtain ⟨_, _, ⟨T45, L45, k45, n45⟩, -, X45, ⟨Lc45, hQ45, l45, y45, z45⟩, st45⟩ := X44.virtualBack hx (y := (⟨"com/example/termweave/termweave/term/BitVecSort", "equals", "(Ljava/lang/Object;)Z"⟩ : MethodName)) (z := (⟨"com/example/termweave/termweave/term/BitVecSort", "equals", "(Ljava/lang/Object;)Z"⟩ : MethodName)) hown (mvT hZ (hw _ (im 18 rfl))) (mvT hZ (hw _ (im 19 rfl))) (notFace_of_selects (args := #[]) (mvT hZ (hw _ (im 21 rfl)))) (mvT hZ (hw _ (im 21 rfl))) (mvT hZ (hw _ (im 20 rfl))) (by decide) (backOf (W := 0) (rm4i l Z a0 hw [] b6 b_44 T44.heap n0 Z44_ r44_0) hZ (hw _ (im 22 rfl)) (hw _ (im 3 rfl)) (by decide) (by decide)) q45a q45c (g := (mkF m 146 #[iv x0, iv x1, iv x2, iv ((x0 &&& (65535 : Int32)) + (1 : Int32)), iv v2_0, rv b6, iv (x2 &&& (7 : Int32)), rv b_44, iv 0] [(.ref b_44), (.ref b6)])) rfl (by rw [hml]; rfl) (Steps.refl _) (argsL := [(.ref b_44)]) (rest := []) (lenOf pd_3 rfl) rfl (by show 2 * 0 + _ ≤ _; exact Nat.le_of_eq rfl) (hb hby at_146) (fun _ _ => ⟨rfl, rfl, (by decide : 2 + 0 ≤ _), (by decide : 2 + 0 ≤ _)⟩)
          dsimp only [Pt.U, Pt.locs, Pt.cells, Pt.slots] at X45 l45 y45 z45 st45 hQ45
          subst l45 y45 z45
          obtain ⟨rfl, N45q, e45⟩ := hQ45
          have N45 := Fr.app N44 N45q
          have q48 := (r7_1.keep K44 nin0)
          obtain ⟨cq49, kq49, q49a, q49b, q49c⟩ := isOf hZ e45 q46
          obtain ⟨_, _, ⟨T49, L49, k49, n49⟩, -, X49, ⟨Lc49, hQ49, l49, y49, z49⟩, st49⟩ := X45.virtualBack hx (y := (⟨"com/example/termweave/termweave/term/BitVecSort", "equals", "(Ljava/lang/Object;)Z"⟩ : MethodName)) (z := (⟨"com/example/termweave/termweave/term/BitVecSort", "equals", "(Ljava/lang/Object;)Z"⟩ : MethodName)) hown (mvT hZ (hw _ (im 18 rfl))) (mvT hZ (hw _ (im 19 rfl))) (notFace_of_selects (args := #[]) (mvT hZ (hw _ (im 21 rfl)))) (mvT hZ (hw _ (im 21 rfl))) (mvT hZ (hw _ (im 20 rfl))) (by decide) (backOf (W := 0) (rm4 l Z a0 hw [] b6 b6 ((x0 &&& (65535 : Int32)) + (1 : Int32)) ((x0 &&& (65535 : Int32)) + (1 : Int32)) T44.heap n0 Z44_ q46 q48 q48) hZ (hw _ (im 22 rfl)) (hw _ (im 3 rfl)) (by decide) (by decide)) q49a q49c (g := (mkF m 158 #[iv x0, iv x1, iv x2, iv ((x0 &&& (65535 : Int32)) + (1 : Int32)), iv v2_0, rv b6, iv (x2 &&& (7 : Int32)), rv b_44, iv 0] [(.ref b6), (.ref b6)])) rfl (by rw [hml]; rfl) (Steps.refl _) (argsL := [(.ref b6)]) (rest := []) (lenOf pd_3 rfl) rfl (by show 2 * 0 + _ ≤ _; exact Nat.le_of_eq rfl) (hb hby at_158) (fun _ _ => ⟨rfl, e45, (by decide : 2 + 0 ≤ _), (by decide : 2 + 0 ≤ _)⟩)
          dsimp only [Pt.U, Pt.locs, Pt.cells, Pt.slots] at X49 l49 y49 z49 st49 hQ49
          subst l49 y49 z49
          obtain ⟨rfl, N49q, e49⟩ := hQ49
          have N49 := Fr.app N45 N49q
          have hc161_50 : ((x0 &&& (65535 : Int32)) + (1 : Int32)) = ((x0 &&& (65535 : Int32)) + (1 : Int32)) := rfl
          have P51 := own_go P43 (S' := T49.setTop (mkF m 169 #[iv x0, iv x1, iv x2, iv ((x0 &&& (65535 : Int32)) + (1 : Int32)), iv v2_0, rv b6, iv (x2 &&& (7 : Int32)), rv b_44, iv 0] [(.int 1)])) (by
            intro t k
            refine XS.icmpNo X7.here hx rfl (hb hby at_111) rfl (teq hc111_42).2 ?_
            refine XS.iloadN X7.here hx rfl (hb hby at_114) rfl ?_
            refine st44 _ ?_
            refine XS.astore X44.here hx rfl (hb hby at_118) rfl rfl (l' := #[iv x0, iv x1, iv x2, iv ((x0 &&& (65535 : Int32)) + (1 : Int32)), iv v2_0, rv b6, iv (x2 &&& (7 : Int32)), rv b_44, .unset]) rfl ?_
            refine XS.iconst X44.here hx rfl (hb hby at_120) ?_
            refine XS.istore X44.here hx rfl (hb hby at_121) rfl (l' := #[iv x0, iv x1, iv x2, iv ((x0 &&& (65535 : Int32)) + (1 : Int32)), iv v2_0, rv b6, iv (x2 &&& (7 : Int32)), rv b_44, iv 0]) rfl ?_
            refine XS.goto X44.here hx rfl (pc0 := 123) (pc' := 142) rfl (hb hby at_123) (by decide) (by decide) ?_
            refine XS.aload X44.here hx rfl (hb hby at_142) rfl rfl ?_
            show Steps p.tables e below (T44.setTop (mkF m 144 #[iv x0, iv x1, iv x2, iv ((x0 &&& (65535 : Int32)) + (1 : Int32)), iv v2_0, rv b6, iv (x2 &&& (7 : Int32)), rv b_44, iv 0] [(.ref b6)])) _
            refine XS.aload X44.here hx rfl (hb hby at_144) rfl rfl ?_
            refine st45.trans ?_
            refine XS.iload X45.here hx rfl (hb hby at_149) rfl ?_
            refine XS.icmpNo X45.here hx rfl (hb hby at_151) rfl (teq (by decide)).2 ?_
            refine XS.aload X45.here hx rfl (hb hby at_154) rfl rfl ?_
            refine XS.aload X45.here hx rfl (hb hby at_156) rfl rfl ?_
            refine st49.trans ?_
            refine XS.ifNo X49.here hx rfl (hb hby at_161) rfl ((if0 _ _).trans (feq (by rw [if_pos hc161_50]; decide)).1) ?_
            show Steps p.tables e below (T49.setTop (mkF m 164 #[iv x0, iv x1, iv x2, iv ((x0 &&& (65535 : Int32)) + (1 : Int32)), iv v2_0, rv b6, iv (x2 &&& (7 : Int32)), rv b_44, iv 0] [])) _
            refine XS.iconst X49.here hx rfl (hb hby at_164) ?_
            refine XS.goto X49.here hx rfl (pc0 := 165) (pc' := 169) rfl (hb hby at_165) (by decide) (by decide) ?_
            exact k)
          obtain ⟨fs, hr, hrun, hended, hend⟩ := X49.leaveW hS0 (by rw [e49]; exact hk44_) (v := some (.int 1)) (fun h => by rw [Bd.returns] at h; cases h)
          refine ⟨_, _, P51 _ ?_, hrun, hended, _, _, rfl, ?_, hend.1, hend.2.1, hend.2.2.1, hend.2.2.2.mono (by decide) (by decide)⟩
          · show Steps p.tables e below (T49.setTop (mkF m 169 #[iv x0, iv x1, iv x2, iv ((x0 &&& (65535 : Int32)) + (1 : Int32)), iv v2_0, rv b6, iv (x2 &&& (7 : Int32)), rv b_44, iv 0] [(.int 1)])) _
            exact retN X49 hx (t := .boolean) Bd.returns (by simp) (hb hby at_169) hr
          · show Q0 Z x0 x1 x2 ca cl bo h0 n0 _ T49.heap _
            rw [e49]
            exact ⟨rfl, N49⟩
        · obtain ⟨T52, h52, X52, e52, E52, A52, D52, -, st52⟩ := newO X7 hx hZ hown (hw _ (im 25 rfl)) (hw _ (im 26 rfl)) (hw _ (im 27 rfl)) rfl (g := (mkF m 126 #[iv x0, iv x1, iv x2, iv ((x0 &&& (65535 : Int32)) + (1 : Int32)), iv v2_0, rv b6, iv (x2 &&& (7 : Int32)), .unset, .unset] [])) rfl (hb hby at_126) (by decide) (by decide)
          obtain ⟨b52, g52⟩ : ∃ z, z = T7.heap.size := ⟨_, rfl⟩
          rw [← g52] at A52 D52 st52
          have ge_b52 : n0 ≤ b52 := Nat.le_trans Z7_ (Nat.le_of_eq g52.symm)
          have Z52_ : n0 ≤ h52.size := Nat.le_trans Z7_ E52.1
          have hk52_ := Nat.le_trans hk7_ E52.1
          have O52_ := O7_.ext E52
          have F52_index : Fld Z h52 b52 "com/example/termweave/termweave/term/ArraySort" "index" "Lcom/example/termweave/termweave/term/Sort;" .null := D52 (Or.inr (hw _ (im 46 rfl))) (ty := (.object "com/example/termweave/termweave/term/Sort")) (by decide)
          have F52_element : Fld Z h52 b52 "com/example/termweave/termweave/term/ArraySort" "element" "Lcom/example/termweave/termweave/term/Sort;" .null := D52 (Or.inr (hw _ (im 48 rfl))) (ty := (.object "com/example/termweave/termweave/term/Sort")) (by decide)
          obtain ⟨_, _, ⟨T53, L53, k53, n53⟩, -, X53, hS53, hg53, ⟨Lc53, hQ53, l53, y53, z53⟩, st53⟩ := X52.specialBackS hx (y := (⟨"com/example/termweave/termweave/term/ArraySort", "<init>", "(Lcom/example/termweave/termweave/term/Sort;Lcom/example/termweave/termweave/term/Sort;)V"⟩ : MethodName)) rfl hown (mvT hZ (hw _ (im 28 rfl))) (mvT hZ (hw _ (im 29 rfl))) (mvT hZ (hw _ (im 30 rfl))) (by decide) (backOfS (W := 1) (rm5 l Z a0 hw [] b52 b6 b6 h52 n0 Z52_ A52 F52_index F52_element ge_b52) hZ (hw _ (im 30 rfl)) (hw _ (im 27 rfl)) (by decide) (by decide)) (g := (mkF m 134 #[iv x0, iv x1, iv x2, iv ((x0 &&& (65535 : Int32)) + (1 : Int32)), iv v2_0, rv b6, iv (x2 &&& (7 : Int32)), .unset, .unset] [(.ref b6), (.ref b6), (.ref b52), (.ref b52)])) rfl (by rw [hml]; rfl) (Steps.refl _) (a := b52) (argsL := [(.ref b6), (.ref b6)]) (rest := [(.ref b52)]) (lenOf pd_5 rfl) rfl (by show 2 * 0 + _ ≤ _; exact Nat.le_of_eq rfl) (hb hby at_134) (fun _ _ => ⟨rfl, e52, (by decide : 2 + 4 ≤ _), (by decide : 3 + 56 ≤ _)⟩)
          dsimp only [Pt.U, Pt.locs, Pt.cells, Pt.slots] at X53 l53 y53 z53 st53 hQ53 hS53 hg53
          subst l53 y53 z53
          obtain ⟨X53, hS53, hZ53, hown53⟩ := rebS hS0 (by rw [e52]; exact hk52_) X53 hS53 hg53 hZ hown
          obtain ⟨rfl, N53q, K53, r53_0⟩ := hQ53
          have N53 := Fr.app N7 N53q
          have Z53_ : n0 ≤ T53.heap.size := Nat.le_trans Z52_ K53.1
          have hk53_ := Nat.le_trans hk52_ K53.1
          have O53_ := O52_.keep K53 (allS ge_b52 all0)
          have hk53w : T53.heap.size ≤ T53.heap.size := Nat.le_refl _
          have q55 := ((r7_0.ext E52).keep K53)
          obtain ⟨cq54, kq54, q54a, q54b, q54c⟩ := isOf hZ53 rfl q55
          obtain ⟨_, _, ⟨T54, L54, k54, n54⟩, -, X54, ⟨Lc54, hQ54, l54, y54, z54⟩, st54⟩ := X53.virtualBack hx (y := (⟨"com/example/termweave/termweave/term/BitVecSort", "equals", "(Ljava/lang/Object;)Z"⟩ : MethodName)) (z := (⟨"com/example/termweave/termweave/term/BitVecSort", "equals", "(Ljava/lang/Object;)Z"⟩ : MethodName)) hown53 (mvT hZ53 (hw _ (im 18 rfl))) (mvT hZ53 (hw _ (im 19 rfl))) (notFace_of_selects (args := #[]) (mvT hZ53 (hw _ (im 21 rfl)))) (mvT hZ53 (hw _ (im 21 rfl))) (mvT hZ53 (hw _ (im 20 rfl))) (by decide) (backOf (W := 0) (rm4a l Z a0 hw [] b6 b52 T53.heap n0 Z53_ r53_0) hZ53 (hw _ (im 22 rfl)) (hw _ (im 3 rfl)) (by decide) (by decide)) q54a q54c (g := (mkF m 146 #[iv x0, iv x1, iv x2, iv ((x0 &&& (65535 : Int32)) + (1 : Int32)), iv v2_0, rv b6, iv (x2 &&& (7 : Int32)), rv b52, iv 0] [(.ref b52), (.ref b6)])) rfl (by rw [hml]; rfl) (Steps.refl _) (argsL := [(.ref b52)]) (rest := []) (lenOf pd_3 rfl) rfl (by show 2 * 0 + _ ≤ _; exact Nat.le_of_eq rfl) (hb hby at_146) (fun _ _ => ⟨rfl, rfl, (by decide : 6 + 0 ≤ _), (by decide : 59 + 0 ≤ _)⟩)
          dsimp only [Pt.U, Pt.locs, Pt.cells, Pt.slots] at X54 l54 y54 z54 st54 hQ54
          subst l54 y54 z54
          obtain ⟨rfl, N54q, e54⟩ := hQ54
          have N54 := Fr.app N53 N54q
          have q58 := (Nat.lt_of_lt_of_le A6.lt K7.1)
          have ne57 : b6 ≠ b52 := Nat.ne_of_lt (Nat.lt_of_lt_of_le q58 (Nat.le_of_eq g52.symm))
          have ni59 := (ninS ne57 nin0)
          have q60 := ((r7_1.ext E52).keep K53 ni59)
          obtain ⟨cq61, kq61, q61a, q61b, q61c⟩ := isOf hZ53 e54 q55
          obtain ⟨_, _, ⟨T61, L61, k61, n61⟩, -, X61, ⟨Lc61, hQ61, l61, y61, z61⟩, st61⟩ := X54.virtualBack hx (y := (⟨"com/example/termweave/termweave/term/BitVecSort", "equals", "(Ljava/lang/Object;)Z"⟩ : MethodName)) (z := (⟨"com/example/termweave/termweave/term/BitVecSort", "equals", "(Ljava/lang/Object;)Z"⟩ : MethodName)) hown53 (mvT hZ53 (hw _ (im 18 rfl))) (mvT hZ53 (hw _ (im 19 rfl))) (notFace_of_selects (args := #[]) (mvT hZ53 (hw _ (im 21 rfl)))) (mvT hZ53 (hw _ (im 21 rfl))) (mvT hZ53 (hw _ (im 20 rfl))) (by decide) (backOf (W := 0) (rm4 l Z a0 hw [] b6 b6 ((x0 &&& (65535 : Int32)) + (1 : Int32)) ((x0 &&& (65535 : Int32)) + (1 : Int32)) T53.heap n0 Z53_ q55 q60 q60) hZ53 (hw _ (im 22 rfl)) (hw _ (im 3 rfl)) (by decide) (by decide)) q61a q61c (g := (mkF m 158 #[iv x0, iv x1, iv x2, iv ((x0 &&& (65535 : Int32)) + (1 : Int32)), iv v2_0, rv b6, iv (x2 &&& (7 : Int32)), rv b52, iv 0] [(.ref b6), (.ref b6)])) rfl (by rw [hml]; rfl) (Steps.refl _) (argsL := [(.ref b6)]) (rest := []) (lenOf pd_3 rfl) rfl (by show 2 * 0 + _ ≤ _; exact Nat.le_of_eq rfl) (hb hby at_158) (fun _ _ => ⟨rfl, e54, (by decide : 6 + 0 ≤ _), (by decide : 59 + 0 ≤ _)⟩)
          dsimp only [Pt.U, Pt.locs, Pt.cells, Pt.slots] at X61 l61 y61 z61 st61 hQ61
          subst l61 y61 z61
          obtain ⟨rfl, N61q, e61⟩ := hQ61
          have N61 := Fr.app N54 N61q
          have hc161_62 : ((x0 &&& (65535 : Int32)) + (1 : Int32)) = ((x0 &&& (65535 : Int32)) + (1 : Int32)) := rfl
          have P63 := own_go P43 (S' := T61.setTop (mkF m 169 #[iv x0, iv x1, iv x2, iv ((x0 &&& (65535 : Int32)) + (1 : Int32)), iv v2_0, rv b6, iv (x2 &&& (7 : Int32)), rv b52, iv 0] [(.int 1)])) (by
            intro t k
            refine XS.icmpYes X7.here hx rfl (pc0 := 111) (pc' := 126) rfl (hb hby at_111) rfl (feq hc111_42).2 (by decide) (by decide) ?_
            refine st52 _ ?_
            refine XS.dup X52.here hx rfl (hb hby at_129) rfl rfl ?_
            refine XS.aload X52.here hx rfl (hb hby at_130) rfl rfl ?_
            refine XS.aload X52.here hx rfl (hb hby at_132) rfl rfl ?_
            refine st53.trans ?_
            refine XS.astore X53.here hx rfl (hb hby at_137) rfl rfl (l' := #[iv x0, iv x1, iv x2, iv ((x0 &&& (65535 : Int32)) + (1 : Int32)), iv v2_0, rv b6, iv (x2 &&& (7 : Int32)), rv b52, .unset]) rfl ?_
            refine XS.iconst X53.here hx rfl (hb hby at_139) ?_
            show Steps p.tables e below (T53.setTop (mkF m 140 #[iv x0, iv x1, iv x2, iv ((x0 &&& (65535 : Int32)) + (1 : Int32)), iv v2_0, rv b6, iv (x2 &&& (7 : Int32)), rv b52, .unset] [(.int 0)])) _
            refine XS.istore X53.here hx rfl (hb hby at_140) rfl (l' := #[iv x0, iv x1, iv x2, iv ((x0 &&& (65535 : Int32)) + (1 : Int32)), iv v2_0, rv b6, iv (x2 &&& (7 : Int32)), rv b52, iv 0]) rfl ?_
            refine XS.aload X53.here hx rfl (hb hby at_142) rfl rfl ?_
            refine XS.aload X53.here hx rfl (hb hby at_144) rfl rfl ?_
            refine st54.trans ?_
            refine XS.iload X54.here hx rfl (hb hby at_149) rfl ?_
            refine XS.icmpNo X54.here hx rfl (hb hby at_151) rfl (teq (by decide)).2 ?_
            refine XS.aload X54.here hx rfl (hb hby at_154) rfl rfl ?_
            refine XS.aload X54.here hx rfl (hb hby at_156) rfl rfl ?_
            show Steps p.tables e below (T54.setTop (mkF m 158 #[iv x0, iv x1, iv x2, iv ((x0 &&& (65535 : Int32)) + (1 : Int32)), iv v2_0, rv b6, iv (x2 &&& (7 : Int32)), rv b52, iv 0] [(.ref b6), (.ref b6)])) _
            refine st61.trans ?_
            refine XS.ifNo X61.here hx rfl (hb hby at_161) rfl ((if0 _ _).trans (feq (by rw [if_pos hc161_62]; decide)).1) ?_
            refine XS.iconst X61.here hx rfl (hb hby at_164) ?_
            refine XS.goto X61.here hx rfl (pc0 := 165) (pc' := 169) rfl (hb hby at_165) (by decide) (by decide) ?_
            exact k)
          obtain ⟨fs, hr, hrun, hended, hend⟩ := X61.leaveW hS53 (by rw [e61]; exact hk53w) (v := some (.int 1)) (fun h => by rw [Bd.returns] at h; cases h)
          refine ⟨_, _, P63 _ ?_, hrun, hended, _, _, rfl, ?_, hend.1, hend.2.1, hend.2.2.1, hend.2.2.2.mono (by decide) (by decide)⟩
          · show Steps p.tables e below (T61.setTop (mkF m 169 #[iv x0, iv x1, iv x2, iv ((x0 &&& (65535 : Int32)) + (1 : Int32)), iv v2_0, rv b6, iv (x2 &&& (7 : Int32)), rv b52, iv 0] [(.int 1)])) _
            exact retN X61 hx (t := .boolean) Bd.returns (by simp) (hb hby at_169) hr
          · show Q0 Z x0 x1 x2 ca cl bo h0 n0 _ T61.heap _
            rw [e61]
            exact ⟨rfl, N61⟩

set_option maxRecDepth 65536 in
set_option maxHeartbeats 40000000 in
theorem comes_1 {Post : Tables → Env → Array Value → State → Outcome → State → Prop} (hpost : ∀ tb e args s v u, (limb_1_1.after args s (.returned v) u = true ∧ limb_1_2.after args s (.returned v) u = true ∧ True) → ReturnedEndW s (.returned v) u (Jvm.fieldLocs frame_1_writes args s ++ Jvm.arrayLocs frame_1_arrays args s ++ Jvm.staticLocs frame_1_statics s) 16 2176 → Post tb e args s (.returned v) u) :
    ArmFor flags0 classFile x code maxLocals ret World_1 tables_1 room_1 Calls_1 rest_1 Pre_1 Post := by
  intro l hfl _ _ p e ha hc hk s m args below hf hA hF happ hP
  obtain ⟨hcalls, hrest, hpre⟩ := hP
  obtain ⟨-, -, -, hnamed, -, -, -, hat⟩ := (Spec.applies_iff hf).mp happ
  obtain ⟨hg, hn⟩ := and_e (Cond.before_iff.mp (show (Jvm.Cond.and given_1 narrow_1).before args s = true from hpre))
  obtain ⟨hcnt, hgs0⟩ := and_e hg
  obtain ⟨hk0, hgs1⟩ := and_e hgs0
  obtain ⟨hk1, hgs2⟩ := and_e hgs1
  obtain ⟨w0, w1, w2, rfl⟩ : ∃ w0 w1 w2 : Value, args = #[w0, w1, w2] := by
    have hs : args.size = 3 := by simpa [Cond.value, given_1] using hcnt
    obtain ⟨L⟩ := args
    match L, hs with
    | [w0, w1, w2], _ => exact ⟨w0, w1, w2, rfl⟩
  have hw := fun d (hd : d ∈ tables_1) => atoms_spec (ws := Jvm.Cond.code x code maxLocals ret :: tables_1) hat d (List.mem_cons_of_mem _ hd)
  have hfit : Fit s := fun {y c} hc i hi => by
    obtain ⟨ha, rfl⟩ := Array.getElem?_eq_some_iff.mp hc
    have q := List.all_eq_true.mp ((Array.all_eq_true_iff_forall_mem.mp hF) _ (Array.getElem_mem ha)) i (List.mem_range.mpr hi)
    simpa [Array.getElem?_eq_getElem hi] using q
  obtain ⟨hsets, hown0⟩ := atoms_of _ (rest_1_c_eq ▸ (show rest_1_c.before _ s = true from hrest))
  have hr0 := Cond.before_iff.mp hown0
  obtain ⟨i0, ei0⟩ := is_v hk0
  obtain rfl : w0 = (.int i0) := Option.some.inj ei0
  obtain ⟨i1, ei1⟩ := is_v hk1
  obtain rfl : w1 = (.int i1) := Option.some.inj ei1
  obtain ⟨i2, ei2⟩ := is_v hgs2
  obtain rfl : w2 = (.int i2) := Option.some.inj ei2
  have hs3 := Cond.before_iff.mp (hsets _ (List.mem_of_getElem? (i := 3) rfl))
  have hs4 := Cond.before_iff.mp (hsets _ (List.mem_of_getElem? (i := 4) rfl))
  have hs6 := Cond.before_iff.mp (hsets _ (List.mem_of_getElem? (i := 6) rfl))
  have hs7 := Cond.before_iff.mp (hsets _ (List.mem_of_getElem? (i := 7) rfl))
  have ehi := eqv_i (Term.int_eval _) hs3
  have SH : Sta s s.heap "java/lang/Integer$IntegerCache" "high" "I" (.int (127 : Int32)) := Sta.start ehi (Or.inl (hsets _ (List.mem_of_getElem? (i := 1) rfl)))
  obtain ⟨ca, eca⟩ := arr_v hs4
  have SC : Sta s s.heap "java/lang/Integer$IntegerCache" "cache" "[Ljava/lang/Integer;" (.ref ca) := Sta.start eca (Or.inr ⟨(hw _ (im 62 rfl)), hsets _ (List.mem_of_getElem? (i := 2) rfl)⟩)
  obtain ⟨cl, Acl⟩ := Arr.start eca hs4
  have elen := eqv_i (Term.int_eval _) hs6
  obtain ⟨hl1, hl2⟩ := own_len eca (Acl.fin (Vm.Alike.refl _)) elen
  have BX : Bxs s ca cl "java/lang/Integer" "I" (256 : Int32) (fun j => .int (j - (128 : Int32))) := Bxs.start (fun idx => eca) Acl hl1 hl2 (by decide) hs7 (fun X j hj h => eqv_i (own_sub (idx_at hj) (Term.int_eval _)) h)
  obtain ⟨bo, ebo⟩ := exa_v hn
  have SB : Sta s s.heap "com/example/termweave/termweave/term/BoolSort" "BOOL" "Lcom/example/termweave/termweave/term/BoolSort;" (.ref bo) := Sta.start ebo (Or.inr ⟨(hw _ (im 53 rfl)), (hw _ (im 54 rfl))⟩)
  have EB := Exa.start ebo hn
  obtain ⟨n, o, h1, h2, h3, _, L, rfl, ⟨rfl, N⟩, hq⟩ := rm0 l s _ hw tables_1 i0 i1 i2 ca cl bo s.heap s.heap.size (Nat.le_refl _) (Old.start s) SH SC BX SB EB p e ha hc hk s m _ below hf ((Spec.applies_iff_loose hf).mp happ).1 ⟨rfl, State.Warmed39.refl s, rfl⟩ trivial
  refine ⟨n, _, h1, h2, h3, hpost _ _ _ _ _ _ ⟨Cond.after_iff.mpr rfl, Cond.after_iff.mpr (eq_i res_at (Term.int_eval (1)) rfl), trivial⟩ ⟨hq.1, hq.2.1, hq.2.2.1, (hq.2.2.2.sift fun y hy => Or.inr (N y hy)).mono (by decide) (by decide)⟩⟩
theorem main_1_1 : Claimed_1_1 := comes_1 fun _ _ _ _ _ _ h hF => ⟨h.1, hF⟩
theorem main_1_2 : Claimed_1_2 := comes_1 fun _ _ _ _ _ _ h hF => ⟨h.2.1, hF⟩
end Jvm.Pilot.@@N@@
namespace Jvm.Pilot.@@N@@
open Jvm Jvm.ClassFile Sem Op Lib Jvm.Free Jvm.Stand Jvm.Pilot.@@N@@.Jvm.D
/-! MADE BY PROGRAM (witnessworld.py) out of the Statement's table words and the real class files: 24 classes; the members and pool entries that the words name. The judged class is class 1, her method 1. -/
namespace start1
open Jvm.ClassFile
def u (s : String) : CpInfo := .utf8 (stringToUtf16 s)
/-- a pool by its gaps: so many unusable entries, then the entry; so many at the end -/
def gap : Nat → List CpInfo → List CpInfo
  | 0, r => r
  | n + 1, r => .unusable :: gap n r
def poolList (es : List (Nat × CpInfo)) (last : Nat) : List CpInfo := es.foldr (fun e r => gap e.1 (e.2 :: r)) (gap last [])
def pool (es : List (Nat × CpInfo)) (last : Nat) : Array CpInfo := ⟨poolList es last⟩
def fileOf (pool : Array CpInfo) (this : Nat) (attrs : Array Attribute := #[]) (ms : Array MethodInfo := #[]) (fl : Nat := 33) (sup : Nat := 0) (ifs : Array Nat := #[]) (fds : Array FieldInfo := #[]) : ClassFile where
  minorVersion := 0
  majorVersion := 65
  constantPool := pool
  accessFlags := fl
  thisClass := this
  superClass := sup
  interfaces := ifs
  fields := fds
  methods := ms
  attributes := attrs
def plain (name : String) (sup : Option ClassId) : Class where
  name := name
  kind := .ordinary
  loader := none
  accessFlags := 33
  super := sup
  interfaces := #[]
  cf := none
  fields := #[]
  methods := #[]
  instanceTypes := #[]
  staticTypes := #[]
  resolved := #[]
  callSites := []
  init := .initialized
  statics := none
  mirror := none

def pool0 : Array CpInfo := pool [(5, u "<init>"), (0, u "()V"), (1, .class_ 10), (1, u "java/lang/Object")] 113

def k0c0 : Code := { maxStack := 0, maxLocals := 1, code := object_method_1_code, exceptionTable := #[], attributes := #[] }
def k0m0 : Method := { name := "<init>", desc := "()V", sig := { parameters := [], returnType := none }, accessFlags := 1, code := some k0c0 }
/-- java/lang/Object -/
def k0 : Class := { plain "java/lang/Object" none with
  accessFlags := 33
  interfaces := #[]
  cf := some (fileOf pool0 8 #[] #[{ accessFlags := 1, nameIndex := 5, descriptorIndex := 6, attributes := #[] }] 33 0 #[] #[])
  fields := #[]
  methods := #[k0m0]
  instanceTypes := #[]
  staticTypes := #[]
  resolved := Array.replicate 124 none
  statics := none }

def pool1 : Array CpInfo := pool [(2, .class_ 4), (1, u "java/lang/Object"), (0, u "<init>"), (0, u "()V"), (0, .integer 65535), (0, .class_ 9), (0, u "com/example/termweave/termweave/term/BitVecSort"), (0, .methodref 8 11), (0, .nameAndType 5 12), (0, u "(I)V"), (0, .fieldref 14 15), (0, .class_ 16), (0, .nameAndType 17 18), (0, u "com/example/termweave/termweave/term/BoolSort"), (0, u "BOOL"), (0, u "Lcom/example/termweave/termweave/term/BoolSort;"), (0, .methodref 20 21), (0, .class_ 22), (0, .nameAndType 23 24), (0, u "java/lang/Integer"), (0, u "valueOf"), (0, u "(I)Ljava/lang/Integer;"), (0, .class_ 26), (0, u "com/example/termweave/termweave/term/ArraySort"), (0, .methodref 25 28), (0, .nameAndType 5 29), (0, u "(Lcom/example/termweave/termweave/term/Sort;Lcom/example/termweave/termweave/term/Sort;)V"), (0, .methodref 8 31), (0, .nameAndType 32 33), (0, u "equals"), (0, u "(Ljava/lang/Object;)Z"), (0, .class_ 35), (0, u "com/example/termweave/termweave/term/BitVecSortEqualsPinLaw"), (2, u "law"), (0, u "(III)Z")] 3

def k1m0 : Method := { name := "<init>", desc := "()V", sig := { parameters := [], returnType := none }, accessFlags := 1, code := none }
def k1c1 : Code := { maxStack := 4, maxLocals := 9, code := code, exceptionTable := #[], attributes := #[] }
def k1m1 : Method := { name := "law", desc := "(III)Z", sig := { parameters := [.int, .int, .int], returnType := some .boolean }, accessFlags := 9, code := some k1c1 }
/-- com/example/termweave/termweave/term/BitVecSortEqualsPinLaw -/
def k1 : Class := { plain "com/example/termweave/termweave/term/BitVecSortEqualsPinLaw" (some 0) with
  accessFlags := 49
  interfaces := #[]
  cf := some (fileOf pool1 34 #[] #[{ accessFlags := 1, nameIndex := 5, descriptorIndex := 6, attributes := #[] }, { accessFlags := 9, nameIndex := 38, descriptorIndex := 39, attributes := #[] }] 49 2 #[] #[])
  fields := #[]
  methods := #[k1m0, k1m1]
  instanceTypes := #[]
  staticTypes := #[]
  resolved := Array.replicate 43 none
  statics := none }

def pool2 : Array CpInfo := pool [(1, .methodref 2 3), (0, .class_ 4), (0, .nameAndType 5 6), (0, u "java/lang/Object"), (0, u "<init>"), (0, u "()V"), (0, .class_ 8), (0, u "java/lang/Record")] 13

def k2c0 : Code := { maxStack := 1, maxLocals := 1, code := jdk_30_method_1_code, exceptionTable := #[], attributes := #[] }
def k2m0 : Method := { name := "<init>", desc := "()V", sig := { parameters := [], returnType := none }, accessFlags := 4, code := some k2c0 }
/-- java/lang/Record -/
def k2 : Class := { plain "java/lang/Record" (some 0) with
  accessFlags := 1057
  interfaces := #[]
  cf := some (fileOf pool2 7 #[] #[{ accessFlags := 4, nameIndex := 5, descriptorIndex := 6, attributes := #[] }] 1057 2 #[] #[])
  fields := #[]
  methods := #[k2m0]
  instanceTypes := #[]
  staticTypes := #[]
  resolved := Array.replicate 22 none
  statics := none }

def pool3 : Array CpInfo := pool [(1, .class_ 2), (0, u "com/example/termweave/termweave/term/Sort"), (0, .class_ 4), (0, u "java/lang/Object")] 9

/-- com/example/termweave/termweave/term/Sort -/
def k3 : Class := { plain "com/example/termweave/termweave/term/Sort" (some 0) with
  accessFlags := 1537
  interfaces := #[]
  cf := some (fileOf pool3 1 #[] #[] 1537 3 #[] #[])
  fields := #[]
  methods := #[]
  instanceTypes := #[]
  staticTypes := #[]
  resolved := Array.replicate 14 none
  statics := none }

def pool4 : Array CpInfo := pool [(1, .methodref 2 3), (0, .class_ 4), (0, .nameAndType 5 6), (0, u "java/lang/Record"), (0, u "<init>"), (0, u "()V"), (0, .class_ 8), (0, u "com/example/termweave/termweave/term/BitVecSort"), (0, .integer 65536), (10, .fieldref 7 21), (0, .nameAndType 22 23), (0, u "width"), (0, u "I"), (11, u "(I)V"), (24, .class_ 61), (0, u "com/example/termweave/termweave/term/Sort"), (0, u "MAX_WIDTH"), (8, u "equals"), (0, u "(Ljava/lang/Object;)Z")] 23

def k4c0 : Code := { maxStack := 2, maxLocals := 2, code := prog_106_method_1_code, exceptionTable := #[], attributes := #[] }
def k4m0 : Method := { name := "<init>", desc := "(I)V", sig := { parameters := [.int], returnType := none }, accessFlags := 1, code := some k4c0 }
def k4c1 : Code := { maxStack := 2, maxLocals := 3, code := prog_106_method_4_code, exceptionTable := #[], attributes := #[] }
def k4m1 : Method := { name := "equals", desc := "(Ljava/lang/Object;)Z", sig := { parameters := [(.object "java/lang/Object")], returnType := some .boolean }, accessFlags := 1, code := some k4c1 }
/-- com/example/termweave/termweave/term/BitVecSort -/
def k4 : Class := { plain "com/example/termweave/termweave/term/BitVecSort" (some 2) with
  accessFlags := 49
  interfaces := #[3]
  cf := some (fileOf pool4 7 #[] #[{ accessFlags := 1, nameIndex := 5, descriptorIndex := 35, attributes := #[] }, { accessFlags := 1, nameIndex := 71, descriptorIndex := 72, attributes := #[] }] 49 2 #[60] #[{ accessFlags := 18, nameIndex := 22, descriptorIndex := 23, attributes := #[] }, { accessFlags := 25, nameIndex := 62, descriptorIndex := 23, attributes := #[] }])
  fields := #[{ name := "width", type := .int, accessFlags := 18, slot := 0, constantValue := 0 }, { name := "MAX_WIDTH", type := .int, accessFlags := 25, slot := 0, constantValue := 0 }]
  methods := #[k4m0, k4m1]
  instanceTypes := #[.int]
  staticTypes := #[.int]
  resolved := Array.replicate 96 none
  statics := none }

def pool5 : Array CpInfo := pool [(1, .methodref 2 3), (0, .class_ 4), (0, .nameAndType 5 6), (0, u "java/lang/Record"), (0, u "<init>"), (0, u "()V"), (0, .string 8), (0, u "index"), (0, .methodref 10 11), (0, .class_ 12), (0, .nameAndType 13 14), (0, u "java/util/Objects"), (0, u "requireNonNull"), (0, u "(Ljava/lang/Object;Ljava/lang/String;)Ljava/lang/Object;"), (0, .string 16), (0, u "element"), (0, .fieldref 18 19), (0, .class_ 20), (0, .nameAndType 8 21), (0, u "com/example/termweave/termweave/term/ArraySort"), (0, u "Lcom/example/termweave/termweave/term/Sort;"), (0, .fieldref 18 23), (0, .nameAndType 16 21), (30, .class_ 56), (1, u "com/example/termweave/termweave/term/Sort"), (27, u "(Lcom/example/termweave/termweave/term/Sort;Lcom/example/termweave/termweave/term/Sort;)V")] 44

def k5c0 : Code := { maxStack := 2, maxLocals := 3, code := prog_102_method_1_code, exceptionTable := #[], attributes := #[] }
def k5m0 : Method := { name := "<init>", desc := "(Lcom/example/termweave/termweave/term/Sort;Lcom/example/termweave/termweave/term/Sort;)V", sig := { parameters := [(.object "com/example/termweave/termweave/term/Sort"), (.object "com/example/termweave/termweave/term/Sort")], returnType := none }, accessFlags := 1, code := some k5c0 }
/-- com/example/termweave/termweave/term/ArraySort -/
def k5 : Class := { plain "com/example/termweave/termweave/term/ArraySort" (some 2) with
  accessFlags := 49
  interfaces := #[3]
  cf := some (fileOf pool5 18 #[] #[{ accessFlags := 1, nameIndex := 5, descriptorIndex := 84, attributes := #[] }] 49 2 #[54] #[{ accessFlags := 18, nameIndex := 8, descriptorIndex := 21, attributes := #[] }, { accessFlags := 18, nameIndex := 16, descriptorIndex := 21, attributes := #[] }])
  fields := #[{ name := "index", type := (.object "com/example/termweave/termweave/term/Sort"), accessFlags := 18, slot := 0, constantValue := 0 }, { name := "element", type := (.object "com/example/termweave/termweave/term/Sort"), accessFlags := 18, slot := 1, constantValue := 0 }]
  methods := #[k5m0]
  instanceTypes := #[(.object "com/example/termweave/termweave/term/Sort"), (.object "com/example/termweave/termweave/term/Sort")]
  staticTypes := #[]
  resolved := Array.replicate 129 none
  statics := none }

def pool6 : Array CpInfo := pool [(1, .class_ 2), (0, u "java/io/Serializable"), (0, .class_ 4), (0, u "java/lang/Object")] 2

/-- java/io/Serializable -/
def k6 : Class := { plain "java/io/Serializable" (some 0) with
  accessFlags := 1537
  interfaces := #[]
  cf := some (fileOf pool6 1 #[] #[] 1537 3 #[] #[])
  fields := #[]
  methods := #[]
  instanceTypes := #[]
  staticTypes := #[]
  resolved := Array.replicate 7 none
  statics := none }

def pool7 : Array CpInfo := pool [(1, .class_ 2), (0, u "java/lang/Comparable"), (0, .class_ 4), (0, u "java/lang/Object")] 7

/-- java/lang/Comparable -/
def k7 : Class := { plain "java/lang/Comparable" (some 0) with
  accessFlags := 1537
  interfaces := #[]
  cf := some (fileOf pool7 1 #[] #[] 1537 3 #[] #[])
  fields := #[]
  methods := #[]
  instanceTypes := #[]
  staticTypes := #[]
  resolved := Array.replicate 12 none
  statics := none }

def pool8 : Array CpInfo := pool [(2, .class_ 4), (1, u "java/lang/CharSequence"), (42, .class_ 48), (0, u "java/lang/CharSequence$1CodePointIterator"), (10, .class_ 60), (0, u "java/lang/CharSequence$1CharIterator"), (5, .class_ 67), (0, u "java/lang/Object")] 63

/-- java/lang/CharSequence -/
def k8 : Class := { plain "java/lang/CharSequence" (some 0) with
  accessFlags := 1537
  interfaces := #[]
  cf := some (fileOf pool8 2 #[.nestMembers #[47, 59]] #[] 1537 66 #[] #[])
  fields := #[]
  methods := #[]
  instanceTypes := #[]
  staticTypes := #[]
  resolved := Array.replicate 131 none
  statics := none }

def pool9 : Array CpInfo := pool [(1, .class_ 2), (0, u "java/lang/constant/Constable"), (0, .class_ 4), (0, u "java/lang/Object")] 6

/-- java/lang/constant/Constable -/
def k9 : Class := { plain "java/lang/constant/Constable" (some 0) with
  accessFlags := 1537
  interfaces := #[]
  cf := some (fileOf pool9 1 #[] #[] 1537 3 #[] #[])
  fields := #[]
  methods := #[]
  instanceTypes := #[]
  staticTypes := #[]
  resolved := Array.replicate 11 none
  statics := none }

def pool10 : Array CpInfo := pool [(1, .class_ 2), (0, u "java/lang/constant/ConstantDesc"), (0, .class_ 4), (0, u "java/lang/Object")] 32

/-- java/lang/constant/ConstantDesc -/
def k10 : Class := { plain "java/lang/constant/ConstantDesc" (some 0) with
  accessFlags := 1537
  interfaces := #[]
  cf := some (fileOf pool10 1 #[] #[] 1537 3 #[] #[])
  fields := #[]
  methods := #[]
  instanceTypes := #[]
  staticTypes := #[]
  resolved := Array.replicate 37 none
  statics := none }

def pool11 : Array CpInfo := pool [(2, .class_ 4), (1, u "java/lang/Object"), (0, u "<init>"), (0, u "()V"), (3, .class_ 12), (1, u "java/lang/String"), (0, u "value"), (0, u "[B"), (2, u "coder"), (0, u "B"), (2, u "hash"), (0, u "I"), (2, u "hashIsZero"), (0, u "Z"), (13, u "COMPACT_STRINGS"), (534, .class_ 576), (0, u "java/lang/CharSequence"), (22, u "CASE_INSENSITIVE_ORDER"), (0, u "Ljava/util/Comparator;"), (500, u "serialPersistentFields"), (0, u "[Ljava/io/ObjectStreamField;"), (0, .class_ 1104), (0, u "java/lang/String$CaseInsensitiveComparator"), (1, .class_ 1107), (0, u "java/io/Serializable"), (0, .class_ 1109), (0, u "java/lang/Comparable"), (0, .class_ 1111), (0, u "java/lang/constant/Constable"), (0, .class_ 1113), (0, u "java/lang/constant/ConstantDesc"), (2, u "serialVersionUID"), (0, u "J"), (3, u "REPL"), (0, u "C"), (2, u "LATIN1"), (1, u "UTF16")] 323

def k11m0 : Method := { name := "<init>", desc := "()V", sig := { parameters := [], returnType := none }, accessFlags := 1, code := none }
/-- java/lang/String -/
def k11 : Class := { plain "java/lang/String" (some 0) with
  accessFlags := 49
  interfaces := #[6, 7, 8, 9, 10]
  cf := some (fileOf pool11 10 #[.nestMembers #[1103]] #[{ accessFlags := 1, nameIndex := 5, descriptorIndex := 6, attributes := #[] }] 49 2 #[1106, 1108, 575, 1110, 1112] #[{ accessFlags := 18, nameIndex := 13, descriptorIndex := 14, attributes := #[] }, { accessFlags := 18, nameIndex := 17, descriptorIndex := 18, attributes := #[] }, { accessFlags := 2, nameIndex := 21, descriptorIndex := 22, attributes := #[] }, { accessFlags := 2, nameIndex := 25, descriptorIndex := 26, attributes := #[] }, { accessFlags := 26, nameIndex := 1116, descriptorIndex := 1117, attributes := #[] }, { accessFlags := 24, nameIndex := 40, descriptorIndex := 26, attributes := #[] }, { accessFlags := 26, nameIndex := 1101, descriptorIndex := 1102, attributes := #[] }, { accessFlags := 26, nameIndex := 1121, descriptorIndex := 1122, attributes := #[] }, { accessFlags := 25, nameIndex := 599, descriptorIndex := 600, attributes := #[] }, { accessFlags := 24, nameIndex := 1125, descriptorIndex := 18, attributes := #[] }, { accessFlags := 24, nameIndex := 1127, descriptorIndex := 18, attributes := #[] }])
  fields := #[{ name := "value", type := (.array .byte), accessFlags := 18, slot := 0, constantValue := 0 }, { name := "coder", type := .byte, accessFlags := 18, slot := 1, constantValue := 0 }, { name := "hash", type := .int, accessFlags := 2, slot := 2, constantValue := 0 }, { name := "hashIsZero", type := .boolean, accessFlags := 2, slot := 3, constantValue := 0 }, { name := "serialVersionUID", type := .long, accessFlags := 26, slot := 0, constantValue := 0 }, { name := "COMPACT_STRINGS", type := .boolean, accessFlags := 24, slot := 1, constantValue := 0 }, { name := "serialPersistentFields", type := (.array (.object "java/io/ObjectStreamField")), accessFlags := 26, slot := 2, constantValue := 0 }, { name := "REPL", type := .char, accessFlags := 26, slot := 3, constantValue := 0 }, { name := "CASE_INSENSITIVE_ORDER", type := (.object "java/util/Comparator"), accessFlags := 25, slot := 4, constantValue := 0 }, { name := "LATIN1", type := .byte, accessFlags := 24, slot := 5, constantValue := 0 }, { name := "UTF16", type := .byte, accessFlags := 24, slot := 6, constantValue := 0 }]
  methods := #[k11m0]
  instanceTypes := #[(.array .byte), .byte, .int, .boolean]
  staticTypes := #[.long, .boolean, (.array (.object "java/io/ObjectStreamField")), .char, (.object "java/util/Comparator"), .byte, .byte]
  resolved := Array.replicate 1451 none
  statics := none }

def pool12 : Array CpInfo := pool [(2, .class_ 4), (1, u "java/lang/Object"), (0, u "<init>"), (0, u "()V"), (35, .class_ 44), (1, u "java/util/Objects"), (0, u "requireNonNull"), (48, u "(Ljava/lang/Object;Ljava/lang/String;)Ljava/lang/Object;")] 89

def k12m0 : Method := { name := "<init>", desc := "()V", sig := { parameters := [], returnType := none }, accessFlags := 2, code := none }
def k12c1 : Code := { maxStack := 3, maxLocals := 2, code := jdk_31_method_11_code, exceptionTable := #[], attributes := #[] }
def k12m1 : Method := { name := "requireNonNull", desc := "(Ljava/lang/Object;Ljava/lang/String;)Ljava/lang/Object;", sig := { parameters := [(.object "java/lang/Object"), (.object "java/lang/String")], returnType := some (.object "java/lang/Object") }, accessFlags := 9, code := some k12c1 }
/-- java/util/Objects -/
def k12 : Class := { plain "java/util/Objects" (some 0) with
  accessFlags := 49
  interfaces := #[]
  cf := some (fileOf pool12 42 #[] #[{ accessFlags := 2, nameIndex := 5, descriptorIndex := 6, attributes := #[] }, { accessFlags := 9, nameIndex := 45, descriptorIndex := 94, attributes := #[] }] 49 2 #[] #[])
  fields := #[]
  methods := #[k12m0, k12m1]
  instanceTypes := #[]
  staticTypes := #[]
  resolved := Array.replicate 184 none
  statics := none }

def pool13 : Array CpInfo := pool [(2, .class_ 4), (1, u "java/lang/Enum"), (0, u "name"), (0, u "Ljava/lang/String;"), (2, u "ordinal"), (0, u "I"), (1, .class_ 14), (1, u "java/lang/Object"), (4, u "hash"), (86, .class_ 108), (1, u "java/lang/Enum$EnumDesc"), (2, .class_ 112), (0, u "java/lang/constant/Constable"), (0, .class_ 114), (0, u "java/lang/Comparable"), (0, .class_ 116), (0, u "java/io/Serializable")] 87

/-- java/lang/Enum -/
def k13 : Class := { plain "java/lang/Enum" (some 0) with
  accessFlags := 1057
  interfaces := #[9, 7, 6]
  cf := some (fileOf pool13 2 #[.nestMembers #[106]] #[] 1057 12 #[111, 113, 115] #[{ accessFlags := 18, nameIndex := 5, descriptorIndex := 6, attributes := #[] }, { accessFlags := 18, nameIndex := 9, descriptorIndex := 10, attributes := #[] }, { accessFlags := 2, nameIndex := 19, descriptorIndex := 10, attributes := #[] }])
  fields := #[{ name := "name", type := (.object "java/lang/String"), accessFlags := 18, slot := 0, constantValue := 0 }, { name := "ordinal", type := .int, accessFlags := 18, slot := 1, constantValue := 0 }, { name := "hash", type := .int, accessFlags := 2, slot := 2, constantValue := 0 }]
  methods := #[]
  instanceTypes := #[(.object "java/lang/String"), .int, .int]
  staticTypes := #[]
  resolved := Array.replicate 204 none
  statics := none }

def pool14 : Array CpInfo := pool [(1, .class_ 2), (0, u "com/example/termweave/termweave/term/BoolSort"), (2, u "BOOL"), (0, u "Lcom/example/termweave/termweave/term/BoolSort;"), (2, u "$VALUES"), (0, u "[Lcom/example/termweave/termweave/term/BoolSort;"), (6, .class_ 19), (1, u "java/lang/Enum"), (14, .class_ 35), (0, u "com/example/termweave/termweave/term/Sort")] 13

/-- com/example/termweave/termweave/term/BoolSort -/
def k14 : Class := { plain "com/example/termweave/termweave/term/BoolSort" (some 13) with
  accessFlags := 16433
  interfaces := #[3]
  cf := some (fileOf pool14 1 #[] #[] 16433 17 #[34] #[{ accessFlags := 16409, nameIndex := 5, descriptorIndex := 6, attributes := #[] }, { accessFlags := 4122, nameIndex := 9, descriptorIndex := 10, attributes := #[] }])
  fields := #[{ name := "BOOL", type := (.object "com/example/termweave/termweave/term/BoolSort"), accessFlags := 16409, slot := 0, constantValue := 0 }, { name := "$VALUES", type := (.array (.object "com/example/termweave/termweave/term/BoolSort")), accessFlags := 4122, slot := 1, constantValue := 0 }]
  methods := #[]
  instanceTypes := #[(.object "java/lang/String"), .int, .int]
  staticTypes := #[(.object "com/example/termweave/termweave/term/BoolSort"), (.array (.object "com/example/termweave/termweave/term/BoolSort"))]
  resolved := Array.replicate 49 none
  statics := some 0 }

def pool15 : Array CpInfo := pool [(1, .methodref 2 3), (0, .class_ 4), (0, .nameAndType 5 6), (0, u "java/lang/Object"), (0, u "<init>"), (0, u "()V"), (1, .class_ 10), (1, u "java/lang/Number"), (2, .class_ 14), (0, u "java/io/Serializable"), (0, u "serialVersionUID"), (0, u "J")] 20

def k15c0 : Code := { maxStack := 1, maxLocals := 1, code := jdk_18_method_1_code, exceptionTable := #[], attributes := #[] }
def k15m0 : Method := { name := "<init>", desc := "()V", sig := { parameters := [], returnType := none }, accessFlags := 1, code := some k15c0 }
/-- java/lang/Number -/
def k15 : Class := { plain "java/lang/Number" (some 0) with
  accessFlags := 1057
  interfaces := #[6]
  cf := some (fileOf pool15 8 #[] #[{ accessFlags := 1, nameIndex := 5, descriptorIndex := 6, attributes := #[] }] 1057 2 #[13] #[{ accessFlags := 26, nameIndex := 15, descriptorIndex := 16, attributes := #[] }])
  fields := #[{ name := "serialVersionUID", type := .long, accessFlags := 26, slot := 0, constantValue := 0 }]
  methods := #[k15m0]
  instanceTypes := #[]
  staticTypes := #[.long]
  resolved := Array.replicate 37 none
  statics := none }

def pool16 : Array CpInfo := pool [(1, .class_ 2), (0, u "java/lang/Integer"), (16, u "digits"), (0, u "[C"), (46, u "<init>"), (17, u "DigitOnes"), (0, u "[B"), (2, u "DigitTens"), (10, .nameAndType 67 101), (0, u "()V"), (85, u "valueOf"), (0, u "(I)Ljava/lang/Integer;"), (0, .class_ 190), (0, u "java/lang/Integer$IntegerCache"), (0, .fieldref 189 192), (0, .nameAndType 193 194), (0, u "high"), (0, u "I"), (0, .fieldref 189 196), (0, .nameAndType 197 198), (0, u "cache"), (0, u "[Ljava/lang/Integer;"), (0, .methodref 1 200), (0, .nameAndType 67 201), (0, u "(I)V"), (0, .methodref 203 100), (0, .class_ 204), (0, u "java/lang/Number"), (0, .fieldref 1 206), (0, .nameAndType 207 194), (0, u "value"), (94, u "TYPE"), (0, u "Ljava/lang/Class;"), (0, .class_ 305), (0, u "java/lang/Comparable"), (0, .class_ 307), (0, u "java/lang/constant/Constable"), (0, .class_ 309), (0, u "java/lang/constant/ConstantDesc"), (0, u "MIN_VALUE"), (1, u "MAX_VALUE"), (3, u "SIZE"), (1, u "BYTES"), (1, u "serialVersionUID"), (0, u "J")] 131

def k16c0 : Code := { maxStack := 3, maxLocals := 1, code := jdk_33_method_22_code, exceptionTable := #[], attributes := #[] }
def k16m0 : Method := { name := "valueOf", desc := "(I)Ljava/lang/Integer;", sig := { parameters := [.int], returnType := some (.object "java/lang/Integer") }, accessFlags := 9, code := some k16c0 }
def k16c1 : Code := { maxStack := 2, maxLocals := 2, code := jdk_33_method_23_code, exceptionTable := #[], attributes := #[] }
def k16m1 : Method := { name := "<init>", desc := "(I)V", sig := { parameters := [.int], returnType := none }, accessFlags := 1, code := some k16c1 }
/-- java/lang/Integer -/
def k16 : Class := { plain "java/lang/Integer" (some 15) with
  accessFlags := 49
  interfaces := #[7, 9, 10]
  cf := some (fileOf pool16 1 #[.nestMembers #[189]] #[{ accessFlags := 9, nameIndex := 187, descriptorIndex := 188, attributes := #[] }, { accessFlags := 1, nameIndex := 67, descriptorIndex := 201, attributes := #[] }] 49 203 #[304, 306, 308] #[{ accessFlags := 25, nameIndex := 310, descriptorIndex := 194, attributes := #[] }, { accessFlags := 25, nameIndex := 312, descriptorIndex := 194, attributes := #[] }, { accessFlags := 25, nameIndex := 302, descriptorIndex := 303, attributes := #[] }, { accessFlags := 24, nameIndex := 19, descriptorIndex := 20, attributes := #[] }, { accessFlags := 24, nameIndex := 89, descriptorIndex := 86, attributes := #[] }, { accessFlags := 24, nameIndex := 85, descriptorIndex := 86, attributes := #[] }, { accessFlags := 18, nameIndex := 207, descriptorIndex := 194, attributes := #[] }, { accessFlags := 25, nameIndex := 316, descriptorIndex := 194, attributes := #[] }, { accessFlags := 25, nameIndex := 318, descriptorIndex := 194, attributes := #[] }, { accessFlags := 26, nameIndex := 320, descriptorIndex := 321, attributes := #[] }])
  fields := #[{ name := "MIN_VALUE", type := .int, accessFlags := 25, slot := 0, constantValue := 0 }, { name := "MAX_VALUE", type := .int, accessFlags := 25, slot := 1, constantValue := 0 }, { name := "TYPE", type := (.object "java/lang/Class"), accessFlags := 25, slot := 2, constantValue := 0 }, { name := "digits", type := (.array .char), accessFlags := 24, slot := 3, constantValue := 0 }, { name := "DigitTens", type := (.array .byte), accessFlags := 24, slot := 4, constantValue := 0 }, { name := "DigitOnes", type := (.array .byte), accessFlags := 24, slot := 5, constantValue := 0 }, { name := "value", type := .int, accessFlags := 18, slot := 0, constantValue := 0 }, { name := "SIZE", type := .int, accessFlags := 25, slot := 6, constantValue := 0 }, { name := "BYTES", type := .int, accessFlags := 25, slot := 7, constantValue := 0 }, { name := "serialVersionUID", type := .long, accessFlags := 26, slot := 8, constantValue := 0 }]
  methods := #[k16m0, k16m1]
  instanceTypes := #[.int]
  staticTypes := #[.int, .int, (.object "java/lang/Class"), (.array .char), (.array .byte), (.array .byte), .int, .int, .long]
  resolved := Array.replicate 453 none
  statics := none }

def pool17 : Array CpInfo := pool [(2, .class_ 4), (1, u "java/lang/Object"), (0, u "<init>"), (0, u "()V"), (0, .class_ 8), (0, u "java/lang/Integer"), (7, .class_ 18), (1, u "java/lang/Integer$IntegerCache"), (0, u "$assertionsDisabled"), (0, u "Z"), (26, u "high"), (0, u "I"), (8, u "archivedCache"), (0, u "[Ljava/lang/Integer;"), (12, u "cache"), (0, u "low")] 27

def k17m0 : Method := { name := "<init>", desc := "()V", sig := { parameters := [], returnType := none }, accessFlags := 2, code := none }
/-- java/lang/Integer$IntegerCache -/
def k17 : Class := { plain "java/lang/Integer$IntegerCache" (some 0) with
  accessFlags := 48
  interfaces := #[]
  cf := some (fileOf pool17 16 #[.nestHost 7] #[{ accessFlags := 2, nameIndex := 5, descriptorIndex := 6, attributes := #[] }] 48 2 #[] #[{ accessFlags := 24, nameIndex := 72, descriptorIndex := 48, attributes := #[] }, { accessFlags := 24, nameIndex := 47, descriptorIndex := 48, attributes := #[] }, { accessFlags := 24, nameIndex := 71, descriptorIndex := 58, attributes := #[] }, { accessFlags := 8, nameIndex := 57, descriptorIndex := 58, attributes := #[] }, { accessFlags := 4120, nameIndex := 19, descriptorIndex := 20, attributes := #[] }])
  fields := #[{ name := "low", type := .int, accessFlags := 24, slot := 0, constantValue := 0 }, { name := "high", type := .int, accessFlags := 24, slot := 1, constantValue := 0 }, { name := "cache", type := (.array (.object "java/lang/Integer")), accessFlags := 24, slot := 2, constantValue := 0 }, { name := "archivedCache", type := (.array (.object "java/lang/Integer")), accessFlags := 8, slot := 3, constantValue := 0 }, { name := "$assertionsDisabled", type := .boolean, accessFlags := 4120, slot := 4, constantValue := 0 }]
  methods := #[k17m0]
  instanceTypes := #[]
  staticTypes := #[.int, .int, (.array (.object "java/lang/Integer")), (.array (.object "java/lang/Integer")), .boolean]
  resolved := Array.replicate 100 none
  statics := some 1 }

def pool18 : Array CpInfo := pool [(1, u "java/lang/Cloneable"), (0, .class_ 1), (0, u "java/lang/Object"), (0, .class_ 3)] 3

/-- java/lang/Cloneable -/
def k18 : Class := { plain "java/lang/Cloneable" (some 0) with
  accessFlags := 1537
  interfaces := #[]
  cf := some (fileOf pool18 2 #[] #[] 1537 4 #[] #[])
  fields := #[]
  methods := #[]
  instanceTypes := #[]
  staticTypes := #[]
  resolved := Array.replicate 8 none
  statics := none }

/-- the primitive byte -/
def k19 : Class := { plain "byte" none with kind := .primitive 'B', accessFlags := 0x411 }
/-- [B -/
def k20 : Class := { plain "[B" (some 0) with kind := .array 19 .byte, interfaces := #[18, 6], accessFlags := 1041 }

/-- the primitive int -/
def k21 : Class := { plain "int" none with kind := .primitive 'I', accessFlags := 0x411 }
/-- [I -/
def k22 : Class := { plain "[I" (some 0) with kind := .array 21 .int, interfaces := #[18, 6], accessFlags := 1041 }

/-- [Ljava/lang/Integer; -/
def k23 : Class := { plain "[Ljava/lang/Integer;" (some 0) with kind := .array 16 (.object "java/lang/Integer"), interfaces := #[18, 6], accessFlags := 1041 }

def heap : Heap := #[{ cls := 14, slots := #[.ref 259, .null], vm := .statics 14 },
  { cls := 17, slots := #[.int 0, .int 127, .ref 2, .null, .int 0], vm := .statics 17 },
  { cls := 23, slots := #[.ref 3, .ref 4, .ref 5, .ref 6, .ref 7, .ref 8, .ref 9, .ref 10, .ref 11, .ref 12, .ref 13, .ref 14, .ref 15, .ref 16, .ref 17, .ref 18, .ref 19, .ref 20, .ref 21, .ref 22, .ref 23, .ref 24, .ref 25, .ref 26, .ref 27, .ref 28, .ref 29, .ref 30, .ref 31, .ref 32, .ref 33, .ref 34, .ref 35, .ref 36, .ref 37, .ref 38, .ref 39, .ref 40, .ref 41, .ref 42, .ref 43, .ref 44, .ref 45, .ref 46, .ref 47, .ref 48, .ref 49, .ref 50, .ref 51, .ref 52, .ref 53, .ref 54, .ref 55, .ref 56, .ref 57, .ref 58, .ref 59, .ref 60, .ref 61, .ref 62, .ref 63, .ref 64, .ref 65, .ref 66, .ref 67, .ref 68, .ref 69, .ref 70, .ref 71, .ref 72, .ref 73, .ref 74, .ref 75, .ref 76, .ref 77, .ref 78, .ref 79, .ref 80, .ref 81, .ref 82, .ref 83, .ref 84, .ref 85, .ref 86, .ref 87, .ref 88, .ref 89, .ref 90, .ref 91, .ref 92, .ref 93, .ref 94, .ref 95, .ref 96, .ref 97, .ref 98, .ref 99, .ref 100, .ref 101, .ref 102, .ref 103, .ref 104, .ref 105, .ref 106, .ref 107, .ref 108, .ref 109, .ref 110, .ref 111, .ref 112, .ref 113, .ref 114, .ref 115, .ref 116, .ref 117, .ref 118, .ref 119, .ref 120, .ref 121, .ref 122, .ref 123, .ref 124, .ref 125, .ref 126, .ref 127, .ref 128, .ref 129, .ref 130, .ref 131, .ref 132, .ref 133, .ref 134, .ref 135, .ref 136, .ref 137, .ref 138, .ref 139, .ref 140, .ref 141, .ref 142, .ref 143, .ref 144, .ref 145, .ref 146, .ref 147, .ref 148, .ref 149, .ref 150, .ref 151, .ref 152, .ref 153, .ref 154, .ref 155, .ref 156, .ref 157, .ref 158, .ref 159, .ref 160, .ref 161, .ref 162, .ref 163, .ref 164, .ref 165, .ref 166, .ref 167, .ref 168, .ref 169, .ref 170, .ref 171, .ref 172, .ref 173, .ref 174, .ref 175, .ref 176, .ref 177, .ref 178, .ref 179, .ref 180, .ref 181, .ref 182, .ref 183, .ref 184, .ref 185, .ref 186, .ref 187, .ref 188, .ref 189, .ref 190, .ref 191, .ref 192, .ref 193, .ref 194, .ref 195, .ref 196, .ref 197, .ref 198, .ref 199, .ref 200, .ref 201, .ref 202, .ref 203, .ref 204, .ref 205, .ref 206, .ref 207, .ref 208, .ref 209, .ref 210, .ref 211, .ref 212, .ref 213, .ref 214, .ref 215, .ref 216, .ref 217, .ref 218, .ref 219, .ref 220, .ref 221, .ref 222, .ref 223, .ref 224, .ref 225, .ref 226, .ref 227, .ref 228, .ref 229, .ref 230, .ref 231, .ref 232, .ref 233, .ref 234, .ref 235, .ref 236, .ref 237, .ref 238, .ref 239, .ref 240, .ref 241, .ref 242, .ref 243, .ref 244, .ref 245, .ref 246, .ref 247, .ref 248, .ref 249, .ref 250, .ref 251, .ref 252, .ref 253, .ref 254, .ref 255, .ref 256, .ref 257, .ref 258], vm := .none },
  { cls := 16, slots := #[.int (-128)], vm := .none },
  { cls := 16, slots := #[.int (-127)], vm := .none },
  { cls := 16, slots := #[.int (-126)], vm := .none },
  { cls := 16, slots := #[.int (-125)], vm := .none },
  { cls := 16, slots := #[.int (-124)], vm := .none },
  { cls := 16, slots := #[.int (-123)], vm := .none },
  { cls := 16, slots := #[.int (-122)], vm := .none },
  { cls := 16, slots := #[.int (-121)], vm := .none },
  { cls := 16, slots := #[.int (-120)], vm := .none },
  { cls := 16, slots := #[.int (-119)], vm := .none },
  { cls := 16, slots := #[.int (-118)], vm := .none },
  { cls := 16, slots := #[.int (-117)], vm := .none },
  { cls := 16, slots := #[.int (-116)], vm := .none },
  { cls := 16, slots := #[.int (-115)], vm := .none },
  { cls := 16, slots := #[.int (-114)], vm := .none },
  { cls := 16, slots := #[.int (-113)], vm := .none },
  { cls := 16, slots := #[.int (-112)], vm := .none },
  { cls := 16, slots := #[.int (-111)], vm := .none },
  { cls := 16, slots := #[.int (-110)], vm := .none },
  { cls := 16, slots := #[.int (-109)], vm := .none },
  { cls := 16, slots := #[.int (-108)], vm := .none },
  { cls := 16, slots := #[.int (-107)], vm := .none },
  { cls := 16, slots := #[.int (-106)], vm := .none },
  { cls := 16, slots := #[.int (-105)], vm := .none },
  { cls := 16, slots := #[.int (-104)], vm := .none },
  { cls := 16, slots := #[.int (-103)], vm := .none },
  { cls := 16, slots := #[.int (-102)], vm := .none },
  { cls := 16, slots := #[.int (-101)], vm := .none },
  { cls := 16, slots := #[.int (-100)], vm := .none },
  { cls := 16, slots := #[.int (-99)], vm := .none },
  { cls := 16, slots := #[.int (-98)], vm := .none },
  { cls := 16, slots := #[.int (-97)], vm := .none },
  { cls := 16, slots := #[.int (-96)], vm := .none },
  { cls := 16, slots := #[.int (-95)], vm := .none },
  { cls := 16, slots := #[.int (-94)], vm := .none },
  { cls := 16, slots := #[.int (-93)], vm := .none },
  { cls := 16, slots := #[.int (-92)], vm := .none },
  { cls := 16, slots := #[.int (-91)], vm := .none },
  { cls := 16, slots := #[.int (-90)], vm := .none },
  { cls := 16, slots := #[.int (-89)], vm := .none },
  { cls := 16, slots := #[.int (-88)], vm := .none },
  { cls := 16, slots := #[.int (-87)], vm := .none },
  { cls := 16, slots := #[.int (-86)], vm := .none },
  { cls := 16, slots := #[.int (-85)], vm := .none },
  { cls := 16, slots := #[.int (-84)], vm := .none },
  { cls := 16, slots := #[.int (-83)], vm := .none },
  { cls := 16, slots := #[.int (-82)], vm := .none },
  { cls := 16, slots := #[.int (-81)], vm := .none },
  { cls := 16, slots := #[.int (-80)], vm := .none },
  { cls := 16, slots := #[.int (-79)], vm := .none },
  { cls := 16, slots := #[.int (-78)], vm := .none },
  { cls := 16, slots := #[.int (-77)], vm := .none },
  { cls := 16, slots := #[.int (-76)], vm := .none },
  { cls := 16, slots := #[.int (-75)], vm := .none },
  { cls := 16, slots := #[.int (-74)], vm := .none },
  { cls := 16, slots := #[.int (-73)], vm := .none },
  { cls := 16, slots := #[.int (-72)], vm := .none },
  { cls := 16, slots := #[.int (-71)], vm := .none },
  { cls := 16, slots := #[.int (-70)], vm := .none },
  { cls := 16, slots := #[.int (-69)], vm := .none },
  { cls := 16, slots := #[.int (-68)], vm := .none },
  { cls := 16, slots := #[.int (-67)], vm := .none },
  { cls := 16, slots := #[.int (-66)], vm := .none },
  { cls := 16, slots := #[.int (-65)], vm := .none },
  { cls := 16, slots := #[.int (-64)], vm := .none },
  { cls := 16, slots := #[.int (-63)], vm := .none },
  { cls := 16, slots := #[.int (-62)], vm := .none },
  { cls := 16, slots := #[.int (-61)], vm := .none },
  { cls := 16, slots := #[.int (-60)], vm := .none },
  { cls := 16, slots := #[.int (-59)], vm := .none },
  { cls := 16, slots := #[.int (-58)], vm := .none },
  { cls := 16, slots := #[.int (-57)], vm := .none },
  { cls := 16, slots := #[.int (-56)], vm := .none },
  { cls := 16, slots := #[.int (-55)], vm := .none },
  { cls := 16, slots := #[.int (-54)], vm := .none },
  { cls := 16, slots := #[.int (-53)], vm := .none },
  { cls := 16, slots := #[.int (-52)], vm := .none },
  { cls := 16, slots := #[.int (-51)], vm := .none },
  { cls := 16, slots := #[.int (-50)], vm := .none },
  { cls := 16, slots := #[.int (-49)], vm := .none },
  { cls := 16, slots := #[.int (-48)], vm := .none },
  { cls := 16, slots := #[.int (-47)], vm := .none },
  { cls := 16, slots := #[.int (-46)], vm := .none },
  { cls := 16, slots := #[.int (-45)], vm := .none },
  { cls := 16, slots := #[.int (-44)], vm := .none },
  { cls := 16, slots := #[.int (-43)], vm := .none },
  { cls := 16, slots := #[.int (-42)], vm := .none },
  { cls := 16, slots := #[.int (-41)], vm := .none },
  { cls := 16, slots := #[.int (-40)], vm := .none },
  { cls := 16, slots := #[.int (-39)], vm := .none },
  { cls := 16, slots := #[.int (-38)], vm := .none },
  { cls := 16, slots := #[.int (-37)], vm := .none },
  { cls := 16, slots := #[.int (-36)], vm := .none },
  { cls := 16, slots := #[.int (-35)], vm := .none },
  { cls := 16, slots := #[.int (-34)], vm := .none },
  { cls := 16, slots := #[.int (-33)], vm := .none },
  { cls := 16, slots := #[.int (-32)], vm := .none },
  { cls := 16, slots := #[.int (-31)], vm := .none },
  { cls := 16, slots := #[.int (-30)], vm := .none },
  { cls := 16, slots := #[.int (-29)], vm := .none },
  { cls := 16, slots := #[.int (-28)], vm := .none },
  { cls := 16, slots := #[.int (-27)], vm := .none },
  { cls := 16, slots := #[.int (-26)], vm := .none },
  { cls := 16, slots := #[.int (-25)], vm := .none },
  { cls := 16, slots := #[.int (-24)], vm := .none },
  { cls := 16, slots := #[.int (-23)], vm := .none },
  { cls := 16, slots := #[.int (-22)], vm := .none },
  { cls := 16, slots := #[.int (-21)], vm := .none },
  { cls := 16, slots := #[.int (-20)], vm := .none },
  { cls := 16, slots := #[.int (-19)], vm := .none },
  { cls := 16, slots := #[.int (-18)], vm := .none },
  { cls := 16, slots := #[.int (-17)], vm := .none },
  { cls := 16, slots := #[.int (-16)], vm := .none },
  { cls := 16, slots := #[.int (-15)], vm := .none },
  { cls := 16, slots := #[.int (-14)], vm := .none },
  { cls := 16, slots := #[.int (-13)], vm := .none },
  { cls := 16, slots := #[.int (-12)], vm := .none },
  { cls := 16, slots := #[.int (-11)], vm := .none },
  { cls := 16, slots := #[.int (-10)], vm := .none },
  { cls := 16, slots := #[.int (-9)], vm := .none },
  { cls := 16, slots := #[.int (-8)], vm := .none },
  { cls := 16, slots := #[.int (-7)], vm := .none },
  { cls := 16, slots := #[.int (-6)], vm := .none },
  { cls := 16, slots := #[.int (-5)], vm := .none },
  { cls := 16, slots := #[.int (-4)], vm := .none },
  { cls := 16, slots := #[.int (-3)], vm := .none },
  { cls := 16, slots := #[.int (-2)], vm := .none },
  { cls := 16, slots := #[.int (-1)], vm := .none },
  { cls := 16, slots := #[.int (0)], vm := .none },
  { cls := 16, slots := #[.int (1)], vm := .none },
  { cls := 16, slots := #[.int (2)], vm := .none },
  { cls := 16, slots := #[.int (3)], vm := .none },
  { cls := 16, slots := #[.int (4)], vm := .none },
  { cls := 16, slots := #[.int (5)], vm := .none },
  { cls := 16, slots := #[.int (6)], vm := .none },
  { cls := 16, slots := #[.int (7)], vm := .none },
  { cls := 16, slots := #[.int (8)], vm := .none },
  { cls := 16, slots := #[.int (9)], vm := .none },
  { cls := 16, slots := #[.int (10)], vm := .none },
  { cls := 16, slots := #[.int (11)], vm := .none },
  { cls := 16, slots := #[.int (12)], vm := .none },
  { cls := 16, slots := #[.int (13)], vm := .none },
  { cls := 16, slots := #[.int (14)], vm := .none },
  { cls := 16, slots := #[.int (15)], vm := .none },
  { cls := 16, slots := #[.int (16)], vm := .none },
  { cls := 16, slots := #[.int (17)], vm := .none },
  { cls := 16, slots := #[.int (18)], vm := .none },
  { cls := 16, slots := #[.int (19)], vm := .none },
  { cls := 16, slots := #[.int (20)], vm := .none },
  { cls := 16, slots := #[.int (21)], vm := .none },
  { cls := 16, slots := #[.int (22)], vm := .none },
  { cls := 16, slots := #[.int (23)], vm := .none },
  { cls := 16, slots := #[.int (24)], vm := .none },
  { cls := 16, slots := #[.int (25)], vm := .none },
  { cls := 16, slots := #[.int (26)], vm := .none },
  { cls := 16, slots := #[.int (27)], vm := .none },
  { cls := 16, slots := #[.int (28)], vm := .none },
  { cls := 16, slots := #[.int (29)], vm := .none },
  { cls := 16, slots := #[.int (30)], vm := .none },
  { cls := 16, slots := #[.int (31)], vm := .none },
  { cls := 16, slots := #[.int (32)], vm := .none },
  { cls := 16, slots := #[.int (33)], vm := .none },
  { cls := 16, slots := #[.int (34)], vm := .none },
  { cls := 16, slots := #[.int (35)], vm := .none },
  { cls := 16, slots := #[.int (36)], vm := .none },
  { cls := 16, slots := #[.int (37)], vm := .none },
  { cls := 16, slots := #[.int (38)], vm := .none },
  { cls := 16, slots := #[.int (39)], vm := .none },
  { cls := 16, slots := #[.int (40)], vm := .none },
  { cls := 16, slots := #[.int (41)], vm := .none },
  { cls := 16, slots := #[.int (42)], vm := .none },
  { cls := 16, slots := #[.int (43)], vm := .none },
  { cls := 16, slots := #[.int (44)], vm := .none },
  { cls := 16, slots := #[.int (45)], vm := .none },
  { cls := 16, slots := #[.int (46)], vm := .none },
  { cls := 16, slots := #[.int (47)], vm := .none },
  { cls := 16, slots := #[.int (48)], vm := .none },
  { cls := 16, slots := #[.int (49)], vm := .none },
  { cls := 16, slots := #[.int (50)], vm := .none },
  { cls := 16, slots := #[.int (51)], vm := .none },
  { cls := 16, slots := #[.int (52)], vm := .none },
  { cls := 16, slots := #[.int (53)], vm := .none },
  { cls := 16, slots := #[.int (54)], vm := .none },
  { cls := 16, slots := #[.int (55)], vm := .none },
  { cls := 16, slots := #[.int (56)], vm := .none },
  { cls := 16, slots := #[.int (57)], vm := .none },
  { cls := 16, slots := #[.int (58)], vm := .none },
  { cls := 16, slots := #[.int (59)], vm := .none },
  { cls := 16, slots := #[.int (60)], vm := .none },
  { cls := 16, slots := #[.int (61)], vm := .none },
  { cls := 16, slots := #[.int (62)], vm := .none },
  { cls := 16, slots := #[.int (63)], vm := .none },
  { cls := 16, slots := #[.int (64)], vm := .none },
  { cls := 16, slots := #[.int (65)], vm := .none },
  { cls := 16, slots := #[.int (66)], vm := .none },
  { cls := 16, slots := #[.int (67)], vm := .none },
  { cls := 16, slots := #[.int (68)], vm := .none },
  { cls := 16, slots := #[.int (69)], vm := .none },
  { cls := 16, slots := #[.int (70)], vm := .none },
  { cls := 16, slots := #[.int (71)], vm := .none },
  { cls := 16, slots := #[.int (72)], vm := .none },
  { cls := 16, slots := #[.int (73)], vm := .none },
  { cls := 16, slots := #[.int (74)], vm := .none },
  { cls := 16, slots := #[.int (75)], vm := .none },
  { cls := 16, slots := #[.int (76)], vm := .none },
  { cls := 16, slots := #[.int (77)], vm := .none },
  { cls := 16, slots := #[.int (78)], vm := .none },
  { cls := 16, slots := #[.int (79)], vm := .none },
  { cls := 16, slots := #[.int (80)], vm := .none },
  { cls := 16, slots := #[.int (81)], vm := .none },
  { cls := 16, slots := #[.int (82)], vm := .none },
  { cls := 16, slots := #[.int (83)], vm := .none },
  { cls := 16, slots := #[.int (84)], vm := .none },
  { cls := 16, slots := #[.int (85)], vm := .none },
  { cls := 16, slots := #[.int (86)], vm := .none },
  { cls := 16, slots := #[.int (87)], vm := .none },
  { cls := 16, slots := #[.int (88)], vm := .none },
  { cls := 16, slots := #[.int (89)], vm := .none },
  { cls := 16, slots := #[.int (90)], vm := .none },
  { cls := 16, slots := #[.int (91)], vm := .none },
  { cls := 16, slots := #[.int (92)], vm := .none },
  { cls := 16, slots := #[.int (93)], vm := .none },
  { cls := 16, slots := #[.int (94)], vm := .none },
  { cls := 16, slots := #[.int (95)], vm := .none },
  { cls := 16, slots := #[.int (96)], vm := .none },
  { cls := 16, slots := #[.int (97)], vm := .none },
  { cls := 16, slots := #[.int (98)], vm := .none },
  { cls := 16, slots := #[.int (99)], vm := .none },
  { cls := 16, slots := #[.int (100)], vm := .none },
  { cls := 16, slots := #[.int (101)], vm := .none },
  { cls := 16, slots := #[.int (102)], vm := .none },
  { cls := 16, slots := #[.int (103)], vm := .none },
  { cls := 16, slots := #[.int (104)], vm := .none },
  { cls := 16, slots := #[.int (105)], vm := .none },
  { cls := 16, slots := #[.int (106)], vm := .none },
  { cls := 16, slots := #[.int (107)], vm := .none },
  { cls := 16, slots := #[.int (108)], vm := .none },
  { cls := 16, slots := #[.int (109)], vm := .none },
  { cls := 16, slots := #[.int (110)], vm := .none },
  { cls := 16, slots := #[.int (111)], vm := .none },
  { cls := 16, slots := #[.int (112)], vm := .none },
  { cls := 16, slots := #[.int (113)], vm := .none },
  { cls := 16, slots := #[.int (114)], vm := .none },
  { cls := 16, slots := #[.int (115)], vm := .none },
  { cls := 16, slots := #[.int (116)], vm := .none },
  { cls := 16, slots := #[.int (117)], vm := .none },
  { cls := 16, slots := #[.int (118)], vm := .none },
  { cls := 16, slots := #[.int (119)], vm := .none },
  { cls := 16, slots := #[.int (120)], vm := .none },
  { cls := 16, slots := #[.int (121)], vm := .none },
  { cls := 16, slots := #[.int (122)], vm := .none },
  { cls := 16, slots := #[.int (123)], vm := .none },
  { cls := 16, slots := #[.int (124)], vm := .none },
  { cls := 16, slots := #[.int (125)], vm := .none },
  { cls := 16, slots := #[.int (126)], vm := .none },
  { cls := 16, slots := #[.int (127)], vm := .none },
  { cls := 14, slots := #[.null, .int 0, .int 0], vm := .none }]
def classes : Array Class := #[k0, k1, k2, k3, k4, k5, k6, k7, k8, k9, k10, k11, k12, k13, k14, k15, k16, k17, k18, k19, k20, k21, k22, k23]
def interned : List (Array UInt16 × Addr) := []
def slotsUsed : Nat := 522
def theMethod : MethodId := ⟨1, 1⟩
def args0 : Array Value := #[.int 5, .int 6, .int 7]
def aboutOver (below : List Frame) : State where
  vm := { classes := classes, interned := interned.toArray }
  heap := heap
  slotsUsed := slotsUsed
  threads := #[{ frames := .invoking theMethod args0 :: below }]
def below0 : List Frame := [.native { method := ⟨0, 0⟩, args := #[] }]
def about1 : State := aboutOver below0
def p0 : Program := .bare "" "" ""
def e0 : Env := launch0.env 0 0 0
theorem w_frames : about1.frames = Frame.invoking theMethod args0 :: below0 := rfl
set_option maxRecDepth 65536 in
theorem w_args : argsFit about1.vm theMethod args0 = true := by decide +kernel
set_option maxRecDepth 65536 in
theorem w_heap : heapFits about1 = true := by decide +kernel
set_option maxRecDepth 65536 in
theorem w_runnable : about1.curStatus? = some .runnable := by decide +kernel
set_option maxRecDepth 65536 in
theorem w_alone : about1.alone = true := by decide +kernel
set_option maxRecDepth 65536 in
theorem w_named : about1.methodNamed? x = some theMethod := by decide +kernel
set_option maxRecDepth 65536 in
theorem w_hears : about1.hears theMethod below0 = true := by decide +kernel
set_option maxRecDepth 65536 in
theorem w_ripe : about1.ripe theMethod args0 below0 = true := by decide +kernel
theorem w_running : about1.status = .running := rfl
set_option maxRecDepth 65536 in
theorem w_room : about1.hasRoom e0.platform room_1 = true :=
  launch0.hasRoom_least _ room_1 (by decide +kernel) (by decide +kernel) (by decide +kernel) (by decide +kernel) (by decide +kernel) (by decide +kernel)
theorem allAtoms_all (ts : List Jvm.Cond) (a : Array Jvm.Value) (st : Jvm.State) : (allAtoms ts).before a st = ts.all (fun c => c.before a st) := by
  induction ts with
  | nil => rfl
  | cons c t ih =>
    show (Jvm.Cond.and c (allAtoms t)).before a st = _
    rw [Jvm.Cond.before_and, ih, List.all_cons]
def words1 : List Jvm.Cond := Jvm.Cond.code x code maxLocals ret :: tables_1
/-- a 'code' word, met by the world's own term for the bytes: nothing is compared byte by byte -/
theorem code_word {y : MethodName} {bytes : ByteArray} {mx : Nat} {rt : Option FieldType} {a : Array Value} {s : State} {m : MethodId} {meth : Method} {c : Code} (h1 : s.methodNamed? y = some m) (h2 : s.vm.method? m = some meth) (h3 : meth.code = some c) (h4 : c.code = bytes)
    (h5 : (c.maxLocals == mx && c.exceptionTable.isEmpty && decide (c.maxStack ≤ mostOperands) && decide (meth.sig.returnType = rt) && !meth.locks && decide (parseMethodDescriptor y.desc = some meth.sig)) = true) : (Jvm.Cond.code y bytes mx rt).before a s = true := by
  simp only [Bool.and_eq_true, beq_iff_eq, Bool.not_eq_true', decide_eq_true_eq] at h5
  obtain ⟨⟨⟨⟨⟨g1, g2⟩, g3⟩, g4⟩, g5⟩, g6⟩ := h5
  simp [Cond.before, Cond.holds, Cond.value, h1, h2, h3, h4, g1, g2, g3, g4, g5, g6]
def isCode : Jvm.Cond → Bool
  | .code _ _ _ _ => true
  | _ => false
theorem all_split {L : List Jvm.Cond} {P : Jvm.Cond → Bool} (h1 : L.all (fun c => isCode c || P c) = true) (h2 : ∀ c ∈ L.filter isCode, P c = true) : L.all P = true := by
  refine List.all_eq_true.mpr fun c hc => ?_
  have h := List.all_eq_true.mp h1 c hc
  rcases Bool.eq_false_or_eq_true (isCode c) with hi | hi
  · exact h2 c (List.mem_filter.mpr ⟨hc, hi⟩)
  · simpa [hi] using h
set_option maxRecDepth 65536 in
theorem w_c0 : (Jvm.Cond.code x code maxLocals ret).before args0 about1 = true := code_word (m := ⟨1, 1⟩) (meth := k1m1) (c := k1c1) (by decide +kernel) rfl rfl rfl (by decide +kernel)
set_option maxRecDepth 65536 in
theorem w_c1 : (Jvm.Cond.code ({ cls := "com/example/termweave/termweave/term/BitVecSort", name := "<init>", desc := "(I)V" } : Jvm.MethodName) prog_106_method_1_code (2 : Nat) (Option.none : Option Jvm.ClassFile.FieldType)).before args0 about1 = true := code_word (m := ⟨4, 0⟩) (meth := k4m0) (c := k4c0) (by decide +kernel) rfl rfl rfl (by decide +kernel)
set_option maxRecDepth 65536 in
theorem w_c2 : (Jvm.Cond.code ({ cls := "java/lang/Record", name := "<init>", desc := "()V" } : Jvm.MethodName) jdk_30_method_1_code (1 : Nat) (Option.none : Option Jvm.ClassFile.FieldType)).before args0 about1 = true := code_word (m := ⟨2, 0⟩) (meth := k2m0) (c := k2c0) (by decide +kernel) rfl rfl rfl (by decide +kernel)
set_option maxRecDepth 65536 in
theorem w_c3 : (Jvm.Cond.code ({ cls := "java/lang/Object", name := "<init>", desc := "()V" } : Jvm.MethodName) object_method_1_code (1 : Nat) (Option.none : Option Jvm.ClassFile.FieldType)).before args0 about1 = true := code_word (m := ⟨0, 0⟩) (meth := k0m0) (c := k0c0) (by decide +kernel) rfl rfl rfl (by decide +kernel)
set_option maxRecDepth 65536 in
theorem w_c4 : (Jvm.Cond.code ({ cls := "com/example/termweave/termweave/term/BitVecSort", name := "equals", desc := "(Ljava/lang/Object;)Z" } : Jvm.MethodName) prog_106_method_4_code (3 : Nat) (Option.some Jvm.ClassFile.FieldType.boolean)).before args0 about1 = true := code_word (m := ⟨4, 1⟩) (meth := k4m1) (c := k4c1) (by decide +kernel) rfl rfl rfl (by decide +kernel)
set_option maxRecDepth 65536 in
theorem w_c5 : (Jvm.Cond.code ({ cls := "com/example/termweave/termweave/term/ArraySort", name := "<init>", desc := "(Lcom/example/termweave/termweave/term/Sort;Lcom/example/termweave/termweave/term/Sort;)V" } : Jvm.MethodName) prog_102_method_1_code (3 : Nat) (Option.none : Option Jvm.ClassFile.FieldType)).before args0 about1 = true := code_word (m := ⟨5, 0⟩) (meth := k5m0) (c := k5c0) (by decide +kernel) rfl rfl rfl (by decide +kernel)
set_option maxRecDepth 65536 in
theorem w_c6 : (Jvm.Cond.code ({ cls := "java/util/Objects", name := "requireNonNull", desc := "(Ljava/lang/Object;Ljava/lang/String;)Ljava/lang/Object;" } : Jvm.MethodName) jdk_31_method_11_code (2 : Nat) (Option.some (Jvm.ClassFile.FieldType.object "java/lang/Object"))).before args0 about1 = true := code_word (m := ⟨12, 1⟩) (meth := k12m1) (c := k12c1) (by decide +kernel) rfl rfl rfl (by decide +kernel)
set_option maxRecDepth 65536 in
theorem w_c7 : (Jvm.Cond.code ({ cls := "java/lang/Integer", name := "valueOf", desc := "(I)Ljava/lang/Integer;" } : Jvm.MethodName) jdk_33_method_22_code (1 : Nat) (Option.some (Jvm.ClassFile.FieldType.object "java/lang/Integer"))).before args0 about1 = true := code_word (m := ⟨16, 0⟩) (meth := k16m0) (c := k16c0) (by decide +kernel) rfl rfl rfl (by decide +kernel)
set_option maxRecDepth 65536 in
theorem w_c8 : (Jvm.Cond.code ({ cls := "java/lang/Integer", name := "<init>", desc := "(I)V" } : Jvm.MethodName) jdk_33_method_23_code (2 : Nat) (Option.none : Option Jvm.ClassFile.FieldType)).before args0 about1 = true := code_word (m := ⟨16, 1⟩) (meth := k16m1) (c := k16c1) (by decide +kernel) rfl rfl rfl (by decide +kernel)
set_option maxRecDepth 65536 in
theorem w_c9 : (Jvm.Cond.code ({ cls := "java/lang/Number", name := "<init>", desc := "()V" } : Jvm.MethodName) jdk_18_method_1_code (1 : Nat) (Option.none : Option Jvm.ClassFile.FieldType)).before args0 about1 = true := code_word (m := ⟨15, 0⟩) (meth := k15m0) (c := k15c0) (by decide +kernel) rfl rfl rfl (by decide +kernel)
def codes1 : List Jvm.Cond := [Jvm.Cond.code x code maxLocals ret, Jvm.Cond.code ({ cls := "com/example/termweave/termweave/term/BitVecSort", name := "<init>", desc := "(I)V" } : Jvm.MethodName) prog_106_method_1_code (2 : Nat) (Option.none : Option Jvm.ClassFile.FieldType), Jvm.Cond.code ({ cls := "java/lang/Record", name := "<init>", desc := "()V" } : Jvm.MethodName) jdk_30_method_1_code (1 : Nat) (Option.none : Option Jvm.ClassFile.FieldType), Jvm.Cond.code ({ cls := "java/lang/Object", name := "<init>", desc := "()V" } : Jvm.MethodName) object_method_1_code (1 : Nat) (Option.none : Option Jvm.ClassFile.FieldType), Jvm.Cond.code ({ cls := "com/example/termweave/termweave/term/BitVecSort", name := "equals", desc := "(Ljava/lang/Object;)Z" } : Jvm.MethodName) prog_106_method_4_code (3 : Nat) (Option.some Jvm.ClassFile.FieldType.boolean), Jvm.Cond.code ({ cls := "com/example/termweave/termweave/term/ArraySort", name := "<init>", desc := "(Lcom/example/termweave/termweave/term/Sort;Lcom/example/termweave/termweave/term/Sort;)V" } : Jvm.MethodName) prog_102_method_1_code (3 : Nat) (Option.none : Option Jvm.ClassFile.FieldType), Jvm.Cond.code ({ cls := "java/util/Objects", name := "requireNonNull", desc := "(Ljava/lang/Object;Ljava/lang/String;)Ljava/lang/Object;" } : Jvm.MethodName) jdk_31_method_11_code (2 : Nat) (Option.some (Jvm.ClassFile.FieldType.object "java/lang/Object")), Jvm.Cond.code ({ cls := "java/lang/Integer", name := "valueOf", desc := "(I)Ljava/lang/Integer;" } : Jvm.MethodName) jdk_33_method_22_code (1 : Nat) (Option.some (Jvm.ClassFile.FieldType.object "java/lang/Integer")), Jvm.Cond.code ({ cls := "java/lang/Integer", name := "<init>", desc := "(I)V" } : Jvm.MethodName) jdk_33_method_23_code (2 : Nat) (Option.none : Option Jvm.ClassFile.FieldType), Jvm.Cond.code ({ cls := "java/lang/Number", name := "<init>", desc := "()V" } : Jvm.MethodName) jdk_18_method_1_code (1 : Nat) (Option.none : Option Jvm.ClassFile.FieldType)]
set_option maxRecDepth 65536 in
theorem codes_eq : words1.filter isCode = codes1 := rfl
theorem w_codes : ∀ c ∈ words1.filter isCode, c.before args0 about1 = true := by
  rw [codes_eq]
  intro c hc
  simp only [codes1, List.mem_cons, List.not_mem_nil, or_false] at hc
  rcases hc with rfl | rfl | rfl | rfl | rfl | rfl | rfl | rfl | rfl | rfl
  · exact w_c0
  · exact w_c1
  · exact w_c2
  · exact w_c3
  · exact w_c4
  · exact w_c5
  · exact w_c6
  · exact w_c7
  · exact w_c8
  · exact w_c9
set_option maxRecDepth 65536 in
theorem w_t1 : (words1.take 24).all (fun c => isCode c || c.before args0 about1) = true := by decide +kernel
set_option maxRecDepth 65536 in
theorem w_t2 : ((words1.drop 24).take 24).all (fun c => isCode c || c.before args0 about1) = true := by decide +kernel
set_option maxRecDepth 65536 in
theorem w_t3 : (((words1.drop 24).drop 24).take 24).all (fun c => isCode c || c.before args0 about1) = true := by decide +kernel
set_option maxRecDepth 65536 in
theorem w_t4 : (((words1.drop 24).drop 24).drop 24).all (fun c => isCode c || c.before args0 about1) = true := by decide +kernel
theorem w_tables : (allAtoms (Jvm.Cond.code x code maxLocals ret :: tables_1)).before args0 about1 = true := by
  rw [allAtoms_all]
  show words1.all (fun c => c.before args0 about1) = true
  refine all_split ?_ w_codes
  rw [← List.take_append_drop 24 words1, List.all_append, w_t1, ← List.take_append_drop 24 (words1.drop 24), List.all_append, w_t2, ← List.take_append_drop 24 ((words1.drop 24).drop 24), List.all_append, w_t3, w_t4]
  rfl
set_option maxRecDepth 65536 in
theorem w_rest : rest_1_c.before args0 about1 = true := by decide +kernel
set_option maxRecDepth 65536 in
theorem w_case : (Jvm.Cond.and given_1 narrow_1).before args0 about1 = true := by decide +kernel
theorem w_applies : (headSpec (Jvm.Cond.code x code maxLocals ret :: tables_1) room_1).applies x e0.platform about1 = true :=
  (Spec.applies_iff w_frames).mpr ⟨w_running, w_runnable, w_alone, w_named, w_hears, w_ripe, w_room, w_tables⟩
theorem atStart : AtStart classFile x code maxLocals ret World_1 tables_1 room_1 Calls_1 rest_1 Pre_1 launch0 p0 e0 about1 theMethod args0 below0 :=
  ⟨lists_1, trivial, launch0.admits_env _ _ _, launch0.least_env, fairChoices_fair.cas, fairChoices_fair.clock, w_frames, w_args, w_heap, w_applies, trivial, w_rest, w_case⟩
end start1
theorem witness_1 : WitnessClaimed_1 := ⟨start1.p0, start1.e0, start1.about1, start1.theMethod, start1.args0, start1.below0, start1.atStart⟩
end Jvm.Pilot.@@N@@
