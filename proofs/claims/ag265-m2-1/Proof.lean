import JvmDerived
import JvmDerived.Pilot.@@N@@Statement
import JvmDerived.Pilot.@@N@@Code
set_option linter.unusedVariables false
set_option linter.unusedSimpArgs false
namespace Jvm.RoadKit
open Sem ClassFile Op Lib Jvm.Stand Jvm.Free Jvm.LawKit
section New
variable {p : Program} {l : Launch} {e : Env} {R : Room} {s : State} {m : MethodId} {args : Array Value} {below : List Frame} {meth : Method} {c : Code} {T : State} {locs : List Loc} {cells slots : Nat}
theorem retI (X : Stand p l e R s m args below meth c T locs cells slots) (hx : p.tables.exec = Jvm.exec) {pc : Nat} {Ls : Array Slot} {z : Int32} {rest : List Value} (hret : meth.sig.returnType = some .int) (hd : decode c.code pc = .ok (.ireturn, 1)) {fs : List Frame}
    (hl : ∀ (f : JFrame) (acts : List Action), f.method = m → f.locked = none → f.entered = [] → (doReturn e (T.setTop f) acts (some (.int z))).1 = T.setFrames fs) : Steps p.tables e below (T.setTop (mkF m pc Ls (.int z :: rest))) (T.setFrames fs) := by
  have hm' : T.vm.method? m = some meth := X.method'
  have hn : narrow .int (.int z) = .int z := rfl
  show Steps p.tables e below (T.setTop { method := m, pc := pc, locals := Ls, stack := _ :: rest, locked := none }) _
  jvm_step X.here [X.here.top, hx, hd, hm', hret, hn]
  first | (intro acts; rw [hl _ acts rfl rfl rfl]) | rw [hl _ _ rfl rfl rfl]
  exact Steps.refl _
end New
end Jvm.RoadKit
namespace Jvm.Pilot.@@N@@
open Jvm Jvm.ClassFile Sem Op Lib Jvm.Free Jvm.Stand Jvm.LawKit Jvm.RoadKit Bundle Jvm.Pilot.@@N@@.Jvm.D
abbrev lv (x : Int64) : Slot := .val (.long x)
theorem im (i : Nat) {d : Jvm.Cond} (h : tables_1[i]? = some d) : d ∈ tables_1 := List.mem_of_getElem? h
theorem own_go {tb : Tables} {e : Env} {below : List Frame} {S S' S0 : State} (P : ∀ t, Steps tb e below S t → Steps tb e below S0 t) (f : ∀ t, Steps tb e below S' t → Steps tb e below S t) : ∀ t, Steps tb e below S' t → Steps tb e below S0 t := fun t k => P t (f t k)
theorem own_sn {Z : State} {a0 : Array Value} {K O n d O' n' d' : String} (L : Laid Z a0 K O n d) (L' : Laid Z a0 K O' n' d') (hn : n ≠ n' := by decide) (ht : (parseFieldDescriptor d).isSome = true := by decide) (ht' : (parseFieldDescriptor d').isSome = true := by decide) : Jvm.RoadKit.slotOf Z O n d ≠ Jvm.RoadKit.slotOf Z O' n' d' := by
  obtain ⟨t, e⟩ := Option.isSome_iff_exists.mp ht
  obtain ⟨t', e'⟩ := Option.isSome_iff_exists.mp ht'
  exact slot_ne L L' hn e e'
theorem pn_0 : plainName "com/example/vestline/vestline/plan/RothOnlyAboveWagesHoldsPinLaw" = true := by first | (simp [plainName, overriddenIn]; done) | decide +kernel
theorem d1_0 : decode jdk_42_method_3_code 0 = .ok (.aload_n 0, 1) := by decide +kernel
theorem d1_1 : decode jdk_42_method_3_code 1 = .ok (.aload_n 1, 1) := by decide +kernel
theorem d1_2 : decode jdk_42_method_3_code 2 = .ok (.iconst 0, 1) := by decide +kernel
theorem d1_3 : decode jdk_42_method_3_code 3 = .ok (.aload_n 1, 1) := by decide +kernel
theorem d1_4 : decode jdk_42_method_3_code 4 = .ok (.arraylength, 1) := by decide +kernel
theorem d1_5 : decode jdk_42_method_3_code 5 = .ok (.aconst_null, 1) := by decide +kernel
theorem d1_6 : decode jdk_42_method_3_code 6 = .ok (.invokespecial 27, 3) := by decide +kernel
theorem d1_9 : decode jdk_42_method_3_code 9 = .ok (.return_, 1) := by decide +kernel
theorem pn_1 : plainName "java/lang/String" = true := by first | (simp [plainName, overriddenIn]; done) | decide +kernel
theorem d2_0 : decode jdk_42_method_149_code 0 = .ok (.aload_n 0, 1) := by decide +kernel
theorem d2_1 : decode jdk_42_method_149_code 1 = .ok (.invokespecial 1, 3) := by decide +kernel
theorem d2_4 : decode jdk_42_method_149_code 4 = .ok (.iload_n 3, 1) := by decide +kernel
theorem d2_5 : decode jdk_42_method_149_code 5 = .ok (.ifCond .ne 22, 3) := by decide +kernel
theorem d2_8 : decode jdk_42_method_149_code 8 = .ok (.aload_n 0, 1) := by decide +kernel
theorem d2_9 : decode jdk_42_method_149_code 9 = .ok (.ldc 7, 2) := by decide +kernel
theorem d2_11 : decode jdk_42_method_149_code 11 = .ok (.getfield 9, 3) := by decide +kernel
theorem d2_14 : decode jdk_42_method_149_code 14 = .ok (.putfield 9, 3) := by decide +kernel
theorem d2_17 : decode jdk_42_method_149_code 17 = .ok (.aload_n 0, 1) := by decide +kernel
theorem d2_18 : decode jdk_42_method_149_code 18 = .ok (.ldc 7, 2) := by decide +kernel
theorem d2_20 : decode jdk_42_method_149_code 20 = .ok (.getfield 15, 3) := by decide +kernel
theorem d2_23 : decode jdk_42_method_149_code 23 = .ok (.putfield 15, 3) := by decide +kernel
theorem d2_26 : decode jdk_42_method_149_code 26 = .ok (.return_, 1) := by decide +kernel
theorem d2_27 : decode jdk_42_method_149_code 27 = .ok (.getstatic 38, 3) := by decide +kernel
theorem d2_30 : decode jdk_42_method_149_code 30 = .ok (.ifCond .eq 28, 3) := by decide +kernel
theorem d2_33 : decode jdk_42_method_149_code 33 = .ok (.aload_n 1, 1) := by decide +kernel
theorem d2_34 : decode jdk_42_method_149_code 34 = .ok (.iload_n 2, 1) := by decide +kernel
theorem d2_35 : decode jdk_42_method_149_code 35 = .ok (.iload_n 3, 1) := by decide +kernel
theorem d2_36 : decode jdk_42_method_149_code 36 = .ok (.invokestatic 177, 3) := by decide +kernel
theorem d2_39 : decode jdk_42_method_149_code 39 = .ok (.astore 5, 2) := by decide +kernel
theorem d2_41 : decode jdk_42_method_149_code 41 = .ok (.aload_n 0, 1) := by decide +kernel
theorem d2_42 : decode jdk_42_method_149_code 42 = .ok (.aload 5, 2) := by decide +kernel
theorem d2_44 : decode jdk_42_method_149_code 44 = .ok (.iload_n 3, 1) := by decide +kernel
theorem d2_45 : decode jdk_42_method_149_code 45 = .ok (.invokestatic 47, 3) := by decide +kernel
theorem d2_48 : decode jdk_42_method_149_code 48 = .ok (.putfield 15, 3) := by decide +kernel
theorem d2_51 : decode jdk_42_method_149_code 51 = .ok (.aload_n 0, 1) := by decide +kernel
theorem d2_52 : decode jdk_42_method_149_code 52 = .ok (.aload 5, 2) := by decide +kernel
theorem d2_54 : decode jdk_42_method_149_code 54 = .ok (.putfield 9, 3) := by decide +kernel
theorem d2_57 : decode jdk_42_method_149_code 57 = .ok (.return_, 1) := by decide +kernel
theorem d2_58 : decode jdk_42_method_149_code 58 = .ok (.aload_n 0, 1) := by decide +kernel
theorem d2_59 : decode jdk_42_method_149_code 59 = .ok (.iconst 1, 1) := by decide +kernel
theorem d2_60 : decode jdk_42_method_149_code 60 = .ok (.putfield 15, 3) := by decide +kernel
theorem d2_63 : decode jdk_42_method_149_code 63 = .ok (.aload_n 0, 1) := by decide +kernel
theorem d2_64 : decode jdk_42_method_149_code 64 = .ok (.aload_n 1, 1) := by decide +kernel
theorem d2_65 : decode jdk_42_method_149_code 65 = .ok (.iload_n 2, 1) := by decide +kernel
theorem d2_66 : decode jdk_42_method_149_code 66 = .ok (.iload_n 3, 1) := by decide +kernel
theorem d2_67 : decode jdk_42_method_149_code 67 = .ok (.invokestatic 180, 3) := by decide +kernel
theorem d2_70 : decode jdk_42_method_149_code 70 = .ok (.putfield 9, 3) := by decide +kernel
theorem d2_73 : decode jdk_42_method_149_code 73 = .ok (.return_, 1) := by decide +kernel
theorem pn_2 : plainName "java/lang/String" = true := by first | (simp [plainName, overriddenIn]; done) | decide +kernel
theorem d4_0 : decode jdk_52_method_16_code 0 = .ok (.iload_n 2, 1) := by decide +kernel
theorem d4_1 : decode jdk_52_method_16_code 1 = .ok (.newarray .byte, 2) := by decide +kernel
theorem d4_3 : decode jdk_52_method_16_code 3 = .ok (.astore_n 3, 1) := by decide +kernel
theorem d4_4 : decode jdk_52_method_16_code 4 = .ok (.aload_n 0, 1) := by decide +kernel
theorem d4_5 : decode jdk_52_method_16_code 5 = .ok (.iload_n 1, 1) := by decide +kernel
theorem d4_6 : decode jdk_52_method_16_code 6 = .ok (.aload_n 3, 1) := by decide +kernel
theorem d4_7 : decode jdk_52_method_16_code 7 = .ok (.iconst 0, 1) := by decide +kernel
theorem d4_8 : decode jdk_52_method_16_code 8 = .ok (.iload_n 2, 1) := by decide +kernel
theorem d4_9 : decode jdk_52_method_16_code 9 = .ok (.invokestatic 115, 3) := by decide +kernel
theorem d4_12 : decode jdk_52_method_16_code 12 = .ok (.istore 4, 2) := by decide +kernel
theorem d4_14 : decode jdk_52_method_16_code 14 = .ok (.iload 4, 2) := by decide +kernel
theorem d4_16 : decode jdk_52_method_16_code 16 = .ok (.iload_n 2, 1) := by decide +kernel
theorem d4_17 : decode jdk_52_method_16_code 17 = .ok (.if_icmp .eq 40, 3) := by decide +kernel
theorem d4_20 : decode jdk_52_method_16_code 20 = .ok (.aload_n 0, 1) := by decide +kernel
theorem d4_21 : decode jdk_52_method_16_code 21 = .ok (.iload_n 1, 1) := by decide +kernel
theorem d4_22 : decode jdk_52_method_16_code 22 = .ok (.iload_n 2, 1) := by decide +kernel
theorem d4_23 : decode jdk_52_method_16_code 23 = .ok (.invokestatic 119, 3) := by decide +kernel
theorem d4_26 : decode jdk_52_method_16_code 26 = .ok (.astore 5, 2) := by decide +kernel
theorem d4_28 : decode jdk_52_method_16_code 28 = .ok (.aload 5, 2) := by decide +kernel
theorem d4_30 : decode jdk_52_method_16_code 30 = .ok (.iload 4, 2) := by decide +kernel
theorem d4_32 : decode jdk_52_method_16_code 32 = .ok (.invokestatic 71, 3) := by decide +kernel
theorem d4_35 : decode jdk_52_method_16_code 35 = .ok (.sipush 255, 3) := by decide +kernel
theorem d4_38 : decode jdk_52_method_16_code 38 = .ok (.if_icmp .gt 16, 3) := by decide +kernel
theorem d4_41 : decode jdk_52_method_16_code 41 = .ok (.aload 5, 2) := by decide +kernel
theorem d4_43 : decode jdk_52_method_16_code 43 = .ok (.iconst 0, 1) := by decide +kernel
theorem d4_44 : decode jdk_52_method_16_code 44 = .ok (.aload_n 3, 1) := by decide +kernel
theorem d4_45 : decode jdk_52_method_16_code 45 = .ok (.iconst 0, 1) := by decide +kernel
theorem d4_46 : decode jdk_52_method_16_code 46 = .ok (.iload_n 2, 1) := by decide +kernel
theorem d4_47 : decode jdk_52_method_16_code 47 = .ok (.invokestatic 123, 3) := by decide +kernel
theorem d4_50 : decode jdk_52_method_16_code 50 = .ok (.iload_n 2, 1) := by decide +kernel
theorem d4_51 : decode jdk_52_method_16_code 51 = .ok (.if_icmp .eq 6, 3) := by decide +kernel
theorem d4_54 : decode jdk_52_method_16_code 54 = .ok (.aload 5, 2) := by decide +kernel
theorem d4_56 : decode jdk_52_method_16_code 56 = .ok (.areturn, 1) := by decide +kernel
theorem d4_57 : decode jdk_52_method_16_code 57 = .ok (.aload_n 3, 1) := by decide +kernel
theorem d4_58 : decode jdk_52_method_16_code 58 = .ok (.areturn, 1) := by decide +kernel
theorem pn_4 : plainName "java/lang/StringUTF16" = true := by first | (simp [plainName, overriddenIn]; done) | decide +kernel
theorem d5_0 : decode jdk_52_method_21_code 0 = .ok (.iconst 0, 1) := by decide +kernel
theorem d5_1 : decode jdk_52_method_21_code 1 = .ok (.istore 5, 2) := by decide +kernel
theorem d5_3 : decode jdk_52_method_21_code 3 = .ok (.iload 5, 2) := by decide +kernel
theorem d5_5 : decode jdk_52_method_21_code 5 = .ok (.iload 4, 2) := by decide +kernel
theorem d5_7 : decode jdk_52_method_21_code 7 = .ok (.if_icmp .ge 37, 3) := by decide +kernel
theorem d5_10 : decode jdk_52_method_21_code 10 = .ok (.aload_n 0, 1) := by decide +kernel
theorem d5_11 : decode jdk_52_method_21_code 11 = .ok (.iload_n 1, 1) := by decide +kernel
theorem d5_12 : decode jdk_52_method_21_code 12 = .ok (.caload, 1) := by decide +kernel
theorem d5_13 : decode jdk_52_method_21_code 13 = .ok (.istore 6, 2) := by decide +kernel
theorem d5_15 : decode jdk_52_method_21_code 15 = .ok (.iload 6, 2) := by decide +kernel
theorem d5_17 : decode jdk_52_method_21_code 17 = .ok (.sipush 255, 3) := by decide +kernel
theorem d5_20 : decode jdk_52_method_21_code 20 = .ok (.if_icmp .le 6, 3) := by decide +kernel
theorem d5_23 : decode jdk_52_method_21_code 23 = .ok (.iload 5, 2) := by decide +kernel
theorem d5_25 : decode jdk_52_method_21_code 25 = .ok (.ireturn, 1) := by decide +kernel
theorem d5_26 : decode jdk_52_method_21_code 26 = .ok (.aload_n 2, 1) := by decide +kernel
theorem d5_27 : decode jdk_52_method_21_code 27 = .ok (.iload_n 3, 1) := by decide +kernel
theorem d5_28 : decode jdk_52_method_21_code 28 = .ok (.iload 6, 2) := by decide +kernel
theorem d5_30 : decode jdk_52_method_21_code 30 = .ok (.i2b, 1) := by decide +kernel
theorem d5_31 : decode jdk_52_method_21_code 31 = .ok (.bastore, 1) := by decide +kernel
theorem d5_32 : decode jdk_52_method_21_code 32 = .ok (.iinc 1 1, 3) := by decide +kernel
theorem d5_35 : decode jdk_52_method_21_code 35 = .ok (.iinc 3 1, 3) := by decide +kernel
theorem d5_38 : decode jdk_52_method_21_code 38 = .ok (.iinc 5 1, 3) := by decide +kernel
theorem d5_41 : decode jdk_52_method_21_code 41 = .ok (.goto (-38), 3) := by decide +kernel
theorem d5_44 : decode jdk_52_method_21_code 44 = .ok (.iload 4, 2) := by decide +kernel
theorem d5_46 : decode jdk_52_method_21_code 46 = .ok (.ireturn, 1) := by decide +kernel
theorem pn_5 : plainName "java/lang/StringUTF16" = true := by first | (simp [plainName, overriddenIn]; done) | decide +kernel
theorem d6_0 : decode jdk_52_method_15_code 0 = .ok (.iload_n 1, 1) := by decide +kernel
theorem d6_1 : decode jdk_52_method_15_code 1 = .ok (.aload_n 0, 1) := by decide +kernel
theorem d6_2 : decode jdk_52_method_15_code 2 = .ok (.arraylength, 1) := by decide +kernel
theorem d6_3 : decode jdk_52_method_15_code 3 = .ok (.isub, 1) := by decide +kernel
theorem d6_4 : decode jdk_52_method_15_code 4 = .ok (.bipush 31, 2) := by decide +kernel
theorem d6_6 : decode jdk_52_method_15_code 6 = .ok (.iushr, 1) := by decide +kernel
theorem d6_7 : decode jdk_52_method_15_code 7 = .ok (.i2b, 1) := by decide +kernel
theorem d6_8 : decode jdk_52_method_15_code 8 = .ok (.ireturn, 1) := by decide +kernel
theorem pn_6 : plainName "java/lang/StringUTF16" = true := by first | (simp [plainName, overriddenIn]; done) | decide +kernel
theorem d7_0 : decode prog_127_method_1_code 0 = .ok (.aload_n 0, 1) := by decide +kernel
theorem d7_1 : decode prog_127_method_1_code 1 = .ok (.invokespecial 1, 3) := by decide +kernel
theorem d7_4 : decode prog_127_method_1_code 4 = .ok (.aload_n 0, 1) := by decide +kernel
theorem d7_5 : decode prog_127_method_1_code 5 = .ok (.aload_n 1, 1) := by decide +kernel
theorem d7_6 : decode prog_127_method_1_code 6 = .ok (.putfield 7, 3) := by decide +kernel
theorem d7_9 : decode prog_127_method_1_code 9 = .ok (.aload_n 0, 1) := by decide +kernel
theorem d7_10 : decode prog_127_method_1_code 10 = .ok (.iload_n 2, 1) := by decide +kernel
theorem d7_11 : decode prog_127_method_1_code 11 = .ok (.putfield 13, 3) := by decide +kernel
theorem d7_14 : decode prog_127_method_1_code 14 = .ok (.aload_n 0, 1) := by decide +kernel
theorem d7_15 : decode prog_127_method_1_code 15 = .ok (.aload_n 3, 1) := by decide +kernel
theorem d7_16 : decode prog_127_method_1_code 16 = .ok (.putfield 17, 3) := by decide +kernel
theorem d7_19 : decode prog_127_method_1_code 19 = .ok (.return_, 1) := by decide +kernel
theorem pn_7 : plainName "com/example/vestline/vestline/plan/ElectiveDeferralRule$RothOnlyAboveWages" = true := by first | (simp [plainName, overriddenIn]; done) | decide +kernel
theorem d8_0 : decode jdk_30_method_1_code 0 = .ok (.aload_n 0, 1) := by decide +kernel
theorem d8_1 : decode jdk_30_method_1_code 1 = .ok (.invokespecial 1, 3) := by decide +kernel
theorem d8_4 : decode jdk_30_method_1_code 4 = .ok (.return_, 1) := by decide +kernel
theorem pn_8 : plainName "java/lang/Record" = true := by first | (simp [plainName, overriddenIn]; done) | decide +kernel
theorem d9_0 : decode prog_127_method_2_code 0 = .ok (.iload_n 1, 1) := by decide +kernel
theorem d9_1 : decode prog_127_method_2_code 1 = .ok (.aload_n 0, 1) := by decide +kernel
theorem d9_2 : decode prog_127_method_2_code 2 = .ok (.getfield 13, 3) := by decide +kernel
theorem d9_5 : decode prog_127_method_2_code 5 = .ok (.if_icmp .lt 7, 3) := by decide +kernel
theorem d9_8 : decode prog_127_method_2_code 8 = .ok (.iconst 1, 1) := by decide +kernel
theorem d9_9 : decode prog_127_method_2_code 9 = .ok (.goto 4, 3) := by decide +kernel
theorem d9_12 : decode prog_127_method_2_code 12 = .ok (.iconst 0, 1) := by decide +kernel
theorem d9_13 : decode prog_127_method_2_code 13 = .ok (.ireturn, 1) := by decide +kernel
theorem pn_9 : plainName "com/example/vestline/vestline/plan/ElectiveDeferralRule$RothOnlyAboveWages" = true := by first | (simp [plainName, overriddenIn]; done) | decide +kernel
theorem d10_0 : decode jdk_29_method_69_code 0 = .ok (.iload_n 0, 1) := by decide +kernel
theorem d10_1 : decode jdk_29_method_69_code 1 = .ok (.iload_n 1, 1) := by decide +kernel
theorem d10_2 : decode jdk_29_method_69_code 2 = .ok (.if_icmp .gt 7, 3) := by decide +kernel
theorem d10_5 : decode jdk_29_method_69_code 5 = .ok (.iload_n 0, 1) := by decide +kernel
theorem d10_6 : decode jdk_29_method_69_code 6 = .ok (.goto 4, 3) := by decide +kernel
theorem d10_9 : decode jdk_29_method_69_code 9 = .ok (.iload_n 1, 1) := by decide +kernel
theorem d10_10 : decode jdk_29_method_69_code 10 = .ok (.ireturn, 1) := by decide +kernel

theorem d11_0 : decode jdk_29_method_65_code 0 = .ok (.iload_n 0, 1) := by decide +kernel
theorem d11_1 : decode jdk_29_method_65_code 1 = .ok (.iload_n 1, 1) := by decide +kernel
theorem d11_2 : decode jdk_29_method_65_code 2 = .ok (.if_icmp .lt 7, 3) := by decide +kernel
theorem d11_5 : decode jdk_29_method_65_code 5 = .ok (.iload_n 0, 1) := by decide +kernel
theorem d11_6 : decode jdk_29_method_65_code 6 = .ok (.goto 4, 3) := by decide +kernel
theorem d11_9 : decode jdk_29_method_65_code 9 = .ok (.iload_n 1, 1) := by decide +kernel
theorem d11_10 : decode jdk_29_method_65_code 10 = .ok (.ireturn, 1) := by decide +kernel

theorem pd_0 : parseMethodDescriptor "([CI[BII)I" = some ⟨[(.array .char), .int, (.array .byte), .int, .int], some .int⟩ := by decide +kernel
theorem pd_1 : parseMethodDescriptor "([CII)[B" = some ⟨[(.array .char), .int, .int], some (.array .byte)⟩ := by decide +kernel
theorem pd_2 : parseMethodDescriptor "([BI)B" = some ⟨[(.array .byte), .int], some .byte⟩ := by decide +kernel
theorem la_0 {Z : State} {a0 : Array Value} (hw : ∀ d ∈ tables_1, d.before a0 Z = true) : Laid Z a0 "java/lang/String" "java/lang/String" "value" "[B" := (Or.inr (hw _ (im 32 rfl)))
theorem la_1 {Z : State} {a0 : Array Value} (hw : ∀ d ∈ tables_1, d.before a0 Z = true) : Laid Z a0 "java/lang/String" "java/lang/String" "coder" "B" := (Or.inr (hw _ (im 30 rfl)))
theorem pd_3 : parseMethodDescriptor "([CIILjava/lang/Void;)V" = some ⟨[(.array .char), .int, .int, (.object "java/lang/Void")], none⟩ := by decide +kernel
theorem pd_4 : parseMethodDescriptor "()V" = some ⟨[], none⟩ := by decide +kernel
theorem la_2 {Z : State} {a0 : Array Value} (hw : ∀ d ∈ tables_1, d.before a0 Z = true) : Laid Z a0 "com/example/vestline/vestline/plan/ElectiveDeferralRule$RothOnlyAboveWages" "com/example/vestline/vestline/plan/ElectiveDeferralRule$RothOnlyAboveWages" "fromYear" "I" := (Or.inr (hw _ (im 45 rfl)))
theorem la_3 {Z : State} {a0 : Array Value} (hw : ∀ d ∈ tables_1, d.before a0 Z = true) : Laid Z a0 "com/example/vestline/vestline/plan/ElectiveDeferralRule$RothOnlyAboveWages" "com/example/vestline/vestline/plan/ElectiveDeferralRule$RothOnlyAboveWages" "section" "Ljava/lang/String;" := (Or.inr (hw _ (im 43 rfl)))
theorem la_4 {Z : State} {a0 : Array Value} (hw : ∀ d ∈ tables_1, d.before a0 Z = true) : Laid Z a0 "com/example/vestline/vestline/plan/ElectiveDeferralRule$RothOnlyAboveWages" "com/example/vestline/vestline/plan/ElectiveDeferralRule$RothOnlyAboveWages" "limit" "Ljava/lang/String;" := (Or.inr (hw _ (im 47 rfl)))
theorem pd_5 : parseMethodDescriptor "([C)V" = some ⟨[(.array .char)], none⟩ := by decide +kernel
theorem pd_6 : parseMethodDescriptor "(Ljava/lang/String;ILjava/lang/String;)V" = some ⟨[(.object "java/lang/String"), .int, (.object "java/lang/String")], none⟩ := by decide +kernel
theorem pd_7 : parseMethodDescriptor "(I)Z" = some ⟨[.int], some .boolean⟩ := by decide +kernel
theorem pd_8 : parseMethodDescriptor "(II)I" = some ⟨[.int, .int], some .int⟩ := by decide +kernel
theorem own_c255 (y : Int32) : ¬ ((255 : Int32) < (nar .char ((y &&& (255 : Int32)).toUInt32.toUInt16.toUInt32.toInt32))) := by
  show ¬ ((255 : Int32) < ((y &&& (255 : Int32)).toUInt32.toUInt16.toUInt32.toInt32).toUInt32.toUInt16.toUInt32.toInt32)
  rw [i2c_mask, i2c_mask, Int32.lt_iff_toInt_lt]
  have h := c_mask y 255 8 (by decide) (by decide)
  have k : (255 : Int32).toInt = 255 := by decide
  rw [h, k]; omega
theorem own_prev (x : Int32) (h : ¬ (x = (-2147483648 : Int32))) : ¬ (¬ ((x - (1 : Int32)) < x)) := by
  rw [Int32.lt_iff_toInt_lt]
  have h1 := c_isub x 1
  have k1 : (1 : Int32).toInt = 1 := by decide
  have k2 : (-2147483648 : Int32).toInt = -2147483648 := by decide
  have r1 := rng32 x
  have r2 := rng32 (x - 1)
  have h' : x.toInt ≠ -2147483648 := fun q => h (Int32.toInt_inj.mp (q.trans k2.symm))
  rw [k1] at h1
  omega
theorem own_mono (a b f : Int32) (h : (¬ ((if b < a then b else a) < f))) : (¬ ((if a < b then b else a) < f)) := by
  simp only [Int32.lt_iff_toInt_lt] at *
  split at h <;> split <;> omega
def Qc2s1 (Z : State) (x0 : Addr) (x2 : Addr) (kc : ClassId) (kb : ClassId) (c0 : Int32) (h0 : Heap) (n0 : Nat) (v : Option Value) (h : Heap) (L : List Loc) : Prop := v = some (.int 1) ∧ Fr n0 L ∧ Keep h0 h [x2] ∧ Arv Z h x2 kb .byte (1 : Int32) [(.int (nar .byte (c0.toInt8.toInt32)))] (.int 0)
theorem ef_c2s1 (m : MethodId) (x0 : Addr) (x2 : Addr) : entryFrame m #[(.ref x0), (.int 0), (.ref x2), (.int 0), (.int 1)] 7 = mkF m 0 #[rv x0, iv 0, rv x2, iv 0, iv 1, .unset, .unset] [] := by first | (simp [entryFrame, mkF, argsToLocals, Value.category]; done) | rfl
set_option maxRecDepth 65536 in
set_option maxHeartbeats 40000000 in
theorem rmc2s1 (l : Launch) (Z : State) (a0 : Array Value) (hw : ∀ d ∈ tables_1, d.before a0 Z = true) (ws : List Jvm.Cond) (x0 : Addr) (x2 : Addr) (kc : ClassId) (kb : ClassId) (c0 : Int32) (h0 : Heap) (n0 : Nat) (Z0 : n0 ≤ h0.size) (pre_A_x0 : Arv Z h0 x0 kc .char (1 : Int32) [(.int c0)] (.int 0)) (pre_A_x2 : Arv Z h0 x2 kb .byte (1 : Int32) [(.int 0)] (.int 0)) (g_x2 : n0 ≤ x2) (ne_x0_x2 : x0 ≠ x2) (hc0 : ¬ ((255 : Int32) < c0)) :
    MetFree l (⟨"java/lang/StringUTF16", "compress", "([CI[BII)I"⟩ : MethodName) (head1 (Jvm.Cond.code (⟨"java/lang/StringUTF16", "compress", "([CI[BII)I"⟩ : MethodName) jdk_52_method_21_code 7 (some .int) :: ws) ({ frames := 0, cells := 0, slots := 0, locals := 0 } : Room)) (fun a U => a = #[(.ref x0), (.int 0), (.ref x2), (.int 0), (.int 1)] ∧ Z.Warmed39 U.vm ∧ U.heap = h0) (fun _ _ _ _ _ => True) (fun _ U o U' => ∃ v L, o = .returned v ∧ Qc2s1 Z x0 x2 kc kb c0 h0 n0 v U'.heap L ∧ FrameEnd U o U' L ({ frames := 0, cells := 0, slots := 0, locals := 0 } : Room).cells ({ frames := 0, cells := 0, slots := 0, locals := 0 } : Room).slots) := by
  refine MetFree.of_bodySF (plainFor_of_name pn_5) hisR ?_
  intro p e s m args below meth c s₁ Bd hml0 hP hK
  obtain ⟨rfl, hZ, hh⟩ := hP
  have hx := Bd.exec
  have hby := Bd.bytes
  have hml : c.maxLocals = 7 := hml0
  have hown : s.vm.findClass "java/lang/StringUTF16" = some m.cls := findClass_of_methodNamed Bd.named
  have hnm := (name_of_methodNamed Bd.named Bd.method).1
  have X0 : Stand p l e ({ frames := 0, cells := 0, slots := 0, locals := 0 } : Room) s m #[(.ref x0), (.int 0), (.ref x2), (.int 0), (.int 1)] below meth c s₁ [] 0 0 := Stand.of_body Bd
  have e0 : s₁.heap = h0 := by rw [← hh, Bd.state]; rfl
  have N0 := Fr.nil n0
  have Kp0 := Keep.refl h0 [x2]
  have P0 : ∀ t, Steps p.tables e below (s₁.setTop (mkF m 0 #[rv x0, iv 0, rv x2, iv 0, iv 1, .unset, .unset] [])) t → Steps p.tables e below (s₁.setTop (entryFrame m #[(.ref x0), (.int 0), (.ref x2), (.int 0), (.int 1)] 7)) t := fun t k => castTop (ef_c2s1 m x0 x2) k
  obtain ⟨cl2, Ar2, qa2, S2, Nn2, H2, G2⟩ := id pre_A_x0
  have hin2 : ¬ ((0 : Int32) < 0 ∨ cl2.slots.size ≤ ((0 : Int32)).toNatClampNeg) := inb_of S2 ⟨by decide, by decide⟩
  have hat2 : cl2.slots[((0 : Int32)).toNatClampNeg]? = some (.int c0) := Has.at H2 hin2 rfl
  have hc20_3 : ¬ ((255 : Int32) < c0) := hc0
  obtain ⟨cl4, Ar4, qa4, S4, Nn4, H4, G4⟩ := id pre_A_x2
  have hin4 : ¬ ((0 : Int32) < 0 ∨ cl4.slots.size ≤ ((0 : Int32)).toNatClampNeg) := inb_of S4 ⟨by decide, by decide⟩
  obtain ⟨T5, h5, X5, e5, W5, st5⟩ := stB X0 hx hZ e0 Ar4 (j := (0 : Int32)) hin4 (g := (mkF m 31 #[rv x0, iv 0, rv x2, iv 0, iv 1, iv 0, iv c0] [(.int (c0.toInt8.toInt32)), (.int 0), (.ref x2)])) rfl rfl (hb hby d5_31)
  have Z5_ : n0 ≤ h5.size := Nat.le_trans Z0 (Nat.le_of_eq W5.size.symm)
  have N5 := Fr.snoc X5 N0 g_x2
  have KK5 := Kp0.wr W5 (Or.inl (List.mem_of_getElem? (i := 0) rfl))
  have V5 : Arv Z h5 x2 kb .byte (1 : Int32) [(.int (nar .byte (c0.toInt8.toInt32)))] (.int 0) := Arv.set Ar4 qa4 S4 Nn4 H4 G4 (by first | exact fits_nar_byte _ | decide | rfl) W5 0 rfl (Nat.le_of_ble_eq_true rfl)
  have P7 := own_go P0 (S' := T5.setTop (mkF m 46 #[rv x0, iv 1, rv x2, iv 1, iv 1, iv 1, iv c0] [(.int 1)])) (by
    intro t k
    refine XS.iconst X0.here hx rfl (hb hby d5_0) ?_
    refine XS.istore X0.here hx rfl (hb hby d5_1) rfl (l' := #[rv x0, iv 0, rv x2, iv 0, iv 1, iv 0, .unset]) rfl ?_
    refine XS.iload X0.here hx rfl (hb hby d5_3) rfl ?_
    refine XS.iload X0.here hx rfl (hb hby d5_5) rfl ?_
    refine XS.icmpNo X0.here hx rfl (hb hby d5_7) rfl (tlt (by decide)).2.1 ?_
    refine XS.aloadN X0.here hx rfl (hb hby d5_10) rfl rfl ?_
    refine XS.iloadN X0.here hx rfl (hb hby d5_11) rfl ?_
    refine X0.caload hx (j := (0 : Int32)) (v := (.int c0)) (by rw [e0]; exact Ar2.1) (State.isArrayOf_alike hZ.alike Ar2.2.1) Ar2.2.2 hin2 hat2 (g := (mkF m 12 #[rv x0, iv 0, rv x2, iv 0, iv 1, iv 0, .unset] [(.int 0), (.ref x0)])) rfl rfl (hb hby d5_12) _ ?_
    show Steps p.tables e below (s₁.setTop (mkF m 13 #[rv x0, iv 0, rv x2, iv 0, iv 1, iv 0, .unset] [(.int c0)])) _
    refine XS.istore X0.here hx rfl (hb hby d5_13) rfl (l' := #[rv x0, iv 0, rv x2, iv 0, iv 1, iv 0, iv c0]) rfl ?_
    refine XS.iload X0.here hx rfl (hb hby d5_15) rfl ?_
    refine XS.sipush X0.here hx rfl (hb hby d5_17) ?_
    refine XS.icmpYes X0.here hx rfl (pc0 := 20) (pc' := 26) rfl (hb hby d5_20) rfl (flt hc20_3).2.2.2 (by decide) (by decide) ?_
    refine XS.aloadN X0.here hx rfl (hb hby d5_26) rfl rfl ?_
    refine XS.iloadN X0.here hx rfl (hb hby d5_27) rfl ?_
    refine XS.iload X0.here hx rfl (hb hby d5_28) rfl ?_
    refine XS.i2b X0.here hx rfl (hb hby d5_30) rfl ?_
    show Steps p.tables e below (s₁.setTop (mkF m 31 #[rv x0, iv 0, rv x2, iv 0, iv 1, iv 0, iv c0] [(.int (c0.toInt8.toInt32)), (.int 0), (.ref x2)])) _
    refine st5 _ ?_
    refine XS.iinc X5.here hx rfl (hb hby d5_32) rfl (l' := #[rv x0, iv 1, rv x2, iv 0, iv 1, iv 0, iv c0]) rfl ?_
    refine XS.iinc X5.here hx rfl (hb hby d5_35) rfl (l' := #[rv x0, iv 1, rv x2, iv 1, iv 1, iv 0, iv c0]) rfl ?_
    refine XS.iinc X5.here hx rfl (hb hby d5_38) rfl (l' := #[rv x0, iv 1, rv x2, iv 1, iv 1, iv 1, iv c0]) rfl ?_
    refine XS.goto X5.here hx rfl (pc0 := 41) (pc' := 3) rfl (hb hby d5_41) (by decide) (by decide) ?_
    refine XS.iload X5.here hx rfl (hb hby d5_3) rfl ?_
    refine XS.iload X5.here hx rfl (hb hby d5_5) rfl ?_
    refine XS.icmpYes X5.here hx rfl (pc0 := 7) (pc' := 44) rfl (hb hby d5_7) rfl (flt (by decide)).2.1 (by decide) (by decide) ?_
    show Steps p.tables e below (T5.setTop (mkF m 44 #[rv x0, iv 1, rv x2, iv 1, iv 1, iv 1, iv c0] [])) _
    refine XS.iload X5.here hx rfl (hb hby d5_44) rfl ?_
    exact k)
  obtain ⟨fs, hr, hrun, hended, hW, hsame⟩ := X5.leave (v := some (.int 1)) (fun h => by rw [Bd.returns] at h; cases h)
  refine ⟨_, _, P7 _ ?_, hrun, hended, _, _, rfl, ?_, ⟨_, rfl⟩, hW, hsame.mono (by decide) (by decide)⟩
  · show Steps p.tables e below (T5.setTop (mkF m 46 #[rv x0, iv 1, rv x2, iv 1, iv 1, iv 1, iv c0] [(.int 1)])) _
    exact retI X5 hx Bd.returns (hb hby d5_46) hr
  · show Qc2s1 Z x0 x2 kc kb c0 h0 n0 _ T5.heap _
    rw [e5]
    exact ⟨rfl, N5, KK5, V5⟩
def Qc1s1 (Z : State) (x0 : Addr) (kc : ClassId) (c0 : Int32) (h0 : Heap) (n0 : Nat) (v : Option Value) (h : Heap) (L : List Loc) : Prop := ∃ (b : Addr), ∃ (kb : ClassId), v = some (.ref b) ∧ Fr n0 L ∧ Keep h0 h [] ∧ n0 ≤ b ∧ h0.size ≤ b ∧ Arv Z h b kb .byte (1 : Int32) [(.int (nar .byte (c0.toInt8.toInt32)))] (.int 0)
theorem ef_c1s1 (m : MethodId) (x0 : Addr) : entryFrame m #[(.ref x0), (.int 0), (.int 1)] 6 = mkF m 0 #[rv x0, iv 0, iv 1, .unset, .unset, .unset] [] := by first | (simp [entryFrame, mkF, argsToLocals, Value.category]; done) | rfl
set_option maxRecDepth 65536 in
set_option maxHeartbeats 40000000 in
theorem rmc1s1 (l : Launch) (Z : State) (a0 : Array Value) (hw : ∀ d ∈ tables_1, d.before a0 Z = true) (ws : List Jvm.Cond) (x0 : Addr) (kc : ClassId) (c0 : Int32) (h0 : Heap) (n0 : Nat) (Z0 : n0 ≤ h0.size) (pre_A_x0 : Arv Z h0 x0 kc .char (1 : Int32) [(.int c0)] (.int 0)) (hc0 : ¬ ((255 : Int32) < c0)) :
    MetFree l (⟨"java/lang/StringUTF16", "compress", "([CII)[B"⟩ : MethodName) (head1 (Jvm.Cond.code (⟨"java/lang/StringUTF16", "compress", "([CII)[B"⟩ : MethodName) jdk_52_method_16_code 6 (some (.array .byte)) :: ws) ({ frames := 1, cells := 1, slots := 1, locals := 18 } : Room)) (fun a U => a = #[(.ref x0), (.int 0), (.int 1)] ∧ Z.Warmed39 U.vm ∧ U.heap = h0) (fun _ _ _ _ _ => True) (fun _ U o U' => ∃ v L, o = .returned v ∧ Qc1s1 Z x0 kc c0 h0 n0 v U'.heap L ∧ FrameEnd U o U' L ({ frames := 1, cells := 1, slots := 1, locals := 18 } : Room).cells ({ frames := 1, cells := 1, slots := 1, locals := 18 } : Room).slots) := by
  refine MetFree.of_bodySF (plainFor_of_name pn_4) hisR ?_
  intro p e s m args below meth c s₁ Bd hml0 hP hK
  obtain ⟨rfl, hZ, hh⟩ := hP
  have hx := Bd.exec
  have hby := Bd.bytes
  have hml : c.maxLocals = 6 := hml0
  have hown : s.vm.findClass "java/lang/StringUTF16" = some m.cls := findClass_of_methodNamed Bd.named
  have hnm := (name_of_methodNamed Bd.named Bd.method).1
  have X0 : Stand p l e ({ frames := 1, cells := 1, slots := 1, locals := 18 } : Room) s m #[(.ref x0), (.int 0), (.int 1)] below meth c s₁ [] 0 0 := Stand.of_body Bd
  have e0 : s₁.heap = h0 := by rw [← hh, Bd.state]; rfl
  have N0 := Fr.nil n0
  have Kp0 := Keep.refl h0 []
  have P0 : ∀ t, Steps p.tables e below (s₁.setTop (mkF m 0 #[rv x0, iv 0, iv 1, .unset, .unset, .unset] [])) t → Steps p.tables e below (s₁.setTop (entryFrame m #[(.ref x0), (.int 0), (.int 1)] 6)) t := fun t k => castTop (ef_c1s1 m x0) k
  obtain ⟨T1, h1, k1, X1, e1, E1, A1, st1⟩ := newP X0 hx hZ (hw _ (im 22 rfl)) e0 (g := (mkF m 1 #[rv x0, iv 0, iv 1, .unset, .unset, .unset] [(.int 1)])) rfl (hb hby d4_1) rfl (by decide) (cap := 1) (by decide) (by decide) (by decide) (by decide)
  obtain ⟨b1, g1⟩ : ∃ z, z = h0.size := ⟨_, rfl⟩
  rw [← g1] at A1 st1
  have ge_b1 : n0 ≤ b1 := Nat.le_trans Z0 (Nat.le_of_eq g1.symm)
  have sz_b1 : h0.size ≤ b1 := Nat.le_trans Kp0.1 (Nat.le_of_eq g1.symm)
  have Z1_ : n0 ≤ h1.size := Nat.le_trans Z0 E1.1
  have KK1 := Kp0.ext E1
  have V1 : Arv Z h1 b1 k1 .byte (1 : Int32) [(.int 0)] (.int 0) := (Arv.new A1 (by decide)).pad (pad_rep [] (.int 0) 1)
  have q2 := (pre_A_x0.ext E1)
  have ne3 : x0 ≠ b1 := Nat.ne_of_lt (Nat.lt_of_lt_of_le pre_A_x0.lt (Nat.le_of_eq g1.symm))
  obtain ⟨_, _, ⟨T4, L4, k4, n4⟩, -, X4, ⟨Lc4, hQ4, l4, y4, z4⟩, st4⟩ := Jvm.LawKit.callS X1 hx (y := (⟨"java/lang/StringUTF16", "compress", "([CI[BII)I"⟩ : MethodName)) hown (mvT hZ (hw _ (im 23 rfl))) (mvT hZ (hw _ (im 24 rfl))) (mvT hZ (hw _ (im 20 rfl))) (mvT hZ (hw _ (im 25 rfl))) (by decide) (backOf (W := 0) (rmc2s1 l Z a0 hw [] x0 b1 kc k1 c0 h1 n0 Z1_ q2 V1 ge_b1 ne3 (hc0)) hZ (hw _ (im 25 rfl)) (hw _ (im 20 rfl)) (by decide) (by decide)) (g := (mkF m 9 #[rv x0, iv 0, iv 1, rv b1, .unset, .unset] [(.int 1), (.int 0), (.ref b1), (.int 0), (.ref x0)])) rfl (by rw [hml]; rfl) (argsL := [(.ref x0), (.int 0), (.ref b1), (.int 0), (.int 1)]) (rest := []) (lenOf pd_0 rfl) rfl (by show 2 * 0 + _ ≤ _; exact Nat.le_of_eq rfl) (hb hby d4_9) (fun _ _ => ⟨rfl, e1, (by decide : 1 + 0 ≤ _), (by decide : 1 + 0 ≤ _)⟩)
  dsimp only [Pt.U, Pt.locs, Pt.cells, Pt.slots] at X4 l4 y4 z4 st4 hQ4
  subst l4 y4 z4
  obtain ⟨rfl, N4q, K4, r4_0⟩ := hQ4
  have N4 := Fr.app N0 N4q
  have Z4_ : n0 ≤ T4.heap.size := Nat.le_trans Z1_ K4.1
  have KK4 := KK1.trans K4 (allS (Or.inr sz_b1) all0)
  have P6 := own_go P0 (S' := T4.setTop (mkF m 58 #[rv x0, iv 0, iv 1, rv b1, iv 1, .unset] [(.ref b1)])) (by
    intro t k
    refine XS.iloadN X0.here hx rfl (hb hby d4_0) rfl ?_
    refine st1 _ ?_
    refine XS.astoreN X1.here hx rfl (hb hby d4_3) rfl rfl (l' := #[rv x0, iv 0, iv 1, rv b1, .unset, .unset]) rfl ?_
    refine XS.aloadN X1.here hx rfl (hb hby d4_4) rfl rfl ?_
    refine XS.iloadN X1.here hx rfl (hb hby d4_5) rfl ?_
    refine XS.aloadN X1.here hx rfl (hb hby d4_6) rfl rfl ?_
    refine XS.iconst X1.here hx rfl (hb hby d4_7) ?_
    refine XS.iloadN X1.here hx rfl (hb hby d4_8) rfl ?_
    show Steps p.tables e below (T1.setTop (mkF m 9 #[rv x0, iv 0, iv 1, rv b1, .unset, .unset] [(.int 1), (.int 0), (.ref b1), (.int 0), (.ref x0)])) _
    refine st4 _ ?_
    refine XS.istore X4.here hx rfl (hb hby d4_12) rfl (l' := #[rv x0, iv 0, iv 1, rv b1, iv 1, .unset]) rfl ?_
    refine XS.iload X4.here hx rfl (hb hby d4_14) rfl ?_
    refine XS.iloadN X4.here hx rfl (hb hby d4_16) rfl ?_
    refine XS.icmpYes X4.here hx rfl (pc0 := 17) (pc' := 57) rfl (hb hby d4_17) rfl (teq (by decide)).1 (by decide) (by decide) ?_
    refine XS.aloadN X4.here hx rfl (hb hby d4_57) rfl rfl ?_
    exact k)
  obtain ⟨fs, hr, hrun, hended, hW, hsame⟩ := X4.leave (v := some (.ref b1)) (fun h => by rw [Bd.returns] at h; cases h)
  refine ⟨_, _, P6 _ ?_, hrun, hended, _, _, rfl, ?_, ⟨_, rfl⟩, hW, hsame.mono (by decide) (by decide)⟩
  · show Steps p.tables e below (T4.setTop (mkF m 58 #[rv x0, iv 0, iv 1, rv b1, iv 1, .unset] [(.ref b1)])) _
    exact retOut X4 hx (t := (.array .byte)) Bd.returns rfl (Or.inr (Or.inr (Or.inr (Or.inr ⟨rfl, rfl, rfl⟩)))) (hb hby d4_58) hr
  · show Qc1s1 Z x0 kc c0 h0 n0 _ T4.heap _
    exact ⟨b1, k1, rfl, N4, KK4, ge_b1, sz_b1, r4_0⟩
def Qcds1 (Z : State) (x0 : Addr) (kb : ClassId) (y0 : Int32) (h0 : Heap) (n0 : Nat) (v : Option Value) (h : Heap) (L : List Loc) : Prop := v = some (.int 0) ∧ Fr n0 L ∧ h = h0
theorem ef_cds1 (m : MethodId) (x0 : Addr) : entryFrame m #[(.ref x0), (.int 1)] 2 = mkF m 0 #[rv x0, iv 1] [] := by first | (simp [entryFrame, mkF, argsToLocals, Value.category]; done) | rfl
set_option maxRecDepth 65536 in
set_option maxHeartbeats 40000000 in
theorem rmcds1 (l : Launch) (Z : State) (a0 : Array Value) (hw : ∀ d ∈ tables_1, d.before a0 Z = true) (ws : List Jvm.Cond) (x0 : Addr) (kb : ClassId) (y0 : Int32) (h0 : Heap) (n0 : Nat) (Z0 : n0 ≤ h0.size) (pre_A_x0 : Arv Z h0 x0 kb .byte (1 : Int32) [(.int y0)] (.int 0)) :
    MetFree l (⟨"java/lang/StringUTF16", "coderFromArrayLen", "([BI)B"⟩ : MethodName) (head1 (Jvm.Cond.code (⟨"java/lang/StringUTF16", "coderFromArrayLen", "([BI)B"⟩ : MethodName) jdk_52_method_15_code 2 (some .byte) :: ws) ({ frames := 0, cells := 0, slots := 0, locals := 0 } : Room)) (fun a U => a = #[(.ref x0), (.int 1)] ∧ Z.Warmed39 U.vm ∧ U.heap = h0) (fun _ _ _ _ _ => True) (fun _ U o U' => ∃ v L, o = .returned v ∧ Qcds1 Z x0 kb y0 h0 n0 v U'.heap L ∧ FrameEnd U o U' L ({ frames := 0, cells := 0, slots := 0, locals := 0 } : Room).cells ({ frames := 0, cells := 0, slots := 0, locals := 0 } : Room).slots) := by
  refine MetFree.of_bodySF (plainFor_of_name pn_6) hisR ?_
  intro p e s m args below meth c s₁ Bd hml0 hP hK
  obtain ⟨rfl, hZ, hh⟩ := hP
  have hx := Bd.exec
  have hby := Bd.bytes
  have hml : c.maxLocals = 2 := hml0
  have hown : s.vm.findClass "java/lang/StringUTF16" = some m.cls := findClass_of_methodNamed Bd.named
  have hnm := (name_of_methodNamed Bd.named Bd.method).1
  have X0 : Stand p l e ({ frames := 0, cells := 0, slots := 0, locals := 0 } : Room) s m #[(.ref x0), (.int 1)] below meth c s₁ [] 0 0 := Stand.of_body Bd
  have e0 : s₁.heap = h0 := by rw [← hh, Bd.state]; rfl
  have N0 := Fr.nil n0
  have Kp0 := Keep.refl h0 []
  have P0 : ∀ t, Steps p.tables e below (s₁.setTop (mkF m 0 #[rv x0, iv 1] [])) t → Steps p.tables e below (s₁.setTop (entryFrame m #[(.ref x0), (.int 1)] 2)) t := fun t k => castTop (ef_cds1 m x0) k
  obtain ⟨cl1, Ar1, qa1, S1, Nn1, H1, G1⟩ := id pre_A_x0
  have P2 := own_go P0 (S' := s₁.setTop (mkF m 8 #[rv x0, iv 1] [(.int 0)])) (by
    intro t k
    refine XS.iloadN X0.here hx rfl (hb hby d6_0) rfl ?_
    refine XS.aloadN X0.here hx rfl (hb hby d6_1) rfl rfl ?_
    refine X0.arraylength hx (by rw [e0]; exact Ar1.1) (State.isArrayOf_alike hZ.alike Ar1.2.1) (g := (mkF m 2 #[rv x0, iv 1] [(.ref x0), (.int 1)])) rfl rfl (hb hby d6_2) _ ?_
    rw [len_of S1 Nn1]
    refine XS.isub X0.here hx rfl (hb hby d6_3) rfl ?_
    refine XS.bipush X0.here hx rfl (hb hby d6_4) ?_
    refine XS.iushr X0.here hx rfl (hb hby d6_6) rfl ?_
    refine XS.i2b X0.here hx rfl (hb hby d6_7) rfl ?_
    exact k)
  obtain ⟨fs, hr, hrun, hended, hW, hsame⟩ := X0.leave (v := some (.int 0)) (fun h => by rw [Bd.returns] at h; cases h)
  refine ⟨_, _, P2 _ ?_, hrun, hended, _, _, rfl, ?_, ⟨_, rfl⟩, hW, hsame.mono (by decide) (by decide)⟩
  · show Steps p.tables e below (s₁.setTop (mkF m 8 #[rv x0, iv 1] [(.int 0)])) _
    exact retN X0 hx (t := .byte) Bd.returns (by simp) (hb hby d6_8) hr
  · show Qcds1 Z x0 kb y0 h0 n0 _ s₁.heap _
    rw [e0]
    exact ⟨rfl, N0, rfl⟩
def Qi4s1 (Z : State) (x0 : Addr) (x1 : Addr) (cs : Int32) (kc : ClassId) (c0 : Int32) (h0 : Heap) (n0 : Nat) (v : Option Value) (h : Heap) (L : List Loc) : Prop := v = none ∧ Fr n0 L ∧ Keep h0 h [x0] ∧ Exa Z h x0 "java/lang/String"
theorem ef_i4s1 (m : MethodId) (x0 : Addr) (x1 : Addr) : entryFrame m #[(.ref x0), (.ref x1), (.int 0), (.int 1), .null] 6 = mkF m 0 #[rv x0, rv x1, iv 0, iv 1, .val .null, .unset] [] := by first | (simp [entryFrame, mkF, argsToLocals, Value.category]; done) | rfl
set_option maxRecDepth 65536 in
set_option maxHeartbeats 40000000 in
theorem rmi4s1 (l : Launch) (Z : State) (a0 : Array Value) (hw : ∀ d ∈ tables_1, d.before a0 Z = true) (ws : List Jvm.Cond) (x0 : Addr) (x1 : Addr) (cs : Int32) (kc : ClassId) (c0 : Int32) (h0 : Heap) (n0 : Nat) (Z0 : n0 ≤ h0.size) (O0 : Old Z n0 h0) (pre_S_COMPACT_STRINGS : Sta Z Z.heap "java/lang/String" "COMPACT_STRINGS" "Z" (.int cs)) (hcs : ¬ (cs = (0 : Int32))) (pre_E_x0 : Exa Z h0 x0 "java/lang/String") (pre_F_x0_value : Fld Z h0 x0 "java/lang/String" "value" "[B" .null) (pre_F_x0_coder : Fld Z h0 x0 "java/lang/String" "coder" "B" (.int 0)) (g_x0 : n0 ≤ x0) (pre_A_x1 : Arv Z h0 x1 kc .char (1 : Int32) [(.int c0)] (.int 0)) (ne_x0_x1 : x0 ≠ x1) (hc0 : ¬ ((255 : Int32) < c0)) :
    MetFree l (⟨"java/lang/String", "<init>", "([CIILjava/lang/Void;)V"⟩ : MethodName) (head1 (Jvm.Cond.code (⟨"java/lang/String", "<init>", "([CIILjava/lang/Void;)V"⟩ : MethodName) jdk_42_method_149_code 6 none :: ws) ({ frames := 2, cells := 1, slots := 1, locals := 35 } : Room)) (fun a U => a = #[(.ref x0), (.ref x1), (.int 0), (.int 1), .null] ∧ Z.Warmed39 U.vm ∧ U.heap = h0) (fun _ _ _ _ _ => True) (fun _ U o U' => ∃ v L, o = .returned v ∧ Qi4s1 Z x0 x1 cs kc c0 h0 n0 v U'.heap L ∧ FrameEnd U o U' L ({ frames := 2, cells := 1, slots := 1, locals := 35 } : Room).cells ({ frames := 2, cells := 1, slots := 1, locals := 35 } : Room).slots) := by
  refine MetFree.of_bodySF (plainFor_of_name pn_2) hisR ?_
  intro p e s m args below meth c s₁ Bd hml0 hP hK
  obtain ⟨rfl, hZ, hh⟩ := hP
  have hx := Bd.exec
  have hby := Bd.bytes
  have hml : c.maxLocals = 6 := hml0
  have hown : s.vm.findClass "java/lang/String" = some m.cls := findClass_of_methodNamed Bd.named
  have hnm := (name_of_methodNamed Bd.named Bd.method).1
  have X0 : Stand p l e ({ frames := 2, cells := 1, slots := 1, locals := 35 } : Room) s m #[(.ref x0), (.ref x1), (.int 0), (.int 1), .null] below meth c s₁ [] 0 0 := Stand.of_body Bd
  have e0 : s₁.heap = h0 := by rw [← hh, Bd.state]; rfl
  have N0 := Fr.nil n0
  have Kp0 := Keep.refl h0 [x0]
  have P0 : ∀ t, Steps p.tables e below (s₁.setTop (mkF m 0 #[rv x0, rv x1, iv 0, iv 1, .val .null, .unset] [])) t → Steps p.tables e below (s₁.setTop (entryFrame m #[(.ref x0), (.ref x1), (.int 0), (.int 1), .null] 6)) t := fun t k => castTop (ef_i4s1 m x0 x1) k
  obtain ⟨T1, X1, e1, st1⟩ := initO X0 hx hZ hown (hw _ (im 14 rfl)) (hw _ (im 15 rfl)) (hw _ (im 16 rfl)) e0 (g := (mkF m 1 #[rv x0, rv x1, iv 0, iv 1, .val .null, .unset] [(.ref x0)])) rfl (by rw [hml]; rfl) rfl (hb hby d2_1) (by decide) (W := 0) (by show 2 * 0 + _ ≤ _; exact Nat.le_of_eq rfl) (by decide)
  obtain ⟨T3, X3, e3, st3⟩ := getS2 X1 hx hZ hown (host := "") (Or.inl (hw _ (im 17 rfl))) Via.refl e1 (pre_S_COMPACT_STRINGS.ext O0.2) (g := (mkF m 27 #[rv x0, rv x1, iv 0, iv 1, .val .null, .unset] [])) rfl (hb hby d2_27)
  have hc30_4 : ¬ (cs = (0 : Int32)) := hcs
  obtain ⟨_, _, ⟨T5, L5, k5, n5⟩, -, X5, ⟨Lc5, hQ5, l5, y5, z5⟩, st5⟩ := Jvm.LawKit.callS X3 hx (y := (⟨"java/lang/StringUTF16", "compress", "([CII)[B"⟩ : MethodName)) hown (mvT hZ (hw _ (im 18 rfl))) (mvT hZ (hw _ (im 19 rfl))) (mvT hZ (hw _ (im 20 rfl))) (mvT hZ (hw _ (im 21 rfl))) (by decide) (backOf (W := 0) (rmc1s1 l Z a0 hw [] x1 kc c0 h0 n0 Z0 pre_A_x1 (hc0)) hZ (hw _ (im 21 rfl)) (hw _ (im 20 rfl)) (by decide) (by decide)) (g := (mkF m 36 #[rv x0, rv x1, iv 0, iv 1, .val .null, .unset] [(.int 1), (.int 0), (.ref x1)])) rfl (by rw [hml]; rfl) (argsL := [(.ref x1), (.int 0), (.int 1)]) (rest := []) (lenOf pd_1 rfl) rfl (by show 2 * 0 + _ ≤ _; exact Nat.le_of_eq rfl) (hb hby d2_36) (fun _ _ => ⟨rfl, e3, (by decide : 0 + 1 ≤ _), (by decide : 0 + 1 ≤ _)⟩)
  dsimp only [Pt.U, Pt.locs, Pt.cells, Pt.slots] at X5 l5 y5 z5 st5 hQ5
  subst l5 y5 z5
  obtain ⟨b_5, kb_5, rfl, N5q, K5, r5_0, r5_1, r5_2⟩ := hQ5
  have N5 := Fr.app N0 N5q
  have Z5_ : n0 ≤ T5.heap.size := Nat.le_trans Z0 K5.1
  have O5_ := O0.keep K5 all0
  have KK5 := Kp0.trans K5 all0
  have szz_b_5 : h0.size ≤ b_5 := Nat.le_trans Kp0.1 r5_1
  obtain ⟨_, _, ⟨T6, L6, k6, n6⟩, -, X6, ⟨Lc6, hQ6, l6, y6, z6⟩, st6⟩ := Jvm.LawKit.callS X5 hx (y := (⟨"java/lang/StringUTF16", "coderFromArrayLen", "([BI)B"⟩ : MethodName)) hown (mvT hZ (hw _ (im 26 rfl))) (mvT hZ (hw _ (im 27 rfl))) (mvT hZ (hw _ (im 20 rfl))) (mvT hZ (hw _ (im 28 rfl))) (by decide) (backOf (W := 1) (rmcds1 l Z a0 hw [] b_5 kb_5 (nar .byte (c0.toInt8.toInt32)) T5.heap n0 Z5_ r5_2) hZ (hw _ (im 28 rfl)) (hw _ (im 20 rfl)) (by decide) (by decide)) (g := (mkF m 45 #[rv x0, rv x1, iv 0, iv 1, .val .null, rv b_5] [(.int 1), (.ref b_5), (.ref x0)])) rfl (by rw [hml]; rfl) (argsL := [(.ref b_5), (.int 1)]) (rest := [(.ref x0)]) (lenOf pd_2 rfl) rfl (by show 2 * 0 + _ ≤ _; exact Nat.le_of_eq rfl) (hb hby d2_45) (fun _ _ => ⟨rfl, rfl, (by decide : 1 + 0 ≤ _), (by decide : 1 + 0 ≤ _)⟩)
  dsimp only [Pt.U, Pt.locs, Pt.cells, Pt.slots] at X6 l6 y6 z6 st6 hQ6
  subst l6 y6 z6
  obtain ⟨rfl, N6q, e6⟩ := hQ6
  have N6 := Fr.app N5 N6q
  have q7 := (pre_F_x0_coder.keep K5 nin0)
  have q8 := (pre_E_x0.keep K5)
  obtain ⟨T9, h9, X9, e9, W9, st9⟩ := putFN X6 hx hZ hown (hw _ (im 29 rfl)) Via.refl e6 q7 q8 (Or.inr ⟨(hw _ (im 30 rfl)), rfl, hnm⟩) (hw _ (im 5 rfl)) (ty := .byte) (v' := (.int 0)) (by decide) rfl (by first | exact fits_nar_byte _ | decide | rfl) (g := (mkF m 48 #[rv x0, rv x1, iv 0, iv 1, .val .null, rv b_5] [(.int 0), (.ref x0)])) rfl rfl (hb hby d2_48)
  have Fw9 := q7.same W9
  have Z9_ : n0 ≤ h9.size := Nat.le_trans Z5_ (Nat.le_of_eq W9.size.symm)
  have O9_ := O5_.wr W9 g_x0
  have N9 := Fr.snoc X9 N6 g_x0
  have KK9 := KK5.wr W9 (Or.inl (List.mem_of_getElem? (i := 0) rfl))
  have q10 := ((pre_F_x0_value.keep K5 nin0).other W9 (Or.inr (own_sn (la_0 hw) (la_1 hw))))
  have q11 := (q8.wr W9)
  obtain ⟨T12, h12, X12, e12, W12, st12⟩ := putF X9 hx hZ hown (host := "") (Or.inl (hw _ (im 31 rfl))) Via.refl e9 q10 q11 (Or.inr ⟨(hw _ (im 32 rfl)), rfl, hnm⟩) (hw _ (im 5 rfl)) (ty := (.array .byte)) (by decide) rfl rfl (g := (mkF m 54 #[rv x0, rv x1, iv 0, iv 1, .val .null, rv b_5] [(.ref b_5), (.ref x0)])) rfl rfl (hb hby d2_54)
  have Fw12 := q10.same W12
  have Z12_ : n0 ≤ h12.size := Nat.le_trans Z9_ (Nat.le_of_eq W12.size.symm)
  have O12_ := O9_.wr W12 g_x0
  have N12 := Fr.snoc X12 N9 g_x0
  have KK12 := KK9.wr W12 (Or.inl (List.mem_of_getElem? (i := 0) rfl))
  have P13 := own_go P0 (S' := T12.setTop (mkF m 57 #[rv x0, rv x1, iv 0, iv 1, .val .null, rv b_5] [])) (by
    intro t k
    refine XS.aloadN X0.here hx rfl (hb hby d2_0) rfl rfl ?_
    refine st1 _ ?_
    refine XS.iloadN X1.here hx rfl (hb hby d2_4) rfl ?_
    refine XS.ifYes X1.here hx rfl (pc0 := 5) (pc' := 27) rfl (hb hby d2_5) rfl ((if0 _ _).trans (feq (by decide)).2) (by decide) (by decide) ?_
    refine st3 _ ?_
    refine XS.ifNo X3.here hx rfl (hb hby d2_30) rfl ((if0 _ _).trans (feq hc30_4).1) ?_
    refine XS.aloadN X3.here hx rfl (hb hby d2_33) rfl rfl ?_
    refine XS.iloadN X3.here hx rfl (hb hby d2_34) rfl ?_
    show Steps p.tables e below (T3.setTop (mkF m 35 #[rv x0, rv x1, iv 0, iv 1, .val .null, .unset] [(.int 0), (.ref x1)])) _
    refine XS.iloadN X3.here hx rfl (hb hby d2_35) rfl ?_
    refine st5 _ ?_
    refine XS.astore X5.here hx rfl (hb hby d2_39) rfl rfl (l' := #[rv x0, rv x1, iv 0, iv 1, .val .null, rv b_5]) rfl ?_
    refine XS.aloadN X5.here hx rfl (hb hby d2_41) rfl rfl ?_
    refine XS.aload X5.here hx rfl (hb hby d2_42) rfl rfl ?_
    refine XS.iloadN X5.here hx rfl (hb hby d2_44) rfl ?_
    refine st6 _ ?_
    refine st9 _ ?_
    show Steps p.tables e below (T9.setTop (mkF m 51 #[rv x0, rv x1, iv 0, iv 1, .val .null, rv b_5] [])) _
    refine XS.aloadN X9.here hx rfl (hb hby d2_51) rfl rfl ?_
    refine XS.aload X9.here hx rfl (hb hby d2_52) rfl rfl ?_
    refine st12 _ ?_
    exact k)
  have q14 := (q11.wr W12)
  obtain ⟨fs, hr, hrun, hended, hW, hsame⟩ := X12.leave (v := none) (fun _ => rfl)
  refine ⟨_, _, P13 _ ?_, hrun, hended, _, _, rfl, ?_, ⟨_, rfl⟩, hW, hsame.mono (by decide) (by decide)⟩
  · show Steps p.tables e below (T12.setTop (mkF m 57 #[rv x0, rv x1, iv 0, iv 1, .val .null, rv b_5] [])) _
    exact X12.returnOut hx Bd.returns (hb hby d2_57) hr
  · show Qi4s1 Z x0 x1 cs kc c0 h0 n0 _ T12.heap _
    rw [e12]
    exact ⟨rfl, N12, KK12, q14⟩
def Qi1s1 (Z : State) (x0 : Addr) (x1 : Addr) (cs : Int32) (kc : ClassId) (c0 : Int32) (h0 : Heap) (n0 : Nat) (v : Option Value) (h : Heap) (L : List Loc) : Prop := v = none ∧ Fr n0 L ∧ Keep h0 h [x0] ∧ Exa Z h x0 "java/lang/String"
theorem ef_i1s1 (m : MethodId) (x0 : Addr) (x1 : Addr) : entryFrame m #[(.ref x0), (.ref x1)] 2 = mkF m 0 #[rv x0, rv x1] [] := by first | (simp [entryFrame, mkF, argsToLocals, Value.category]; done) | rfl
set_option maxRecDepth 65536 in
set_option maxHeartbeats 40000000 in
theorem rmi1s1 (l : Launch) (Z : State) (a0 : Array Value) (hw : ∀ d ∈ tables_1, d.before a0 Z = true) (ws : List Jvm.Cond) (x0 : Addr) (x1 : Addr) (cs : Int32) (kc : ClassId) (c0 : Int32) (h0 : Heap) (n0 : Nat) (Z0 : n0 ≤ h0.size) (O0 : Old Z n0 h0) (pre_S_COMPACT_STRINGS : Sta Z Z.heap "java/lang/String" "COMPACT_STRINGS" "Z" (.int cs)) (hcs : ¬ (cs = (0 : Int32))) (pre_E_x0 : Exa Z h0 x0 "java/lang/String") (pre_F_x0_value : Fld Z h0 x0 "java/lang/String" "value" "[B" .null) (pre_F_x0_coder : Fld Z h0 x0 "java/lang/String" "coder" "B" (.int 0)) (g_x0 : n0 ≤ x0) (pre_A_x1 : Arv Z h0 x1 kc .char (1 : Int32) [(.int c0)] (.int 0)) (ne_x0_x1 : x0 ≠ x1) (hc0 : ¬ ((255 : Int32) < c0)) :
    MetFree l (⟨"java/lang/String", "<init>", "([C)V"⟩ : MethodName) (head1 (Jvm.Cond.code (⟨"java/lang/String", "<init>", "([C)V"⟩ : MethodName) jdk_42_method_3_code 2 none :: ws) ({ frames := 3, cells := 1, slots := 1, locals := 52 } : Room)) (fun a U => a = #[(.ref x0), (.ref x1)] ∧ Z.Warmed39 U.vm ∧ U.heap = h0) (fun _ _ _ _ _ => True) (fun _ U o U' => ∃ v L, o = .returned v ∧ Qi1s1 Z x0 x1 cs kc c0 h0 n0 v U'.heap L ∧ FrameEnd U o U' L ({ frames := 3, cells := 1, slots := 1, locals := 52 } : Room).cells ({ frames := 3, cells := 1, slots := 1, locals := 52 } : Room).slots) := by
  refine MetFree.of_bodySF (plainFor_of_name pn_1) hisR ?_
  intro p e s m args below meth c s₁ Bd hml0 hP hK
  obtain ⟨rfl, hZ, hh⟩ := hP
  have hx := Bd.exec
  have hby := Bd.bytes
  have hml : c.maxLocals = 2 := hml0
  have hown : s.vm.findClass "java/lang/String" = some m.cls := findClass_of_methodNamed Bd.named
  have hnm := (name_of_methodNamed Bd.named Bd.method).1
  have X0 : Stand p l e ({ frames := 3, cells := 1, slots := 1, locals := 52 } : Room) s m #[(.ref x0), (.ref x1)] below meth c s₁ [] 0 0 := Stand.of_body Bd
  have e0 : s₁.heap = h0 := by rw [← hh, Bd.state]; rfl
  have N0 := Fr.nil n0
  have Kp0 := Keep.refl h0 [x0]
  have P0 : ∀ t, Steps p.tables e below (s₁.setTop (mkF m 0 #[rv x0, rv x1] [])) t → Steps p.tables e below (s₁.setTop (entryFrame m #[(.ref x0), (.ref x1)] 2)) t := fun t k => castTop (ef_i1s1 m x0 x1) k
  obtain ⟨cl1, Ar1, qa1, S1, Nn1, H1, G1⟩ := id pre_A_x1
  obtain ⟨_, _, ⟨T2, L2, k2, n2⟩, -, X2, ⟨Lc2, hQ2, l2, y2, z2⟩, st2⟩ := X0.specialBack hx (y := (⟨"java/lang/String", "<init>", "([CIILjava/lang/Void;)V"⟩ : MethodName)) rfl hown (mvT hZ (hw _ (im 10 rfl))) (mvT hZ (hw _ (im 11 rfl))) (mvT hZ (hw _ (im 13 rfl))) (by decide) (backOf (W := 0) (rmi4s1 l Z a0 hw [] x0 x1 cs kc c0 h0 n0 Z0 O0 pre_S_COMPACT_STRINGS (hcs) pre_E_x0 pre_F_x0_value pre_F_x0_coder g_x0 pre_A_x1 ne_x0_x1 (hc0)) hZ (hw _ (im 13 rfl)) (hw _ (im 6 rfl)) (by decide) (by decide)) (g := (mkF m 6 #[rv x0, rv x1] [.null, (.int 1), (.int 0), (.ref x1), (.ref x0)])) rfl (by rw [hml]; rfl) (Steps.refl _) (a := x0) (argsL := [(.ref x1), (.int 0), (.int 1), .null]) (rest := []) (lenOf pd_3 rfl) rfl (by show 2 * 0 + _ ≤ _; exact Nat.le_of_eq rfl) (hb hby d1_6) (fun _ _ => ⟨rfl, e0, (by decide : 0 + 1 ≤ _), (by decide : 0 + 1 ≤ _)⟩)
  dsimp only [Pt.U, Pt.locs, Pt.cells, Pt.slots] at X2 l2 y2 z2 st2 hQ2
  subst l2 y2 z2
  obtain ⟨rfl, N2q, K2, r2_0⟩ := hQ2
  have N2 := Fr.app N0 N2q
  have Z2_ : n0 ≤ T2.heap.size := Nat.le_trans Z0 K2.1
  have O2_ := O0.keep K2 (allS g_x0 all0)
  have KK2 := Kp0.trans K2 (allS (Or.inl (List.mem_of_getElem? (i := 0) rfl)) all0)
  have P3 := own_go P0 (S' := T2.setTop (mkF m 9 #[rv x0, rv x1] [])) (by
    intro t k
    refine XS.aloadN X0.here hx rfl (hb hby d1_0) rfl rfl ?_
    refine XS.aloadN X0.here hx rfl (hb hby d1_1) rfl rfl ?_
    refine XS.iconst X0.here hx rfl (hb hby d1_2) ?_
    refine XS.aloadN X0.here hx rfl (hb hby d1_3) rfl rfl ?_
    refine X0.arraylength hx (by rw [e0]; exact Ar1.1) (State.isArrayOf_alike hZ.alike Ar1.2.1) (g := (mkF m 4 #[rv x0, rv x1] [(.ref x1), (.int 0), (.ref x1), (.ref x0)])) rfl rfl (hb hby d1_4) _ ?_
    rw [len_of S1 Nn1]
    refine XS.aconstNull X0.here hx rfl (hb hby d1_5) ?_
    refine st2.trans ?_
    exact k)
  obtain ⟨fs, hr, hrun, hended, hW, hsame⟩ := X2.leave (v := none) (fun _ => rfl)
  refine ⟨_, _, P3 _ ?_, hrun, hended, _, _, rfl, ?_, ⟨_, rfl⟩, hW, hsame.mono (by decide) (by decide)⟩
  · show Steps p.tables e below (T2.setTop (mkF m 9 #[rv x0, rv x1] [])) _
    exact X2.returnOut hx Bd.returns (hb hby d1_9) hr
  · show Qi1s1 Z x0 x1 cs kc c0 h0 n0 _ T2.heap _
    exact ⟨rfl, N2, KK2, r2_0⟩
def Q8 (Z : State) (x0 : Addr) (h0 : Heap) (n0 : Nat) (v : Option Value) (h : Heap) (L : List Loc) : Prop := v = none ∧ Fr n0 L ∧ h = h0
theorem ef_8 (m : MethodId) (x0 : Addr) : entryFrame m #[(.ref x0)] 1 = mkF m 0 #[rv x0] [] := by first | (simp [entryFrame, mkF, argsToLocals, Value.category]; done) | rfl
set_option maxRecDepth 65536 in
set_option maxHeartbeats 40000000 in
theorem rm8 (l : Launch) (Z : State) (a0 : Array Value) (hw : ∀ d ∈ tables_1, d.before a0 Z = true) (ws : List Jvm.Cond) (x0 : Addr) (h0 : Heap) (n0 : Nat) (Z0 : n0 ≤ h0.size) :
    MetFree l (⟨"java/lang/Record", "<init>", "()V"⟩ : MethodName) (head1 (Jvm.Cond.code (⟨"java/lang/Record", "<init>", "()V"⟩ : MethodName) jdk_30_method_1_code 1 none :: ws) ({ frames := 1, cells := 0, slots := 0, locals := 12 } : Room)) (fun a U => a = #[(.ref x0)] ∧ Z.Warmed39 U.vm ∧ U.heap = h0) (fun _ _ _ _ _ => True) (fun _ U o U' => ∃ v L, o = .returned v ∧ Q8 Z x0 h0 n0 v U'.heap L ∧ FrameEnd U o U' L ({ frames := 1, cells := 0, slots := 0, locals := 12 } : Room).cells ({ frames := 1, cells := 0, slots := 0, locals := 12 } : Room).slots) := by
  refine MetFree.of_bodySF (plainFor_of_name pn_8) hisR ?_
  intro p e s m args below meth c s₁ Bd hml0 hP hK
  obtain ⟨rfl, hZ, hh⟩ := hP
  have hx := Bd.exec
  have hby := Bd.bytes
  have hml : c.maxLocals = 1 := hml0
  have hown : s.vm.findClass "java/lang/Record" = some m.cls := findClass_of_methodNamed Bd.named
  have hnm := (name_of_methodNamed Bd.named Bd.method).1
  have X0 : Stand p l e ({ frames := 1, cells := 0, slots := 0, locals := 12 } : Room) s m #[(.ref x0)] below meth c s₁ [] 0 0 := Stand.of_body Bd
  have e0 : s₁.heap = h0 := by rw [← hh, Bd.state]; rfl
  have N0 := Fr.nil n0
  have Kp0 := Keep.refl h0 []
  have P0 : ∀ t, Steps p.tables e below (s₁.setTop (mkF m 0 #[rv x0] [])) t → Steps p.tables e below (s₁.setTop (entryFrame m #[(.ref x0)] 1)) t := fun t k => castTop (ef_8 m x0) k
  obtain ⟨T1, X1, e1, st1⟩ := initO X0 hx hZ hown (hw _ (im 41 rfl)) (hw _ (im 15 rfl)) (hw _ (im 16 rfl)) e0 (g := (mkF m 1 #[rv x0] [(.ref x0)])) rfl (by rw [hml]; rfl) rfl (hb hby d8_1) (by decide) (W := 0) (by show 2 * 0 + _ ≤ _; exact Nat.le_of_eq rfl) (by decide)
  have P2 := own_go P0 (S' := T1.setTop (mkF m 4 #[rv x0] [])) (by
    intro t k
    refine XS.aloadN X0.here hx rfl (hb hby d8_0) rfl rfl ?_
    refine st1 _ ?_
    exact k)
  obtain ⟨fs, hr, hrun, hended, hW, hsame⟩ := X1.leave (v := none) (fun _ => rfl)
  refine ⟨_, _, P2 _ ?_, hrun, hended, _, _, rfl, ?_, ⟨_, rfl⟩, hW, hsame.mono (by decide) (by decide)⟩
  · show Steps p.tables e below (T1.setTop (mkF m 4 #[rv x0] [])) _
    exact X1.returnOut hx Bd.returns (hb hby d8_4) hr
  · show Q8 Z x0 h0 n0 _ T1.heap _
    rw [e1]
    exact ⟨rfl, N0, rfl⟩
def Q7 (Z : State) (x0 : Addr) (x1 : Addr) (x2 : Int32) (x3 : Addr) (h0 : Heap) (n0 : Nat) (v : Option Value) (h : Heap) (L : List Loc) : Prop := v = none ∧ Fr n0 L ∧ Keep h0 h [x0] ∧ Exa Z h x0 "com/example/vestline/vestline/plan/ElectiveDeferralRule$RothOnlyAboveWages" ∧ Fld Z h x0 "com/example/vestline/vestline/plan/ElectiveDeferralRule$RothOnlyAboveWages" "fromYear" "I" (.int x2)
theorem ef_7 (m : MethodId) (x0 : Addr) (x1 : Addr) (x2 : Int32) (x3 : Addr) : entryFrame m #[(.ref x0), (.ref x1), (.int x2), (.ref x3)] 4 = mkF m 0 #[rv x0, rv x1, iv x2, rv x3] [] := by first | (simp [entryFrame, mkF, argsToLocals, Value.category]; done) | rfl
set_option maxRecDepth 65536 in
set_option maxHeartbeats 40000000 in
theorem rm7 (l : Launch) (Z : State) (a0 : Array Value) (hw : ∀ d ∈ tables_1, d.before a0 Z = true) (ws : List Jvm.Cond) (x0 : Addr) (x1 : Addr) (x2 : Int32) (x3 : Addr) (h0 : Heap) (n0 : Nat) (Z0 : n0 ≤ h0.size) (pre_E_x0 : Exa Z h0 x0 "com/example/vestline/vestline/plan/ElectiveDeferralRule$RothOnlyAboveWages") (pre_F_x0_section : Fld Z h0 x0 "com/example/vestline/vestline/plan/ElectiveDeferralRule$RothOnlyAboveWages" "section" "Ljava/lang/String;" .null) (pre_F_x0_fromYear : Fld Z h0 x0 "com/example/vestline/vestline/plan/ElectiveDeferralRule$RothOnlyAboveWages" "fromYear" "I" (.int 0)) (pre_F_x0_limit : Fld Z h0 x0 "com/example/vestline/vestline/plan/ElectiveDeferralRule$RothOnlyAboveWages" "limit" "Ljava/lang/String;" .null) (g_x0 : n0 ≤ x0) :
    MetFree l (⟨"com/example/vestline/vestline/plan/ElectiveDeferralRule$RothOnlyAboveWages", "<init>", "(Ljava/lang/String;ILjava/lang/String;)V"⟩ : MethodName) (head1 (Jvm.Cond.code (⟨"com/example/vestline/vestline/plan/ElectiveDeferralRule$RothOnlyAboveWages", "<init>", "(Ljava/lang/String;ILjava/lang/String;)V"⟩ : MethodName) prog_127_method_1_code 4 none :: ws) ({ frames := 2, cells := 0, slots := 0, locals := 24 } : Room)) (fun a U => a = #[(.ref x0), (.ref x1), (.int x2), (.ref x3)] ∧ Z.Warmed39 U.vm ∧ U.heap = h0) (fun _ _ _ _ _ => True) (fun _ U o U' => ∃ v L, o = .returned v ∧ Q7 Z x0 x1 x2 x3 h0 n0 v U'.heap L ∧ FrameEnd U o U' L ({ frames := 2, cells := 0, slots := 0, locals := 24 } : Room).cells ({ frames := 2, cells := 0, slots := 0, locals := 24 } : Room).slots) := by
  refine MetFree.of_bodySF (plainFor_of_name pn_7) hisR ?_
  intro p e s m args below meth c s₁ Bd hml0 hP hK
  obtain ⟨rfl, hZ, hh⟩ := hP
  have hx := Bd.exec
  have hby := Bd.bytes
  have hml : c.maxLocals = 4 := hml0
  have hown : s.vm.findClass "com/example/vestline/vestline/plan/ElectiveDeferralRule$RothOnlyAboveWages" = some m.cls := findClass_of_methodNamed Bd.named
  have hnm := (name_of_methodNamed Bd.named Bd.method).1
  have X0 : Stand p l e ({ frames := 2, cells := 0, slots := 0, locals := 24 } : Room) s m #[(.ref x0), (.ref x1), (.int x2), (.ref x3)] below meth c s₁ [] 0 0 := Stand.of_body Bd
  have e0 : s₁.heap = h0 := by rw [← hh, Bd.state]; rfl
  have N0 := Fr.nil n0
  have Kp0 := Keep.refl h0 [x0]
  have P0 : ∀ t, Steps p.tables e below (s₁.setTop (mkF m 0 #[rv x0, rv x1, iv x2, rv x3] [])) t → Steps p.tables e below (s₁.setTop (entryFrame m #[(.ref x0), (.ref x1), (.int x2), (.ref x3)] 4)) t := fun t k => castTop (ef_7 m x0 x1 x2 x3) k
  obtain ⟨_, _, ⟨T1, L1, k1, n1⟩, -, X1, ⟨Lc1, hQ1, l1, y1, z1⟩, st1⟩ := X0.specialBack hx (y := (⟨"java/lang/Record", "<init>", "()V"⟩ : MethodName)) rfl hown (mvT hZ (hw _ (im 36 rfl))) (mvT hZ (hw _ (im 37 rfl))) (mvT hZ (hw _ (im 40 rfl))) (by decide) (backOf (W := 0) (rm8 l Z a0 hw [] x0 h0 n0 Z0 ) hZ (hw _ (im 40 rfl)) (hw _ (im 39 rfl)) (by decide) (by decide)) (g := (mkF m 1 #[rv x0, rv x1, iv x2, rv x3] [(.ref x0)])) rfl (by rw [hml]; rfl) (Steps.refl _) (a := x0) (argsL := []) (rest := []) (lenOf pd_4 rfl) rfl (by show 2 * 0 + _ ≤ _; exact Nat.le_of_eq rfl) (hb hby d7_1) (fun _ _ => ⟨rfl, e0, (by decide : 0 + 0 ≤ _), (by decide : 0 + 0 ≤ _)⟩)
  dsimp only [Pt.U, Pt.locs, Pt.cells, Pt.slots] at X1 l1 y1 z1 st1 hQ1
  subst l1 y1 z1
  obtain ⟨rfl, N1q, e1⟩ := hQ1
  have N1 := Fr.app N0 N1q
  obtain ⟨T2, h2, X2, e2, W2, st2⟩ := putF X1 hx hZ hown (host := "") (Or.inl (hw _ (im 42 rfl))) Via.refl e1 pre_F_x0_section pre_E_x0 (Or.inr ⟨(hw _ (im 43 rfl)), rfl, hnm⟩) (hw _ (im 2 rfl)) (ty := (.object "java/lang/String")) (by decide) rfl rfl (g := (mkF m 6 #[rv x0, rv x1, iv x2, rv x3] [(.ref x1), (.ref x0)])) rfl rfl (hb hby d7_6)
  have Fw2 := pre_F_x0_section.same W2
  have Z2_ : n0 ≤ h2.size := Nat.le_trans Z0 (Nat.le_of_eq W2.size.symm)
  have N2 := Fr.snoc X2 N1 g_x0
  have KK2 := Kp0.wr W2 (Or.inl (List.mem_of_getElem? (i := 0) rfl))
  have q3 := (pre_F_x0_fromYear.other W2 (Or.inr (own_sn (la_2 hw) (la_3 hw))))
  have q4 := (pre_E_x0.wr W2)
  obtain ⟨T5, h5, X5, e5, W5, st5⟩ := putF X2 hx hZ hown (host := "") (Or.inl (hw _ (im 44 rfl))) Via.refl e2 q3 q4 (Or.inr ⟨(hw _ (im 45 rfl)), rfl, hnm⟩) (hw _ (im 2 rfl)) (ty := .int) (by decide) rfl rfl (g := (mkF m 11 #[rv x0, rv x1, iv x2, rv x3] [(.int x2), (.ref x0)])) rfl rfl (hb hby d7_11)
  have Fw5 := q3.same W5
  have Z5_ : n0 ≤ h5.size := Nat.le_trans Z2_ (Nat.le_of_eq W5.size.symm)
  have N5 := Fr.snoc X5 N2 g_x0
  have KK5 := KK2.wr W5 (Or.inl (List.mem_of_getElem? (i := 0) rfl))
  have q6 := ((pre_F_x0_limit.other W2 (Or.inr (own_sn (la_4 hw) (la_3 hw)))).other W5 (Or.inr (own_sn (la_4 hw) (la_2 hw))))
  have q7 := (q4.wr W5)
  obtain ⟨T8, h8, X8, e8, W8, st8⟩ := putF X5 hx hZ hown (host := "") (Or.inl (hw _ (im 46 rfl))) Via.refl e5 q6 q7 (Or.inr ⟨(hw _ (im 47 rfl)), rfl, hnm⟩) (hw _ (im 2 rfl)) (ty := (.object "java/lang/String")) (by decide) rfl rfl (g := (mkF m 16 #[rv x0, rv x1, iv x2, rv x3] [(.ref x3), (.ref x0)])) rfl rfl (hb hby d7_16)
  have Fw8 := q6.same W8
  have Z8_ : n0 ≤ h8.size := Nat.le_trans Z5_ (Nat.le_of_eq W8.size.symm)
  have N8 := Fr.snoc X8 N5 g_x0
  have KK8 := KK5.wr W8 (Or.inl (List.mem_of_getElem? (i := 0) rfl))
  have P9 := own_go P0 (S' := T8.setTop (mkF m 19 #[rv x0, rv x1, iv x2, rv x3] [])) (by
    intro t k
    refine XS.aloadN X0.here hx rfl (hb hby d7_0) rfl rfl ?_
    refine st1.trans ?_
    refine XS.aloadN X1.here hx rfl (hb hby d7_4) rfl rfl ?_
    refine XS.aloadN X1.here hx rfl (hb hby d7_5) rfl rfl ?_
    refine st2 _ ?_
    refine XS.aloadN X2.here hx rfl (hb hby d7_9) rfl rfl ?_
    refine XS.iloadN X2.here hx rfl (hb hby d7_10) rfl ?_
    refine st5 _ ?_
    show Steps p.tables e below (T5.setTop (mkF m 14 #[rv x0, rv x1, iv x2, rv x3] [])) _
    refine XS.aloadN X5.here hx rfl (hb hby d7_14) rfl rfl ?_
    refine XS.aloadN X5.here hx rfl (hb hby d7_15) rfl rfl ?_
    refine st8 _ ?_
    exact k)
  have q10 := (q7.wr W8)
  have q11 := (Fw5.other W8 (Or.inr (own_sn (la_2 hw) (la_4 hw))))
  obtain ⟨fs, hr, hrun, hended, hW, hsame⟩ := X8.leave (v := none) (fun _ => rfl)
  refine ⟨_, _, P9 _ ?_, hrun, hended, _, _, rfl, ?_, ⟨_, rfl⟩, hW, hsame.mono (by decide) (by decide)⟩
  · show Steps p.tables e below (T8.setTop (mkF m 19 #[rv x0, rv x1, iv x2, rv x3] [])) _
    exact X8.returnOut hx Bd.returns (hb hby d7_19) hr
  · show Q7 Z x0 x1 x2 x3 h0 n0 _ T8.heap _
    rw [e8]
    exact ⟨rfl, N8, KK8, q10, q11⟩
def Q9 (Z : State) (x0 : Addr) (x1 : Int32) (w : Int32) (h0 : Heap) (n0 : Nat) (v : Option Value) (h : Heap) (L : List Loc) : Prop := v = some (.int (if (¬ (x1 < w)) then (1 : Int32) else (0 : Int32))) ∧ Fr n0 L ∧ h = h0
theorem ef_9 (m : MethodId) (x0 : Addr) (x1 : Int32) : entryFrame m #[(.ref x0), (.int x1)] 2 = mkF m 0 #[rv x0, iv x1] [] := by first | (simp [entryFrame, mkF, argsToLocals, Value.category]; done) | rfl
set_option maxRecDepth 65536 in
set_option maxHeartbeats 40000000 in
theorem rm9 (l : Launch) (Z : State) (a0 : Array Value) (hw : ∀ d ∈ tables_1, d.before a0 Z = true) (ws : List Jvm.Cond) (x0 : Addr) (x1 : Int32) (w : Int32) (h0 : Heap) (n0 : Nat) (Z0 : n0 ≤ h0.size) (pre_F_x0_fromYear : Fld Z h0 x0 "com/example/vestline/vestline/plan/ElectiveDeferralRule$RothOnlyAboveWages" "fromYear" "I" (.int w)) :
    MetFree l (⟨"com/example/vestline/vestline/plan/ElectiveDeferralRule$RothOnlyAboveWages", "holds", "(I)Z"⟩ : MethodName) (head1 (Jvm.Cond.code (⟨"com/example/vestline/vestline/plan/ElectiveDeferralRule$RothOnlyAboveWages", "holds", "(I)Z"⟩ : MethodName) prog_127_method_2_code 2 (some .boolean) :: ws) ({ frames := 0, cells := 0, slots := 0, locals := 0 } : Room)) (fun a U => a = #[(.ref x0), (.int x1)] ∧ Z.Warmed39 U.vm ∧ U.heap = h0) (fun _ _ _ _ _ => True) (fun _ U o U' => ∃ v L, o = .returned v ∧ Q9 Z x0 x1 w h0 n0 v U'.heap L ∧ FrameEnd U o U' L ({ frames := 0, cells := 0, slots := 0, locals := 0 } : Room).cells ({ frames := 0, cells := 0, slots := 0, locals := 0 } : Room).slots) := by
  refine MetFree.of_bodySF (plainFor_of_name pn_9) hisR ?_
  intro p e s m args below meth c s₁ Bd hml0 hP hK
  obtain ⟨rfl, hZ, hh⟩ := hP
  have hx := Bd.exec
  have hby := Bd.bytes
  have hml : c.maxLocals = 2 := hml0
  have hown : s.vm.findClass "com/example/vestline/vestline/plan/ElectiveDeferralRule$RothOnlyAboveWages" = some m.cls := findClass_of_methodNamed Bd.named
  have hnm := (name_of_methodNamed Bd.named Bd.method).1
  have X0 : Stand p l e ({ frames := 0, cells := 0, slots := 0, locals := 0 } : Room) s m #[(.ref x0), (.int x1)] below meth c s₁ [] 0 0 := Stand.of_body Bd
  have e0 : s₁.heap = h0 := by rw [← hh, Bd.state]; rfl
  have N0 := Fr.nil n0
  have Kp0 := Keep.refl h0 []
  have P0 : ∀ t, Steps p.tables e below (s₁.setTop (mkF m 0 #[rv x0, iv x1] [])) t → Steps p.tables e below (s₁.setTop (entryFrame m #[(.ref x0), (.int x1)] 2)) t := fun t k => castTop (ef_9 m x0 x1) k
  obtain ⟨T1, X1, e1, st1⟩ := getF X0 hx hZ hown (host := "") (Or.inl (hw _ (im 44 rfl))) Via.refl e0 pre_F_x0_fromYear (g := (mkF m 2 #[rv x0, iv x1] [(.ref x0), (.int x1)])) rfl rfl (hb hby d9_2)
  have P3 := own_go P0 (S' := T1.setTop (mkF m 5 #[rv x0, iv x1] [(.int w), (.int x1)])) (by
    intro t k
    refine XS.iloadN X0.here hx rfl (hb hby d9_0) rfl ?_
    refine XS.aloadN X0.here hx rfl (hb hby d9_1) rfl rfl ?_
    refine st1 _ ?_
    exact k)
  by_cases hc5_2 : x1 < w
  · have P4 := own_go P3 (S' := T1.setTop (mkF m 13 #[rv x0, iv x1] [(.int 0)])) (by
      intro t k
      refine XS.icmpYes X1.here hx rfl (pc0 := 5) (pc' := 12) rfl (hb hby d9_5) rfl (tlt hc5_2).1 (by decide) (by decide) ?_
      refine XS.iconst X1.here hx rfl (hb hby d9_12) ?_
      exact k)
    obtain ⟨fs, hr, hrun, hended, hW, hsame⟩ := X1.leave (v := some (.int 0)) (fun h => by rw [Bd.returns] at h; cases h)
    refine ⟨_, _, P4 _ ?_, hrun, hended, _, _, rfl, ?_, ⟨_, rfl⟩, hW, hsame.mono (by decide) (by decide)⟩
    · show Steps p.tables e below (T1.setTop (mkF m 13 #[rv x0, iv x1] [(.int 0)])) _
      exact retN X1 hx (t := .boolean) Bd.returns (by simp) (hb hby d9_13) hr
    · show Q9 Z x0 x1 w h0 n0 _ T1.heap _
      rw [e1]
      exact ⟨(by first | rfl | simp [hc5_2]), N0, rfl⟩
  · have P5 := own_go P3 (S' := T1.setTop (mkF m 13 #[rv x0, iv x1] [(.int 1)])) (by
      intro t k
      refine XS.icmpNo X1.here hx rfl (hb hby d9_5) rfl (flt hc5_2).1 ?_
      refine XS.iconst X1.here hx rfl (hb hby d9_8) ?_
      refine XS.goto X1.here hx rfl (pc0 := 9) (pc' := 13) rfl (hb hby d9_9) (by decide) (by decide) ?_
      exact k)
    obtain ⟨fs, hr, hrun, hended, hW, hsame⟩ := X1.leave (v := some (.int 1)) (fun h => by rw [Bd.returns] at h; cases h)
    refine ⟨_, _, P5 _ ?_, hrun, hended, _, _, rfl, ?_, ⟨_, rfl⟩, hW, hsame.mono (by decide) (by decide)⟩
    · show Steps p.tables e below (T1.setTop (mkF m 13 #[rv x0, iv x1] [(.int 1)])) _
      exact retN X1 hx (t := .boolean) Bd.returns (by simp) (hb hby d9_13) hr
    · show Q9 Z x0 x1 w h0 n0 _ T1.heap _
      rw [e1]
      exact ⟨(by first | rfl | simp [hc5_2]), N0, rfl⟩
def Q10 (Z : State) (x0 : Int32) (x1 : Int32) (h0 : Heap) (n0 : Nat) (v : Option Value) (h : Heap) (L : List Loc) : Prop := v = some (.int (if x1 < x0 then x1 else x0)) ∧ Fr n0 L ∧ h = h0
theorem ef_10 (m : MethodId) (x0 : Int32) (x1 : Int32) : entryFrame m #[(.int x0), (.int x1)] 2 = mkF m 0 #[iv x0, iv x1] [] := by first | (simp [entryFrame, mkF, argsToLocals, Value.category]; done) | rfl
set_option maxRecDepth 65536 in
set_option maxHeartbeats 40000000 in
theorem rm10 (l : Launch) (Z : State) (a0 : Array Value) (hw : ∀ d ∈ tables_1, d.before a0 Z = true) (ws : List Jvm.Cond) (x0 : Int32) (x1 : Int32) (h0 : Heap) (n0 : Nat) (Z0 : n0 ≤ h0.size) :
    MetFree l (⟨"java/lang/Math", "min", "(II)I"⟩ : MethodName) (head1 (Jvm.Cond.code (⟨"java/lang/Math", "min", "(II)I"⟩ : MethodName) jdk_29_method_69_code 2 (some .int) :: ws) ({ frames := 0, cells := 0, slots := 0, locals := 0 } : Room)) (fun a U => a = #[(.int x0), (.int x1)] ∧ Z.Warmed39 U.vm ∧ U.heap = h0) (fun _ _ _ _ _ => True) (fun _ U o U' => ∃ v L, o = .returned v ∧ Q10 Z x0 x1 h0 n0 v U'.heap L ∧ FrameEnd U o U' L ({ frames := 0, cells := 0, slots := 0, locals := 0 } : Room).cells ({ frames := 0, cells := 0, slots := 0, locals := 0 } : Room).slots) := by
  refine MetFree.of_bodySF (Jvm.Free.JP.mathPlain rfl (by decide +kernel)) hisR ?_
  intro p e s m args below meth c s₁ Bd hml0 hP hK
  obtain ⟨rfl, hZ, hh⟩ := hP
  have hx := Bd.exec
  have hby := Bd.bytes
  have hml : c.maxLocals = 2 := hml0
  have hown : s.vm.findClass "java/lang/Math" = some m.cls := findClass_of_methodNamed Bd.named
  have hnm := (name_of_methodNamed Bd.named Bd.method).1
  have X0 : Stand p l e ({ frames := 0, cells := 0, slots := 0, locals := 0 } : Room) s m #[(.int x0), (.int x1)] below meth c s₁ [] 0 0 := Stand.of_body Bd
  have e0 : s₁.heap = h0 := by rw [← hh, Bd.state]; rfl
  have N0 := Fr.nil n0
  have Kp0 := Keep.refl h0 []
  have P0 : ∀ t, Steps p.tables e below (s₁.setTop (mkF m 0 #[iv x0, iv x1] [])) t → Steps p.tables e below (s₁.setTop (entryFrame m #[(.int x0), (.int x1)] 2)) t := fun t k => castTop (ef_10 m x0 x1) k
  have P2 := own_go P0 (S' := s₁.setTop (mkF m 2 #[iv x0, iv x1] [(.int x1), (.int x0)])) (by
    intro t k
    refine XS.iloadN X0.here hx rfl (hb hby d10_0) rfl ?_
    refine XS.iloadN X0.here hx rfl (hb hby d10_1) rfl ?_
    exact k)
  by_cases hc2_1 : x1 < x0
  · have P3 := own_go P2 (S' := s₁.setTop (mkF m 10 #[iv x0, iv x1] [(.int x1)])) (by
      intro t k
      refine XS.icmpYes X0.here hx rfl (pc0 := 2) (pc' := 9) rfl (hb hby d10_2) rfl (tlt hc2_1).2.2.1 (by decide) (by decide) ?_
      refine XS.iloadN X0.here hx rfl (hb hby d10_9) rfl ?_
      exact k)
    obtain ⟨fs, hr, hrun, hended, hW, hsame⟩ := X0.leave (v := some (.int x1)) (fun h => by rw [Bd.returns] at h; cases h)
    refine ⟨_, _, P3 _ ?_, hrun, hended, _, _, rfl, ?_, ⟨_, rfl⟩, hW, hsame.mono (by decide) (by decide)⟩
    · show Steps p.tables e below (s₁.setTop (mkF m 10 #[iv x0, iv x1] [(.int x1)])) _
      exact retI X0 hx Bd.returns (hb hby d10_10) hr
    · show Q10 Z x0 x1 h0 n0 _ s₁.heap _
      rw [e0]
      exact ⟨(by first | rfl | simp [hc2_1]), N0, rfl⟩
  · have P4 := own_go P2 (S' := s₁.setTop (mkF m 10 #[iv x0, iv x1] [(.int x0)])) (by
      intro t k
      refine XS.icmpNo X0.here hx rfl (hb hby d10_2) rfl (flt hc2_1).2.2.1 ?_
      refine XS.iloadN X0.here hx rfl (hb hby d10_5) rfl ?_
      refine XS.goto X0.here hx rfl (pc0 := 6) (pc' := 10) rfl (hb hby d10_6) (by decide) (by decide) ?_
      exact k)
    obtain ⟨fs, hr, hrun, hended, hW, hsame⟩ := X0.leave (v := some (.int x0)) (fun h => by rw [Bd.returns] at h; cases h)
    refine ⟨_, _, P4 _ ?_, hrun, hended, _, _, rfl, ?_, ⟨_, rfl⟩, hW, hsame.mono (by decide) (by decide)⟩
    · show Steps p.tables e below (s₁.setTop (mkF m 10 #[iv x0, iv x1] [(.int x0)])) _
      exact retI X0 hx Bd.returns (hb hby d10_10) hr
    · show Q10 Z x0 x1 h0 n0 _ s₁.heap _
      rw [e0]
      exact ⟨(by first | rfl | simp [hc2_1]), N0, rfl⟩
def Q11 (Z : State) (x0 : Int32) (x1 : Int32) (h0 : Heap) (n0 : Nat) (v : Option Value) (h : Heap) (L : List Loc) : Prop := v = some (.int (if x0 < x1 then x1 else x0)) ∧ Fr n0 L ∧ h = h0
theorem ef_11 (m : MethodId) (x0 : Int32) (x1 : Int32) : entryFrame m #[(.int x0), (.int x1)] 2 = mkF m 0 #[iv x0, iv x1] [] := by first | (simp [entryFrame, mkF, argsToLocals, Value.category]; done) | rfl
set_option maxRecDepth 65536 in
set_option maxHeartbeats 40000000 in
theorem rm11 (l : Launch) (Z : State) (a0 : Array Value) (hw : ∀ d ∈ tables_1, d.before a0 Z = true) (ws : List Jvm.Cond) (x0 : Int32) (x1 : Int32) (h0 : Heap) (n0 : Nat) (Z0 : n0 ≤ h0.size) :
    MetFree l (⟨"java/lang/Math", "max", "(II)I"⟩ : MethodName) (head1 (Jvm.Cond.code (⟨"java/lang/Math", "max", "(II)I"⟩ : MethodName) jdk_29_method_65_code 2 (some .int) :: ws) ({ frames := 0, cells := 0, slots := 0, locals := 0 } : Room)) (fun a U => a = #[(.int x0), (.int x1)] ∧ Z.Warmed39 U.vm ∧ U.heap = h0) (fun _ _ _ _ _ => True) (fun _ U o U' => ∃ v L, o = .returned v ∧ Q11 Z x0 x1 h0 n0 v U'.heap L ∧ FrameEnd U o U' L ({ frames := 0, cells := 0, slots := 0, locals := 0 } : Room).cells ({ frames := 0, cells := 0, slots := 0, locals := 0 } : Room).slots) := by
  refine MetFree.of_bodySF (Jvm.Free.JP.mathPlain rfl (by decide +kernel)) hisR ?_
  intro p e s m args below meth c s₁ Bd hml0 hP hK
  obtain ⟨rfl, hZ, hh⟩ := hP
  have hx := Bd.exec
  have hby := Bd.bytes
  have hml : c.maxLocals = 2 := hml0
  have hown : s.vm.findClass "java/lang/Math" = some m.cls := findClass_of_methodNamed Bd.named
  have hnm := (name_of_methodNamed Bd.named Bd.method).1
  have X0 : Stand p l e ({ frames := 0, cells := 0, slots := 0, locals := 0 } : Room) s m #[(.int x0), (.int x1)] below meth c s₁ [] 0 0 := Stand.of_body Bd
  have e0 : s₁.heap = h0 := by rw [← hh, Bd.state]; rfl
  have N0 := Fr.nil n0
  have Kp0 := Keep.refl h0 []
  have P0 : ∀ t, Steps p.tables e below (s₁.setTop (mkF m 0 #[iv x0, iv x1] [])) t → Steps p.tables e below (s₁.setTop (entryFrame m #[(.int x0), (.int x1)] 2)) t := fun t k => castTop (ef_11 m x0 x1) k
  have P2 := own_go P0 (S' := s₁.setTop (mkF m 2 #[iv x0, iv x1] [(.int x1), (.int x0)])) (by
    intro t k
    refine XS.iloadN X0.here hx rfl (hb hby d11_0) rfl ?_
    refine XS.iloadN X0.here hx rfl (hb hby d11_1) rfl ?_
    exact k)
  by_cases hc2_1 : x0 < x1
  · have P3 := own_go P2 (S' := s₁.setTop (mkF m 10 #[iv x0, iv x1] [(.int x1)])) (by
      intro t k
      refine XS.icmpYes X0.here hx rfl (pc0 := 2) (pc' := 9) rfl (hb hby d11_2) rfl (tlt hc2_1).1 (by decide) (by decide) ?_
      refine XS.iloadN X0.here hx rfl (hb hby d11_9) rfl ?_
      exact k)
    obtain ⟨fs, hr, hrun, hended, hW, hsame⟩ := X0.leave (v := some (.int x1)) (fun h => by rw [Bd.returns] at h; cases h)
    refine ⟨_, _, P3 _ ?_, hrun, hended, _, _, rfl, ?_, ⟨_, rfl⟩, hW, hsame.mono (by decide) (by decide)⟩
    · show Steps p.tables e below (s₁.setTop (mkF m 10 #[iv x0, iv x1] [(.int x1)])) _
      exact retI X0 hx Bd.returns (hb hby d11_10) hr
    · show Q11 Z x0 x1 h0 n0 _ s₁.heap _
      rw [e0]
      exact ⟨(by first | rfl | simp [hc2_1]), N0, rfl⟩
  · have P4 := own_go P2 (S' := s₁.setTop (mkF m 10 #[iv x0, iv x1] [(.int x0)])) (by
      intro t k
      refine XS.icmpNo X0.here hx rfl (hb hby d11_2) rfl (flt hc2_1).1 ?_
      refine XS.iloadN X0.here hx rfl (hb hby d11_5) rfl ?_
      refine XS.goto X0.here hx rfl (pc0 := 6) (pc' := 10) rfl (hb hby d11_6) (by decide) (by decide) ?_
      exact k)
    obtain ⟨fs, hr, hrun, hended, hW, hsame⟩ := X0.leave (v := some (.int x0)) (fun h => by rw [Bd.returns] at h; cases h)
    refine ⟨_, _, P4 _ ?_, hrun, hended, _, _, rfl, ?_, ⟨_, rfl⟩, hW, hsame.mono (by decide) (by decide)⟩
    · show Steps p.tables e below (s₁.setTop (mkF m 10 #[iv x0, iv x1] [(.int x0)])) _
      exact retI X0 hx Bd.returns (hb hby d11_10) hr
    · show Q11 Z x0 x1 h0 n0 _ s₁.heap _
      rw [e0]
      exact ⟨(by first | rfl | simp [hc2_1]), N0, rfl⟩
def Q0 (Z : State) (x0 : Int32) (x1 : Int32) (x2 : Int32) (x3 : Int32) (cs : Int32) (h0 : Heap) (n0 : Nat) (v : Option Value) (h : Heap) (L : List Loc) : Prop := v = some (.int 1) ∧ Fr n0 L
theorem ef_0 (m : MethodId) (x0 : Int32) (x1 : Int32) (x2 : Int32) (x3 : Int32) : entryFrame m #[(.int x0), (.int x1), (.int x2), (.int x3)] maxLocals = mkF m 0 #[iv x0, iv x1, iv x2, iv x3, .unset, .unset, .unset, .unset, .unset, .unset, .unset, .unset] [] := by first | (simp [entryFrame, mkF, argsToLocals, Value.category, maxLocals]; done) | rfl
set_option maxRecDepth 65536 in
set_option maxHeartbeats 40000000 in
theorem rm0 (l : Launch) (Z : State) (a0 : Array Value) (hw : ∀ d ∈ tables_1, d.before a0 Z = true) (ws : List Jvm.Cond) (x0 : Int32) (x1 : Int32) (x2 : Int32) (x3 : Int32) (cs : Int32) (h0 : Heap) (n0 : Nat) (Z0 : n0 ≤ h0.size) (O0 : Old Z n0 h0) (pre_S_COMPACT_STRINGS : Sta Z Z.heap "java/lang/String" "COMPACT_STRINGS" "Z" (.int cs)) (hcs : ¬ (cs = (0 : Int32))) :
    MetFree l x (head1 (Jvm.Cond.code x code maxLocals ret :: ws) room_1) (fun a U => a = #[(.int x0), (.int x1), (.int x2), (.int x3)] ∧ Z.Warmed39 U.vm ∧ U.heap = h0) (fun _ _ _ _ _ => True) (fun _ U o U' => ∃ v L, o = .returned v ∧ Q0 Z x0 x1 x2 x3 cs h0 n0 v U'.heap L ∧ FrameEnd U o U' L room_1.cells room_1.slots) := by
  refine MetFree.of_bodySF (plainFor_of_name pn_0) hisR ?_
  intro p e s m args below meth c s₁ Bd hml0 hP hK
  obtain ⟨rfl, hZ, hh⟩ := hP
  have hx := Bd.exec
  have hby := Bd.bytes
  have hml : c.maxLocals = 12 := hml0
  have hown : s.vm.findClass "com/example/vestline/vestline/plan/RothOnlyAboveWagesHoldsPinLaw" = some m.cls := findClass_of_methodNamed Bd.named
  have hnm := (name_of_methodNamed Bd.named Bd.method).1
  have X0 : Stand p l e room_1 s m #[(.int x0), (.int x1), (.int x2), (.int x3)] below meth c s₁ [] 0 0 := Stand.of_body Bd
  have e0 : s₁.heap = h0 := by rw [← hh, Bd.state]; rfl
  have N0 := Fr.nil n0
  have Kp0 := Keep.refl h0 []
  have P0 : ∀ t, Steps p.tables e below (s₁.setTop (mkF m 0 #[iv x0, iv x1, iv x2, iv x3, .unset, .unset, .unset, .unset, .unset, .unset, .unset, .unset] [])) t → Steps p.tables e below (s₁.setTop (entryFrame m #[(.int x0), (.int x1), (.int x2), (.int x3)] maxLocals)) t := fun t k => castTop (ef_0 m x0 x1 x2 x3) k
  obtain ⟨T1, h1, k1, X1, e1, E1, A1, st1⟩ := newP X0 hx hZ (hw _ (im 0 rfl)) e0 (g := (mkF m 1 #[iv x0, iv x1, iv x2, iv x3, .unset, .unset, .unset, .unset, .unset, .unset, .unset, .unset] [(.int 1)])) rfl (hb hby at_1) rfl (by decide) (cap := 1) (by decide) (by decide) (by decide) (by decide)
  obtain ⟨b1, g1⟩ : ∃ z, z = h0.size := ⟨_, rfl⟩
  rw [← g1] at A1 st1
  have ge_b1 : n0 ≤ b1 := Nat.le_trans Z0 (Nat.le_of_eq g1.symm)
  have Z1_ : n0 ≤ h1.size := Nat.le_trans Z0 E1.1
  have O1_ := O0.ext E1
  have V1 : Arv Z h1 b1 k1 .char (1 : Int32) [(.int 0)] (.int 0) := (Arv.new A1 (by decide)).pad (pad_rep [] (.int 0) 1)
  obtain ⟨cl2, Ar2, qa2, S2, Nn2, H2, G2⟩ := id V1
  have hin2 : ¬ ((0 : Int32) < 0 ∨ cl2.slots.size ≤ ((0 : Int32)).toNatClampNeg) := inb_of S2 ⟨by decide, by decide⟩
  obtain ⟨T3, h3, X3, e3, W3, st3⟩ := stC X1 hx hZ e1 Ar2 (j := (0 : Int32)) hin2 (g := (mkF m 11 #[iv x0, iv x1, iv x2, iv x3, .unset, .unset, .unset, .unset, .unset, .unset, .unset, .unset] [(.int ((x3 &&& (255 : Int32)).toUInt32.toUInt16.toUInt32.toInt32)), (.int 0), (.ref b1), (.ref b1)])) rfl rfl (hb hby at_11)
  have Z3_ : n0 ≤ h3.size := Nat.le_trans Z1_ (Nat.le_of_eq W3.size.symm)
  have O3_ := O1_.wr W3 ge_b1
  have N3 := Fr.snoc X3 N0 ge_b1
  have V3 : Arv Z h3 b1 k1 .char (1 : Int32) [(.int (nar .char ((x3 &&& (255 : Int32)).toUInt32.toUInt16.toUInt32.toInt32)))] (.int 0) := Arv.set Ar2 qa2 S2 Nn2 H2 G2 (by first | exact fits_nar_char _ | decide | rfl) W3 0 rfl (Nat.le_of_ble_eq_true rfl)
  obtain ⟨T4, h4, k4, X4, e4, E4, A4, st4⟩ := newP X3 hx hZ (hw _ (im 0 rfl)) e3 (g := (mkF m 15 #[iv x0, iv x1, iv x2, iv x3, rv b1, .unset, .unset, .unset, .unset, .unset, .unset, .unset] [(.int 1)])) rfl (hb hby at_15) rfl (by decide) (cap := 1) (by decide) (by decide) (by decide) (by decide)
  obtain ⟨b4, g4⟩ : ∃ z, z = h3.size := ⟨_, rfl⟩
  rw [← g4] at A4 st4
  have ge_b4 : n0 ≤ b4 := Nat.le_trans Z3_ (Nat.le_of_eq g4.symm)
  have Z4_ : n0 ≤ h4.size := Nat.le_trans Z3_ E4.1
  have O4_ := O3_.ext E4
  have V4 : Arv Z h4 b4 k4 .char (1 : Int32) [(.int 0)] (.int 0) := (Arv.new A4 (by decide)).pad (pad_rep [] (.int 0) 1)
  obtain ⟨cl5, Ar5, qa5, S5, Nn5, H5, G5⟩ := id V4
  have hin5 : ¬ ((0 : Int32) < 0 ∨ cl5.slots.size ≤ ((0 : Int32)).toNatClampNeg) := inb_of S5 ⟨by decide, by decide⟩
  obtain ⟨T6, h6, X6, e6, W6, st6⟩ := stC X4 hx hZ e4 Ar5 (j := (0 : Int32)) hin5 (g := (mkF m 28 #[iv x0, iv x1, iv x2, iv x3, rv b1, .unset, .unset, .unset, .unset, .unset, .unset, .unset] [(.int ((((x3.toUInt32 >>> ((8 : Int32) &&& 31).toUInt32).toInt32) &&& (255 : Int32)).toUInt32.toUInt16.toUInt32.toInt32)), (.int 0), (.ref b4), (.ref b4)])) rfl rfl (hb hby at_28)
  have Z6_ : n0 ≤ h6.size := Nat.le_trans Z4_ (Nat.le_of_eq W6.size.symm)
  have O6_ := O4_.wr W6 ge_b4
  have N6 := Fr.snoc X6 N3 ge_b4
  have V6 : Arv Z h6 b4 k4 .char (1 : Int32) [(.int (nar .char ((((x3.toUInt32 >>> ((8 : Int32) &&& 31).toUInt32).toInt32) &&& (255 : Int32)).toUInt32.toUInt16.toUInt32.toInt32)))] (.int 0) := Arv.set Ar5 qa5 S5 Nn5 H5 G5 (by first | exact fits_nar_char _ | decide | rfl) W6 0 rfl (Nat.le_of_ble_eq_true rfl)
  obtain ⟨T7, h7, X7, e7, E7, A7, D7, -, st7⟩ := newO X6 hx hZ hown (hw _ (im 1 rfl)) (hw _ (im 2 rfl)) (hw _ (im 3 rfl)) e6 (g := (mkF m 31 #[iv x0, iv x1, iv x2, iv x3, rv b1, rv b4, .unset, .unset, .unset, .unset, .unset, .unset] [])) rfl (hb hby at_31) (by decide) (by decide)
  obtain ⟨b7, g7⟩ : ∃ z, z = h6.size := ⟨_, rfl⟩
  rw [← g7] at A7 D7 st7
  have ge_b7 : n0 ≤ b7 := Nat.le_trans Z6_ (Nat.le_of_eq g7.symm)
  have Z7_ : n0 ≤ h7.size := Nat.le_trans Z6_ E7.1
  have O7_ := O6_.ext E7
  have F7_section : Fld Z h7 b7 "com/example/vestline/vestline/plan/ElectiveDeferralRule$RothOnlyAboveWages" "section" "Ljava/lang/String;" .null := D7 (Or.inr (hw _ (im 43 rfl))) (ty := (.object "java/lang/String")) (by decide)
  have F7_fromYear : Fld Z h7 b7 "com/example/vestline/vestline/plan/ElectiveDeferralRule$RothOnlyAboveWages" "fromYear" "I" (.int 0) := D7 (Or.inr (hw _ (im 45 rfl))) (ty := .int) (by decide)
  have F7_limit : Fld Z h7 b7 "com/example/vestline/vestline/plan/ElectiveDeferralRule$RothOnlyAboveWages" "limit" "Ljava/lang/String;" .null := D7 (Or.inr (hw _ (im 47 rfl))) (ty := (.object "java/lang/String")) (by decide)
  obtain ⟨T8, h8, X8, e8, E8, A8, D8, -, st8⟩ := newO X7 hx hZ hown (hw _ (im 4 rfl)) (hw _ (im 5 rfl)) (hw _ (im 6 rfl)) e7 (g := (mkF m 35 #[iv x0, iv x1, iv x2, iv x3, rv b1, rv b4, .unset, .unset, .unset, .unset, .unset, .unset] [(.ref b7), (.ref b7)])) rfl (hb hby at_35) (by decide) (by decide)
  obtain ⟨b8, g8⟩ : ∃ z, z = h7.size := ⟨_, rfl⟩
  rw [← g8] at A8 D8 st8
  have ge_b8 : n0 ≤ b8 := Nat.le_trans Z7_ (Nat.le_of_eq g8.symm)
  have Z8_ : n0 ≤ h8.size := Nat.le_trans Z7_ E8.1
  have O8_ := O7_.ext E8
  have F8_coder : Fld Z h8 b8 "java/lang/String" "coder" "B" (.int 0) := D8 (Or.inr (hw _ (im 30 rfl))) (ty := .byte) (by decide)
  have F8_value : Fld Z h8 b8 "java/lang/String" "value" "[B" .null := D8 (Or.inr (hw _ (im 32 rfl))) (ty := (.array .byte)) (by decide)
  have P9 := own_go P0 (S' := T8.setTop (mkF m 38 #[iv x0, iv x1, iv x2, iv x3, rv b1, rv b4, .unset, .unset, .unset, .unset, .unset, .unset] [(.ref b8), (.ref b7), (.ref b7)])) (by
    intro t k
    refine XS.iconst X0.here hx rfl (hb hby at_0) ?_
    refine st1 _ ?_
    refine XS.dup X1.here hx rfl (hb hby at_3) rfl rfl ?_
    refine XS.iconst X1.here hx rfl (hb hby at_4) ?_
    refine XS.iloadN X1.here hx rfl (hb hby at_5) rfl ?_
    refine XS.sipush X1.here hx rfl (hb hby at_6) ?_
    refine XS.iand X1.here hx rfl (hb hby at_9) rfl ?_
    refine XS.i2c X1.here hx rfl (hb hby at_10) rfl ?_
    show Steps p.tables e below (T1.setTop (mkF m 11 #[iv x0, iv x1, iv x2, iv x3, .unset, .unset, .unset, .unset, .unset, .unset, .unset, .unset] [(.int ((x3 &&& (255 : Int32)).toUInt32.toUInt16.toUInt32.toInt32)), (.int 0), (.ref b1), (.ref b1)])) _
    refine st3 _ ?_
    refine XS.astore X3.here hx rfl (hb hby at_12) rfl rfl (l' := #[iv x0, iv x1, iv x2, iv x3, rv b1, .unset, .unset, .unset, .unset, .unset, .unset, .unset]) rfl ?_
    refine XS.iconst X3.here hx rfl (hb hby at_14) ?_
    refine st4 _ ?_
    refine XS.dup X4.here hx rfl (hb hby at_17) rfl rfl ?_
    refine XS.iconst X4.here hx rfl (hb hby at_18) ?_
    refine XS.iloadN X4.here hx rfl (hb hby at_19) rfl ?_
    refine XS.bipush X4.here hx rfl (hb hby at_20) ?_
    show Steps p.tables e below (T4.setTop (mkF m 22 #[iv x0, iv x1, iv x2, iv x3, rv b1, .unset, .unset, .unset, .unset, .unset, .unset, .unset] [(.int 8), (.int x3), (.int 0), (.ref b4), (.ref b4)])) _
    refine XS.iushr X4.here hx rfl (hb hby at_22) rfl ?_
    refine XS.sipush X4.here hx rfl (hb hby at_23) ?_
    refine XS.iand X4.here hx rfl (hb hby at_26) rfl ?_
    refine XS.i2c X4.here hx rfl (hb hby at_27) rfl ?_
    refine st6 _ ?_
    refine XS.astore X6.here hx rfl (hb hby at_29) rfl rfl (l' := #[iv x0, iv x1, iv x2, iv x3, rv b1, rv b4, .unset, .unset, .unset, .unset, .unset, .unset]) rfl ?_
    refine st7 _ ?_
    refine XS.dup X7.here hx rfl (hb hby at_34) rfl rfl ?_
    show Steps p.tables e below (T7.setTop (mkF m 35 #[iv x0, iv x1, iv x2, iv x3, rv b1, rv b4, .unset, .unset, .unset, .unset, .unset, .unset] [(.ref b7), (.ref b7)])) _
    refine st8 _ ?_
    exact k)
  have q11 := (Nat.lt_of_lt_of_le V1.lt (Nat.le_of_eq W3.size.symm))
  have ne10 : b1 ≠ b4 := Nat.ne_of_lt (Nat.lt_of_lt_of_le q11 (Nat.le_of_eq g4.symm))
  have q12 := ((((V3.ext E4).other W6 ne10).ext E7).ext E8)
  have q14 := (Nat.lt_of_lt_of_le (Nat.lt_of_lt_of_le (Nat.lt_of_lt_of_le q11 E4.1) (Nat.le_of_eq W6.size.symm)) E7.1)
  have ne13 : b1 ≠ b8 := Nat.ne_of_lt (Nat.lt_of_lt_of_le q14 (Nat.le_of_eq g8.symm))
  obtain ⟨_, _, ⟨T15, L15, k15, n15⟩, -, X15, ⟨Lc15, hQ15, l15, y15, z15⟩, st15⟩ := X8.specialBack hx (y := (⟨"java/lang/String", "<init>", "([C)V"⟩ : MethodName)) rfl hown (mvT hZ (hw _ (im 7 rfl))) (mvT hZ (hw _ (im 8 rfl))) (mvT hZ (hw _ (im 9 rfl))) (by decide) (backOf (W := 3) (rmi1s1 l Z a0 hw [] b8 b1 cs k1 (nar .char ((x3 &&& (255 : Int32)).toUInt32.toUInt16.toUInt32.toInt32)) h8 n0 Z8_ O8_ pre_S_COMPACT_STRINGS (hcs) A8 F8_value F8_coder ge_b8 q12 (Ne.symm ne13) (own_c255 _)) hZ (hw _ (im 9 rfl)) (hw _ (im 6 rfl)) (by decide) (by decide)) (g := (mkF m 41 #[iv x0, iv x1, iv x2, iv x3, rv b1, rv b4, .unset, .unset, .unset, .unset, .unset, .unset] [(.ref b1), (.ref b8), (.ref b8), (.ref b7), (.ref b7)])) rfl (by rw [hml]; rfl) (Steps.refl _) (a := b8) (argsL := [(.ref b1)]) (rest := [(.ref b8), (.ref b7), (.ref b7)]) (lenOf pd_5 rfl) rfl (by show 2 * 0 + _ ≤ _; exact Nat.le_of_eq rfl) (hb hby at_41) (fun _ _ => ⟨rfl, e8, (by decide : 4 + 1 ≤ _), (by decide : 9 + 1 ≤ _)⟩)
  dsimp only [Pt.U, Pt.locs, Pt.cells, Pt.slots] at X15 l15 y15 z15 st15 hQ15
  subst l15 y15 z15
  obtain ⟨rfl, N15q, K15, r15_0⟩ := hQ15
  have N15 := Fr.app N6 N15q
  have Z15_ : n0 ≤ T15.heap.size := Nat.le_trans Z8_ K15.1
  have O15_ := O8_.keep K15 (allS ge_b8 all0)
  obtain ⟨T16, h16, X16, e16, E16, A16, D16, -, st16⟩ := newO X15 hx hZ hown (hw _ (im 4 rfl)) (hw _ (im 5 rfl)) (hw _ (im 6 rfl)) rfl (g := (mkF m 45 #[iv x0, iv x1, iv x2, iv x3, rv b1, rv b4, .unset, .unset, .unset, .unset, .unset, .unset] [(.int x0), (.ref b8), (.ref b7), (.ref b7)])) rfl (hb hby at_45) (by decide) (by decide)
  obtain ⟨b16, g16⟩ : ∃ z, z = T15.heap.size := ⟨_, rfl⟩
  rw [← g16] at A16 D16 st16
  have ge_b16 : n0 ≤ b16 := Nat.le_trans Z15_ (Nat.le_of_eq g16.symm)
  have Z16_ : n0 ≤ h16.size := Nat.le_trans Z15_ E16.1
  have O16_ := O15_.ext E16
  have F16_coder : Fld Z h16 b16 "java/lang/String" "coder" "B" (.int 0) := D16 (Or.inr (hw _ (im 30 rfl))) (ty := .byte) (by decide)
  have F16_value : Fld Z h16 b16 "java/lang/String" "value" "[B" .null := D16 (Or.inr (hw _ (im 32 rfl))) (ty := (.array .byte)) (by decide)
  have q18 := (Nat.lt_of_lt_of_le (Nat.lt_of_lt_of_le V4.lt (Nat.le_of_eq W6.size.symm)) E7.1)
  have ne17 : b4 ≠ b8 := Nat.ne_of_lt (Nat.lt_of_lt_of_le q18 (Nat.le_of_eq g8.symm))
  have ni19 := (ninS ne17 nin0)
  have q20 := ((((V6.ext E7).ext E8).keep K15 ni19).ext E16)
  have q22 := (Nat.lt_of_lt_of_le (Nat.lt_of_lt_of_le q18 E8.1) K15.1)
  have ne21 : b4 ≠ b16 := Nat.ne_of_lt (Nat.lt_of_lt_of_le q22 (Nat.le_of_eq g16.symm))
  obtain ⟨_, _, ⟨T23, L23, k23, n23⟩, -, X23, ⟨Lc23, hQ23, l23, y23, z23⟩, st23⟩ := X16.specialBack hx (y := (⟨"java/lang/String", "<init>", "([C)V"⟩ : MethodName)) rfl hown (mvT hZ (hw _ (im 7 rfl))) (mvT hZ (hw _ (im 8 rfl))) (mvT hZ (hw _ (im 9 rfl))) (by decide) (backOf (W := 5) (rmi1s1 l Z a0 hw [] b16 b4 cs k4 (nar .char ((((x3.toUInt32 >>> ((8 : Int32) &&& 31).toUInt32).toInt32) &&& (255 : Int32)).toUInt32.toUInt16.toUInt32.toInt32)) h16 n0 Z16_ O16_ pre_S_COMPACT_STRINGS (hcs) A16 F16_value F16_coder ge_b16 q20 (Ne.symm ne21) (own_c255 _)) hZ (hw _ (im 9 rfl)) (hw _ (im 6 rfl)) (by decide) (by decide)) (g := (mkF m 51 #[iv x0, iv x1, iv x2, iv x3, rv b1, rv b4, .unset, .unset, .unset, .unset, .unset, .unset] [(.ref b4), (.ref b16), (.ref b16), (.int x0), (.ref b8), (.ref b7), (.ref b7)])) rfl (by rw [hml]; rfl) (Steps.refl _) (a := b16) (argsL := [(.ref b4)]) (rest := [(.ref b16), (.int x0), (.ref b8), (.ref b7), (.ref b7)]) (lenOf pd_5 rfl) rfl (by show 2 * 0 + _ ≤ _; exact Nat.le_of_eq rfl) (hb hby at_51) (fun _ _ => ⟨rfl, e16, (by decide : 6 + 1 ≤ _), (by decide : 14 + 1 ≤ _)⟩)
  dsimp only [Pt.U, Pt.locs, Pt.cells, Pt.slots] at X23 l23 y23 z23 st23 hQ23
  subst l23 y23 z23
  obtain ⟨rfl, N23q, K23, r23_0⟩ := hQ23
  have N23 := Fr.app N15 N23q
  have Z23_ : n0 ≤ T23.heap.size := Nat.le_trans Z16_ K23.1
  have O23_ := O16_.keep K23 (allS ge_b16 all0)
  have q24 := ((((A7.ext E8).keep K15).ext E16).keep K23)
  have ne25 : b7 ≠ b8 := Nat.ne_of_lt (Nat.lt_of_lt_of_le A7.lt (Nat.le_of_eq g8.symm))
  have ni26 := (ninS ne25 nin0)
  have q28 := (Nat.lt_of_lt_of_le (Nat.lt_of_lt_of_le A7.lt E8.1) K15.1)
  have ne27 : b7 ≠ b16 := Nat.ne_of_lt (Nat.lt_of_lt_of_le q28 (Nat.le_of_eq g16.symm))
  have ni29 := (ninS ne27 nin0)
  have q30 := ((((F7_section.ext E8).keep K15 ni26).ext E16).keep K23 ni29)
  have q31 := ((((F7_fromYear.ext E8).keep K15 ni26).ext E16).keep K23 ni29)
  have q32 := ((((F7_limit.ext E8).keep K15 ni26).ext E16).keep K23 ni29)
  obtain ⟨_, _, ⟨T33, L33, k33, n33⟩, -, X33, ⟨Lc33, hQ33, l33, y33, z33⟩, st33⟩ := X23.specialBack hx (y := (⟨"com/example/vestline/vestline/plan/ElectiveDeferralRule$RothOnlyAboveWages", "<init>", "(Ljava/lang/String;ILjava/lang/String;)V"⟩ : MethodName)) rfl hown (mvT hZ (hw _ (im 33 rfl))) (mvT hZ (hw _ (im 34 rfl))) (mvT hZ (hw _ (im 35 rfl))) (by decide) (backOf (W := 1) (rm7 l Z a0 hw [] b7 b8 x0 b16 T23.heap n0 Z23_ q24 q30 q31 q32 ge_b7) hZ (hw _ (im 35 rfl)) (hw _ (im 3 rfl)) (by decide) (by decide)) (g := (mkF m 54 #[iv x0, iv x1, iv x2, iv x3, rv b1, rv b4, .unset, .unset, .unset, .unset, .unset, .unset] [(.ref b16), (.int x0), (.ref b8), (.ref b7), (.ref b7)])) rfl (by rw [hml]; rfl) (Steps.refl _) (a := b7) (argsL := [(.ref b8), (.int x0), (.ref b16)]) (rest := [(.ref b7)]) (lenOf pd_6 rfl) rfl (by show 2 * 0 + _ ≤ _; exact Nat.le_of_eq rfl) (hb hby at_54) (fun _ _ => ⟨rfl, rfl, (by decide : 7 + 0 ≤ _), (by decide : 15 + 0 ≤ _)⟩)
  dsimp only [Pt.U, Pt.locs, Pt.cells, Pt.slots] at X33 l33 y33 z33 st33 hQ33
  subst l33 y33 z33
  obtain ⟨rfl, N33q, K33, r33_0, r33_1⟩ := hQ33
  have N33 := Fr.app N23 N33q
  have Z33_ : n0 ≤ T33.heap.size := Nat.le_trans Z23_ K33.1
  have O33_ := O23_.keep K33 (allS ge_b7 all0)
  obtain ⟨cq34, kq34, q34a, q34b, q34c⟩ := isOf hZ rfl r33_0
  obtain ⟨_, _, ⟨T34, L34, k34, n34⟩, -, X34, ⟨Lc34, hQ34, l34, y34, z34⟩, st34⟩ := X33.virtualBack hx (y := (⟨"com/example/vestline/vestline/plan/ElectiveDeferralRule$RothOnlyAboveWages", "holds", "(I)Z"⟩ : MethodName)) (z := (⟨"com/example/vestline/vestline/plan/ElectiveDeferralRule$RothOnlyAboveWages", "holds", "(I)Z"⟩ : MethodName)) hown (mvT hZ (hw _ (im 48 rfl))) (mvT hZ (hw _ (im 49 rfl))) (notFace_of_selects (args := #[]) (mvT hZ (hw _ (im 51 rfl)))) (mvT hZ (hw _ (im 51 rfl))) (mvT hZ (hw _ (im 50 rfl))) (by decide) (backOf (W := 0) (rm9 l Z a0 hw [] b7 x0 x0 T33.heap n0 Z33_ r33_1) hZ (hw _ (im 52 rfl)) (hw _ (im 3 rfl)) (by decide) (by decide)) q34a q34c (g := (mkF m 62 #[iv x0, iv x1, iv x2, iv x3, rv b1, rv b4, rv b7, .unset, .unset, .unset, .unset, .unset] [(.int x0), (.ref b7)])) rfl (by rw [hml]; rfl) (Steps.refl _) (argsL := [(.int x0)]) (rest := []) (lenOf pd_7 rfl) rfl (by show 2 * 0 + _ ≤ _; exact Nat.le_of_eq rfl) (hb hby at_62) (fun _ _ => ⟨rfl, rfl, (by decide : 7 + 0 ≤ _), (by decide : 15 + 0 ≤ _)⟩)
  dsimp only [Pt.U, Pt.locs, Pt.cells, Pt.slots] at X34 l34 y34 z34 st34 hQ34
  subst l34 y34 z34
  obtain ⟨rfl, N34q, e34⟩ := hQ34
  have N34 := Fr.app N33 N34q
  have P36 := own_go P9 (S' := T34.setTop (mkF m 70 #[iv x0, iv x1, iv x2, iv x3, rv b1, rv b4, rv b7, iv (if (¬ (x0 < x0)) then (1 : Int32) else (0 : Int32)), .unset, .unset, .unset, .unset] [(.int (-2147483648)), (.int x0)])) (by
    intro t k
    refine XS.dup X8.here hx rfl (hb hby at_38) rfl rfl ?_
    refine XS.aload X8.here hx rfl (hb hby at_39) rfl rfl ?_
    refine st15.trans ?_
    refine XS.iloadN X15.here hx rfl (hb hby at_44) rfl ?_
    refine st16 _ ?_
    refine XS.dup X16.here hx rfl (hb hby at_48) rfl rfl ?_
    refine XS.aload X16.here hx rfl (hb hby at_49) rfl rfl ?_
    refine st23.trans ?_
    show Steps p.tables e below (T23.setTop (mkF m 54 #[iv x0, iv x1, iv x2, iv x3, rv b1, rv b4, .unset, .unset, .unset, .unset, .unset, .unset] [(.ref b16), (.int x0), (.ref b8), (.ref b7), (.ref b7)])) _
    refine st33.trans ?_
    refine XS.astore X33.here hx rfl (hb hby at_57) rfl rfl (l' := #[iv x0, iv x1, iv x2, iv x3, rv b1, rv b4, rv b7, .unset, .unset, .unset, .unset, .unset]) rfl ?_
    refine XS.aload X33.here hx rfl (hb hby at_59) rfl rfl ?_
    refine XS.iloadN X33.here hx rfl (hb hby at_61) rfl ?_
    refine st34.trans ?_
    refine XS.istore X34.here hx rfl (hb hby at_65) rfl (l' := #[iv x0, iv x1, iv x2, iv x3, rv b1, rv b4, rv b7, iv (if (¬ (x0 < x0)) then (1 : Int32) else (0 : Int32)), .unset, .unset, .unset, .unset]) rfl ?_
    refine XS.iloadN X34.here hx rfl (hb hby at_67) rfl ?_
    refine X34.ldcInt hx hown (mvT hZ (hw _ (im 53 rfl))) (g := (mkF m 68 #[iv x0, iv x1, iv x2, iv x3, rv b1, rv b4, rv b7, iv (if (¬ (x0 < x0)) then (1 : Int32) else (0 : Int32)), .unset, .unset, .unset, .unset] [(.int x0)])) rfl (hb hby at_68) _ ?_
    show Steps p.tables e below (T34.setTop (mkF m 70 #[iv x0, iv x1, iv x2, iv x3, rv b1, rv b4, rv b7, iv (if (¬ (x0 < x0)) then (1 : Int32) else (0 : Int32)), .unset, .unset, .unset, .unset] [(.int (-2147483648)), (.int x0)])) _
    exact k)
  by_cases hc70_35 : x0 = (-2147483648 : Int32)
  · obtain ⟨_, _, ⟨T37, L37, k37, n37⟩, -, X37, ⟨Lc37, hQ37, l37, y37, z37⟩, st37⟩ := Jvm.LawKit.callS X34 hx (y := (⟨"java/lang/Math", "min", "(II)I"⟩ : MethodName)) hown (mvT hZ (hw _ (im 54 rfl))) (mvT hZ (hw _ (im 55 rfl))) (mvT hZ (hw _ (im 56 rfl))) (mvT hZ (hw _ (im 57 rfl))) (by decide) (backOf (W := 0) (rm10 l Z a0 hw [] x1 x2 T33.heap n0 Z33_ ) hZ (hw _ (im 57 rfl)) (hw _ (im 56 rfl)) (by decide) (by decide)) (g := (mkF m 93 #[iv x0, iv x1, iv x2, iv x3, rv b1, rv b4, rv b7, iv (if (¬ (x0 < x0)) then (1 : Int32) else (0 : Int32)), iv 1, .unset, .unset, .unset] [(.int x2), (.int x1)])) rfl (by rw [hml]; rfl) (argsL := [(.int x1), (.int x2)]) (rest := []) (lenOf pd_8 rfl) rfl (by show 2 * 0 + _ ≤ _; exact Nat.le_of_eq rfl) (hb hby at_93) (fun _ _ => ⟨rfl, e34, (by decide : 7 + 0 ≤ _), (by decide : 15 + 0 ≤ _)⟩)
    dsimp only [Pt.U, Pt.locs, Pt.cells, Pt.slots] at X37 l37 y37 z37 st37 hQ37
    subst l37 y37 z37
    obtain ⟨rfl, N37q, e37⟩ := hQ37
    have N37 := Fr.app N34 N37q
    obtain ⟨_, _, ⟨T38, L38, k38, n38⟩, -, X38, ⟨Lc38, hQ38, l38, y38, z38⟩, st38⟩ := Jvm.LawKit.callS X37 hx (y := (⟨"java/lang/Math", "max", "(II)I"⟩ : MethodName)) hown (mvT hZ (hw _ (im 58 rfl))) (mvT hZ (hw _ (im 59 rfl))) (mvT hZ (hw _ (im 56 rfl))) (mvT hZ (hw _ (im 60 rfl))) (by decide) (backOf (W := 0) (rm11 l Z a0 hw [] x1 x2 T33.heap n0 Z33_ ) hZ (hw _ (im 60 rfl)) (hw _ (im 56 rfl)) (by decide) (by decide)) (g := (mkF m 100 #[iv x0, iv x1, iv x2, iv x3, rv b1, rv b4, rv b7, iv (if (¬ (x0 < x0)) then (1 : Int32) else (0 : Int32)), iv 1, iv (if x2 < x1 then x2 else x1), .unset, .unset] [(.int x2), (.int x1)])) rfl (by rw [hml]; rfl) (argsL := [(.int x1), (.int x2)]) (rest := []) (lenOf pd_8 rfl) rfl (by show 2 * 0 + _ ≤ _; exact Nat.le_of_eq rfl) (hb hby at_100) (fun _ _ => ⟨rfl, e37, (by decide : 7 + 0 ≤ _), (by decide : 15 + 0 ≤ _)⟩)
    dsimp only [Pt.U, Pt.locs, Pt.cells, Pt.slots] at X38 l38 y38 z38 st38 hQ38
    subst l38 y38 z38
    obtain ⟨rfl, N38q, e38⟩ := hQ38
    have N38 := Fr.app N37 N38q
    obtain ⟨cq39, kq39, q39a, q39b, q39c⟩ := isOf hZ e38 r33_0
    obtain ⟨_, _, ⟨T39, L39, k39, n39⟩, -, X39, ⟨Lc39, hQ39, l39, y39, z39⟩, st39⟩ := X38.virtualBack hx (y := (⟨"com/example/vestline/vestline/plan/ElectiveDeferralRule$RothOnlyAboveWages", "holds", "(I)Z"⟩ : MethodName)) (z := (⟨"com/example/vestline/vestline/plan/ElectiveDeferralRule$RothOnlyAboveWages", "holds", "(I)Z"⟩ : MethodName)) hown (mvT hZ (hw _ (im 48 rfl))) (mvT hZ (hw _ (im 49 rfl))) (notFace_of_selects (args := #[]) (mvT hZ (hw _ (im 51 rfl)))) (mvT hZ (hw _ (im 51 rfl))) (mvT hZ (hw _ (im 50 rfl))) (by decide) (backOf (W := 0) (rm9 l Z a0 hw [] b7 (if x2 < x1 then x2 else x1) x0 T33.heap n0 Z33_ r33_1) hZ (hw _ (im 52 rfl)) (hw _ (im 3 rfl)) (by decide) (by decide)) q39a q39c (g := (mkF m 109 #[iv x0, iv x1, iv x2, iv x3, rv b1, rv b4, rv b7, iv (if (¬ (x0 < x0)) then (1 : Int32) else (0 : Int32)), iv 1, iv (if x2 < x1 then x2 else x1), iv (if x1 < x2 then x2 else x1), .unset] [(.int (if x2 < x1 then x2 else x1)), (.ref b7)])) rfl (by rw [hml]; rfl) (Steps.refl _) (argsL := [(.int (if x2 < x1 then x2 else x1))]) (rest := []) (lenOf pd_7 rfl) rfl (by show 2 * 0 + _ ≤ _; exact Nat.le_of_eq rfl) (hb hby at_109) (fun _ _ => ⟨rfl, e38, (by decide : 7 + 0 ≤ _), (by decide : 15 + 0 ≤ _)⟩)
    dsimp only [Pt.U, Pt.locs, Pt.cells, Pt.slots] at X39 l39 y39 z39 st39 hQ39
    subst l39 y39 z39
    obtain ⟨rfl, N39q, e39⟩ := hQ39
    have N39 := Fr.app N38 N39q
    have P41 := own_go P36 (S' := T39.setTop (mkF m 112 #[iv x0, iv x1, iv x2, iv x3, rv b1, rv b4, rv b7, iv (if (¬ (x0 < x0)) then (1 : Int32) else (0 : Int32)), iv 1, iv (if x2 < x1 then x2 else x1), iv (if x1 < x2 then x2 else x1), .unset] [(.int (if (¬ ((if x2 < x1 then x2 else x1) < x0)) then (1 : Int32) else (0 : Int32)))])) (by
      intro t k
      refine XS.icmpYes X34.here hx rfl (pc0 := 70) (pc' := 84) rfl (hb hby at_70) rfl (teq hc70_35).1 (by decide) (by decide) ?_
      refine XS.iconst X34.here hx rfl (hb hby at_84) ?_
      refine XS.goto X34.here hx rfl (pc0 := 85) (pc' := 89) rfl (hb hby at_85) (by decide) (by decide) ?_
      refine XS.istore X34.here hx rfl (hb hby at_89) rfl (l' := #[iv x0, iv x1, iv x2, iv x3, rv b1, rv b4, rv b7, iv (if (¬ (x0 < x0)) then (1 : Int32) else (0 : Int32)), iv 1, .unset, .unset, .unset]) rfl ?_
      refine XS.iloadN X34.here hx rfl (hb hby at_91) rfl ?_
      refine XS.iloadN X34.here hx rfl (hb hby at_92) rfl ?_
      refine st37 _ ?_
      refine XS.istore X37.here hx rfl (hb hby at_96) rfl (l' := #[iv x0, iv x1, iv x2, iv x3, rv b1, rv b4, rv b7, iv (if (¬ (x0 < x0)) then (1 : Int32) else (0 : Int32)), iv 1, iv (if x2 < x1 then x2 else x1), .unset, .unset]) rfl ?_
      show Steps p.tables e below (T37.setTop (mkF m 98 #[iv x0, iv x1, iv x2, iv x3, rv b1, rv b4, rv b7, iv (if (¬ (x0 < x0)) then (1 : Int32) else (0 : Int32)), iv 1, iv (if x2 < x1 then x2 else x1), .unset, .unset] [])) _
      refine XS.iloadN X37.here hx rfl (hb hby at_98) rfl ?_
      refine XS.iloadN X37.here hx rfl (hb hby at_99) rfl ?_
      refine st38 _ ?_
      refine XS.istore X38.here hx rfl (hb hby at_103) rfl (l' := #[iv x0, iv x1, iv x2, iv x3, rv b1, rv b4, rv b7, iv (if (¬ (x0 < x0)) then (1 : Int32) else (0 : Int32)), iv 1, iv (if x2 < x1 then x2 else x1), iv (if x1 < x2 then x2 else x1), .unset]) rfl ?_
      refine XS.aload X38.here hx rfl (hb hby at_105) rfl rfl ?_
      refine XS.iload X38.here hx rfl (hb hby at_107) rfl ?_
      refine st39.trans ?_
      exact k)
    by_cases hc112_40 : (¬ ((if x2 < x1 then x2 else x1) < x0))
    · obtain ⟨cq42, kq42, q42a, q42b, q42c⟩ := isOf hZ e39 r33_0
      obtain ⟨_, _, ⟨T42, L42, k42, n42⟩, -, X42, ⟨Lc42, hQ42, l42, y42, z42⟩, st42⟩ := X39.virtualBack hx (y := (⟨"com/example/vestline/vestline/plan/ElectiveDeferralRule$RothOnlyAboveWages", "holds", "(I)Z"⟩ : MethodName)) (z := (⟨"com/example/vestline/vestline/plan/ElectiveDeferralRule$RothOnlyAboveWages", "holds", "(I)Z"⟩ : MethodName)) hown (mvT hZ (hw _ (im 48 rfl))) (mvT hZ (hw _ (im 49 rfl))) (notFace_of_selects (args := #[]) (mvT hZ (hw _ (im 51 rfl)))) (mvT hZ (hw _ (im 51 rfl))) (mvT hZ (hw _ (im 50 rfl))) (by decide) (backOf (W := 0) (rm9 l Z a0 hw [] b7 (if x1 < x2 then x2 else x1) x0 T33.heap n0 Z33_ r33_1) hZ (hw _ (im 52 rfl)) (hw _ (im 3 rfl)) (by decide) (by decide)) q42a q42c (g := (mkF m 119 #[iv x0, iv x1, iv x2, iv x3, rv b1, rv b4, rv b7, iv (if (¬ (x0 < x0)) then (1 : Int32) else (0 : Int32)), iv 1, iv (if x2 < x1 then x2 else x1), iv (if x1 < x2 then x2 else x1), .unset] [(.int (if x1 < x2 then x2 else x1)), (.ref b7)])) rfl (by rw [hml]; rfl) (Steps.refl _) (argsL := [(.int (if x1 < x2 then x2 else x1))]) (rest := []) (lenOf pd_7 rfl) rfl (by show 2 * 0 + _ ≤ _; exact Nat.le_of_eq rfl) (hb hby at_119) (fun _ _ => ⟨rfl, e39, (by decide : 7 + 0 ≤ _), (by decide : 15 + 0 ≤ _)⟩)
      dsimp only [Pt.U, Pt.locs, Pt.cells, Pt.slots] at X42 l42 y42 z42 st42 hQ42
      subst l42 y42 z42
      obtain ⟨rfl, N42q, e42⟩ := hQ42
      have N42 := Fr.app N39 N42q
      have hc122_43 : (¬ ((if x1 < x2 then x2 else x1) < x0)) := own_mono x1 x2 x0 hc112_40
      have hc134_44 : (¬ (x0 < x0)) := Int32.lt_irrefl
      have P47 := own_go P41 (S' := T42.setTop (mkF m 152 #[iv x0, iv x1, iv x2, iv x3, rv b1, rv b4, rv b7, iv (if (¬ (x0 < x0)) then (1 : Int32) else (0 : Int32)), iv 1, iv (if x2 < x1 then x2 else x1), iv (if x1 < x2 then x2 else x1), iv 1] [(.int 1)])) (by
        intro t k
        refine XS.ifNo X39.here hx rfl (hb hby at_112) rfl ((if0 _ _).trans (feq (by rw [if_pos hc112_40]; decide)).1) ?_
        refine XS.aload X39.here hx rfl (hb hby at_115) rfl rfl ?_
        refine XS.iload X39.here hx rfl (hb hby at_117) rfl ?_
        refine st42.trans ?_
        refine XS.ifNo X42.here hx rfl (hb hby at_122) rfl ((if0 _ _).trans (feq (by rw [if_pos hc122_43]; decide)).1) ?_
        refine XS.iconst X42.here hx rfl (hb hby at_125) ?_
        refine XS.goto X42.here hx rfl (pc0 := 126) (pc' := 130) rfl (hb hby at_126) (by decide) (by decide) ?_
        refine XS.istore X42.here hx rfl (hb hby at_130) rfl (l' := #[iv x0, iv x1, iv x2, iv x3, rv b1, rv b4, rv b7, iv (if (¬ (x0 < x0)) then (1 : Int32) else (0 : Int32)), iv 1, iv (if x2 < x1 then x2 else x1), iv (if x1 < x2 then x2 else x1), iv 1]) rfl ?_
        show Steps p.tables e below (T42.setTop (mkF m 132 #[iv x0, iv x1, iv x2, iv x3, rv b1, rv b4, rv b7, iv (if (¬ (x0 < x0)) then (1 : Int32) else (0 : Int32)), iv 1, iv (if x2 < x1 then x2 else x1), iv (if x1 < x2 then x2 else x1), iv 1] [])) _
        refine XS.iload X42.here hx rfl (hb hby at_132) rfl ?_
        refine XS.ifNo X42.here hx rfl (hb hby at_134) rfl ((if0 _ _).trans (feq (by rw [if_pos hc134_44]; decide)).1) ?_
        refine XS.iload X42.here hx rfl (hb hby at_137) rfl ?_
        refine XS.ifNo X42.here hx rfl (hb hby at_139) rfl ((if0 _ _).trans (feq (by decide)).1) ?_
        refine XS.iload X42.here hx rfl (hb hby at_142) rfl ?_
        refine XS.ifNo X42.here hx rfl (hb hby at_144) rfl ((if0 _ _).trans (feq (by decide)).1) ?_
        refine XS.iconst X42.here hx rfl (hb hby at_147) ?_
        refine XS.goto X42.here hx rfl (pc0 := 148) (pc' := 152) rfl (hb hby at_148) (by decide) (by decide) ?_
        show Steps p.tables e below (T42.setTop (mkF m 152 #[iv x0, iv x1, iv x2, iv x3, rv b1, rv b4, rv b7, iv (if (¬ (x0 < x0)) then (1 : Int32) else (0 : Int32)), iv 1, iv (if x2 < x1 then x2 else x1), iv (if x1 < x2 then x2 else x1), iv 1] [(.int 1)])) _
        exact k)
      obtain ⟨fs, hr, hrun, hended, hW, hsame⟩ := X42.leave (v := some (.int 1)) (fun h => by rw [Bd.returns] at h; cases h)
      refine ⟨_, _, P47 _ ?_, hrun, hended, _, _, rfl, ?_, ⟨_, rfl⟩, hW, hsame.mono (by decide) (by decide)⟩
      · show Steps p.tables e below (T42.setTop (mkF m 152 #[iv x0, iv x1, iv x2, iv x3, rv b1, rv b4, rv b7, iv (if (¬ (x0 < x0)) then (1 : Int32) else (0 : Int32)), iv 1, iv (if x2 < x1 then x2 else x1), iv (if x1 < x2 then x2 else x1), iv 1] [(.int 1)])) _
        exact retN X42 hx (t := .boolean) Bd.returns (by simp) (hb hby at_152) hr
      · show Q0 Z x0 x1 x2 x3 cs h0 n0 _ T42.heap _
        rw [e42]
        exact ⟨rfl, N42⟩
    · have hc134_48 : (¬ (x0 < x0)) := Int32.lt_irrefl
      have P51 := own_go P41 (S' := T39.setTop (mkF m 152 #[iv x0, iv x1, iv x2, iv x3, rv b1, rv b4, rv b7, iv (if (¬ (x0 < x0)) then (1 : Int32) else (0 : Int32)), iv 1, iv (if x2 < x1 then x2 else x1), iv (if x1 < x2 then x2 else x1), iv 1] [(.int 1)])) (by
        intro t k
        refine XS.ifYes X39.here hx rfl (pc0 := 112) (pc' := 125) rfl (hb hby at_112) rfl ((if0 _ _).trans (teq (if_neg hc112_40)).1) (by decide) (by decide) ?_
        refine XS.iconst X39.here hx rfl (hb hby at_125) ?_
        refine XS.goto X39.here hx rfl (pc0 := 126) (pc' := 130) rfl (hb hby at_126) (by decide) (by decide) ?_
        refine XS.istore X39.here hx rfl (hb hby at_130) rfl (l' := #[iv x0, iv x1, iv x2, iv x3, rv b1, rv b4, rv b7, iv (if (¬ (x0 < x0)) then (1 : Int32) else (0 : Int32)), iv 1, iv (if x2 < x1 then x2 else x1), iv (if x1 < x2 then x2 else x1), iv 1]) rfl ?_
        refine XS.iload X39.here hx rfl (hb hby at_132) rfl ?_
        refine XS.ifNo X39.here hx rfl (hb hby at_134) rfl ((if0 _ _).trans (feq (by rw [if_pos hc134_48]; decide)).1) ?_
        refine XS.iload X39.here hx rfl (hb hby at_137) rfl ?_
        refine XS.ifNo X39.here hx rfl (hb hby at_139) rfl ((if0 _ _).trans (feq (by decide)).1) ?_
        show Steps p.tables e below (T39.setTop (mkF m 142 #[iv x0, iv x1, iv x2, iv x3, rv b1, rv b4, rv b7, iv (if (¬ (x0 < x0)) then (1 : Int32) else (0 : Int32)), iv 1, iv (if x2 < x1 then x2 else x1), iv (if x1 < x2 then x2 else x1), iv 1] [])) _
        refine XS.iload X39.here hx rfl (hb hby at_142) rfl ?_
        refine XS.ifNo X39.here hx rfl (hb hby at_144) rfl ((if0 _ _).trans (feq (by decide)).1) ?_
        refine XS.iconst X39.here hx rfl (hb hby at_147) ?_
        refine XS.goto X39.here hx rfl (pc0 := 148) (pc' := 152) rfl (hb hby at_148) (by decide) (by decide) ?_
        exact k)
      obtain ⟨fs, hr, hrun, hended, hW, hsame⟩ := X39.leave (v := some (.int 1)) (fun h => by rw [Bd.returns] at h; cases h)
      refine ⟨_, _, P51 _ ?_, hrun, hended, _, _, rfl, ?_, ⟨_, rfl⟩, hW, hsame.mono (by decide) (by decide)⟩
      · show Steps p.tables e below (T39.setTop (mkF m 152 #[iv x0, iv x1, iv x2, iv x3, rv b1, rv b4, rv b7, iv (if (¬ (x0 < x0)) then (1 : Int32) else (0 : Int32)), iv 1, iv (if x2 < x1 then x2 else x1), iv (if x1 < x2 then x2 else x1), iv 1] [(.int 1)])) _
        exact retN X39 hx (t := .boolean) Bd.returns (by simp) (hb hby at_152) hr
      · show Q0 Z x0 x1 x2 x3 cs h0 n0 _ T39.heap _
        rw [e39]
        exact ⟨rfl, N39⟩
  · obtain ⟨cq52, kq52, q52a, q52b, q52c⟩ := isOf hZ e34 r33_0
    obtain ⟨_, _, ⟨T52, L52, k52, n52⟩, -, X52, ⟨Lc52, hQ52, l52, y52, z52⟩, st52⟩ := X34.virtualBack hx (y := (⟨"com/example/vestline/vestline/plan/ElectiveDeferralRule$RothOnlyAboveWages", "holds", "(I)Z"⟩ : MethodName)) (z := (⟨"com/example/vestline/vestline/plan/ElectiveDeferralRule$RothOnlyAboveWages", "holds", "(I)Z"⟩ : MethodName)) hown (mvT hZ (hw _ (im 48 rfl))) (mvT hZ (hw _ (im 49 rfl))) (notFace_of_selects (args := #[]) (mvT hZ (hw _ (im 51 rfl)))) (mvT hZ (hw _ (im 51 rfl))) (mvT hZ (hw _ (im 50 rfl))) (by decide) (backOf (W := 0) (rm9 l Z a0 hw [] b7 (x0 - (1 : Int32)) x0 T33.heap n0 Z33_ r33_1) hZ (hw _ (im 52 rfl)) (hw _ (im 3 rfl)) (by decide) (by decide)) q52a q52c (g := (mkF m 78 #[iv x0, iv x1, iv x2, iv x3, rv b1, rv b4, rv b7, iv (if (¬ (x0 < x0)) then (1 : Int32) else (0 : Int32)), .unset, .unset, .unset, .unset] [(.int (x0 - (1 : Int32))), (.ref b7)])) rfl (by rw [hml]; rfl) (Steps.refl _) (argsL := [(.int (x0 - (1 : Int32)))]) (rest := []) (lenOf pd_7 rfl) rfl (by show 2 * 0 + _ ≤ _; exact Nat.le_of_eq rfl) (hb hby at_78) (fun _ _ => ⟨rfl, e34, (by decide : 7 + 0 ≤ _), (by decide : 15 + 0 ≤ _)⟩)
    dsimp only [Pt.U, Pt.locs, Pt.cells, Pt.slots] at X52 l52 y52 z52 st52 hQ52
    subst l52 y52 z52
    obtain ⟨rfl, N52q, e52⟩ := hQ52
    have N52 := Fr.app N34 N52q
    have hc81_53 : ¬ ((¬ ((x0 - (1 : Int32)) < x0))) := own_prev x0 hc70_35
    obtain ⟨_, _, ⟨T54, L54, k54, n54⟩, -, X54, ⟨Lc54, hQ54, l54, y54, z54⟩, st54⟩ := Jvm.LawKit.callS X52 hx (y := (⟨"java/lang/Math", "min", "(II)I"⟩ : MethodName)) hown (mvT hZ (hw _ (im 54 rfl))) (mvT hZ (hw _ (im 55 rfl))) (mvT hZ (hw _ (im 56 rfl))) (mvT hZ (hw _ (im 57 rfl))) (by decide) (backOf (W := 0) (rm10 l Z a0 hw [] x1 x2 T33.heap n0 Z33_ ) hZ (hw _ (im 57 rfl)) (hw _ (im 56 rfl)) (by decide) (by decide)) (g := (mkF m 93 #[iv x0, iv x1, iv x2, iv x3, rv b1, rv b4, rv b7, iv (if (¬ (x0 < x0)) then (1 : Int32) else (0 : Int32)), iv 1, .unset, .unset, .unset] [(.int x2), (.int x1)])) rfl (by rw [hml]; rfl) (argsL := [(.int x1), (.int x2)]) (rest := []) (lenOf pd_8 rfl) rfl (by show 2 * 0 + _ ≤ _; exact Nat.le_of_eq rfl) (hb hby at_93) (fun _ _ => ⟨rfl, e52, (by decide : 7 + 0 ≤ _), (by decide : 15 + 0 ≤ _)⟩)
    dsimp only [Pt.U, Pt.locs, Pt.cells, Pt.slots] at X54 l54 y54 z54 st54 hQ54
    subst l54 y54 z54
    obtain ⟨rfl, N54q, e54⟩ := hQ54
    have N54 := Fr.app N52 N54q
    obtain ⟨_, _, ⟨T55, L55, k55, n55⟩, -, X55, ⟨Lc55, hQ55, l55, y55, z55⟩, st55⟩ := Jvm.LawKit.callS X54 hx (y := (⟨"java/lang/Math", "max", "(II)I"⟩ : MethodName)) hown (mvT hZ (hw _ (im 58 rfl))) (mvT hZ (hw _ (im 59 rfl))) (mvT hZ (hw _ (im 56 rfl))) (mvT hZ (hw _ (im 60 rfl))) (by decide) (backOf (W := 0) (rm11 l Z a0 hw [] x1 x2 T33.heap n0 Z33_ ) hZ (hw _ (im 60 rfl)) (hw _ (im 56 rfl)) (by decide) (by decide)) (g := (mkF m 100 #[iv x0, iv x1, iv x2, iv x3, rv b1, rv b4, rv b7, iv (if (¬ (x0 < x0)) then (1 : Int32) else (0 : Int32)), iv 1, iv (if x2 < x1 then x2 else x1), .unset, .unset] [(.int x2), (.int x1)])) rfl (by rw [hml]; rfl) (argsL := [(.int x1), (.int x2)]) (rest := []) (lenOf pd_8 rfl) rfl (by show 2 * 0 + _ ≤ _; exact Nat.le_of_eq rfl) (hb hby at_100) (fun _ _ => ⟨rfl, e54, (by decide : 7 + 0 ≤ _), (by decide : 15 + 0 ≤ _)⟩)
    dsimp only [Pt.U, Pt.locs, Pt.cells, Pt.slots] at X55 l55 y55 z55 st55 hQ55
    subst l55 y55 z55
    obtain ⟨rfl, N55q, e55⟩ := hQ55
    have N55 := Fr.app N54 N55q
    obtain ⟨cq56, kq56, q56a, q56b, q56c⟩ := isOf hZ e55 r33_0
    obtain ⟨_, _, ⟨T56, L56, k56, n56⟩, -, X56, ⟨Lc56, hQ56, l56, y56, z56⟩, st56⟩ := X55.virtualBack hx (y := (⟨"com/example/vestline/vestline/plan/ElectiveDeferralRule$RothOnlyAboveWages", "holds", "(I)Z"⟩ : MethodName)) (z := (⟨"com/example/vestline/vestline/plan/ElectiveDeferralRule$RothOnlyAboveWages", "holds", "(I)Z"⟩ : MethodName)) hown (mvT hZ (hw _ (im 48 rfl))) (mvT hZ (hw _ (im 49 rfl))) (notFace_of_selects (args := #[]) (mvT hZ (hw _ (im 51 rfl)))) (mvT hZ (hw _ (im 51 rfl))) (mvT hZ (hw _ (im 50 rfl))) (by decide) (backOf (W := 0) (rm9 l Z a0 hw [] b7 (if x2 < x1 then x2 else x1) x0 T33.heap n0 Z33_ r33_1) hZ (hw _ (im 52 rfl)) (hw _ (im 3 rfl)) (by decide) (by decide)) q56a q56c (g := (mkF m 109 #[iv x0, iv x1, iv x2, iv x3, rv b1, rv b4, rv b7, iv (if (¬ (x0 < x0)) then (1 : Int32) else (0 : Int32)), iv 1, iv (if x2 < x1 then x2 else x1), iv (if x1 < x2 then x2 else x1), .unset] [(.int (if x2 < x1 then x2 else x1)), (.ref b7)])) rfl (by rw [hml]; rfl) (Steps.refl _) (argsL := [(.int (if x2 < x1 then x2 else x1))]) (rest := []) (lenOf pd_7 rfl) rfl (by show 2 * 0 + _ ≤ _; exact Nat.le_of_eq rfl) (hb hby at_109) (fun _ _ => ⟨rfl, e55, (by decide : 7 + 0 ≤ _), (by decide : 15 + 0 ≤ _)⟩)
    dsimp only [Pt.U, Pt.locs, Pt.cells, Pt.slots] at X56 l56 y56 z56 st56 hQ56
    subst l56 y56 z56
    obtain ⟨rfl, N56q, e56⟩ := hQ56
    have N56 := Fr.app N55 N56q
    have P58 := own_go P36 (S' := T56.setTop (mkF m 112 #[iv x0, iv x1, iv x2, iv x3, rv b1, rv b4, rv b7, iv (if (¬ (x0 < x0)) then (1 : Int32) else (0 : Int32)), iv 1, iv (if x2 < x1 then x2 else x1), iv (if x1 < x2 then x2 else x1), .unset] [(.int (if (¬ ((if x2 < x1 then x2 else x1) < x0)) then (1 : Int32) else (0 : Int32)))])) (by
      intro t k
      refine XS.icmpNo X34.here hx rfl (hb hby at_70) rfl (feq hc70_35).1 ?_
      refine XS.aload X34.here hx rfl (hb hby at_73) rfl rfl ?_
      refine XS.iloadN X34.here hx rfl (hb hby at_75) rfl ?_
      refine XS.iconst X34.here hx rfl (hb hby at_76) ?_
      refine XS.isub X34.here hx rfl (hb hby at_77) rfl ?_
      refine st52.trans ?_
      refine XS.ifNo X52.here hx rfl (hb hby at_81) rfl ((if0 _ _).trans (teq (if_neg hc81_53)).2) ?_
      refine XS.iconst X52.here hx rfl (hb hby at_84) ?_
      show Steps p.tables e below (T52.setTop (mkF m 85 #[iv x0, iv x1, iv x2, iv x3, rv b1, rv b4, rv b7, iv (if (¬ (x0 < x0)) then (1 : Int32) else (0 : Int32)), .unset, .unset, .unset, .unset] [(.int 1)])) _
      refine XS.goto X52.here hx rfl (pc0 := 85) (pc' := 89) rfl (hb hby at_85) (by decide) (by decide) ?_
      refine XS.istore X52.here hx rfl (hb hby at_89) rfl (l' := #[iv x0, iv x1, iv x2, iv x3, rv b1, rv b4, rv b7, iv (if (¬ (x0 < x0)) then (1 : Int32) else (0 : Int32)), iv 1, .unset, .unset, .unset]) rfl ?_
      refine XS.iloadN X52.here hx rfl (hb hby at_91) rfl ?_
      refine XS.iloadN X52.here hx rfl (hb hby at_92) rfl ?_
      refine st54 _ ?_
      refine XS.istore X54.here hx rfl (hb hby at_96) rfl (l' := #[iv x0, iv x1, iv x2, iv x3, rv b1, rv b4, rv b7, iv (if (¬ (x0 < x0)) then (1 : Int32) else (0 : Int32)), iv 1, iv (if x2 < x1 then x2 else x1), .unset, .unset]) rfl ?_
      refine XS.iloadN X54.here hx rfl (hb hby at_98) rfl ?_
      refine XS.iloadN X54.here hx rfl (hb hby at_99) rfl ?_
      show Steps p.tables e below (T54.setTop (mkF m 100 #[iv x0, iv x1, iv x2, iv x3, rv b1, rv b4, rv b7, iv (if (¬ (x0 < x0)) then (1 : Int32) else (0 : Int32)), iv 1, iv (if x2 < x1 then x2 else x1), .unset, .unset] [(.int x2), (.int x1)])) _
      refine st55 _ ?_
      refine XS.istore X55.here hx rfl (hb hby at_103) rfl (l' := #[iv x0, iv x1, iv x2, iv x3, rv b1, rv b4, rv b7, iv (if (¬ (x0 < x0)) then (1 : Int32) else (0 : Int32)), iv 1, iv (if x2 < x1 then x2 else x1), iv (if x1 < x2 then x2 else x1), .unset]) rfl ?_
      refine XS.aload X55.here hx rfl (hb hby at_105) rfl rfl ?_
      refine XS.iload X55.here hx rfl (hb hby at_107) rfl ?_
      refine st56.trans ?_
      exact k)
    by_cases hc112_57 : (¬ ((if x2 < x1 then x2 else x1) < x0))
    · obtain ⟨cq59, kq59, q59a, q59b, q59c⟩ := isOf hZ e56 r33_0
      obtain ⟨_, _, ⟨T59, L59, k59, n59⟩, -, X59, ⟨Lc59, hQ59, l59, y59, z59⟩, st59⟩ := X56.virtualBack hx (y := (⟨"com/example/vestline/vestline/plan/ElectiveDeferralRule$RothOnlyAboveWages", "holds", "(I)Z"⟩ : MethodName)) (z := (⟨"com/example/vestline/vestline/plan/ElectiveDeferralRule$RothOnlyAboveWages", "holds", "(I)Z"⟩ : MethodName)) hown (mvT hZ (hw _ (im 48 rfl))) (mvT hZ (hw _ (im 49 rfl))) (notFace_of_selects (args := #[]) (mvT hZ (hw _ (im 51 rfl)))) (mvT hZ (hw _ (im 51 rfl))) (mvT hZ (hw _ (im 50 rfl))) (by decide) (backOf (W := 0) (rm9 l Z a0 hw [] b7 (if x1 < x2 then x2 else x1) x0 T33.heap n0 Z33_ r33_1) hZ (hw _ (im 52 rfl)) (hw _ (im 3 rfl)) (by decide) (by decide)) q59a q59c (g := (mkF m 119 #[iv x0, iv x1, iv x2, iv x3, rv b1, rv b4, rv b7, iv (if (¬ (x0 < x0)) then (1 : Int32) else (0 : Int32)), iv 1, iv (if x2 < x1 then x2 else x1), iv (if x1 < x2 then x2 else x1), .unset] [(.int (if x1 < x2 then x2 else x1)), (.ref b7)])) rfl (by rw [hml]; rfl) (Steps.refl _) (argsL := [(.int (if x1 < x2 then x2 else x1))]) (rest := []) (lenOf pd_7 rfl) rfl (by show 2 * 0 + _ ≤ _; exact Nat.le_of_eq rfl) (hb hby at_119) (fun _ _ => ⟨rfl, e56, (by decide : 7 + 0 ≤ _), (by decide : 15 + 0 ≤ _)⟩)
      dsimp only [Pt.U, Pt.locs, Pt.cells, Pt.slots] at X59 l59 y59 z59 st59 hQ59
      subst l59 y59 z59
      obtain ⟨rfl, N59q, e59⟩ := hQ59
      have N59 := Fr.app N56 N59q
      have hc122_60 : (¬ ((if x1 < x2 then x2 else x1) < x0)) := own_mono x1 x2 x0 hc112_57
      have hc134_61 : (¬ (x0 < x0)) := Int32.lt_irrefl
      have P64 := own_go P58 (S' := T59.setTop (mkF m 152 #[iv x0, iv x1, iv x2, iv x3, rv b1, rv b4, rv b7, iv (if (¬ (x0 < x0)) then (1 : Int32) else (0 : Int32)), iv 1, iv (if x2 < x1 then x2 else x1), iv (if x1 < x2 then x2 else x1), iv 1] [(.int 1)])) (by
        intro t k
        refine XS.ifNo X56.here hx rfl (hb hby at_112) rfl ((if0 _ _).trans (feq (by rw [if_pos hc112_57]; decide)).1) ?_
        refine XS.aload X56.here hx rfl (hb hby at_115) rfl rfl ?_
        refine XS.iload X56.here hx rfl (hb hby at_117) rfl ?_
        refine st59.trans ?_
        refine XS.ifNo X59.here hx rfl (hb hby at_122) rfl ((if0 _ _).trans (feq (by rw [if_pos hc122_60]; decide)).1) ?_
        refine XS.iconst X59.here hx rfl (hb hby at_125) ?_
        refine XS.goto X59.here hx rfl (pc0 := 126) (pc' := 130) rfl (hb hby at_126) (by decide) (by decide) ?_
        refine XS.istore X59.here hx rfl (hb hby at_130) rfl (l' := #[iv x0, iv x1, iv x2, iv x3, rv b1, rv b4, rv b7, iv (if (¬ (x0 < x0)) then (1 : Int32) else (0 : Int32)), iv 1, iv (if x2 < x1 then x2 else x1), iv (if x1 < x2 then x2 else x1), iv 1]) rfl ?_
        show Steps p.tables e below (T59.setTop (mkF m 132 #[iv x0, iv x1, iv x2, iv x3, rv b1, rv b4, rv b7, iv (if (¬ (x0 < x0)) then (1 : Int32) else (0 : Int32)), iv 1, iv (if x2 < x1 then x2 else x1), iv (if x1 < x2 then x2 else x1), iv 1] [])) _
        refine XS.iload X59.here hx rfl (hb hby at_132) rfl ?_
        refine XS.ifNo X59.here hx rfl (hb hby at_134) rfl ((if0 _ _).trans (feq (by rw [if_pos hc134_61]; decide)).1) ?_
        refine XS.iload X59.here hx rfl (hb hby at_137) rfl ?_
        refine XS.ifNo X59.here hx rfl (hb hby at_139) rfl ((if0 _ _).trans (feq (by decide)).1) ?_
        refine XS.iload X59.here hx rfl (hb hby at_142) rfl ?_
        refine XS.ifNo X59.here hx rfl (hb hby at_144) rfl ((if0 _ _).trans (feq (by decide)).1) ?_
        refine XS.iconst X59.here hx rfl (hb hby at_147) ?_
        refine XS.goto X59.here hx rfl (pc0 := 148) (pc' := 152) rfl (hb hby at_148) (by decide) (by decide) ?_
        show Steps p.tables e below (T59.setTop (mkF m 152 #[iv x0, iv x1, iv x2, iv x3, rv b1, rv b4, rv b7, iv (if (¬ (x0 < x0)) then (1 : Int32) else (0 : Int32)), iv 1, iv (if x2 < x1 then x2 else x1), iv (if x1 < x2 then x2 else x1), iv 1] [(.int 1)])) _
        exact k)
      obtain ⟨fs, hr, hrun, hended, hW, hsame⟩ := X59.leave (v := some (.int 1)) (fun h => by rw [Bd.returns] at h; cases h)
      refine ⟨_, _, P64 _ ?_, hrun, hended, _, _, rfl, ?_, ⟨_, rfl⟩, hW, hsame.mono (by decide) (by decide)⟩
      · show Steps p.tables e below (T59.setTop (mkF m 152 #[iv x0, iv x1, iv x2, iv x3, rv b1, rv b4, rv b7, iv (if (¬ (x0 < x0)) then (1 : Int32) else (0 : Int32)), iv 1, iv (if x2 < x1 then x2 else x1), iv (if x1 < x2 then x2 else x1), iv 1] [(.int 1)])) _
        exact retN X59 hx (t := .boolean) Bd.returns (by simp) (hb hby at_152) hr
      · show Q0 Z x0 x1 x2 x3 cs h0 n0 _ T59.heap _
        rw [e59]
        exact ⟨rfl, N59⟩
    · have hc134_65 : (¬ (x0 < x0)) := Int32.lt_irrefl
      have P68 := own_go P58 (S' := T56.setTop (mkF m 152 #[iv x0, iv x1, iv x2, iv x3, rv b1, rv b4, rv b7, iv (if (¬ (x0 < x0)) then (1 : Int32) else (0 : Int32)), iv 1, iv (if x2 < x1 then x2 else x1), iv (if x1 < x2 then x2 else x1), iv 1] [(.int 1)])) (by
        intro t k
        refine XS.ifYes X56.here hx rfl (pc0 := 112) (pc' := 125) rfl (hb hby at_112) rfl ((if0 _ _).trans (teq (if_neg hc112_57)).1) (by decide) (by decide) ?_
        refine XS.iconst X56.here hx rfl (hb hby at_125) ?_
        refine XS.goto X56.here hx rfl (pc0 := 126) (pc' := 130) rfl (hb hby at_126) (by decide) (by decide) ?_
        refine XS.istore X56.here hx rfl (hb hby at_130) rfl (l' := #[iv x0, iv x1, iv x2, iv x3, rv b1, rv b4, rv b7, iv (if (¬ (x0 < x0)) then (1 : Int32) else (0 : Int32)), iv 1, iv (if x2 < x1 then x2 else x1), iv (if x1 < x2 then x2 else x1), iv 1]) rfl ?_
        refine XS.iload X56.here hx rfl (hb hby at_132) rfl ?_
        refine XS.ifNo X56.here hx rfl (hb hby at_134) rfl ((if0 _ _).trans (feq (by rw [if_pos hc134_65]; decide)).1) ?_
        refine XS.iload X56.here hx rfl (hb hby at_137) rfl ?_
        refine XS.ifNo X56.here hx rfl (hb hby at_139) rfl ((if0 _ _).trans (feq (by decide)).1) ?_
        show Steps p.tables e below (T56.setTop (mkF m 142 #[iv x0, iv x1, iv x2, iv x3, rv b1, rv b4, rv b7, iv (if (¬ (x0 < x0)) then (1 : Int32) else (0 : Int32)), iv 1, iv (if x2 < x1 then x2 else x1), iv (if x1 < x2 then x2 else x1), iv 1] [])) _
        refine XS.iload X56.here hx rfl (hb hby at_142) rfl ?_
        refine XS.ifNo X56.here hx rfl (hb hby at_144) rfl ((if0 _ _).trans (feq (by decide)).1) ?_
        refine XS.iconst X56.here hx rfl (hb hby at_147) ?_
        refine XS.goto X56.here hx rfl (pc0 := 148) (pc' := 152) rfl (hb hby at_148) (by decide) (by decide) ?_
        exact k)
      obtain ⟨fs, hr, hrun, hended, hW, hsame⟩ := X56.leave (v := some (.int 1)) (fun h => by rw [Bd.returns] at h; cases h)
      refine ⟨_, _, P68 _ ?_, hrun, hended, _, _, rfl, ?_, ⟨_, rfl⟩, hW, hsame.mono (by decide) (by decide)⟩
      · show Steps p.tables e below (T56.setTop (mkF m 152 #[iv x0, iv x1, iv x2, iv x3, rv b1, rv b4, rv b7, iv (if (¬ (x0 < x0)) then (1 : Int32) else (0 : Int32)), iv 1, iv (if x2 < x1 then x2 else x1), iv (if x1 < x2 then x2 else x1), iv 1] [(.int 1)])) _
        exact retN X56 hx (t := .boolean) Bd.returns (by simp) (hb hby at_152) hr
      · show Q0 Z x0 x1 x2 x3 cs h0 n0 _ T56.heap _
        rw [e56]
        exact ⟨rfl, N56⟩

set_option maxRecDepth 65536 in
set_option maxHeartbeats 40000000 in
theorem comes_1 {Post : Tables → Env → Array Value → State → Outcome → State → Prop} (hpost : ∀ tb e args s v u, (limb_1_1.after args s (.returned v) u = true ∧ limb_1_2.after args s (.returned v) u = true ∧ True) → FrameEnd s (.returned v) u (Jvm.fieldLocs frame_1_writes args s ++ Jvm.arrayLocs frame_1_arrays args s ++ Jvm.staticLocs frame_1_statics s) 24 128 → Post tb e args s (.returned v) u) :
    ArmFor flags0 classFile x code maxLocals ret World_1 tables_1 room_1 Calls_1 rest_1 Pre_1 Post := by
  intro l hfl _ _ p e ha hc hk s m args below hf hA hF happ hP
  obtain ⟨hcalls, hrest, hpre⟩ := hP
  obtain ⟨-, -, -, hnamed, -, -, -, hat⟩ := (Spec.applies_iff hf).mp happ
  obtain ⟨hg, hn⟩ := and_e (Cond.before_iff.mp (show (Jvm.Cond.and given_1 narrow_1).before args s = true from hpre))
  obtain ⟨hcnt, hgs0⟩ := and_e hg
  obtain ⟨hk0, hgs1⟩ := and_e hgs0
  obtain ⟨hk1, hgs2⟩ := and_e hgs1
  obtain ⟨hk2, hgs3⟩ := and_e hgs2
  obtain ⟨w0, w1, w2, w3, rfl⟩ : ∃ w0 w1 w2 w3 : Value, args = #[w0, w1, w2, w3] := by
    have hs : args.size = 4 := by simpa [Cond.value, given_1] using hcnt
    obtain ⟨L⟩ := args
    match L, hs with
    | [w0, w1, w2, w3], _ => exact ⟨w0, w1, w2, w3, rfl⟩
  have hw := fun d (hd : d ∈ tables_1) => atoms_spec (ws := Jvm.Cond.code x code maxLocals ret :: tables_1) hat d (List.mem_cons_of_mem _ hd)
  have hfit : Fit s := fun {y c} hc i hi => by
    obtain ⟨ha, rfl⟩ := Array.getElem?_eq_some_iff.mp hc
    have q := List.all_eq_true.mp ((Array.all_eq_true_iff_forall_mem.mp hF) _ (Array.getElem_mem ha)) i (List.mem_range.mpr hi)
    simpa [Array.getElem?_eq_getElem hi] using q
  obtain ⟨hsets, hown0⟩ := atoms_of _ (rest_1_c_eq ▸ (show rest_1_c.before _ s = true from hrest))
  have hr0 := Cond.before_iff.mp hown0
  obtain ⟨i0, ei0⟩ := is_v hk0
  obtain rfl : w0 = (.int i0) := Option.some.inj ei0
  obtain ⟨i1, ei1⟩ := is_v hk1
  obtain rfl : w1 = (.int i1) := Option.some.inj ei1
  obtain ⟨i2, ei2⟩ := is_v hk2
  obtain rfl : w2 = (.int i2) := Option.some.inj ei2
  obtain ⟨i3, ei3⟩ := is_v hgs3
  obtain rfl : w3 = (.int i3) := Option.some.inj ei3
  have ncs := not_v (Cond.before_iff.mp (hsets _ (List.mem_of_getElem? (i := 2) rfl)))
  obtain ⟨cs, ecs⟩ := is_v (Cond.before_iff.mp (hsets _ (List.mem_of_getElem? (i := 1) rfl)))
  have SCS : Sta s s.heap "java/lang/String" "COMPACT_STRINGS" "Z" (.int cs) := Sta.start ecs (Or.inl (hsets _ (List.mem_of_getElem? (i := 0) rfl)))
  have hcs : ¬ (cs = (0 : Int32)) := gotF (Cond.eq_ints ecs (Term.int_eval (0))) ncs
  obtain ⟨n, o, h1, h2, h3, _, L, rfl, ⟨rfl, N⟩, hq⟩ := rm0 l s _ hw tables_1 i0 i1 i2 i3 cs s.heap s.heap.size (Nat.le_refl _) (Old.start s) SCS hcs p e ha hc hk s m _ below hf ((Spec.applies_iff_loose hf).mp happ).1 ⟨rfl, State.Warmed39.refl s, rfl⟩ trivial
  refine ⟨n, _, h1, h2, h3, hpost _ _ _ _ _ _ ⟨Cond.after_iff.mpr rfl, Cond.after_iff.mpr (eq_i res_at (Term.int_eval (1)) rfl), trivial⟩ ⟨hq.1, hq.2.1, (hq.2.2.sift fun y hy => Or.inr (N y hy)).mono (by decide) (by decide)⟩⟩
theorem main_1_1 : Claimed_1_1 := comes_1 fun _ _ _ _ _ _ h hF => ⟨h.1, hF⟩
theorem main_1_2 : Claimed_1_2 := comes_1 fun _ _ _ _ _ _ h hF => ⟨h.2.1, hF⟩
end Jvm.Pilot.@@N@@
namespace Jvm.Pilot.@@N@@
open Jvm Jvm.ClassFile Sem Op Lib Jvm.Free Jvm.Stand Jvm.Pilot.@@N@@.Jvm.D
/-! MADE BY PROGRAM (witnessworld.py) out of the Statement's table words and the real class files: 22 classes; the members and pool entries that the words name. The judged class is class 1, her method 1. -/
namespace start1
open Jvm.ClassFile
def u (s : String) : CpInfo := .utf8 (stringToUtf16 s)
/-- a pool by its gaps: so many unusable entries, then the entry; so many at the end -/
def gap : Nat → List CpInfo → List CpInfo
  | 0, r => r
  | n + 1, r => .unusable :: gap n r
def poolList (es : List (Nat × CpInfo)) (last : Nat) : List CpInfo := es.foldr (fun e r => gap e.1 (e.2 :: r)) (gap last [])
def pool (es : List (Nat × CpInfo)) (last : Nat) : Array CpInfo := ⟨poolList es last⟩
def fileOf (pool : Array CpInfo) (this : Nat) (attrs : Array Attribute := #[]) (ms : Array MethodInfo := #[]) (fl : Nat := 33) (sup : Nat := 0) (ifs : Array Nat := #[]) (fds : Array FieldInfo := #[]) : ClassFile where
  minorVersion := 0
  majorVersion := 65
  constantPool := pool
  accessFlags := fl
  thisClass := this
  superClass := sup
  interfaces := ifs
  fields := fds
  methods := ms
  attributes := attrs
def plain (name : String) (sup : Option ClassId) : Class where
  name := name
  kind := .ordinary
  loader := none
  accessFlags := 33
  super := sup
  interfaces := #[]
  cf := none
  fields := #[]
  methods := #[]
  instanceTypes := #[]
  staticTypes := #[]
  resolved := #[]
  callSites := []
  init := .initialized
  statics := none
  mirror := none

def pool0 : Array CpInfo := pool [(5, u "<init>"), (0, u "()V"), (1, .class_ 10), (1, u "java/lang/Object")] 113

def k0c0 : Code := { maxStack := 0, maxLocals := 1, code := object_method_1_code, exceptionTable := #[], attributes := #[] }
def k0m0 : Method := { name := "<init>", desc := "()V", sig := { parameters := [], returnType := none }, accessFlags := 1, code := some k0c0 }
/-- java/lang/Object -/
def k0 : Class := { plain "java/lang/Object" none with
  accessFlags := 33
  interfaces := #[]
  cf := some (fileOf pool0 8 #[] #[{ accessFlags := 1, nameIndex := 5, descriptorIndex := 6, attributes := #[] }] 33 0 #[] #[])
  fields := #[]
  methods := #[k0m0]
  instanceTypes := #[]
  staticTypes := #[]
  resolved := Array.replicate 124 none
  statics := none }

def pool1 : Array CpInfo := pool [(2, .class_ 4), (1, u "java/lang/Object"), (0, u "<init>"), (0, u "()V"), (0, .class_ 8), (0, u "com/example/vestline/vestline/plan/ElectiveDeferralRule$RothOnlyAboveWages"), (0, .class_ 10), (0, u "java/lang/String"), (0, .methodref 9 12), (0, .nameAndType 5 13), (0, u "([C)V"), (0, .methodref 7 15), (0, .nameAndType 5 16), (0, u "(Ljava/lang/String;ILjava/lang/String;)V"), (0, .methodref 7 18), (0, .nameAndType 19 20), (0, u "holds"), (0, u "(I)Z"), (2, .integer 2147483648), (0, .methodref 25 26), (0, .class_ 27), (0, .nameAndType 28 29), (0, u "java/lang/Math"), (0, u "min"), (0, u "(II)I"), (0, .methodref 25 31), (0, .nameAndType 32 29), (0, u "max"), (0, .class_ 34), (0, u "com/example/vestline/vestline/plan/RothOnlyAboveWagesHoldsPinLaw"), (2, u "law"), (0, u "(IIII)Z")] 9

def k1m0 : Method := { name := "<init>", desc := "()V", sig := { parameters := [], returnType := none }, accessFlags := 1, code := none }
def k1c1 : Code := { maxStack := 7, maxLocals := 12, code := code, exceptionTable := #[], attributes := #[] }
def k1m1 : Method := { name := "law", desc := "(IIII)Z", sig := { parameters := [.int, .int, .int, .int], returnType := some .boolean }, accessFlags := 9, code := some k1c1 }
/-- com/example/vestline/vestline/plan/RothOnlyAboveWagesHoldsPinLaw -/
def k1 : Class := { plain "com/example/vestline/vestline/plan/RothOnlyAboveWagesHoldsPinLaw" (some 0) with
  accessFlags := 49
  interfaces := #[]
  cf := some (fileOf pool1 33 #[] #[{ accessFlags := 1, nameIndex := 5, descriptorIndex := 6, attributes := #[] }, { accessFlags := 9, nameIndex := 37, descriptorIndex := 38, attributes := #[] }] 49 2 #[] #[])
  fields := #[]
  methods := #[k1m0, k1m1]
  instanceTypes := #[]
  staticTypes := #[]
  resolved := Array.replicate 48 none
  statics := none }

def pool2 : Array CpInfo := pool [(1, .methodref 2 3), (0, .class_ 4), (0, .nameAndType 5 6), (0, u "java/lang/Object"), (0, u "<init>"), (0, u "()V"), (0, .class_ 8), (0, u "java/lang/Record")] 13

def k2c0 : Code := { maxStack := 1, maxLocals := 1, code := jdk_30_method_1_code, exceptionTable := #[], attributes := #[] }
def k2m0 : Method := { name := "<init>", desc := "()V", sig := { parameters := [], returnType := none }, accessFlags := 4, code := some k2c0 }
/-- java/lang/Record -/
def k2 : Class := { plain "java/lang/Record" (some 0) with
  accessFlags := 1057
  interfaces := #[]
  cf := some (fileOf pool2 7 #[] #[{ accessFlags := 4, nameIndex := 5, descriptorIndex := 6, attributes := #[] }] 1057 2 #[] #[])
  fields := #[]
  methods := #[k2m0]
  instanceTypes := #[]
  staticTypes := #[]
  resolved := Array.replicate 22 none
  statics := none }

def pool3 : Array CpInfo := pool [(1, .methodref 2 3), (0, .class_ 4), (0, .nameAndType 5 6), (0, u "java/lang/Record"), (0, u "<init>"), (0, u "()V"), (0, .fieldref 8 9), (0, .class_ 10), (0, .nameAndType 11 12), (0, u "com/example/vestline/vestline/plan/ElectiveDeferralRule$RothOnlyAboveWages"), (0, u "section"), (0, u "Ljava/lang/String;"), (0, .fieldref 8 14), (0, .nameAndType 15 16), (0, u "fromYear"), (0, u "I"), (0, .fieldref 8 18), (0, .nameAndType 19 12), (0, u "limit"), (12, u "(Ljava/lang/String;ILjava/lang/String;)V"), (3, u "holds"), (0, u "(I)Z"), (7, .class_ 46), (0, u "com/example/vestline/vestline/plan/ElectiveDeferralRule")] 21

def k3c0 : Code := { maxStack := 2, maxLocals := 4, code := prog_127_method_1_code, exceptionTable := #[], attributes := #[] }
def k3m0 : Method := { name := "<init>", desc := "(Ljava/lang/String;ILjava/lang/String;)V", sig := { parameters := [(.object "java/lang/String"), .int, (.object "java/lang/String")], returnType := none }, accessFlags := 1, code := some k3c0 }
def k3c1 : Code := { maxStack := 2, maxLocals := 2, code := prog_127_method_2_code, exceptionTable := #[], attributes := #[] }
def k3m1 : Method := { name := "holds", desc := "(I)Z", sig := { parameters := [.int], returnType := some .boolean }, accessFlags := 1, code := some k3c1 }
/-- com/example/vestline/vestline/plan/ElectiveDeferralRule$RothOnlyAboveWages -/
def k3 : Class := { plain "com/example/vestline/vestline/plan/ElectiveDeferralRule$RothOnlyAboveWages" (some 2) with
  accessFlags := 49
  interfaces := #[]
  cf := some (fileOf pool3 8 #[.nestHost 45] #[{ accessFlags := 1, nameIndex := 5, descriptorIndex := 32, attributes := #[] }, { accessFlags := 1, nameIndex := 36, descriptorIndex := 37, attributes := #[] }] 49 2 #[] #[{ accessFlags := 18, nameIndex := 11, descriptorIndex := 12, attributes := #[] }, { accessFlags := 18, nameIndex := 15, descriptorIndex := 16, attributes := #[] }, { accessFlags := 18, nameIndex := 19, descriptorIndex := 12, attributes := #[] }])
  fields := #[{ name := "section", type := (.object "java/lang/String"), accessFlags := 18, slot := 0, constantValue := 0 }, { name := "fromYear", type := .int, accessFlags := 18, slot := 1, constantValue := 0 }, { name := "limit", type := (.object "java/lang/String"), accessFlags := 18, slot := 2, constantValue := 0 }]
  methods := #[k3m0, k3m1]
  instanceTypes := #[(.object "java/lang/String"), .int, (.object "java/lang/String")]
  staticTypes := #[]
  resolved := Array.replicate 68 none
  statics := none }

def pool4 : Array CpInfo := pool [(1, .class_ 2), (0, u "java/io/Serializable"), (0, .class_ 4), (0, u "java/lang/Object")] 2

/-- java/io/Serializable -/
def k4 : Class := { plain "java/io/Serializable" (some 0) with
  accessFlags := 1537
  interfaces := #[]
  cf := some (fileOf pool4 1 #[] #[] 1537 3 #[] #[])
  fields := #[]
  methods := #[]
  instanceTypes := #[]
  staticTypes := #[]
  resolved := Array.replicate 7 none
  statics := none }

def pool5 : Array CpInfo := pool [(1, .class_ 2), (0, u "java/lang/Comparable"), (0, .class_ 4), (0, u "java/lang/Object")] 7

/-- java/lang/Comparable -/
def k5 : Class := { plain "java/lang/Comparable" (some 0) with
  accessFlags := 1537
  interfaces := #[]
  cf := some (fileOf pool5 1 #[] #[] 1537 3 #[] #[])
  fields := #[]
  methods := #[]
  instanceTypes := #[]
  staticTypes := #[]
  resolved := Array.replicate 12 none
  statics := none }

def pool6 : Array CpInfo := pool [(2, .class_ 4), (1, u "java/lang/CharSequence"), (42, .class_ 48), (0, u "java/lang/CharSequence$1CodePointIterator"), (10, .class_ 60), (0, u "java/lang/CharSequence$1CharIterator"), (5, .class_ 67), (0, u "java/lang/Object")] 63

/-- java/lang/CharSequence -/
def k6 : Class := { plain "java/lang/CharSequence" (some 0) with
  accessFlags := 1537
  interfaces := #[]
  cf := some (fileOf pool6 2 #[.nestMembers #[47, 59]] #[] 1537 66 #[] #[])
  fields := #[]
  methods := #[]
  instanceTypes := #[]
  staticTypes := #[]
  resolved := Array.replicate 131 none
  statics := none }

def pool7 : Array CpInfo := pool [(1, .class_ 2), (0, u "java/lang/constant/Constable"), (0, .class_ 4), (0, u "java/lang/Object")] 6

/-- java/lang/constant/Constable -/
def k7 : Class := { plain "java/lang/constant/Constable" (some 0) with
  accessFlags := 1537
  interfaces := #[]
  cf := some (fileOf pool7 1 #[] #[] 1537 3 #[] #[])
  fields := #[]
  methods := #[]
  instanceTypes := #[]
  staticTypes := #[]
  resolved := Array.replicate 11 none
  statics := none }

def pool8 : Array CpInfo := pool [(1, .class_ 2), (0, u "java/lang/constant/ConstantDesc"), (0, .class_ 4), (0, u "java/lang/Object")] 32

/-- java/lang/constant/ConstantDesc -/
def k8 : Class := { plain "java/lang/constant/ConstantDesc" (some 0) with
  accessFlags := 1537
  interfaces := #[]
  cf := some (fileOf pool8 1 #[] #[] 1537 3 #[] #[])
  fields := #[]
  methods := #[]
  instanceTypes := #[]
  staticTypes := #[]
  resolved := Array.replicate 37 none
  statics := none }

def pool9 : Array CpInfo := pool [(1, .methodref 2 3), (0, .class_ 4), (0, .nameAndType 5 6), (0, u "java/lang/Object"), (0, u "<init>"), (0, u "()V"), (2, .fieldref 10 11), (0, .class_ 12), (0, .nameAndType 13 14), (0, u "java/lang/String"), (0, u "value"), (0, u "[B"), (0, .fieldref 10 16), (0, .nameAndType 17 18), (0, u "coder"), (0, u "B"), (2, u "hash"), (0, u "I"), (2, u "hashIsZero"), (0, u "Z"), (0, .methodref 10 28), (0, .nameAndType 5 29), (0, u "([CIILjava/lang/Void;)V"), (8, .fieldref 10 39), (0, .nameAndType 40 26), (0, u "COMPACT_STRINGS"), (1, .class_ 44), (1, u "java/lang/StringUTF16"), (0, u "compress"), (1, .methodref 42 48), (0, .nameAndType 49 50), (0, u "coderFromArrayLen"), (0, u "([BI)B"), (126, .methodref 42 178), (0, .nameAndType 45 179), (0, u "([CII)[B"), (395, .class_ 576), (0, u "java/lang/CharSequence"), (22, u "CASE_INSENSITIVE_ORDER"), (0, u "Ljava/util/Comparator;"), (409, u "([C)V"), (90, u "serialPersistentFields"), (0, u "[Ljava/io/ObjectStreamField;"), (0, .class_ 1104), (0, u "java/lang/String$CaseInsensitiveComparator"), (1, .class_ 1107), (0, u "java/io/Serializable"), (0, .class_ 1109), (0, u "java/lang/Comparable"), (0, .class_ 1111), (0, u "java/lang/constant/Constable"), (0, .class_ 1113), (0, u "java/lang/constant/ConstantDesc"), (2, u "serialVersionUID"), (0, u "J"), (3, u "REPL"), (0, u "C"), (2, u "LATIN1"), (1, u "UTF16")] 323

def k9m0 : Method := { name := "<init>", desc := "()V", sig := { parameters := [], returnType := none }, accessFlags := 1, code := none }
def k9c1 : Code := { maxStack := 5, maxLocals := 2, code := jdk_42_method_3_code, exceptionTable := #[], attributes := #[] }
def k9m1 : Method := { name := "<init>", desc := "([C)V", sig := { parameters := [(.array .char)], returnType := none }, accessFlags := 1, code := some k9c1 }
def k9c2 : Code := { maxStack := 4, maxLocals := 6, code := jdk_42_method_149_code, exceptionTable := #[], attributes := #[] }
def k9m2 : Method := { name := "<init>", desc := "([CIILjava/lang/Void;)V", sig := { parameters := [(.array .char), .int, .int, (.object "java/lang/Void")], returnType := none }, accessFlags := 2, code := some k9c2 }
/-- java/lang/String -/
def k9 : Class := { plain "java/lang/String" (some 0) with
  accessFlags := 49
  interfaces := #[4, 5, 6, 7, 8]
  cf := some (fileOf pool9 10 #[.nestMembers #[1103]] #[{ accessFlags := 1, nameIndex := 5, descriptorIndex := 6, attributes := #[] }, { accessFlags := 1, nameIndex := 5, descriptorIndex := 1010, attributes := #[] }, { accessFlags := 2, nameIndex := 5, descriptorIndex := 29, attributes := #[] }] 49 2 #[1106, 1108, 575, 1110, 1112] #[{ accessFlags := 18, nameIndex := 13, descriptorIndex := 14, attributes := #[] }, { accessFlags := 18, nameIndex := 17, descriptorIndex := 18, attributes := #[] }, { accessFlags := 2, nameIndex := 21, descriptorIndex := 22, attributes := #[] }, { accessFlags := 2, nameIndex := 25, descriptorIndex := 26, attributes := #[] }, { accessFlags := 26, nameIndex := 1116, descriptorIndex := 1117, attributes := #[] }, { accessFlags := 24, nameIndex := 40, descriptorIndex := 26, attributes := #[] }, { accessFlags := 26, nameIndex := 1101, descriptorIndex := 1102, attributes := #[] }, { accessFlags := 26, nameIndex := 1121, descriptorIndex := 1122, attributes := #[] }, { accessFlags := 25, nameIndex := 599, descriptorIndex := 600, attributes := #[] }, { accessFlags := 24, nameIndex := 1125, descriptorIndex := 18, attributes := #[] }, { accessFlags := 24, nameIndex := 1127, descriptorIndex := 18, attributes := #[] }])
  fields := #[{ name := "value", type := (.array .byte), accessFlags := 18, slot := 0, constantValue := 0 }, { name := "coder", type := .byte, accessFlags := 18, slot := 1, constantValue := 0 }, { name := "hash", type := .int, accessFlags := 2, slot := 2, constantValue := 0 }, { name := "hashIsZero", type := .boolean, accessFlags := 2, slot := 3, constantValue := 0 }, { name := "serialVersionUID", type := .long, accessFlags := 26, slot := 0, constantValue := 0 }, { name := "COMPACT_STRINGS", type := .boolean, accessFlags := 24, slot := 1, constantValue := 0 }, { name := "serialPersistentFields", type := (.array (.object "java/io/ObjectStreamField")), accessFlags := 26, slot := 2, constantValue := 0 }, { name := "REPL", type := .char, accessFlags := 26, slot := 3, constantValue := 0 }, { name := "CASE_INSENSITIVE_ORDER", type := (.object "java/util/Comparator"), accessFlags := 25, slot := 4, constantValue := 0 }, { name := "LATIN1", type := .byte, accessFlags := 24, slot := 5, constantValue := 0 }, { name := "UTF16", type := .byte, accessFlags := 24, slot := 6, constantValue := 0 }]
  methods := #[k9m0, k9m1, k9m2]
  instanceTypes := #[(.array .byte), .byte, .int, .boolean]
  staticTypes := #[.long, .boolean, (.array (.object "java/io/ObjectStreamField")), .char, (.object "java/util/Comparator"), .byte, .byte]
  resolved := Array.replicate 1451 none
  statics := some 0 }

def pool10 : Array CpInfo := pool [(6, .class_ 8), (1, u "java/lang/Object"), (0, u "<init>"), (0, u "()V"), (1, .class_ 14), (1, u "java/lang/StringUTF16"), (31, u "$assertionsDisabled"), (0, u "Z"), (13, u "HI_BYTE_SHIFT"), (0, u "I"), (2, u "LO_BYTE_SHIFT"), (49, .methodref 12 116), (0, .nameAndType 117 118), (0, u "compress"), (0, u "([CI[BII)I"), (3, u "([CII)[B"), (138, u "coderFromArrayLen"), (0, u "([BI)B"), (106, .class_ 371), (1, u "java/lang/StringUTF16$LinesSpliterator"), (58, u "MAX_LENGTH"), (196, .class_ 628), (0, u "java/lang/StringUTF16$CodePointsSpliterator"), (0, .class_ 630), (0, u "java/lang/StringUTF16$CharsSpliterator")] 4

def k10m0 : Method := { name := "<init>", desc := "()V", sig := { parameters := [], returnType := none }, accessFlags := 0, code := none }
def k10c1 : Code := { maxStack := 2, maxLocals := 2, code := jdk_52_method_15_code, exceptionTable := #[], attributes := #[] }
def k10m1 : Method := { name := "coderFromArrayLen", desc := "([BI)B", sig := { parameters := [(.array .byte), .int], returnType := some .byte }, accessFlags := 8, code := some k10c1 }
def k10c2 : Code := { maxStack := 5, maxLocals := 6, code := jdk_52_method_16_code, exceptionTable := #[], attributes := #[] }
def k10m2 : Method := { name := "compress", desc := "([CII)[B", sig := { parameters := [(.array .char), .int, .int], returnType := some (.array .byte) }, accessFlags := 9, code := some k10c2 }
def k10c3 : Code := { maxStack := 3, maxLocals := 7, code := jdk_52_method_21_code, exceptionTable := #[], attributes := #[] }
def k10m3 : Method := { name := "compress", desc := "([CI[BII)I", sig := { parameters := [(.array .char), .int, (.array .byte), .int, .int], returnType := some .int }, accessFlags := 9, code := some k10c3 }
/-- java/lang/StringUTF16 -/
def k10 : Class := { plain "java/lang/StringUTF16" (some 0) with
  accessFlags := 48
  interfaces := #[]
  cf := some (fileOf pool10 12 #[.nestMembers #[627, 629, 369]] #[{ accessFlags := 0, nameIndex := 9, descriptorIndex := 10, attributes := #[] }, { accessFlags := 8, nameIndex := 261, descriptorIndex := 262, attributes := #[] }, { accessFlags := 9, nameIndex := 117, descriptorIndex := 122, attributes := #[] }, { accessFlags := 9, nameIndex := 117, descriptorIndex := 118, attributes := #[] }] 48 6 #[] #[{ accessFlags := 26, nameIndex := 61, descriptorIndex := 62, attributes := #[] }, { accessFlags := 26, nameIndex := 65, descriptorIndex := 62, attributes := #[] }, { accessFlags := 24, nameIndex := 430, descriptorIndex := 62, attributes := #[] }, { accessFlags := 4120, nameIndex := 46, descriptorIndex := 47, attributes := #[] }])
  fields := #[{ name := "HI_BYTE_SHIFT", type := .int, accessFlags := 26, slot := 0, constantValue := 0 }, { name := "LO_BYTE_SHIFT", type := .int, accessFlags := 26, slot := 1, constantValue := 0 }, { name := "MAX_LENGTH", type := .int, accessFlags := 24, slot := 2, constantValue := 0 }, { name := "$assertionsDisabled", type := .boolean, accessFlags := 4120, slot := 3, constantValue := 0 }]
  methods := #[k10m0, k10m1, k10m2, k10m3]
  instanceTypes := #[]
  staticTypes := #[.int, .int, .int, .boolean]
  resolved := Array.replicate 635 none
  statics := none }

def pool11 : Array CpInfo := pool [(1, .class_ 2), (0, u "java/lang/Math"), (1, .class_ 6), (1, u "java/lang/Object"), (0, u "<init>"), (0, u "()V"), (89, .class_ 100), (1, u "java/lang/Math$RandomNumberGeneratorHolder"), (71, u "negativeZeroFloatBits"), (0, u "J"), (2, u "negativeZeroDoubleBits"), (21, u "max"), (2, u "min"), (43, u "$assertionsDisabled"), (0, u "Z"), (88, u "(II)I"), (2, u "twoToTheDoubleScaleDown"), (0, u "D"), (4, u "twoToTheDoubleScaleUp"), (9, u "E"), (3, u "PI"), (2, u "TAU"), (2, u "DEGREES_TO_RADIANS"), (0, u "RADIANS_TO_DEGREES")] 94

def k11m0 : Method := { name := "<init>", desc := "()V", sig := { parameters := [], returnType := none }, accessFlags := 2, code := none }
def k11c1 : Code := { maxStack := 2, maxLocals := 2, code := jdk_29_method_65_code, exceptionTable := #[], attributes := #[] }
def k11m1 : Method := { name := "max", desc := "(II)I", sig := { parameters := [.int, .int], returnType := some .int }, accessFlags := 9, code := some k11c1 }
def k11c2 : Code := { maxStack := 2, maxLocals := 2, code := jdk_29_method_69_code, exceptionTable := #[], attributes := #[] }
def k11m2 : Method := { name := "min", desc := "(II)I", sig := { parameters := [.int, .int], returnType := some .int }, accessFlags := 9, code := some k11c2 }
/-- java/lang/Math -/
def k11 : Class := { plain "java/lang/Math" (some 0) with
  accessFlags := 49
  interfaces := #[]
  cf := some (fileOf pool11 1 #[.nestMembers #[98]] #[{ accessFlags := 2, nameIndex := 7, descriptorIndex := 8, attributes := #[] }, { accessFlags := 9, nameIndex := 198, descriptorIndex := 335, attributes := #[] }, { accessFlags := 9, nameIndex := 201, descriptorIndex := 335, attributes := #[] }] 49 4 #[] #[{ accessFlags := 25, nameIndex := 354, descriptorIndex := 339, attributes := #[] }, { accessFlags := 25, nameIndex := 358, descriptorIndex := 339, attributes := #[] }, { accessFlags := 25, nameIndex := 361, descriptorIndex := 339, attributes := #[] }, { accessFlags := 26, nameIndex := 364, descriptorIndex := 339, attributes := #[] }, { accessFlags := 26, nameIndex := 365, descriptorIndex := 339, attributes := #[] }, { accessFlags := 26, nameIndex := 172, descriptorIndex := 173, attributes := #[] }, { accessFlags := 26, nameIndex := 176, descriptorIndex := 173, attributes := #[] }, { accessFlags := 8, nameIndex := 344, descriptorIndex := 339, attributes := #[] }, { accessFlags := 8, nameIndex := 338, descriptorIndex := 339, attributes := #[] }, { accessFlags := 4120, nameIndex := 245, descriptorIndex := 246, attributes := #[] }])
  fields := #[{ name := "E", type := .double, accessFlags := 25, slot := 0, constantValue := 0 }, { name := "PI", type := .double, accessFlags := 25, slot := 1, constantValue := 0 }, { name := "TAU", type := .double, accessFlags := 25, slot := 2, constantValue := 0 }, { name := "DEGREES_TO_RADIANS", type := .double, accessFlags := 26, slot := 3, constantValue := 0 }, { name := "RADIANS_TO_DEGREES", type := .double, accessFlags := 26, slot := 4, constantValue := 0 }, { name := "negativeZeroFloatBits", type := .long, accessFlags := 26, slot := 5, constantValue := 0 }, { name := "negativeZeroDoubleBits", type := .long, accessFlags := 26, slot := 6, constantValue := 0 }, { name := "twoToTheDoubleScaleUp", type := .double, accessFlags := 8, slot := 7, constantValue := 0 }, { name := "twoToTheDoubleScaleDown", type := .double, accessFlags := 8, slot := 8, constantValue := 0 }, { name := "$assertionsDisabled", type := .boolean, accessFlags := 4120, slot := 9, constantValue := 0 }]
  methods := #[k11m0, k11m1, k11m2]
  instanceTypes := #[]
  staticTypes := #[.double, .double, .double, .double, .double, .long, .long, .double, .double, .boolean]
  resolved := Array.replicate 460 none
  statics := none }

def pool12 : Array CpInfo := pool [(4, .class_ 6), (1, u "java/lang/Object"), (0, u "<init>"), (0, u "()V"), (5, .class_ 16), (1, u "java/lang/StringLatin1"), (104, u "$assertionsDisabled"), (0, u "Z"), (98, .class_ 223), (1, u "java/lang/StringLatin1$LinesSpliterator"), (166, .class_ 391), (0, u "java/lang/StringLatin1$CharsSpliterator")] 3

def k12m0 : Method := { name := "<init>", desc := "()V", sig := { parameters := [], returnType := none }, accessFlags := 0, code := none }
/-- java/lang/StringLatin1 -/
def k12 : Class := { plain "java/lang/StringLatin1" (some 0) with
  accessFlags := 48
  interfaces := #[]
  cf := some (fileOf pool12 14 #[.nestMembers #[390, 221]] #[{ accessFlags := 0, nameIndex := 7, descriptorIndex := 8, attributes := #[] }] 48 4 #[] #[{ accessFlags := 4120, nameIndex := 121, descriptorIndex := 122, attributes := #[] }])
  fields := #[{ name := "$assertionsDisabled", type := .boolean, accessFlags := 4120, slot := 0, constantValue := 0 }]
  methods := #[k12m0]
  instanceTypes := #[]
  staticTypes := #[.boolean]
  resolved := Array.replicate 395 none
  statics := none }

def pool13 : Array CpInfo := pool [(2, .class_ 4), (1, u "java/lang/Object"), (0, u "<init>"), (0, u "()V"), (17, .class_ 26), (1, u "jdk/internal/util/Preconditions"), (28, .class_ 56), (0, u "jdk/internal/util/Preconditions$4"), (57, .class_ 115), (0, u "jdk/internal/util/Preconditions$1"), (7, u "SIOOBE_FORMATTER"), (0, u "Ljava/util/function/BiFunction;"), (0, .class_ 126), (0, u "jdk/internal/util/Preconditions$2"), (3, u "AIOOBE_FORMATTER"), (0, .class_ 132), (0, u "jdk/internal/util/Preconditions$3"), (3, u "IOOBE_FORMATTER")] 57

def k13m0 : Method := { name := "<init>", desc := "()V", sig := { parameters := [], returnType := none }, accessFlags := 1, code := none }
/-- jdk/internal/util/Preconditions -/
def k13 : Class := { plain "jdk/internal/util/Preconditions" (some 0) with
  accessFlags := 33
  interfaces := #[]
  cf := some (fileOf pool13 24 #[.nestMembers #[55, 131, 125, 114]] #[{ accessFlags := 1, nameIndex := 5, descriptorIndex := 6, attributes := #[] }] 33 2 #[] #[{ accessFlags := 25, nameIndex := 123, descriptorIndex := 124, attributes := #[] }, { accessFlags := 25, nameIndex := 130, descriptorIndex := 124, attributes := #[] }, { accessFlags := 25, nameIndex := 136, descriptorIndex := 124, attributes := #[] }])
  fields := #[{ name := "SIOOBE_FORMATTER", type := (.object "java/util/function/BiFunction"), accessFlags := 25, slot := 0, constantValue := 0 }, { name := "AIOOBE_FORMATTER", type := (.object "java/util/function/BiFunction"), accessFlags := 25, slot := 1, constantValue := 0 }, { name := "IOOBE_FORMATTER", type := (.object "java/util/function/BiFunction"), accessFlags := 25, slot := 2, constantValue := 0 }]
  methods := #[k13m0]
  instanceTypes := #[]
  staticTypes := #[(.object "java/util/function/BiFunction"), (.object "java/util/function/BiFunction"), (.object "java/util/function/BiFunction")]
  resolved := Array.replicate 194 none
  statics := some 1 }

def pool14 : Array CpInfo := pool [(9, u "<init>"), (6, .class_ 18), (1, u "java/lang/Object"), (0, u "()V"), (1, .class_ 23), (1, u "jdk/internal/util/ArraysSupport"), (0, u "LOG2_ARRAY_LONG_INDEX_SCALE"), (0, u "I"), (2, u "U"), (0, u "Ljdk/internal/misc/Unsafe;"), (8, u "BIG_ENDIAN"), (0, u "Z"), (8, u "LOG2_BYTE_BIT_SIZE"), (4, u "LOG2_ARRAY_INT_INDEX_SCALE"), (54, u "JLA"), (0, u "Ljdk/internal/access/JavaLangAccess;"), (11, u "LOG2_ARRAY_BOOLEAN_INDEX_SCALE"), (9, u "LOG2_ARRAY_BYTE_INDEX_SCALE"), (5, u "LOG2_ARRAY_CHAR_INDEX_SCALE"), (5, u "LOG2_ARRAY_SHORT_INDEX_SCALE"), (18, u "LOG2_ARRAY_FLOAT_INDEX_SCALE"), (24, u "LOG2_ARRAY_DOUBLE_INDEX_SCALE"), (89, u "T_BOOLEAN"), (2, u "T_CHAR"), (1, u "T_FLOAT"), (1, u "T_DOUBLE"), (1, u "T_BYTE"), (1, u "T_SHORT"), (1, u "T_INT"), (1, u "T_LONG"), (1, u "SOFT_MAX_ARRAY_LENGTH")] 83

def k14m0 : Method := { name := "<init>", desc := "()V", sig := { parameters := [], returnType := none }, accessFlags := 2, code := none }
/-- jdk/internal/util/ArraysSupport -/
def k14 : Class := { plain "jdk/internal/util/ArraysSupport" (some 0) with
  accessFlags := 33
  interfaces := #[]
  cf := some (fileOf pool14 21 #[] #[{ accessFlags := 2, nameIndex := 9, descriptorIndex := 19, attributes := #[] }] 33 16 #[] #[{ accessFlags := 24, nameIndex := 28, descriptorIndex := 29, attributes := #[] }, { accessFlags := 26, nameIndex := 38, descriptorIndex := 39, attributes := #[] }, { accessFlags := 25, nameIndex := 121, descriptorIndex := 25, attributes := #[] }, { accessFlags := 25, nameIndex := 131, descriptorIndex := 25, attributes := #[] }, { accessFlags := 25, nameIndex := 137, descriptorIndex := 25, attributes := #[] }, { accessFlags := 25, nameIndex := 143, descriptorIndex := 25, attributes := #[] }, { accessFlags := 25, nameIndex := 53, descriptorIndex := 25, attributes := #[] }, { accessFlags := 25, nameIndex := 24, descriptorIndex := 25, attributes := #[] }, { accessFlags := 25, nameIndex := 162, descriptorIndex := 25, attributes := #[] }, { accessFlags := 25, nameIndex := 187, descriptorIndex := 25, attributes := #[] }, { accessFlags := 26, nameIndex := 48, descriptorIndex := 25, attributes := #[] }, { accessFlags := 25, nameIndex := 277, descriptorIndex := 25, attributes := #[] }, { accessFlags := 25, nameIndex := 280, descriptorIndex := 25, attributes := #[] }, { accessFlags := 25, nameIndex := 282, descriptorIndex := 25, attributes := #[] }, { accessFlags := 25, nameIndex := 284, descriptorIndex := 25, attributes := #[] }, { accessFlags := 25, nameIndex := 286, descriptorIndex := 25, attributes := #[] }, { accessFlags := 25, nameIndex := 288, descriptorIndex := 25, attributes := #[] }, { accessFlags := 25, nameIndex := 290, descriptorIndex := 25, attributes := #[] }, { accessFlags := 25, nameIndex := 292, descriptorIndex := 25, attributes := #[] }, { accessFlags := 26, nameIndex := 108, descriptorIndex := 109, attributes := #[] }, { accessFlags := 25, nameIndex := 294, descriptorIndex := 25, attributes := #[] }])
  fields := #[{ name := "U", type := (.object "jdk/internal/misc/Unsafe"), accessFlags := 24, slot := 0, constantValue := 0 }, { name := "BIG_ENDIAN", type := .boolean, accessFlags := 26, slot := 1, constantValue := 0 }, { name := "LOG2_ARRAY_BOOLEAN_INDEX_SCALE", type := .int, accessFlags := 25, slot := 2, constantValue := 0 }, { name := "LOG2_ARRAY_BYTE_INDEX_SCALE", type := .int, accessFlags := 25, slot := 3, constantValue := 0 }, { name := "LOG2_ARRAY_CHAR_INDEX_SCALE", type := .int, accessFlags := 25, slot := 4, constantValue := 0 }, { name := "LOG2_ARRAY_SHORT_INDEX_SCALE", type := .int, accessFlags := 25, slot := 5, constantValue := 0 }, { name := "LOG2_ARRAY_INT_INDEX_SCALE", type := .int, accessFlags := 25, slot := 6, constantValue := 0 }, { name := "LOG2_ARRAY_LONG_INDEX_SCALE", type := .int, accessFlags := 25, slot := 7, constantValue := 0 }, { name := "LOG2_ARRAY_FLOAT_INDEX_SCALE", type := .int, accessFlags := 25, slot := 8, constantValue := 0 }, { name := "LOG2_ARRAY_DOUBLE_INDEX_SCALE", type := .int, accessFlags := 25, slot := 9, constantValue := 0 }, { name := "LOG2_BYTE_BIT_SIZE", type := .int, accessFlags := 26, slot := 10, constantValue := 0 }, { name := "T_BOOLEAN", type := .int, accessFlags := 25, slot := 11, constantValue := 0 }, { name := "T_CHAR", type := .int, accessFlags := 25, slot := 12, constantValue := 0 }, { name := "T_FLOAT", type := .int, accessFlags := 25, slot := 13, constantValue := 0 }, { name := "T_DOUBLE", type := .int, accessFlags := 25, slot := 14, constantValue := 0 }, { name := "T_BYTE", type := .int, accessFlags := 25, slot := 15, constantValue := 0 }, { name := "T_SHORT", type := .int, accessFlags := 25, slot := 16, constantValue := 0 }, { name := "T_INT", type := .int, accessFlags := 25, slot := 17, constantValue := 0 }, { name := "T_LONG", type := .int, accessFlags := 25, slot := 18, constantValue := 0 }, { name := "JLA", type := (.object "jdk/internal/access/JavaLangAccess"), accessFlags := 26, slot := 19, constantValue := 0 }, { name := "SOFT_MAX_ARRAY_LENGTH", type := .int, accessFlags := 25, slot := 20, constantValue := 0 }]
  methods := #[k14m0]
  instanceTypes := #[]
  staticTypes := #[(.object "jdk/internal/misc/Unsafe"), .boolean, .int, .int, .int, .int, .int, .int, .int, .int, .int, .int, .int, .int, .int, .int, .int, .int, .int, (.object "jdk/internal/access/JavaLangAccess"), .int]
  resolved := Array.replicate 378 none
  statics := none }

def pool15 : Array CpInfo := pool [(1, u "java/lang/Cloneable"), (0, .class_ 1), (0, u "java/lang/Object"), (0, .class_ 3)] 3

/-- java/lang/Cloneable -/
def k15 : Class := { plain "java/lang/Cloneable" (some 0) with
  accessFlags := 1537
  interfaces := #[]
  cf := some (fileOf pool15 2 #[] #[] 1537 4 #[] #[])
  fields := #[]
  methods := #[]
  instanceTypes := #[]
  staticTypes := #[]
  resolved := Array.replicate 8 none
  statics := none }

/-- the primitive byte -/
def k16 : Class := { plain "byte" none with kind := .primitive 'B', accessFlags := 0x411 }
/-- [B -/
def k17 : Class := { plain "[B" (some 0) with kind := .array 16 .byte, interfaces := #[15, 4], accessFlags := 1041 }

/-- the primitive char -/
def k18 : Class := { plain "char" none with kind := .primitive 'C', accessFlags := 0x411 }
/-- [C -/
def k19 : Class := { plain "[C" (some 0) with kind := .array 18 .char, interfaces := #[15, 4], accessFlags := 1041 }

/-- the primitive int -/
def k20 : Class := { plain "int" none with kind := .primitive 'I', accessFlags := 0x411 }
/-- [I -/
def k21 : Class := { plain "[I" (some 0) with kind := .array 20 .int, interfaces := #[15, 4], accessFlags := 1041 }

def heap : Heap := #[{ cls := 9, slots := #[.long 0, .int 1, .null, .int 0, .null, .int 0, .int 0], vm := .statics 9 },
  { cls := 13, slots := #[.null, .null, .null], vm := .statics 13 }]
def classes : Array Class := #[k0, k1, k2, k3, k4, k5, k6, k7, k8, k9, k10, k11, k12, k13, k14, k15, k16, k17, k18, k19, k20, k21]
def interned : List (Array UInt16 × Addr) := []
def slotsUsed : Nat := 10
def theMethod : MethodId := ⟨1, 1⟩
def args0 : Array Value := #[.int 5, .int 6, .int 7, .int 8]
def aboutOver (below : List Frame) : State where
  vm := { classes := classes, interned := interned.toArray }
  heap := heap
  slotsUsed := slotsUsed
  threads := #[{ frames := .invoking theMethod args0 :: below }]
def below0 : List Frame := [.native { method := ⟨0, 0⟩, args := #[] }]
def about1 : State := aboutOver below0
def p0 : Program := .bare "" "" ""
def e0 : Env := launch0.env 0 0 0
theorem w_frames : about1.frames = Frame.invoking theMethod args0 :: below0 := rfl
set_option maxRecDepth 65536 in
theorem w_args : argsFit about1.vm theMethod args0 = true := by decide +kernel
set_option maxRecDepth 65536 in
theorem w_heap : heapFits about1 = true := by decide +kernel
set_option maxRecDepth 65536 in
theorem w_runnable : about1.curStatus? = some .runnable := by decide +kernel
set_option maxRecDepth 65536 in
theorem w_alone : about1.alone = true := by decide +kernel
set_option maxRecDepth 65536 in
theorem w_named : about1.methodNamed? x = some theMethod := by decide +kernel
set_option maxRecDepth 65536 in
theorem w_hears : about1.hears theMethod below0 = true := by decide +kernel
set_option maxRecDepth 65536 in
theorem w_ripe : about1.ripe theMethod args0 below0 = true := by decide +kernel
theorem w_running : about1.status = .running := rfl
set_option maxRecDepth 65536 in
theorem w_room : about1.hasRoom e0.platform room_1 = true :=
  launch0.hasRoom_least _ room_1 (by decide +kernel) (by decide +kernel) (by decide +kernel) (by decide +kernel) (by decide +kernel) (by decide +kernel)
theorem allAtoms_all (ts : List Jvm.Cond) (a : Array Jvm.Value) (st : Jvm.State) : (allAtoms ts).before a st = ts.all (fun c => c.before a st) := by
  induction ts with
  | nil => rfl
  | cons c t ih =>
    show (Jvm.Cond.and c (allAtoms t)).before a st = _
    rw [Jvm.Cond.before_and, ih, List.all_cons]
def words1 : List Jvm.Cond := Jvm.Cond.code x code maxLocals ret :: tables_1
/-- a 'code' word, met by the world's own term for the bytes: nothing is compared byte by byte -/
theorem code_word {y : MethodName} {bytes : ByteArray} {mx : Nat} {rt : Option FieldType} {a : Array Value} {s : State} {m : MethodId} {meth : Method} {c : Code} (h1 : s.methodNamed? y = some m) (h2 : s.vm.method? m = some meth) (h3 : meth.code = some c) (h4 : c.code = bytes)
    (h5 : (c.maxLocals == mx && c.exceptionTable.isEmpty && decide (c.maxStack ≤ mostOperands) && decide (meth.sig.returnType = rt) && !meth.locks && decide (parseMethodDescriptor y.desc = some meth.sig)) = true) : (Jvm.Cond.code y bytes mx rt).before a s = true := by
  simp only [Bool.and_eq_true, beq_iff_eq, Bool.not_eq_true', decide_eq_true_eq] at h5
  obtain ⟨⟨⟨⟨⟨g1, g2⟩, g3⟩, g4⟩, g5⟩, g6⟩ := h5
  simp [Cond.before, Cond.holds, Cond.value, h1, h2, h3, h4, g1, g2, g3, g4, g5, g6]
def isCode : Jvm.Cond → Bool
  | .code _ _ _ _ => true
  | _ => false
theorem all_split {L : List Jvm.Cond} {P : Jvm.Cond → Bool} (h1 : L.all (fun c => isCode c || P c) = true) (h2 : ∀ c ∈ L.filter isCode, P c = true) : L.all P = true := by
  refine List.all_eq_true.mpr fun c hc => ?_
  have h := List.all_eq_true.mp h1 c hc
  rcases Bool.eq_false_or_eq_true (isCode c) with hi | hi
  · exact h2 c (List.mem_filter.mpr ⟨hc, hi⟩)
  · simpa [hi] using h
set_option maxRecDepth 65536 in
theorem w_c0 : (Jvm.Cond.code x code maxLocals ret).before args0 about1 = true := code_word (m := ⟨1, 1⟩) (meth := k1m1) (c := k1c1) (by decide +kernel) rfl rfl rfl (by decide +kernel)
set_option maxRecDepth 65536 in
theorem w_c1 : (Jvm.Cond.code ({ cls := "java/lang/String", name := "<init>", desc := "([C)V" } : Jvm.MethodName) jdk_42_method_3_code (2 : Nat) (Option.none : Option Jvm.ClassFile.FieldType)).before args0 about1 = true := code_word (m := ⟨9, 1⟩) (meth := k9m1) (c := k9c1) (by decide +kernel) rfl rfl rfl (by decide +kernel)
set_option maxRecDepth 65536 in
theorem w_c2 : (Jvm.Cond.code ({ cls := "java/lang/String", name := "<init>", desc := "([CIILjava/lang/Void;)V" } : Jvm.MethodName) jdk_42_method_149_code (6 : Nat) (Option.none : Option Jvm.ClassFile.FieldType)).before args0 about1 = true := code_word (m := ⟨9, 2⟩) (meth := k9m2) (c := k9c2) (by decide +kernel) rfl rfl rfl (by decide +kernel)
set_option maxRecDepth 65536 in
theorem w_c3 : (Jvm.Cond.code ({ cls := "java/lang/Object", name := "<init>", desc := "()V" } : Jvm.MethodName) object_method_1_code (1 : Nat) (Option.none : Option Jvm.ClassFile.FieldType)).before args0 about1 = true := code_word (m := ⟨0, 0⟩) (meth := k0m0) (c := k0c0) (by decide +kernel) rfl rfl rfl (by decide +kernel)
set_option maxRecDepth 65536 in
theorem w_c4 : (Jvm.Cond.code ({ cls := "java/lang/StringUTF16", name := "compress", desc := "([CII)[B" } : Jvm.MethodName) jdk_52_method_16_code (6 : Nat) (Option.some (Jvm.ClassFile.FieldType.array Jvm.ClassFile.FieldType.byte))).before args0 about1 = true := code_word (m := ⟨10, 2⟩) (meth := k10m2) (c := k10c2) (by decide +kernel) rfl rfl rfl (by decide +kernel)
set_option maxRecDepth 65536 in
theorem w_c5 : (Jvm.Cond.code ({ cls := "java/lang/StringUTF16", name := "compress", desc := "([CI[BII)I" } : Jvm.MethodName) jdk_52_method_21_code (7 : Nat) (Option.some Jvm.ClassFile.FieldType.int)).before args0 about1 = true := code_word (m := ⟨10, 3⟩) (meth := k10m3) (c := k10c3) (by decide +kernel) rfl rfl rfl (by decide +kernel)
set_option maxRecDepth 65536 in
theorem w_c6 : (Jvm.Cond.code ({ cls := "java/lang/StringUTF16", name := "coderFromArrayLen", desc := "([BI)B" } : Jvm.MethodName) jdk_52_method_15_code (2 : Nat) (Option.some Jvm.ClassFile.FieldType.byte)).before args0 about1 = true := code_word (m := ⟨10, 1⟩) (meth := k10m1) (c := k10c1) (by decide +kernel) rfl rfl rfl (by decide +kernel)
set_option maxRecDepth 65536 in
theorem w_c7 : (Jvm.Cond.code ({ cls := "com/example/vestline/vestline/plan/ElectiveDeferralRule$RothOnlyAboveWages", name := "<init>", desc := "(Ljava/lang/String;ILjava/lang/String;)V" } : Jvm.MethodName) prog_127_method_1_code (4 : Nat) (Option.none : Option Jvm.ClassFile.FieldType)).before args0 about1 = true := code_word (m := ⟨3, 0⟩) (meth := k3m0) (c := k3c0) (by decide +kernel) rfl rfl rfl (by decide +kernel)
set_option maxRecDepth 65536 in
theorem w_c8 : (Jvm.Cond.code ({ cls := "java/lang/Record", name := "<init>", desc := "()V" } : Jvm.MethodName) jdk_30_method_1_code (1 : Nat) (Option.none : Option Jvm.ClassFile.FieldType)).before args0 about1 = true := code_word (m := ⟨2, 0⟩) (meth := k2m0) (c := k2c0) (by decide +kernel) rfl rfl rfl (by decide +kernel)
set_option maxRecDepth 65536 in
theorem w_c9 : (Jvm.Cond.code ({ cls := "com/example/vestline/vestline/plan/ElectiveDeferralRule$RothOnlyAboveWages", name := "holds", desc := "(I)Z" } : Jvm.MethodName) prog_127_method_2_code (2 : Nat) (Option.some Jvm.ClassFile.FieldType.boolean)).before args0 about1 = true := code_word (m := ⟨3, 1⟩) (meth := k3m1) (c := k3c1) (by decide +kernel) rfl rfl rfl (by decide +kernel)
set_option maxRecDepth 65536 in
theorem w_c10 : (Jvm.Cond.code ({ cls := "java/lang/Math", name := "min", desc := "(II)I" } : Jvm.MethodName) jdk_29_method_69_code (2 : Nat) (Option.some Jvm.ClassFile.FieldType.int)).before args0 about1 = true := code_word (m := ⟨11, 2⟩) (meth := k11m2) (c := k11c2) (by decide +kernel) rfl rfl rfl (by decide +kernel)
set_option maxRecDepth 65536 in
theorem w_c11 : (Jvm.Cond.code ({ cls := "java/lang/Math", name := "max", desc := "(II)I" } : Jvm.MethodName) jdk_29_method_65_code (2 : Nat) (Option.some Jvm.ClassFile.FieldType.int)).before args0 about1 = true := code_word (m := ⟨11, 1⟩) (meth := k11m1) (c := k11c1) (by decide +kernel) rfl rfl rfl (by decide +kernel)
def codes1 : List Jvm.Cond := [Jvm.Cond.code x code maxLocals ret, Jvm.Cond.code ({ cls := "java/lang/String", name := "<init>", desc := "([C)V" } : Jvm.MethodName) jdk_42_method_3_code (2 : Nat) (Option.none : Option Jvm.ClassFile.FieldType), Jvm.Cond.code ({ cls := "java/lang/String", name := "<init>", desc := "([CIILjava/lang/Void;)V" } : Jvm.MethodName) jdk_42_method_149_code (6 : Nat) (Option.none : Option Jvm.ClassFile.FieldType), Jvm.Cond.code ({ cls := "java/lang/Object", name := "<init>", desc := "()V" } : Jvm.MethodName) object_method_1_code (1 : Nat) (Option.none : Option Jvm.ClassFile.FieldType), Jvm.Cond.code ({ cls := "java/lang/StringUTF16", name := "compress", desc := "([CII)[B" } : Jvm.MethodName) jdk_52_method_16_code (6 : Nat) (Option.some (Jvm.ClassFile.FieldType.array Jvm.ClassFile.FieldType.byte)), Jvm.Cond.code ({ cls := "java/lang/StringUTF16", name := "compress", desc := "([CI[BII)I" } : Jvm.MethodName) jdk_52_method_21_code (7 : Nat) (Option.some Jvm.ClassFile.FieldType.int), Jvm.Cond.code ({ cls := "java/lang/StringUTF16", name := "coderFromArrayLen", desc := "([BI)B" } : Jvm.MethodName) jdk_52_method_15_code (2 : Nat) (Option.some Jvm.ClassFile.FieldType.byte), Jvm.Cond.code ({ cls := "com/example/vestline/vestline/plan/ElectiveDeferralRule$RothOnlyAboveWages", name := "<init>", desc := "(Ljava/lang/String;ILjava/lang/String;)V" } : Jvm.MethodName) prog_127_method_1_code (4 : Nat) (Option.none : Option Jvm.ClassFile.FieldType), Jvm.Cond.code ({ cls := "java/lang/Record", name := "<init>", desc := "()V" } : Jvm.MethodName) jdk_30_method_1_code (1 : Nat) (Option.none : Option Jvm.ClassFile.FieldType), Jvm.Cond.code ({ cls := "com/example/vestline/vestline/plan/ElectiveDeferralRule$RothOnlyAboveWages", name := "holds", desc := "(I)Z" } : Jvm.MethodName) prog_127_method_2_code (2 : Nat) (Option.some Jvm.ClassFile.FieldType.boolean), Jvm.Cond.code ({ cls := "java/lang/Math", name := "min", desc := "(II)I" } : Jvm.MethodName) jdk_29_method_69_code (2 : Nat) (Option.some Jvm.ClassFile.FieldType.int), Jvm.Cond.code ({ cls := "java/lang/Math", name := "max", desc := "(II)I" } : Jvm.MethodName) jdk_29_method_65_code (2 : Nat) (Option.some Jvm.ClassFile.FieldType.int)]
set_option maxRecDepth 65536 in
theorem codes_eq : words1.filter isCode = codes1 := rfl
theorem w_codes : ∀ c ∈ words1.filter isCode, c.before args0 about1 = true := by
  rw [codes_eq]
  intro c hc
  simp only [codes1, List.mem_cons, List.not_mem_nil, or_false] at hc
  rcases hc with rfl | rfl | rfl | rfl | rfl | rfl | rfl | rfl | rfl | rfl | rfl | rfl
  · exact w_c0
  · exact w_c1
  · exact w_c2
  · exact w_c3
  · exact w_c4
  · exact w_c5
  · exact w_c6
  · exact w_c7
  · exact w_c8
  · exact w_c9
  · exact w_c10
  · exact w_c11
set_option maxRecDepth 65536 in
theorem w_t1 : (words1.take 24).all (fun c => isCode c || c.before args0 about1) = true := by decide +kernel
set_option maxRecDepth 65536 in
theorem w_t2 : ((words1.drop 24).take 24).all (fun c => isCode c || c.before args0 about1) = true := by decide +kernel
set_option maxRecDepth 65536 in
theorem w_t3 : ((words1.drop 24).drop 24).all (fun c => isCode c || c.before args0 about1) = true := by decide +kernel
theorem w_tables : (allAtoms (Jvm.Cond.code x code maxLocals ret :: tables_1)).before args0 about1 = true := by
  rw [allAtoms_all]
  show words1.all (fun c => c.before args0 about1) = true
  refine all_split ?_ w_codes
  rw [← List.take_append_drop 24 words1, List.all_append, w_t1, ← List.take_append_drop 24 (words1.drop 24), List.all_append, w_t2, w_t3]
  rfl
set_option maxRecDepth 65536 in
theorem w_rest : rest_1_c.before args0 about1 = true := by decide +kernel
set_option maxRecDepth 65536 in
theorem w_case : (Jvm.Cond.and given_1 narrow_1).before args0 about1 = true := by decide +kernel
theorem w_applies : (headSpec (Jvm.Cond.code x code maxLocals ret :: tables_1) room_1).applies x e0.platform about1 = true :=
  (Spec.applies_iff w_frames).mpr ⟨w_running, w_runnable, w_alone, w_named, w_hears, w_ripe, w_room, w_tables⟩
theorem atStart : AtStart classFile x code maxLocals ret World_1 tables_1 room_1 Calls_1 rest_1 Pre_1 launch0 p0 e0 about1 theMethod args0 below0 :=
  ⟨lists_1, trivial, launch0.admits_env _ _ _, launch0.least_env, fairChoices_fair.cas, fairChoices_fair.clock, w_frames, w_args, w_heap, w_applies, trivial, w_rest, w_case⟩
end start1
theorem witness_1 : WitnessClaimed_1 := ⟨start1.p0, start1.e0, start1.about1, start1.theMethod, start1.args0, start1.below0, start1.atStart⟩
end Jvm.Pilot.@@N@@
