import JvmDerived
import JvmDerived.Pilot.@@N@@Statement
import JvmDerived.Pilot.@@N@@Code
set_option linter.unusedVariables false
set_option linter.unusedSimpArgs false
namespace Jvm.RoadKit
open Sem ClassFile Op Lib Jvm.Stand Jvm.Free Jvm.LawKit
section New
variable {p : Program} {l : Launch} {e : Env} {R : Room} {s : State} {m : MethodId} {args : Array Value} {below : List Frame} {meth : Method} {c : Code} {T : State} {locs : List Loc} {cells slots : Nat}
theorem retI (X : Stand p l e R s m args below meth c T locs cells slots) (hx : p.tables.exec = Jvm.exec) {pc : Nat} {Ls : Array Slot} {z : Int32} {rest : List Value} (hret : meth.sig.returnType = some .int) (hd : decode c.code pc = .ok (.ireturn, 1)) {fs : List Frame}
    (hl : ∀ (f : JFrame) (acts : List Action), f.method = m → f.locked = none → f.entered = [] → (doReturn e (T.setTop f) acts (some (.int z))).1 = T.setFrames fs) : Steps p.tables e below (T.setTop (mkF m pc Ls (.int z :: rest))) (T.setFrames fs) := by
  have hm' : T.vm.method? m = some meth := X.method'
  have hn : narrow .int (.int z) = .int z := rfl
  show Steps p.tables e below (T.setTop { method := m, pc := pc, locals := Ls, stack := _ :: rest, locked := none }) _
  jvm_step X.here [X.here.top, hx, hd, hm', hret, hn]
  first | (intro acts; rw [hl _ acts rfl rfl rfl]) | rw [hl _ _ rfl rfl rfl]
  exact Steps.refl _
end New
end Jvm.RoadKit
namespace Jvm.Pilot.@@N@@
open Jvm Jvm.ClassFile Sem Op Lib Jvm.Free Jvm.Stand Jvm.LawKit Jvm.RoadKit Bundle Jvm.Pilot.@@N@@.Jvm.D
abbrev lv (x : Int64) : Slot := .val (.long x)
theorem im (i : Nat) {d : Jvm.Cond} (h : tables_1[i]? = some d) : d ∈ tables_1 := List.mem_of_getElem? h
theorem own_go {tb : Tables} {e : Env} {below : List Frame} {S S' S0 : State} (P : ∀ t, Steps tb e below S t → Steps tb e below S0 t) (f : ∀ t, Steps tb e below S' t → Steps tb e below S t) : ∀ t, Steps tb e below S' t → Steps tb e below S0 t := fun t k => P t (f t k)
theorem own_sn {Z : State} {a0 : Array Value} {K O n d O' n' d' : String} (L : Laid Z a0 K O n d) (L' : Laid Z a0 K O' n' d') (hn : n ≠ n' := by decide) (ht : (parseFieldDescriptor d).isSome = true := by decide) (ht' : (parseFieldDescriptor d').isSome = true := by decide) : Jvm.RoadKit.slotOf Z O n d ≠ Jvm.RoadKit.slotOf Z O' n' d' := by
  obtain ⟨t, e⟩ := Option.isSome_iff_exists.mp ht
  obtain ⟨t', e'⟩ := Option.isSome_iff_exists.mp ht'
  exact slot_ne L L' hn e e'
theorem pn_0 : plainName "com/example/wardflow/wardflow/model/PartySameParticipantPinLaw" = true := by first | (simp [plainName, overriddenIn]; done) | decide +kernel
theorem d1_0 : decode method_2_code 0 = .ok (.iload_n 0, 1) := by decide +kernel
theorem d1_1 : decode method_2_code 1 = .ok (.ifCond .ne 14, 3) := by decide +kernel
theorem d1_4 : decode method_2_code 4 = .ok (.new 7, 3) := by decide +kernel
theorem d1_7 : decode method_2_code 7 = .ok (.dup, 1) := by decide +kernel
theorem d1_8 : decode method_2_code 8 = .ok (.iconst 0, 1) := by decide +kernel
theorem d1_9 : decode method_2_code 9 = .ok (.newarray .char, 2) := by decide +kernel
theorem d1_11 : decode method_2_code 11 = .ok (.invokespecial 9, 3) := by decide +kernel
theorem d1_14 : decode method_2_code 14 = .ok (.areturn, 1) := by decide +kernel
theorem d1_15 : decode method_2_code 15 = .ok (.iload_n 0, 1) := by decide +kernel
theorem d1_16 : decode method_2_code 16 = .ok (.iconst 1, 1) := by decide +kernel
theorem d1_17 : decode method_2_code 17 = .ok (.if_icmp .ne 18, 3) := by decide +kernel
theorem d1_20 : decode method_2_code 20 = .ok (.new 7, 3) := by decide +kernel
theorem d1_23 : decode method_2_code 23 = .ok (.dup, 1) := by decide +kernel
theorem d1_24 : decode method_2_code 24 = .ok (.iconst 1, 1) := by decide +kernel
theorem d1_25 : decode method_2_code 25 = .ok (.newarray .char, 2) := by decide +kernel
theorem d1_27 : decode method_2_code 27 = .ok (.dup, 1) := by decide +kernel
theorem d1_28 : decode method_2_code 28 = .ok (.iconst 0, 1) := by decide +kernel
theorem d1_29 : decode method_2_code 29 = .ok (.iload_n 1, 1) := by decide +kernel
theorem d1_30 : decode method_2_code 30 = .ok (.castore, 1) := by decide +kernel
theorem d1_31 : decode method_2_code 31 = .ok (.invokespecial 9, 3) := by decide +kernel
theorem d1_34 : decode method_2_code 34 = .ok (.areturn, 1) := by decide +kernel
theorem d1_35 : decode method_2_code 35 = .ok (.new 7, 3) := by decide +kernel
theorem d1_38 : decode method_2_code 38 = .ok (.dup, 1) := by decide +kernel
theorem d1_39 : decode method_2_code 39 = .ok (.iconst 2, 1) := by decide +kernel
theorem d1_40 : decode method_2_code 40 = .ok (.newarray .char, 2) := by decide +kernel
theorem d1_42 : decode method_2_code 42 = .ok (.dup, 1) := by decide +kernel
theorem d1_43 : decode method_2_code 43 = .ok (.iconst 0, 1) := by decide +kernel
theorem d1_44 : decode method_2_code 44 = .ok (.iload_n 1, 1) := by decide +kernel
theorem d1_45 : decode method_2_code 45 = .ok (.castore, 1) := by decide +kernel
theorem d1_46 : decode method_2_code 46 = .ok (.dup, 1) := by decide +kernel
theorem d1_47 : decode method_2_code 47 = .ok (.iconst 1, 1) := by decide +kernel
theorem d1_48 : decode method_2_code 48 = .ok (.iload_n 2, 1) := by decide +kernel
theorem d1_49 : decode method_2_code 49 = .ok (.castore, 1) := by decide +kernel
theorem d1_50 : decode method_2_code 50 = .ok (.invokespecial 9, 3) := by decide +kernel
theorem d1_53 : decode method_2_code 53 = .ok (.areturn, 1) := by decide +kernel
theorem pn_1 : plainName "com/example/wardflow/wardflow/model/PartySameParticipantPinLaw" = true := by first | (simp [plainName, overriddenIn]; done) | decide +kernel
theorem d2_0 : decode jdk_42_method_3_code 0 = .ok (.aload_n 0, 1) := by decide +kernel
theorem d2_1 : decode jdk_42_method_3_code 1 = .ok (.aload_n 1, 1) := by decide +kernel
theorem d2_2 : decode jdk_42_method_3_code 2 = .ok (.iconst 0, 1) := by decide +kernel
theorem d2_3 : decode jdk_42_method_3_code 3 = .ok (.aload_n 1, 1) := by decide +kernel
theorem d2_4 : decode jdk_42_method_3_code 4 = .ok (.arraylength, 1) := by decide +kernel
theorem d2_5 : decode jdk_42_method_3_code 5 = .ok (.aconst_null, 1) := by decide +kernel
theorem d2_6 : decode jdk_42_method_3_code 6 = .ok (.invokespecial 27, 3) := by decide +kernel
theorem d2_9 : decode jdk_42_method_3_code 9 = .ok (.return_, 1) := by decide +kernel
theorem pn_2 : plainName "java/lang/String" = true := by first | (simp [plainName, overriddenIn]; done) | decide +kernel
theorem d3_0 : decode jdk_42_method_149_code 0 = .ok (.aload_n 0, 1) := by decide +kernel
theorem d3_1 : decode jdk_42_method_149_code 1 = .ok (.invokespecial 1, 3) := by decide +kernel
theorem d3_4 : decode jdk_42_method_149_code 4 = .ok (.iload_n 3, 1) := by decide +kernel
theorem d3_5 : decode jdk_42_method_149_code 5 = .ok (.ifCond .ne 22, 3) := by decide +kernel
theorem d3_8 : decode jdk_42_method_149_code 8 = .ok (.aload_n 0, 1) := by decide +kernel
theorem d3_9 : decode jdk_42_method_149_code 9 = .ok (.ldc 7, 2) := by decide +kernel
theorem d3_11 : decode jdk_42_method_149_code 11 = .ok (.getfield 9, 3) := by decide +kernel
theorem d3_14 : decode jdk_42_method_149_code 14 = .ok (.putfield 9, 3) := by decide +kernel
theorem d3_17 : decode jdk_42_method_149_code 17 = .ok (.aload_n 0, 1) := by decide +kernel
theorem d3_18 : decode jdk_42_method_149_code 18 = .ok (.ldc 7, 2) := by decide +kernel
theorem d3_20 : decode jdk_42_method_149_code 20 = .ok (.getfield 15, 3) := by decide +kernel
theorem d3_23 : decode jdk_42_method_149_code 23 = .ok (.putfield 15, 3) := by decide +kernel
theorem d3_26 : decode jdk_42_method_149_code 26 = .ok (.return_, 1) := by decide +kernel
theorem d3_27 : decode jdk_42_method_149_code 27 = .ok (.getstatic 38, 3) := by decide +kernel
theorem d3_30 : decode jdk_42_method_149_code 30 = .ok (.ifCond .eq 28, 3) := by decide +kernel
theorem d3_33 : decode jdk_42_method_149_code 33 = .ok (.aload_n 1, 1) := by decide +kernel
theorem d3_34 : decode jdk_42_method_149_code 34 = .ok (.iload_n 2, 1) := by decide +kernel
theorem d3_35 : decode jdk_42_method_149_code 35 = .ok (.iload_n 3, 1) := by decide +kernel
theorem d3_36 : decode jdk_42_method_149_code 36 = .ok (.invokestatic 177, 3) := by decide +kernel
theorem d3_39 : decode jdk_42_method_149_code 39 = .ok (.astore 5, 2) := by decide +kernel
theorem d3_41 : decode jdk_42_method_149_code 41 = .ok (.aload_n 0, 1) := by decide +kernel
theorem d3_42 : decode jdk_42_method_149_code 42 = .ok (.aload 5, 2) := by decide +kernel
theorem d3_44 : decode jdk_42_method_149_code 44 = .ok (.iload_n 3, 1) := by decide +kernel
theorem d3_45 : decode jdk_42_method_149_code 45 = .ok (.invokestatic 47, 3) := by decide +kernel
theorem d3_48 : decode jdk_42_method_149_code 48 = .ok (.putfield 15, 3) := by decide +kernel
theorem d3_51 : decode jdk_42_method_149_code 51 = .ok (.aload_n 0, 1) := by decide +kernel
theorem d3_52 : decode jdk_42_method_149_code 52 = .ok (.aload 5, 2) := by decide +kernel
theorem d3_54 : decode jdk_42_method_149_code 54 = .ok (.putfield 9, 3) := by decide +kernel
theorem d3_57 : decode jdk_42_method_149_code 57 = .ok (.return_, 1) := by decide +kernel
theorem d3_58 : decode jdk_42_method_149_code 58 = .ok (.aload_n 0, 1) := by decide +kernel
theorem d3_59 : decode jdk_42_method_149_code 59 = .ok (.iconst 1, 1) := by decide +kernel
theorem d3_60 : decode jdk_42_method_149_code 60 = .ok (.putfield 15, 3) := by decide +kernel
theorem d3_63 : decode jdk_42_method_149_code 63 = .ok (.aload_n 0, 1) := by decide +kernel
theorem d3_64 : decode jdk_42_method_149_code 64 = .ok (.aload_n 1, 1) := by decide +kernel
theorem d3_65 : decode jdk_42_method_149_code 65 = .ok (.iload_n 2, 1) := by decide +kernel
theorem d3_66 : decode jdk_42_method_149_code 66 = .ok (.iload_n 3, 1) := by decide +kernel
theorem d3_67 : decode jdk_42_method_149_code 67 = .ok (.invokestatic 180, 3) := by decide +kernel
theorem d3_70 : decode jdk_42_method_149_code 70 = .ok (.putfield 9, 3) := by decide +kernel
theorem d3_73 : decode jdk_42_method_149_code 73 = .ok (.return_, 1) := by decide +kernel
theorem pn_3 : plainName "java/lang/String" = true := by first | (simp [plainName, overriddenIn]; done) | decide +kernel
theorem d5_0 : decode prog_87_method_1_code 0 = .ok (.aload_n 0, 1) := by decide +kernel
theorem d5_1 : decode prog_87_method_1_code 1 = .ok (.invokespecial 1, 3) := by decide +kernel
theorem d5_4 : decode prog_87_method_1_code 4 = .ok (.aload_n 0, 1) := by decide +kernel
theorem d5_5 : decode prog_87_method_1_code 5 = .ok (.aload_n 1, 1) := by decide +kernel
theorem d5_6 : decode prog_87_method_1_code 6 = .ok (.putfield 7, 3) := by decide +kernel
theorem d5_9 : decode prog_87_method_1_code 9 = .ok (.aload_n 0, 1) := by decide +kernel
theorem d5_10 : decode prog_87_method_1_code 10 = .ok (.aload_n 2, 1) := by decide +kernel
theorem d5_11 : decode prog_87_method_1_code 11 = .ok (.putfield 13, 3) := by decide +kernel
theorem d5_14 : decode prog_87_method_1_code 14 = .ok (.return_, 1) := by decide +kernel
theorem pn_5 : plainName "com/example/wardflow/wardflow/model/Party" = true := by first | (simp [plainName, overriddenIn]; done) | decide +kernel
theorem d6_0 : decode jdk_30_method_1_code 0 = .ok (.aload_n 0, 1) := by decide +kernel
theorem d6_1 : decode jdk_30_method_1_code 1 = .ok (.invokespecial 1, 3) := by decide +kernel
theorem d6_4 : decode jdk_30_method_1_code 4 = .ok (.return_, 1) := by decide +kernel
theorem pn_6 : plainName "java/lang/Record" = true := by first | (simp [plainName, overriddenIn]; done) | decide +kernel
theorem d7_0 : decode prog_87_method_3_code 0 = .ok (.aload_n 0, 1) := by decide +kernel
theorem d7_1 : decode prog_87_method_3_code 1 = .ok (.getfield 7, 3) := by decide +kernel
theorem d7_4 : decode prog_87_method_3_code 4 = .ok (.aload_n 1, 1) := by decide +kernel
theorem d7_5 : decode prog_87_method_3_code 5 = .ok (.getfield 7, 3) := by decide +kernel
theorem d7_8 : decode prog_87_method_3_code 8 = .ok (.invokevirtual 20, 3) := by decide +kernel
theorem d7_11 : decode prog_87_method_3_code 11 = .ok (.ireturn, 1) := by decide +kernel
theorem pn_7 : plainName "com/example/wardflow/wardflow/model/Party" = true := by first | (simp [plainName, overriddenIn]; done) | decide +kernel
theorem d8_0 : decode jdk_42_method_66_code 0 = .ok (.aload_n 0, 1) := by decide +kernel
theorem d8_1 : decode jdk_42_method_66_code 1 = .ok (.aload_n 1, 1) := by decide +kernel
theorem d8_2 : decode jdk_42_method_66_code 2 = .ok (.if_acmp .ne 5, 3) := by decide +kernel
theorem d8_5 : decode jdk_42_method_66_code 5 = .ok (.iconst 1, 1) := by decide +kernel
theorem d8_6 : decode jdk_42_method_66_code 6 = .ok (.ireturn, 1) := by decide +kernel
theorem d8_7 : decode jdk_42_method_66_code 7 = .ok (.aload_n 1, 1) := by decide +kernel
theorem d8_8 : decode jdk_42_method_66_code 8 = .ok (.instanceof 10, 3) := by decide +kernel
theorem d8_11 : decode jdk_42_method_66_code 11 = .ok (.ifCond .eq 43, 3) := by decide +kernel
theorem d8_14 : decode jdk_42_method_66_code 14 = .ok (.aload_n 1, 1) := by decide +kernel
theorem d8_15 : decode jdk_42_method_66_code 15 = .ok (.checkcast 10, 3) := by decide +kernel
theorem d8_18 : decode jdk_42_method_66_code 18 = .ok (.astore_n 2, 1) := by decide +kernel
theorem d8_19 : decode jdk_42_method_66_code 19 = .ok (.getstatic 38, 3) := by decide +kernel
theorem d8_22 : decode jdk_42_method_66_code 22 = .ok (.ifCond .eq 14, 3) := by decide +kernel
theorem d8_25 : decode jdk_42_method_66_code 25 = .ok (.aload_n 0, 1) := by decide +kernel
theorem d8_26 : decode jdk_42_method_66_code 26 = .ok (.getfield 15, 3) := by decide +kernel
theorem d8_29 : decode jdk_42_method_66_code 29 = .ok (.aload_n 2, 1) := by decide +kernel
theorem d8_30 : decode jdk_42_method_66_code 30 = .ok (.getfield 15, 3) := by decide +kernel
theorem d8_33 : decode jdk_42_method_66_code 33 = .ok (.if_icmp .ne 21, 3) := by decide +kernel
theorem d8_36 : decode jdk_42_method_66_code 36 = .ok (.aload_n 0, 1) := by decide +kernel
theorem d8_37 : decode jdk_42_method_66_code 37 = .ok (.getfield 9, 3) := by decide +kernel
theorem d8_40 : decode jdk_42_method_66_code 40 = .ok (.aload_n 2, 1) := by decide +kernel
theorem d8_41 : decode jdk_42_method_66_code 41 = .ok (.getfield 9, 3) := by decide +kernel
theorem d8_44 : decode jdk_42_method_66_code 44 = .ok (.invokestatic 541, 3) := by decide +kernel
theorem d8_47 : decode jdk_42_method_66_code 47 = .ok (.ifCond .eq 7, 3) := by decide +kernel
theorem d8_50 : decode jdk_42_method_66_code 50 = .ok (.iconst 1, 1) := by decide +kernel
theorem d8_51 : decode jdk_42_method_66_code 51 = .ok (.goto 4, 3) := by decide +kernel
theorem d8_54 : decode jdk_42_method_66_code 54 = .ok (.iconst 0, 1) := by decide +kernel
theorem d8_55 : decode jdk_42_method_66_code 55 = .ok (.ireturn, 1) := by decide +kernel
theorem pn_8 : plainName "java/lang/String" = true := by first | (simp [plainName, overriddenIn]; done) | decide +kernel
theorem d9_0 : decode jdk_43_method_13_code 0 = .ok (.aload_n 0, 1) := by decide +kernel
theorem d9_1 : decode jdk_43_method_13_code 1 = .ok (.arraylength, 1) := by decide +kernel
theorem d9_2 : decode jdk_43_method_13_code 2 = .ok (.aload_n 1, 1) := by decide +kernel
theorem d9_3 : decode jdk_43_method_13_code 3 = .ok (.arraylength, 1) := by decide +kernel
theorem d9_4 : decode jdk_43_method_13_code 4 = .ok (.if_icmp .ne 30, 3) := by decide +kernel
theorem d9_7 : decode jdk_43_method_13_code 7 = .ok (.iconst 0, 1) := by decide +kernel
theorem d9_8 : decode jdk_43_method_13_code 8 = .ok (.istore_n 2, 1) := by decide +kernel
theorem d9_9 : decode jdk_43_method_13_code 9 = .ok (.iload_n 2, 1) := by decide +kernel
theorem d9_10 : decode jdk_43_method_13_code 10 = .ok (.aload_n 0, 1) := by decide +kernel
theorem d9_11 : decode jdk_43_method_13_code 11 = .ok (.arraylength, 1) := by decide +kernel
theorem d9_12 : decode jdk_43_method_13_code 12 = .ok (.if_icmp .ge 20, 3) := by decide +kernel
theorem d9_15 : decode jdk_43_method_13_code 15 = .ok (.aload_n 0, 1) := by decide +kernel
theorem d9_16 : decode jdk_43_method_13_code 16 = .ok (.iload_n 2, 1) := by decide +kernel
theorem d9_17 : decode jdk_43_method_13_code 17 = .ok (.baload, 1) := by decide +kernel
theorem d9_18 : decode jdk_43_method_13_code 18 = .ok (.aload_n 1, 1) := by decide +kernel
theorem d9_19 : decode jdk_43_method_13_code 19 = .ok (.iload_n 2, 1) := by decide +kernel
theorem d9_20 : decode jdk_43_method_13_code 20 = .ok (.baload, 1) := by decide +kernel
theorem d9_21 : decode jdk_43_method_13_code 21 = .ok (.if_icmp .eq 5, 3) := by decide +kernel
theorem d9_24 : decode jdk_43_method_13_code 24 = .ok (.iconst 0, 1) := by decide +kernel
theorem d9_25 : decode jdk_43_method_13_code 25 = .ok (.ireturn, 1) := by decide +kernel
theorem d9_26 : decode jdk_43_method_13_code 26 = .ok (.iinc 2 1, 3) := by decide +kernel
theorem d9_29 : decode jdk_43_method_13_code 29 = .ok (.goto (-20), 3) := by decide +kernel
theorem d9_32 : decode jdk_43_method_13_code 32 = .ok (.iconst 1, 1) := by decide +kernel
theorem d9_33 : decode jdk_43_method_13_code 33 = .ok (.ireturn, 1) := by decide +kernel
theorem d9_34 : decode jdk_43_method_13_code 34 = .ok (.iconst 0, 1) := by decide +kernel
theorem d9_35 : decode jdk_43_method_13_code 35 = .ok (.ireturn, 1) := by decide +kernel
theorem pn_9 : plainName "java/lang/StringLatin1" = true := by first | (simp [plainName, overriddenIn]; done) | decide +kernel
theorem d10_0 : decode jdk_52_method_16_code 0 = .ok (.iload_n 2, 1) := by decide +kernel
theorem d10_1 : decode jdk_52_method_16_code 1 = .ok (.newarray .byte, 2) := by decide +kernel
theorem d10_3 : decode jdk_52_method_16_code 3 = .ok (.astore_n 3, 1) := by decide +kernel
theorem d10_4 : decode jdk_52_method_16_code 4 = .ok (.aload_n 0, 1) := by decide +kernel
theorem d10_5 : decode jdk_52_method_16_code 5 = .ok (.iload_n 1, 1) := by decide +kernel
theorem d10_6 : decode jdk_52_method_16_code 6 = .ok (.aload_n 3, 1) := by decide +kernel
theorem d10_7 : decode jdk_52_method_16_code 7 = .ok (.iconst 0, 1) := by decide +kernel
theorem d10_8 : decode jdk_52_method_16_code 8 = .ok (.iload_n 2, 1) := by decide +kernel
theorem d10_9 : decode jdk_52_method_16_code 9 = .ok (.invokestatic 115, 3) := by decide +kernel
theorem d10_12 : decode jdk_52_method_16_code 12 = .ok (.istore 4, 2) := by decide +kernel
theorem d10_14 : decode jdk_52_method_16_code 14 = .ok (.iload 4, 2) := by decide +kernel
theorem d10_16 : decode jdk_52_method_16_code 16 = .ok (.iload_n 2, 1) := by decide +kernel
theorem d10_17 : decode jdk_52_method_16_code 17 = .ok (.if_icmp .eq 40, 3) := by decide +kernel
theorem d10_20 : decode jdk_52_method_16_code 20 = .ok (.aload_n 0, 1) := by decide +kernel
theorem d10_21 : decode jdk_52_method_16_code 21 = .ok (.iload_n 1, 1) := by decide +kernel
theorem d10_22 : decode jdk_52_method_16_code 22 = .ok (.iload_n 2, 1) := by decide +kernel
theorem d10_23 : decode jdk_52_method_16_code 23 = .ok (.invokestatic 119, 3) := by decide +kernel
theorem d10_26 : decode jdk_52_method_16_code 26 = .ok (.astore 5, 2) := by decide +kernel
theorem d10_28 : decode jdk_52_method_16_code 28 = .ok (.aload 5, 2) := by decide +kernel
theorem d10_30 : decode jdk_52_method_16_code 30 = .ok (.iload 4, 2) := by decide +kernel
theorem d10_32 : decode jdk_52_method_16_code 32 = .ok (.invokestatic 71, 3) := by decide +kernel
theorem d10_35 : decode jdk_52_method_16_code 35 = .ok (.sipush 255, 3) := by decide +kernel
theorem d10_38 : decode jdk_52_method_16_code 38 = .ok (.if_icmp .gt 16, 3) := by decide +kernel
theorem d10_41 : decode jdk_52_method_16_code 41 = .ok (.aload 5, 2) := by decide +kernel
theorem d10_43 : decode jdk_52_method_16_code 43 = .ok (.iconst 0, 1) := by decide +kernel
theorem d10_44 : decode jdk_52_method_16_code 44 = .ok (.aload_n 3, 1) := by decide +kernel
theorem d10_45 : decode jdk_52_method_16_code 45 = .ok (.iconst 0, 1) := by decide +kernel
theorem d10_46 : decode jdk_52_method_16_code 46 = .ok (.iload_n 2, 1) := by decide +kernel
theorem d10_47 : decode jdk_52_method_16_code 47 = .ok (.invokestatic 123, 3) := by decide +kernel
theorem d10_50 : decode jdk_52_method_16_code 50 = .ok (.iload_n 2, 1) := by decide +kernel
theorem d10_51 : decode jdk_52_method_16_code 51 = .ok (.if_icmp .eq 6, 3) := by decide +kernel
theorem d10_54 : decode jdk_52_method_16_code 54 = .ok (.aload 5, 2) := by decide +kernel
theorem d10_56 : decode jdk_52_method_16_code 56 = .ok (.areturn, 1) := by decide +kernel
theorem d10_57 : decode jdk_52_method_16_code 57 = .ok (.aload_n 3, 1) := by decide +kernel
theorem d10_58 : decode jdk_52_method_16_code 58 = .ok (.areturn, 1) := by decide +kernel
theorem pn_10 : plainName "java/lang/StringUTF16" = true := by first | (simp [plainName, overriddenIn]; done) | decide +kernel
theorem d11_0 : decode jdk_52_method_21_code 0 = .ok (.iconst 0, 1) := by decide +kernel
theorem d11_1 : decode jdk_52_method_21_code 1 = .ok (.istore 5, 2) := by decide +kernel
theorem d11_3 : decode jdk_52_method_21_code 3 = .ok (.iload 5, 2) := by decide +kernel
theorem d11_5 : decode jdk_52_method_21_code 5 = .ok (.iload 4, 2) := by decide +kernel
theorem d11_7 : decode jdk_52_method_21_code 7 = .ok (.if_icmp .ge 37, 3) := by decide +kernel
theorem d11_10 : decode jdk_52_method_21_code 10 = .ok (.aload_n 0, 1) := by decide +kernel
theorem d11_11 : decode jdk_52_method_21_code 11 = .ok (.iload_n 1, 1) := by decide +kernel
theorem d11_12 : decode jdk_52_method_21_code 12 = .ok (.caload, 1) := by decide +kernel
theorem d11_13 : decode jdk_52_method_21_code 13 = .ok (.istore 6, 2) := by decide +kernel
theorem d11_15 : decode jdk_52_method_21_code 15 = .ok (.iload 6, 2) := by decide +kernel
theorem d11_17 : decode jdk_52_method_21_code 17 = .ok (.sipush 255, 3) := by decide +kernel
theorem d11_20 : decode jdk_52_method_21_code 20 = .ok (.if_icmp .le 6, 3) := by decide +kernel
theorem d11_23 : decode jdk_52_method_21_code 23 = .ok (.iload 5, 2) := by decide +kernel
theorem d11_25 : decode jdk_52_method_21_code 25 = .ok (.ireturn, 1) := by decide +kernel
theorem d11_26 : decode jdk_52_method_21_code 26 = .ok (.aload_n 2, 1) := by decide +kernel
theorem d11_27 : decode jdk_52_method_21_code 27 = .ok (.iload_n 3, 1) := by decide +kernel
theorem d11_28 : decode jdk_52_method_21_code 28 = .ok (.iload 6, 2) := by decide +kernel
theorem d11_30 : decode jdk_52_method_21_code 30 = .ok (.i2b, 1) := by decide +kernel
theorem d11_31 : decode jdk_52_method_21_code 31 = .ok (.bastore, 1) := by decide +kernel
theorem d11_32 : decode jdk_52_method_21_code 32 = .ok (.iinc 1 1, 3) := by decide +kernel
theorem d11_35 : decode jdk_52_method_21_code 35 = .ok (.iinc 3 1, 3) := by decide +kernel
theorem d11_38 : decode jdk_52_method_21_code 38 = .ok (.iinc 5 1, 3) := by decide +kernel
theorem d11_41 : decode jdk_52_method_21_code 41 = .ok (.goto (-38), 3) := by decide +kernel
theorem d11_44 : decode jdk_52_method_21_code 44 = .ok (.iload 4, 2) := by decide +kernel
theorem d11_46 : decode jdk_52_method_21_code 46 = .ok (.ireturn, 1) := by decide +kernel
theorem pn_11 : plainName "java/lang/StringUTF16" = true := by first | (simp [plainName, overriddenIn]; done) | decide +kernel
theorem d12_0 : decode jdk_52_method_15_code 0 = .ok (.iload_n 1, 1) := by decide +kernel
theorem d12_1 : decode jdk_52_method_15_code 1 = .ok (.aload_n 0, 1) := by decide +kernel
theorem d12_2 : decode jdk_52_method_15_code 2 = .ok (.arraylength, 1) := by decide +kernel
theorem d12_3 : decode jdk_52_method_15_code 3 = .ok (.isub, 1) := by decide +kernel
theorem d12_4 : decode jdk_52_method_15_code 4 = .ok (.bipush 31, 2) := by decide +kernel
theorem d12_6 : decode jdk_52_method_15_code 6 = .ok (.iushr, 1) := by decide +kernel
theorem d12_7 : decode jdk_52_method_15_code 7 = .ok (.i2b, 1) := by decide +kernel
theorem d12_8 : decode jdk_52_method_15_code 8 = .ok (.ireturn, 1) := by decide +kernel
theorem pn_12 : plainName "java/lang/StringUTF16" = true := by first | (simp [plainName, overriddenIn]; done) | decide +kernel
theorem pd_0 : parseMethodDescriptor "([CI[BII)I" = some ⟨[(.array .char), .int, (.array .byte), .int, .int], some .int⟩ := by decide +kernel
theorem pd_1 : parseMethodDescriptor "([CII)[B" = some ⟨[(.array .char), .int, .int], some (.array .byte)⟩ := by decide +kernel
theorem pd_2 : parseMethodDescriptor "([BI)B" = some ⟨[(.array .byte), .int], some .byte⟩ := by decide +kernel
theorem la_0 {Z : State} {a0 : Array Value} (hw : ∀ d ∈ tables_1, d.before a0 Z = true) : Laid Z a0 "java/lang/String" "java/lang/String" "value" "[B" := (Or.inr (hw _ (im 20 rfl)))
theorem la_1 {Z : State} {a0 : Array Value} (hw : ∀ d ∈ tables_1, d.before a0 Z = true) : Laid Z a0 "java/lang/String" "java/lang/String" "coder" "B" := (Or.inr (hw _ (im 21 rfl)))
theorem pd_3 : parseMethodDescriptor "([CIILjava/lang/Void;)V" = some ⟨[(.array .char), .int, .int, (.object "java/lang/Void")], none⟩ := by decide +kernel
theorem pd_4 : parseMethodDescriptor "([C)V" = some ⟨[(.array .char)], none⟩ := by decide +kernel
theorem pd_5 : parseMethodDescriptor "()V" = some ⟨[], none⟩ := by decide +kernel
theorem la_2 {Z : State} {a0 : Array Value} (hw : ∀ d ∈ tables_1, d.before a0 Z = true) : Laid Z a0 "com/example/wardflow/wardflow/model/Party" "com/example/wardflow/wardflow/model/Party" "role" "Ljava/lang/String;" := (Or.inr (hw _ (im 41 rfl)))
theorem la_3 {Z : State} {a0 : Array Value} (hw : ∀ d ∈ tables_1, d.before a0 Z = true) : Laid Z a0 "com/example/wardflow/wardflow/model/Party" "com/example/wardflow/wardflow/model/Party" "participant" "Ljava/lang/String;" := (Or.inr (hw _ (im 39 rfl)))
theorem pd_6 : parseMethodDescriptor "([B[B)Z" = some ⟨[(.array .byte), (.array .byte)], some .boolean⟩ := by decide +kernel
theorem pd_7 : parseMethodDescriptor "(Ljava/lang/Object;)Z" = some ⟨[(.object "java/lang/Object")], some .boolean⟩ := by decide +kernel
theorem pd_8 : parseMethodDescriptor "(ICC)Ljava/lang/String;" = some ⟨[.int, .char, .char], some (.object "java/lang/String")⟩ := by decide +kernel
theorem pd_9 : parseMethodDescriptor "(Ljava/lang/String;Ljava/lang/String;)V" = some ⟨[(.object "java/lang/String"), (.object "java/lang/String")], none⟩ := by decide +kernel
theorem pd_10 : parseMethodDescriptor "(Lcom/example/wardflow/wardflow/model/Party;)Z" = some ⟨[(.object "com/example/wardflow/wardflow/model/Party")], some .boolean⟩ := by decide +kernel
theorem own_atoms {Z : State} {a0 : Array Value} (hw : ∀ d ∈ tables_1, d.before a0 Z = true) : ∀ a ∈ Bundle.stringAtoms, a.before a0 Z = true := fun a ha => hw a ((by decide +kernel : ∀ a ∈ Bundle.stringAtoms, a ∈ tables_1) a ha)
def own_EL : List (String × Nat) := [("java/lang/String", 7)]
theorem own_EW {Z : State} {a0 : Array Value} (hw : ∀ d ∈ tables_1, d.before a0 Z = true) : EW Z a0 own_EL := EW.cons (text := "") (hw _ (List.mem_of_getElem? (i := 18) rfl)) (by decide) EW.nil
theorem own_safe_arv {Z : State} {vm : Vm} {h : Heap} {x : Addr} {k : ClassId} {ty : FieldType} {n : Int32} {vs : List Value} {d : Value} {EL : List (String × Nat)} (hal : Z.vm.Alike vm) (A : Arv Z h x k ty n vs d) (ht : ty ≠ .byte) : Safe Z EL vm h x := by
  obtain ⟨c, A, -⟩ := A
  exact Safe.arr hal A ht
theorem own_safe_null {Z : State} {vm : Vm} {h : Heap} {x : Addr} {EL : List (String × Nat)} (hal : Z.vm.Alike vm) (E : Exa Z h x "java/lang/String") (F : Fld Z h x "java/lang/String" "value" "[B" .null) : Safe Z EL vm h x := fun B => by
  obtain ⟨cell, k, e1, e2, e3, -, -⟩ := E
  obtain ⟨cell', cf, k', i, f, g1, g2, -, -, -, -, g7⟩ := F
  cases e1.symm.trans g1
  obtain ⟨p, -, u, a, -, q, -, F, rfl | rfl⟩ := B
  · have e := (show h[q.sa]? = some q.sC from F.ha).symm.trans e1
    cases e
    obtain ⟨cS, ⟨⟨-, -, -, ⟨c1, k1, i1, f1, -⟩, -, -, -, v1, -⟩, -⟩, -⟩ := F
    obtain ⟨k3, e3, -⟩ := State.fieldFound?_setVm (s := Z) (vm' := vm) hal g2
    have e4 := (show (Wst Z vm h).fieldFound? _ _ _ = _ from e3).symm.trans f1
    simp only [Option.some.injEq, Prod.mk.injEq] at e4
    rw [← e4.2.2.2, g7] at v1
    cases v1
  · have e5 := Option.some.inj ((show h[q.sd]? = some q.SA from F.hd).symm.trans e1)
    obtain ⟨cS, -, -, f, -⟩ := F
    have f' : vm.findClass "[B" = some q.SA.cls := f
    rw [e5] at f'
    rw [hal.findClass] at f'
    obtain ⟨k1, q1, q2⟩ := Vm.findClass_spec f'
    obtain ⟨k2, q3, q4⟩ := Vm.findClass_spec e2
    cases q1.symm.trans q3
    have : ("[B" : String) = "java/lang/String" := q2.symm.trans q4
    exact absurd this (by decide)
def own_Str (Z : State) (h : Heap) (a : Addr) (bs : List Int32) (B : Nat) : Prop := ∃ (v : Addr) (k : ClassId), Exa Z h a "java/lang/String" ∧ Fld Z h a "java/lang/String" "coder" "B" (.int (0 : Int32)) ∧ Fld Z h a "java/lang/String" "value" "[B" (.ref v) ∧ Arv Z h v k .byte (Int32.ofNat bs.length) (bs.map Value.int) (.int (0 : Int32)) ∧ bs.length ≤ 2 ∧ a < B ∧ v < B
theorem own_Str_lt {Z : State} {h : Heap} {a : Addr} {bs : List Int32} {B : Nat} (F : own_Str Z h a bs B) : a < h.size := by
  obtain ⟨v, k, E, r⟩ := F
  exact E.lt
theorem own_Str_exa {Z : State} {h : Heap} {a : Addr} {bs : List Int32} {B : Nat} (F : own_Str Z h a bs B) : Exa Z h a "java/lang/String" := by
  obtain ⟨v, k, E, r⟩ := F
  exact E
theorem own_Str_ext {Z : State} {h h' : Heap} {a : Addr} {bs : List Int32} {B : Nat} (F : own_Str Z h a bs B) (X : Ext h h') : own_Str Z h' a bs B := by
  obtain ⟨v, k, E, C, V, A, r⟩ := F
  exact ⟨v, k, E.ext X, C.ext X, V.ext X, A.ext X, r⟩
def own_far (Z : State) (h : Heap) (B : Nat) (w : Addr) : Prop := B ≤ w ∨ ∃ (C : String) (n : Nat) (a0 : Array Value), Exa Z h w C ∧ (Jvm.Cond.instantiable C n).before a0 Z = true ∧ C ≠ "java/lang/String"
theorem own_Str_keep {Z : State} {h h' : Heap} {a : Addr} {bs : List Int32} {B : Nat} {ws : List Addr} (F : own_Str Z h a bs B) (K : Keep h h' ws) (q : ∀ w ∈ ws, own_far Z h B w) : own_Str Z h' a bs B := by
  obtain ⟨v, k, E, C, V, A, l, ha, hv⟩ := F
  have na : a ∉ ws := fun z => by
    rcases q a z with g | ⟨D, n, a0, ED, wi, hD⟩
    · exact absurd g (Nat.not_le.mpr ha)
    · exact ne_exa ED E hD rfl
  have nv : v ∉ ws := fun z => by
    rcases q v z with g | ⟨D, n, a0, ED, wi, hD⟩
    · exact absurd g (Nat.not_le.mpr hv)
    · obtain ⟨c, A', -⟩ := A
      exact ne_arr ED wi A' rfl
  exact ⟨v, k, E.keep K, C.keep K na, V.keep K na, A.keep K nv, l, ha, hv⟩
theorem own_Str_wr {Z : State} {h h' : Heap} {a w : Addr} {bs : List Int32} {B sl : Nat} {x : Value} (F : own_Str Z h a bs B) (W : Wr h h' w sl x) (q : own_far Z h B w) : own_Str Z h' a bs B := own_Str_keep F (Keep.of_wr W) (allS q all0)
theorem own_three (l : List Int32) (h : l.length ≤ 2) : l = [] ∨ (∃ a, l = [a]) ∨ ∃ a b, l = [a, b] := by
  match l, h with
  | [], _ => exact Or.inl rfl
  | [a], _ => exact Or.inr (Or.inl ⟨a, rfl⟩)
  | [a, b], _ => exact Or.inr (Or.inr ⟨a, b, rfl⟩)
theorem own_ch (a : Int32) (h : 0 ≤ a.toInt ∧ a.toInt ≤ 255) : (nar .char a) = a := by
  show a.toUInt32.toUInt16.toUInt32.toInt32 = a
  have c := c_i2c a
  apply Int32.toInt_inj.mp
  omega
theorem own_ch255 (a : Int32) (h : 0 ≤ a.toInt ∧ a.toInt ≤ 255) : ¬ ((255 : Int32) < (nar .char a)) := by
  rw [own_ch a h, Int32.lt_iff_toInt_lt]
  have k : (255 : Int32).toInt = 255 := by decide
  rw [k]; omega
theorem own_rng (y : Int32) : 0 ≤ ((y &&& (255 : Int32)).toUInt32.toUInt16.toUInt32.toInt32).toInt ∧ ((y &&& (255 : Int32)).toUInt32.toUInt16.toUInt32.toInt32).toInt ≤ 255 := by
  rw [i2c_mask]
  have h := c_mask y 255 8 (by decide) (by decide)
  rw [h]; omega
theorem own_inj (a b : Int32) (ha : 0 ≤ a.toInt ∧ a.toInt ≤ 255) (hb : 0 ≤ b.toInt ∧ b.toInt ≤ 255) : ((nar .byte ((nar .char a).toInt8.toInt32)) = (nar .byte ((nar .char b).toInt8.toInt32))) ↔ a = b := by
  rw [own_ch a ha, own_ch b hb]
  constructor
  · intro h
    have h' : (a.toInt8.toInt32).toInt8.toInt32 = (b.toInt8.toInt32).toInt8.toInt32 := h
    have c1 := c_i2b a
    have c2 := c_i2b (a.toInt8.toInt32)
    have c3 := c_i2b b
    have c4 := c_i2b (b.toInt8.toInt32)
    rw [h'] at c2
    apply Int32.toInt_inj.mp
    omega
  · intro h
    rw [h]
theorem own_mod3 (x : Int32) : ((x &&& (3 : Int32)) % (3 : Int32)) = (0 : Int32) ∨ ((x &&& (3 : Int32)) % (3 : Int32)) = (1 : Int32) ∨ ((x &&& (3 : Int32)) % (3 : Int32)) = (2 : Int32) := by
  have h1 := c_mask x 3 2 (by decide) (by decide)
  have h3 := (c_irem (x &&& 3) 3 3 (by decide)).1 (by rw [h1]; omega)
  have k0 : (0 : Int32).toInt = 0 := by decide
  have k1 : (1 : Int32).toInt = 1 := by decide
  have k2 : (2 : Int32).toInt = 2 := by decide
  have h4 : ((x &&& 3) % 3).toInt = 0 ∨ ((x &&& 3) % 3).toInt = 1 ∨ ((x &&& 3) % 3).toInt = 2 := by omega
  rcases h4 with h | h | h
  · exact Or.inl (Int32.toInt_inj.mp (h.trans k0.symm))
  · exact Or.inr (Or.inl (Int32.toInt_inj.mp (h.trans k1.symm)))
  · exact Or.inr (Or.inr (Int32.toInt_inj.mp (h.trans k2.symm)))
theorem own_rng2 {P : Prop} [Decidable P] {x y v : Int32} (hv : v = (if P then ((x &&& (255 : Int32)).toUInt32.toUInt16.toUInt32.toInt32) else ((y &&& (255 : Int32)).toUInt32.toUInt16.toUInt32.toInt32))) : 0 ≤ v.toInt ∧ v.toInt ≤ 255 := by
  rw [hv]
  split
  · exact own_rng x
  · exact own_rng y
def own_str (l c d : Int32) : List Int32 := if l = (0 : Int32) then [] else if l = (1 : Int32) then [(nar .byte ((nar .char c).toInt8.toInt32))] else [(nar .byte ((nar .char c).toInt8.toInt32)), (nar .byte ((nar .char d).toInt8.toInt32))]
theorem own_fin (l m a b c d : Int32) (hl : l = 0 ∨ l = 1 ∨ l = 2) (hm : m = 0 ∨ m = 1 ∨ m = 2) (ha : 0 ≤ a.toInt ∧ a.toInt ≤ 255) (hb : 0 ≤ b.toInt ∧ b.toInt ≤ 255) (hc : 0 ≤ c.toInt ∧ c.toInt ≤ 255) (hd : 0 ≤ d.toInt ∧ d.toInt ≤ 255) {v : Int32}
    (hv : v = (if l = m then (if l < (1 : Int32) then (if l < (2 : Int32) then (1 : Int32) else (if b = d then (1 : Int32) else (0 : Int32))) else (if a = c then (if l < (2 : Int32) then (1 : Int32) else (if b = d then (1 : Int32) else (0 : Int32))) else (0 : Int32))) else (0 : Int32))) :
    (if own_str l a b = own_str m c d then (1 : Int32) else (0 : Int32)) = v := by
  have i1 := own_inj a c ha hc
  have i2 := own_inj b d hb hd
  rw [hv]
  have k1 : ¬ ((1 : Int32) < 1) := by decide
  have k2 : ((1 : Int32) < 2) := by decide
  have k3 : ¬ ((2 : Int32) < 1) := by decide
  have k4 : ¬ ((2 : Int32) < 2) := by decide
  have k5 : ((0 : Int32) < 1) := by decide
  have k6 : ((0 : Int32) < 2) := by decide
  have k7 : ¬ ((1 : Int32) = 0) := by decide
  have k8 : ¬ ((2 : Int32) = 0) := by decide
  have k9 : ¬ ((2 : Int32) = 1) := by decide
  have k10 : ¬ ((0 : Int32) = 1) := by decide
  have k11 : ¬ ((0 : Int32) = 2) := by decide
  have k12 : ¬ ((1 : Int32) = 2) := by decide
  rcases hl with rfl | rfl | rfl <;> rcases hm with rfl | rfl | rfl <;> simp only [own_str, k1, k2, k3, k4, k5, k6, k7, k8, k9, k10, k11, k12, if_true, if_false, List.cons.injEq, i1, i2, and_true, reduceCtorEq, List.nil_eq, List.cons_ne_nil, and_false]
  by_cases h1 : a = c <;> by_cases h2 : b = d <;> simp [h1, h2]
theorem own_fin' (l m a b c d : Int32) (hl : l = 0 ∨ l = 1 ∨ l = 2) (hm : m = 0 ∨ m = 1 ∨ m = 2) (ha : 0 ≤ a.toInt ∧ a.toInt ≤ 255) (hb : 0 ≤ b.toInt ∧ b.toInt ≤ 255) (hc : 0 ≤ c.toInt ∧ c.toInt ≤ 255) (hd : 0 ≤ d.toInt ∧ d.toInt ≤ 255) {v : Int32}
    (hv : v = (if l = m then (if l < (1 : Int32) then (if l < (2 : Int32) then (1 : Int32) else (if b = d then (1 : Int32) else (0 : Int32))) else (if a = c then (if l < (2 : Int32) then (1 : Int32) else (if b = d then (1 : Int32) else (0 : Int32))) else (0 : Int32))) else (0 : Int32))) :
    (if own_str m c d = own_str l a b then (1 : Int32) else (0 : Int32)) = v := by
  rw [← own_fin l m a b c d hl hm ha hb hc hd hv]
  by_cases h : own_str l a b = own_str m c d
  · rw [if_pos h, if_pos h.symm]
  · rw [if_neg h, if_neg (fun q => h q.symm)]

def Qc2s1 (Z : State) (x0 : Addr) (x2 : Addr) (kc : ClassId) (kb : ClassId) (c0 : Int32) (h0 : Heap) (n0 : Nat) (v : Option Value) (h : Heap) (L : List Loc) : Prop := v = some (.int 1) ∧ Fr n0 L ∧ Keep h0 h [x2] ∧ Arv Z h x2 kb .byte (1 : Int32) [(.int (nar .byte (c0.toInt8.toInt32)))] (.int 0)
theorem ef_c2s1 (m : MethodId) (x0 : Addr) (x2 : Addr) : entryFrame m #[(.ref x0), (.int 0), (.ref x2), (.int 0), (.int 1)] 7 = mkF m 0 #[rv x0, iv 0, rv x2, iv 0, iv 1, .unset, .unset] [] := by first | (simp [entryFrame, mkF, argsToLocals, Value.category]; done) | rfl
set_option maxRecDepth 65536 in
set_option maxHeartbeats 40000000 in
theorem rmc2s1 (l : Launch) (Z : State) (a0 : Array Value) (hw : ∀ d ∈ tables_1, d.before a0 Z = true) (ws : List Jvm.Cond) (x0 : Addr) (x2 : Addr) (kc : ClassId) (kb : ClassId) (c0 : Int32) (h0 : Heap) (n0 : Nat) (Z0 : n0 ≤ h0.size) (pre_A_x0 : Arv Z h0 x0 kc .char (1 : Int32) [(.int c0)] (.int 0)) (pre_A_x2 : Arv Z h0 x2 kb .byte (1 : Int32) [(.int 0)] (.int 0)) (g_x2 : n0 ≤ x2) (ne_x0_x2 : x0 ≠ x2) (hc0 : ¬ ((255 : Int32) < c0)) :
    MetFree l (⟨"java/lang/StringUTF16", "compress", "([CI[BII)I"⟩ : MethodName) (head1 (Jvm.Cond.code (⟨"java/lang/StringUTF16", "compress", "([CI[BII)I"⟩ : MethodName) jdk_52_method_21_code 7 (some .int) :: ws) ({ frames := 0, cells := 0, slots := 0, locals := 0 } : Room)) (fun a U => a = #[(.ref x0), (.int 0), (.ref x2), (.int 0), (.int 1)] ∧ Z.Warmed39 U.vm ∧ U.heap = h0) (fun _ _ _ _ _ => True) (fun _ U o U' => ∃ v L, o = .returned v ∧ Qc2s1 Z x0 x2 kc kb c0 h0 n0 v U'.heap L ∧ FrameEnd U o U' L ({ frames := 0, cells := 0, slots := 0, locals := 0 } : Room).cells ({ frames := 0, cells := 0, slots := 0, locals := 0 } : Room).slots) := by
  refine MetFree.of_bodySF (plainFor_of_name pn_11) hisR ?_
  intro p e s m args below meth c s₁ Bd hml0 hP hK
  obtain ⟨rfl, hZ, hh⟩ := hP
  have hx := Bd.exec
  have hby := Bd.bytes
  have hml : c.maxLocals = 7 := hml0
  have hown : s.vm.findClass "java/lang/StringUTF16" = some m.cls := findClass_of_methodNamed Bd.named
  have hnm := (name_of_methodNamed Bd.named Bd.method).1
  have X0 : Stand p l e ({ frames := 0, cells := 0, slots := 0, locals := 0 } : Room) s m #[(.ref x0), (.int 0), (.ref x2), (.int 0), (.int 1)] below meth c s₁ [] 0 0 := Stand.of_body Bd
  have e0 : s₁.heap = h0 := by rw [← hh, Bd.state]; rfl
  have N0 := Fr.nil n0
  have Kp0 := Keep.refl h0 [x2]
  have P0 : ∀ t, Steps p.tables e below (s₁.setTop (mkF m 0 #[rv x0, iv 0, rv x2, iv 0, iv 1, .unset, .unset] [])) t → Steps p.tables e below (s₁.setTop (entryFrame m #[(.ref x0), (.int 0), (.ref x2), (.int 0), (.int 1)] 7)) t := fun t k => castTop (ef_c2s1 m x0 x2) k
  obtain ⟨cl2, Ar2, qa2, S2, Nn2, H2, G2⟩ := id pre_A_x0
  have hin2 : ¬ ((0 : Int32) < 0 ∨ cl2.slots.size ≤ ((0 : Int32)).toNatClampNeg) := inb_of S2 ⟨by decide, by decide⟩
  have hat2 : cl2.slots[((0 : Int32)).toNatClampNeg]? = some (.int c0) := Has.at H2 hin2 rfl
  have hc20_3 : ¬ ((255 : Int32) < c0) := hc0
  obtain ⟨cl4, Ar4, qa4, S4, Nn4, H4, G4⟩ := id pre_A_x2
  have hin4 : ¬ ((0 : Int32) < 0 ∨ cl4.slots.size ≤ ((0 : Int32)).toNatClampNeg) := inb_of S4 ⟨by decide, by decide⟩
  obtain ⟨T5, h5, X5, e5, W5, st5⟩ := stB X0 hx hZ e0 Ar4 (j := (0 : Int32)) hin4 (g := (mkF m 31 #[rv x0, iv 0, rv x2, iv 0, iv 1, iv 0, iv c0] [(.int (c0.toInt8.toInt32)), (.int 0), (.ref x2)])) rfl rfl (hb hby d11_31)
  have Z5_ : n0 ≤ h5.size := Nat.le_trans Z0 (Nat.le_of_eq W5.size.symm)
  have N5 := Fr.snoc X5 N0 g_x2
  have KK5 := Kp0.wr W5 (Or.inl (List.mem_of_getElem? (i := 0) rfl))
  have V5 : Arv Z h5 x2 kb .byte (1 : Int32) [(.int (nar .byte (c0.toInt8.toInt32)))] (.int 0) := Arv.set Ar4 qa4 S4 Nn4 H4 G4 (by first | exact fits_nar_byte _ | decide | rfl) W5 0 rfl (Nat.le_of_ble_eq_true rfl)
  have P7 := own_go P0 (S' := T5.setTop (mkF m 46 #[rv x0, iv 1, rv x2, iv 1, iv 1, iv 1, iv c0] [(.int 1)])) (by
    intro t k
    refine XS.iconst X0.here hx rfl (hb hby d11_0) ?_
    refine XS.istore X0.here hx rfl (hb hby d11_1) rfl (l' := #[rv x0, iv 0, rv x2, iv 0, iv 1, iv 0, .unset]) rfl ?_
    refine XS.iload X0.here hx rfl (hb hby d11_3) rfl ?_
    refine XS.iload X0.here hx rfl (hb hby d11_5) rfl ?_
    refine XS.icmpNo X0.here hx rfl (hb hby d11_7) rfl (tlt (by decide)).2.1 ?_
    refine XS.aloadN X0.here hx rfl (hb hby d11_10) rfl rfl ?_
    refine XS.iloadN X0.here hx rfl (hb hby d11_11) rfl ?_
    refine X0.caload hx (j := (0 : Int32)) (v := (.int c0)) (by rw [e0]; exact Ar2.1) (State.isArrayOf_alike hZ.alike Ar2.2.1) Ar2.2.2 hin2 hat2 (g := (mkF m 12 #[rv x0, iv 0, rv x2, iv 0, iv 1, iv 0, .unset] [(.int 0), (.ref x0)])) rfl rfl (hb hby d11_12) _ ?_
    show Steps p.tables e below (s₁.setTop (mkF m 13 #[rv x0, iv 0, rv x2, iv 0, iv 1, iv 0, .unset] [(.int c0)])) _
    refine XS.istore X0.here hx rfl (hb hby d11_13) rfl (l' := #[rv x0, iv 0, rv x2, iv 0, iv 1, iv 0, iv c0]) rfl ?_
    refine XS.iload X0.here hx rfl (hb hby d11_15) rfl ?_
    refine XS.sipush X0.here hx rfl (hb hby d11_17) ?_
    refine XS.icmpYes X0.here hx rfl (pc0 := 20) (pc' := 26) rfl (hb hby d11_20) rfl (flt hc20_3).2.2.2 (by decide) (by decide) ?_
    refine XS.aloadN X0.here hx rfl (hb hby d11_26) rfl rfl ?_
    refine XS.iloadN X0.here hx rfl (hb hby d11_27) rfl ?_
    refine XS.iload X0.here hx rfl (hb hby d11_28) rfl ?_
    refine XS.i2b X0.here hx rfl (hb hby d11_30) rfl ?_
    show Steps p.tables e below (s₁.setTop (mkF m 31 #[rv x0, iv 0, rv x2, iv 0, iv 1, iv 0, iv c0] [(.int (c0.toInt8.toInt32)), (.int 0), (.ref x2)])) _
    refine st5 _ ?_
    refine XS.iinc X5.here hx rfl (hb hby d11_32) rfl (l' := #[rv x0, iv 1, rv x2, iv 0, iv 1, iv 0, iv c0]) rfl ?_
    refine XS.iinc X5.here hx rfl (hb hby d11_35) rfl (l' := #[rv x0, iv 1, rv x2, iv 1, iv 1, iv 0, iv c0]) rfl ?_
    refine XS.iinc X5.here hx rfl (hb hby d11_38) rfl (l' := #[rv x0, iv 1, rv x2, iv 1, iv 1, iv 1, iv c0]) rfl ?_
    refine XS.goto X5.here hx rfl (pc0 := 41) (pc' := 3) rfl (hb hby d11_41) (by decide) (by decide) ?_
    refine XS.iload X5.here hx rfl (hb hby d11_3) rfl ?_
    refine XS.iload X5.here hx rfl (hb hby d11_5) rfl ?_
    refine XS.icmpYes X5.here hx rfl (pc0 := 7) (pc' := 44) rfl (hb hby d11_7) rfl (flt (by decide)).2.1 (by decide) (by decide) ?_
    show Steps p.tables e below (T5.setTop (mkF m 44 #[rv x0, iv 1, rv x2, iv 1, iv 1, iv 1, iv c0] [])) _
    refine XS.iload X5.here hx rfl (hb hby d11_44) rfl ?_
    exact k)
  obtain ⟨fs, hr, hrun, hended, hW, hsame⟩ := X5.leave (v := some (.int 1)) (fun h => by rw [Bd.returns] at h; cases h)
  refine ⟨_, _, P7 _ ?_, hrun, hended, _, _, rfl, ?_, ⟨_, rfl⟩, hW, hsame.mono (by decide) (by decide)⟩
  · show Steps p.tables e below (T5.setTop (mkF m 46 #[rv x0, iv 1, rv x2, iv 1, iv 1, iv 1, iv c0] [(.int 1)])) _
    exact retI X5 hx Bd.returns (hb hby d11_46) hr
  · show Qc2s1 Z x0 x2 kc kb c0 h0 n0 _ T5.heap _
    rw [e5]
    exact ⟨rfl, N5, KK5, V5⟩
def Qc1s1 (Z : State) (x0 : Addr) (kc : ClassId) (c0 : Int32) (h0 : Heap) (n0 : Nat) (v : Option Value) (h : Heap) (L : List Loc) : Prop := ∃ (b : Addr), ∃ (kb : ClassId), v = some (.ref b) ∧ Fr n0 L ∧ Keep h0 h [] ∧ n0 ≤ b ∧ h0.size ≤ b ∧ Arv Z h b kb .byte (1 : Int32) [(.int (nar .byte (c0.toInt8.toInt32)))] (.int 0)
theorem ef_c1s1 (m : MethodId) (x0 : Addr) : entryFrame m #[(.ref x0), (.int 0), (.int 1)] 6 = mkF m 0 #[rv x0, iv 0, iv 1, .unset, .unset, .unset] [] := by first | (simp [entryFrame, mkF, argsToLocals, Value.category]; done) | rfl
set_option maxRecDepth 65536 in
set_option maxHeartbeats 40000000 in
theorem rmc1s1 (l : Launch) (Z : State) (a0 : Array Value) (hw : ∀ d ∈ tables_1, d.before a0 Z = true) (ws : List Jvm.Cond) (x0 : Addr) (kc : ClassId) (c0 : Int32) (h0 : Heap) (n0 : Nat) (Z0 : n0 ≤ h0.size) (pre_A_x0 : Arv Z h0 x0 kc .char (1 : Int32) [(.int c0)] (.int 0)) (hc0 : ¬ ((255 : Int32) < c0)) :
    MetFree l (⟨"java/lang/StringUTF16", "compress", "([CII)[B"⟩ : MethodName) (head1 (Jvm.Cond.code (⟨"java/lang/StringUTF16", "compress", "([CII)[B"⟩ : MethodName) jdk_52_method_16_code 6 (some (.array .byte)) :: ws) ({ frames := 1, cells := 1, slots := 1, locals := 18 } : Room)) (fun a U => a = #[(.ref x0), (.int 0), (.int 1)] ∧ Z.Warmed39 U.vm ∧ U.heap = h0) (fun _ _ _ _ _ => True) (fun _ U o U' => ∃ v L, o = .returned v ∧ Qc1s1 Z x0 kc c0 h0 n0 v U'.heap L ∧ FrameEnd U o U' L ({ frames := 1, cells := 1, slots := 1, locals := 18 } : Room).cells ({ frames := 1, cells := 1, slots := 1, locals := 18 } : Room).slots) := by
  refine MetFree.of_bodySF (plainFor_of_name pn_10) hisR ?_
  intro p e s m args below meth c s₁ Bd hml0 hP hK
  obtain ⟨rfl, hZ, hh⟩ := hP
  have hx := Bd.exec
  have hby := Bd.bytes
  have hml : c.maxLocals = 6 := hml0
  have hown : s.vm.findClass "java/lang/StringUTF16" = some m.cls := findClass_of_methodNamed Bd.named
  have hnm := (name_of_methodNamed Bd.named Bd.method).1
  have X0 : Stand p l e ({ frames := 1, cells := 1, slots := 1, locals := 18 } : Room) s m #[(.ref x0), (.int 0), (.int 1)] below meth c s₁ [] 0 0 := Stand.of_body Bd
  have e0 : s₁.heap = h0 := by rw [← hh, Bd.state]; rfl
  have N0 := Fr.nil n0
  have Kp0 := Keep.refl h0 []
  have P0 : ∀ t, Steps p.tables e below (s₁.setTop (mkF m 0 #[rv x0, iv 0, iv 1, .unset, .unset, .unset] [])) t → Steps p.tables e below (s₁.setTop (entryFrame m #[(.ref x0), (.int 0), (.int 1)] 6)) t := fun t k => castTop (ef_c1s1 m x0) k
  obtain ⟨T1, h1, k1, X1, e1, E1, A1, st1⟩ := newP X0 hx hZ (hw _ (im 19 rfl)) e0 (g := (mkF m 1 #[rv x0, iv 0, iv 1, .unset, .unset, .unset] [(.int 1)])) rfl (hb hby d10_1) rfl (by decide) (cap := 1) (by decide) (by decide) (by decide) (by decide)
  obtain ⟨b1, g1⟩ : ∃ z, z = h0.size := ⟨_, rfl⟩
  rw [← g1] at A1 st1
  have ge_b1 : n0 ≤ b1 := Nat.le_trans Z0 (Nat.le_of_eq g1.symm)
  have sz_b1 : h0.size ≤ b1 := Nat.le_trans Kp0.1 (Nat.le_of_eq g1.symm)
  have Z1_ : n0 ≤ h1.size := Nat.le_trans Z0 E1.1
  have KK1 := Kp0.ext E1
  have V1 : Arv Z h1 b1 k1 .byte (1 : Int32) [(.int 0)] (.int 0) := (Arv.new A1 (by decide)).pad (pad_rep [] (.int 0) 1)
  have q2 := (pre_A_x0.ext E1)
  have ne3 : x0 ≠ b1 := Nat.ne_of_lt (Nat.lt_of_lt_of_le pre_A_x0.lt (Nat.le_of_eq g1.symm))
  obtain ⟨_, _, ⟨T4, L4, k4, n4⟩, -, X4, ⟨Lc4, hQ4, l4, y4, z4⟩, st4⟩ := Jvm.LawKit.callS X1 hx (y := (⟨"java/lang/StringUTF16", "compress", "([CI[BII)I"⟩ : MethodName)) hown (mvT hZ (hw _ (im 62 rfl))) (mvT hZ (hw _ (im 63 rfl))) (mvT hZ (hw _ (im 60 rfl))) (mvT hZ (hw _ (im 64 rfl))) (by decide) (backOf (W := 0) (rmc2s1 l Z a0 hw [] x0 b1 kc k1 c0 h1 n0 Z1_ q2 V1 ge_b1 ne3 (hc0)) hZ (hw _ (im 64 rfl)) (hw _ (im 60 rfl)) (by decide) (by decide)) (g := (mkF m 9 #[rv x0, iv 0, iv 1, rv b1, .unset, .unset] [(.int 1), (.int 0), (.ref b1), (.int 0), (.ref x0)])) rfl (by rw [hml]; rfl) (argsL := [(.ref x0), (.int 0), (.ref b1), (.int 0), (.int 1)]) (rest := []) (lenOf pd_0 rfl) rfl (by show 2 * 0 + _ ≤ _; exact Nat.le_of_eq rfl) (hb hby d10_9) (fun _ _ => ⟨rfl, e1, (by decide : 1 + 0 ≤ _), (by decide : 1 + 0 ≤ _)⟩)
  dsimp only [Pt.U, Pt.locs, Pt.cells, Pt.slots] at X4 l4 y4 z4 st4 hQ4
  subst l4 y4 z4
  obtain ⟨rfl, N4q, K4, r4_0⟩ := hQ4
  have N4 := Fr.app N0 N4q
  have Z4_ : n0 ≤ T4.heap.size := Nat.le_trans Z1_ K4.1
  have KK4 := KK1.trans K4 (allS (Or.inr sz_b1) all0)
  have P6 := own_go P0 (S' := T4.setTop (mkF m 58 #[rv x0, iv 0, iv 1, rv b1, iv 1, .unset] [(.ref b1)])) (by
    intro t k
    refine XS.iloadN X0.here hx rfl (hb hby d10_0) rfl ?_
    refine st1 _ ?_
    refine XS.astoreN X1.here hx rfl (hb hby d10_3) rfl rfl (l' := #[rv x0, iv 0, iv 1, rv b1, .unset, .unset]) rfl ?_
    refine XS.aloadN X1.here hx rfl (hb hby d10_4) rfl rfl ?_
    refine XS.iloadN X1.here hx rfl (hb hby d10_5) rfl ?_
    refine XS.aloadN X1.here hx rfl (hb hby d10_6) rfl rfl ?_
    refine XS.iconst X1.here hx rfl (hb hby d10_7) ?_
    refine XS.iloadN X1.here hx rfl (hb hby d10_8) rfl ?_
    show Steps p.tables e below (T1.setTop (mkF m 9 #[rv x0, iv 0, iv 1, rv b1, .unset, .unset] [(.int 1), (.int 0), (.ref b1), (.int 0), (.ref x0)])) _
    refine st4 _ ?_
    refine XS.istore X4.here hx rfl (hb hby d10_12) rfl (l' := #[rv x0, iv 0, iv 1, rv b1, iv 1, .unset]) rfl ?_
    refine XS.iload X4.here hx rfl (hb hby d10_14) rfl ?_
    refine XS.iloadN X4.here hx rfl (hb hby d10_16) rfl ?_
    refine XS.icmpYes X4.here hx rfl (pc0 := 17) (pc' := 57) rfl (hb hby d10_17) rfl (teq (by decide)).1 (by decide) (by decide) ?_
    refine XS.aloadN X4.here hx rfl (hb hby d10_57) rfl rfl ?_
    exact k)
  obtain ⟨fs, hr, hrun, hended, hW, hsame⟩ := X4.leave (v := some (.ref b1)) (fun h => by rw [Bd.returns] at h; cases h)
  refine ⟨_, _, P6 _ ?_, hrun, hended, _, _, rfl, ?_, ⟨_, rfl⟩, hW, hsame.mono (by decide) (by decide)⟩
  · show Steps p.tables e below (T4.setTop (mkF m 58 #[rv x0, iv 0, iv 1, rv b1, iv 1, .unset] [(.ref b1)])) _
    exact retOut X4 hx (t := (.array .byte)) Bd.returns rfl (Or.inr (Or.inr (Or.inr (Or.inr ⟨rfl, rfl, rfl⟩)))) (hb hby d10_58) hr
  · show Qc1s1 Z x0 kc c0 h0 n0 _ T4.heap _
    exact ⟨b1, k1, rfl, N4, KK4, ge_b1, sz_b1, r4_0⟩
def Qcds1 (Z : State) (x0 : Addr) (kb : ClassId) (y0 : Int32) (h0 : Heap) (n0 : Nat) (v : Option Value) (h : Heap) (L : List Loc) : Prop := v = some (.int 0) ∧ Fr n0 L ∧ h = h0
theorem ef_cds1 (m : MethodId) (x0 : Addr) : entryFrame m #[(.ref x0), (.int 1)] 2 = mkF m 0 #[rv x0, iv 1] [] := by first | (simp [entryFrame, mkF, argsToLocals, Value.category]; done) | rfl
set_option maxRecDepth 65536 in
set_option maxHeartbeats 40000000 in
theorem rmcds1 (l : Launch) (Z : State) (a0 : Array Value) (hw : ∀ d ∈ tables_1, d.before a0 Z = true) (ws : List Jvm.Cond) (x0 : Addr) (kb : ClassId) (y0 : Int32) (h0 : Heap) (n0 : Nat) (Z0 : n0 ≤ h0.size) (pre_A_x0 : Arv Z h0 x0 kb .byte (1 : Int32) [(.int y0)] (.int 0)) :
    MetFree l (⟨"java/lang/StringUTF16", "coderFromArrayLen", "([BI)B"⟩ : MethodName) (head1 (Jvm.Cond.code (⟨"java/lang/StringUTF16", "coderFromArrayLen", "([BI)B"⟩ : MethodName) jdk_52_method_15_code 2 (some .byte) :: ws) ({ frames := 0, cells := 0, slots := 0, locals := 0 } : Room)) (fun a U => a = #[(.ref x0), (.int 1)] ∧ Z.Warmed39 U.vm ∧ U.heap = h0) (fun _ _ _ _ _ => True) (fun _ U o U' => ∃ v L, o = .returned v ∧ Qcds1 Z x0 kb y0 h0 n0 v U'.heap L ∧ FrameEnd U o U' L ({ frames := 0, cells := 0, slots := 0, locals := 0 } : Room).cells ({ frames := 0, cells := 0, slots := 0, locals := 0 } : Room).slots) := by
  refine MetFree.of_bodySF (plainFor_of_name pn_12) hisR ?_
  intro p e s m args below meth c s₁ Bd hml0 hP hK
  obtain ⟨rfl, hZ, hh⟩ := hP
  have hx := Bd.exec
  have hby := Bd.bytes
  have hml : c.maxLocals = 2 := hml0
  have hown : s.vm.findClass "java/lang/StringUTF16" = some m.cls := findClass_of_methodNamed Bd.named
  have hnm := (name_of_methodNamed Bd.named Bd.method).1
  have X0 : Stand p l e ({ frames := 0, cells := 0, slots := 0, locals := 0 } : Room) s m #[(.ref x0), (.int 1)] below meth c s₁ [] 0 0 := Stand.of_body Bd
  have e0 : s₁.heap = h0 := by rw [← hh, Bd.state]; rfl
  have N0 := Fr.nil n0
  have Kp0 := Keep.refl h0 []
  have P0 : ∀ t, Steps p.tables e below (s₁.setTop (mkF m 0 #[rv x0, iv 1] [])) t → Steps p.tables e below (s₁.setTop (entryFrame m #[(.ref x0), (.int 1)] 2)) t := fun t k => castTop (ef_cds1 m x0) k
  obtain ⟨cl1, Ar1, qa1, S1, Nn1, H1, G1⟩ := id pre_A_x0
  have P2 := own_go P0 (S' := s₁.setTop (mkF m 8 #[rv x0, iv 1] [(.int 0)])) (by
    intro t k
    refine XS.iloadN X0.here hx rfl (hb hby d12_0) rfl ?_
    refine XS.aloadN X0.here hx rfl (hb hby d12_1) rfl rfl ?_
    refine X0.arraylength hx (by rw [e0]; exact Ar1.1) (State.isArrayOf_alike hZ.alike Ar1.2.1) (g := (mkF m 2 #[rv x0, iv 1] [(.ref x0), (.int 1)])) rfl rfl (hb hby d12_2) _ ?_
    rw [len_of S1 Nn1]
    refine XS.isub X0.here hx rfl (hb hby d12_3) rfl ?_
    refine XS.bipush X0.here hx rfl (hb hby d12_4) ?_
    refine XS.iushr X0.here hx rfl (hb hby d12_6) rfl ?_
    refine XS.i2b X0.here hx rfl (hb hby d12_7) rfl ?_
    exact k)
  obtain ⟨fs, hr, hrun, hended, hW, hsame⟩ := X0.leave (v := some (.int 0)) (fun h => by rw [Bd.returns] at h; cases h)
  refine ⟨_, _, P2 _ ?_, hrun, hended, _, _, rfl, ?_, ⟨_, rfl⟩, hW, hsame.mono (by decide) (by decide)⟩
  · show Steps p.tables e below (s₁.setTop (mkF m 8 #[rv x0, iv 1] [(.int 0)])) _
    exact retN X0 hx (t := .byte) Bd.returns (by simp) (hb hby d12_8) hr
  · show Qcds1 Z x0 kb y0 h0 n0 _ s₁.heap _
    rw [e0]
    exact ⟨rfl, N0, rfl⟩
def Qi4s1 (Z : State) (x0 : Addr) (x1 : Addr) (cs : Int32) (kc : ClassId) (c0 : Int32) (h0 : Heap) (n0 : Nat) (v : Option Value) (h : Heap) (L : List Loc) : Prop := ∃ (b : Addr), ∃ (kb : ClassId), v = none ∧ Fr n0 L ∧ Keep h0 h [x0] ∧ Exa Z h x0 "java/lang/String" ∧ Fld Z h x0 "java/lang/String" "value" "[B" (.ref b) ∧ Fld Z h x0 "java/lang/String" "coder" "B" (.int 0) ∧ Arv Z h b kb .byte (1 : Int32) [(.int (nar .byte (c0.toInt8.toInt32)))] (.int 0) ∧ n0 ≤ b ∧ h0.size ≤ b
theorem ef_i4s1 (m : MethodId) (x0 : Addr) (x1 : Addr) : entryFrame m #[(.ref x0), (.ref x1), (.int 0), (.int 1), .null] 6 = mkF m 0 #[rv x0, rv x1, iv 0, iv 1, .val .null, .unset] [] := by first | (simp [entryFrame, mkF, argsToLocals, Value.category]; done) | rfl
set_option maxRecDepth 65536 in
set_option maxHeartbeats 40000000 in
theorem rmi4s1 (l : Launch) (Z : State) (a0 : Array Value) (hw : ∀ d ∈ tables_1, d.before a0 Z = true) (ws : List Jvm.Cond) (x0 : Addr) (x1 : Addr) (cs : Int32) (kc : ClassId) (c0 : Int32) (h0 : Heap) (n0 : Nat) (Z0 : n0 ≤ h0.size) (O0 : Old Z n0 h0) (pre_S_COMPACT_STRINGS : Sta Z Z.heap "java/lang/String" "COMPACT_STRINGS" "Z" (.int cs)) (hcs : ¬ (cs = (0 : Int32))) (pre_E_x0 : Exa Z h0 x0 "java/lang/String") (pre_F_x0_value : Fld Z h0 x0 "java/lang/String" "value" "[B" .null) (pre_F_x0_coder : Fld Z h0 x0 "java/lang/String" "coder" "B" (.int 0)) (g_x0 : n0 ≤ x0) (pre_A_x1 : Arv Z h0 x1 kc .char (1 : Int32) [(.int c0)] (.int 0)) (ne_x0_x1 : x0 ≠ x1) (hc0 : ¬ ((255 : Int32) < c0)) :
    MetFree l (⟨"java/lang/String", "<init>", "([CIILjava/lang/Void;)V"⟩ : MethodName) (head1 (Jvm.Cond.code (⟨"java/lang/String", "<init>", "([CIILjava/lang/Void;)V"⟩ : MethodName) jdk_42_method_149_code 6 none :: ws) ({ frames := 2, cells := 1, slots := 1, locals := 35 } : Room)) (fun a U => a = #[(.ref x0), (.ref x1), (.int 0), (.int 1), .null] ∧ Z.Warmed39 U.vm ∧ U.heap = h0) (fun _ _ _ _ _ => True) (fun _ U o U' => ∃ v L, o = .returned v ∧ Qi4s1 Z x0 x1 cs kc c0 h0 n0 v U'.heap L ∧ FrameEnd U o U' L ({ frames := 2, cells := 1, slots := 1, locals := 35 } : Room).cells ({ frames := 2, cells := 1, slots := 1, locals := 35 } : Room).slots) := by
  refine MetFree.of_bodySF (plainFor_of_name pn_3) hisR ?_
  intro p e s m args below meth c s₁ Bd hml0 hP hK
  obtain ⟨rfl, hZ, hh⟩ := hP
  have hx := Bd.exec
  have hby := Bd.bytes
  have hml : c.maxLocals = 6 := hml0
  have hown : s.vm.findClass "java/lang/String" = some m.cls := findClass_of_methodNamed Bd.named
  have hnm := (name_of_methodNamed Bd.named Bd.method).1
  have X0 : Stand p l e ({ frames := 2, cells := 1, slots := 1, locals := 35 } : Room) s m #[(.ref x0), (.ref x1), (.int 0), (.int 1), .null] below meth c s₁ [] 0 0 := Stand.of_body Bd
  have e0 : s₁.heap = h0 := by rw [← hh, Bd.state]; rfl
  have N0 := Fr.nil n0
  have Kp0 := Keep.refl h0 [x0]
  have P0 : ∀ t, Steps p.tables e below (s₁.setTop (mkF m 0 #[rv x0, rv x1, iv 0, iv 1, .val .null, .unset] [])) t → Steps p.tables e below (s₁.setTop (entryFrame m #[(.ref x0), (.ref x1), (.int 0), (.int 1), .null] 6)) t := fun t k => castTop (ef_i4s1 m x0 x1) k
  obtain ⟨T1, X1, e1, st1⟩ := initO X0 hx hZ hown (hw _ (im 15 rfl)) (hw _ (im 16 rfl)) (hw _ (im 17 rfl)) e0 (g := (mkF m 1 #[rv x0, rv x1, iv 0, iv 1, .val .null, .unset] [(.ref x0)])) rfl (by rw [hml]; rfl) rfl (hb hby d3_1) (by decide) (W := 0) (by show 2 * 0 + _ ≤ _; exact Nat.le_of_eq rfl) (by decide)
  obtain ⟨T3, X3, e3, st3⟩ := getS2 X1 hx hZ hown (host := "") (Or.inl (hw _ (im 53 rfl))) Via.refl e1 (pre_S_COMPACT_STRINGS.ext O0.2) (g := (mkF m 27 #[rv x0, rv x1, iv 0, iv 1, .val .null, .unset] [])) rfl (hb hby d3_27)
  have hc30_4 : ¬ (cs = (0 : Int32)) := hcs
  obtain ⟨_, _, ⟨T5, L5, k5, n5⟩, -, X5, ⟨Lc5, hQ5, l5, y5, z5⟩, st5⟩ := Jvm.LawKit.callS X3 hx (y := (⟨"java/lang/StringUTF16", "compress", "([CII)[B"⟩ : MethodName)) hown (mvT hZ (hw _ (im 58 rfl))) (mvT hZ (hw _ (im 59 rfl))) (mvT hZ (hw _ (im 60 rfl))) (mvT hZ (hw _ (im 61 rfl))) (by decide) (backOf (W := 0) (rmc1s1 l Z a0 hw [] x1 kc c0 h0 n0 Z0 pre_A_x1 (hc0)) hZ (hw _ (im 61 rfl)) (hw _ (im 60 rfl)) (by decide) (by decide)) (g := (mkF m 36 #[rv x0, rv x1, iv 0, iv 1, .val .null, .unset] [(.int 1), (.int 0), (.ref x1)])) rfl (by rw [hml]; rfl) (argsL := [(.ref x1), (.int 0), (.int 1)]) (rest := []) (lenOf pd_1 rfl) rfl (by show 2 * 0 + _ ≤ _; exact Nat.le_of_eq rfl) (hb hby d3_36) (fun _ _ => ⟨rfl, e3, (by decide : 0 + 1 ≤ _), (by decide : 0 + 1 ≤ _)⟩)
  dsimp only [Pt.U, Pt.locs, Pt.cells, Pt.slots] at X5 l5 y5 z5 st5 hQ5
  subst l5 y5 z5
  obtain ⟨b_5, kb_5, rfl, N5q, K5, r5_0, r5_1, r5_2⟩ := hQ5
  have N5 := Fr.app N0 N5q
  have Z5_ : n0 ≤ T5.heap.size := Nat.le_trans Z0 K5.1
  have O5_ := O0.keep K5 all0
  have KK5 := Kp0.trans K5 all0
  have szz_b_5 : h0.size ≤ b_5 := Nat.le_trans Kp0.1 r5_1
  obtain ⟨_, _, ⟨T6, L6, k6, n6⟩, -, X6, ⟨Lc6, hQ6, l6, y6, z6⟩, st6⟩ := Jvm.LawKit.callS X5 hx (y := (⟨"java/lang/StringUTF16", "coderFromArrayLen", "([BI)B"⟩ : MethodName)) hown (mvT hZ (hw _ (im 65 rfl))) (mvT hZ (hw _ (im 66 rfl))) (mvT hZ (hw _ (im 60 rfl))) (mvT hZ (hw _ (im 67 rfl))) (by decide) (backOf (W := 1) (rmcds1 l Z a0 hw [] b_5 kb_5 (nar .byte (c0.toInt8.toInt32)) T5.heap n0 Z5_ r5_2) hZ (hw _ (im 67 rfl)) (hw _ (im 60 rfl)) (by decide) (by decide)) (g := (mkF m 45 #[rv x0, rv x1, iv 0, iv 1, .val .null, rv b_5] [(.int 1), (.ref b_5), (.ref x0)])) rfl (by rw [hml]; rfl) (argsL := [(.ref b_5), (.int 1)]) (rest := [(.ref x0)]) (lenOf pd_2 rfl) rfl (by show 2 * 0 + _ ≤ _; exact Nat.le_of_eq rfl) (hb hby d3_45) (fun _ _ => ⟨rfl, rfl, (by decide : 1 + 0 ≤ _), (by decide : 1 + 0 ≤ _)⟩)
  dsimp only [Pt.U, Pt.locs, Pt.cells, Pt.slots] at X6 l6 y6 z6 st6 hQ6
  subst l6 y6 z6
  obtain ⟨rfl, N6q, e6⟩ := hQ6
  have N6 := Fr.app N5 N6q
  have q7 := (pre_F_x0_coder.keep K5 nin0)
  have q8 := (pre_E_x0.keep K5)
  obtain ⟨T9, h9, X9, e9, W9, st9⟩ := putFN X6 hx hZ hown (hw _ (im 25 rfl)) Via.refl e6 q7 q8 (Or.inr ⟨(hw _ (im 21 rfl)), rfl, hnm⟩) (hw _ (im 5 rfl)) (ty := .byte) (v' := (.int 0)) (by decide) rfl (by first | exact fits_nar_byte _ | decide | rfl) (g := (mkF m 48 #[rv x0, rv x1, iv 0, iv 1, .val .null, rv b_5] [(.int 0), (.ref x0)])) rfl rfl (hb hby d3_48)
  have Fw9 := q7.same W9
  have Z9_ : n0 ≤ h9.size := Nat.le_trans Z5_ (Nat.le_of_eq W9.size.symm)
  have O9_ := O5_.wr W9 g_x0
  have N9 := Fr.snoc X9 N6 g_x0
  have KK9 := KK5.wr W9 (Or.inl (List.mem_of_getElem? (i := 0) rfl))
  have q10 := ((pre_F_x0_value.keep K5 nin0).other W9 (Or.inr (own_sn (la_0 hw) (la_1 hw))))
  have q11 := (q8.wr W9)
  obtain ⟨T12, h12, X12, e12, W12, st12⟩ := putF X9 hx hZ hown (host := "") (Or.inl (hw _ (im 24 rfl))) Via.refl e9 q10 q11 (Or.inr ⟨(hw _ (im 20 rfl)), rfl, hnm⟩) (hw _ (im 5 rfl)) (ty := (.array .byte)) (by decide) rfl rfl (g := (mkF m 54 #[rv x0, rv x1, iv 0, iv 1, .val .null, rv b_5] [(.ref b_5), (.ref x0)])) rfl rfl (hb hby d3_54)
  have Fw12 := q10.same W12
  have Z12_ : n0 ≤ h12.size := Nat.le_trans Z9_ (Nat.le_of_eq W12.size.symm)
  have O12_ := O9_.wr W12 g_x0
  have N12 := Fr.snoc X12 N9 g_x0
  have KK12 := KK9.wr W12 (Or.inl (List.mem_of_getElem? (i := 0) rfl))
  have P13 := own_go P0 (S' := T12.setTop (mkF m 57 #[rv x0, rv x1, iv 0, iv 1, .val .null, rv b_5] [])) (by
    intro t k
    refine XS.aloadN X0.here hx rfl (hb hby d3_0) rfl rfl ?_
    refine st1 _ ?_
    refine XS.iloadN X1.here hx rfl (hb hby d3_4) rfl ?_
    refine XS.ifYes X1.here hx rfl (pc0 := 5) (pc' := 27) rfl (hb hby d3_5) rfl ((if0 _ _).trans (feq (by decide)).2) (by decide) (by decide) ?_
    refine st3 _ ?_
    refine XS.ifNo X3.here hx rfl (hb hby d3_30) rfl ((if0 _ _).trans (feq hc30_4).1) ?_
    refine XS.aloadN X3.here hx rfl (hb hby d3_33) rfl rfl ?_
    refine XS.iloadN X3.here hx rfl (hb hby d3_34) rfl ?_
    show Steps p.tables e below (T3.setTop (mkF m 35 #[rv x0, rv x1, iv 0, iv 1, .val .null, .unset] [(.int 0), (.ref x1)])) _
    refine XS.iloadN X3.here hx rfl (hb hby d3_35) rfl ?_
    refine st5 _ ?_
    refine XS.astore X5.here hx rfl (hb hby d3_39) rfl rfl (l' := #[rv x0, rv x1, iv 0, iv 1, .val .null, rv b_5]) rfl ?_
    refine XS.aloadN X5.here hx rfl (hb hby d3_41) rfl rfl ?_
    refine XS.aload X5.here hx rfl (hb hby d3_42) rfl rfl ?_
    refine XS.iloadN X5.here hx rfl (hb hby d3_44) rfl ?_
    refine st6 _ ?_
    refine st9 _ ?_
    show Steps p.tables e below (T9.setTop (mkF m 51 #[rv x0, rv x1, iv 0, iv 1, .val .null, rv b_5] [])) _
    refine XS.aloadN X9.here hx rfl (hb hby d3_51) rfl rfl ?_
    refine XS.aload X9.here hx rfl (hb hby d3_52) rfl rfl ?_
    refine st12 _ ?_
    exact k)
  have q14 := (q11.wr W12)
  have q15 := (Fw9.other W12 (Or.inr (own_sn (la_1 hw) (la_0 hw))))
  have ne16 : x0 ≠ b_5 := Nat.ne_of_lt (Nat.lt_of_lt_of_le pre_E_x0.lt r5_1)
  have q17 := ((r5_2.other W9 (Ne.symm ne16)).other W12 (Ne.symm ne16))
  obtain ⟨fs, hr, hrun, hended, hW, hsame⟩ := X12.leave (v := none) (fun _ => rfl)
  refine ⟨_, _, P13 _ ?_, hrun, hended, _, _, rfl, ?_, ⟨_, rfl⟩, hW, hsame.mono (by decide) (by decide)⟩
  · show Steps p.tables e below (T12.setTop (mkF m 57 #[rv x0, rv x1, iv 0, iv 1, .val .null, rv b_5] [])) _
    exact X12.returnOut hx Bd.returns (hb hby d3_57) hr
  · show Qi4s1 Z x0 x1 cs kc c0 h0 n0 _ T12.heap _
    rw [e12]
    exact ⟨b_5, kb_5, rfl, N12, KK12, q14, Fw12, q15, q17, r5_0, szz_b_5⟩
def Qi1s1 (Z : State) (x0 : Addr) (x1 : Addr) (cs : Int32) (kc : ClassId) (c0 : Int32) (h0 : Heap) (n0 : Nat) (v : Option Value) (h : Heap) (L : List Loc) : Prop := ∃ (b : Addr), ∃ (kb : ClassId), v = none ∧ Fr n0 L ∧ Keep h0 h [x0] ∧ Exa Z h x0 "java/lang/String" ∧ Fld Z h x0 "java/lang/String" "value" "[B" (.ref b) ∧ Fld Z h x0 "java/lang/String" "coder" "B" (.int 0) ∧ Arv Z h b kb .byte (1 : Int32) [(.int (nar .byte (c0.toInt8.toInt32)))] (.int 0) ∧ n0 ≤ b ∧ h0.size ≤ b
theorem ef_i1s1 (m : MethodId) (x0 : Addr) (x1 : Addr) : entryFrame m #[(.ref x0), (.ref x1)] 2 = mkF m 0 #[rv x0, rv x1] [] := by first | (simp [entryFrame, mkF, argsToLocals, Value.category]; done) | rfl
set_option maxRecDepth 65536 in
set_option maxHeartbeats 40000000 in
theorem rmi1s1 (l : Launch) (Z : State) (a0 : Array Value) (hw : ∀ d ∈ tables_1, d.before a0 Z = true) (ws : List Jvm.Cond) (x0 : Addr) (x1 : Addr) (cs : Int32) (kc : ClassId) (c0 : Int32) (h0 : Heap) (n0 : Nat) (Z0 : n0 ≤ h0.size) (O0 : Old Z n0 h0) (pre_S_COMPACT_STRINGS : Sta Z Z.heap "java/lang/String" "COMPACT_STRINGS" "Z" (.int cs)) (hcs : ¬ (cs = (0 : Int32))) (pre_E_x0 : Exa Z h0 x0 "java/lang/String") (pre_F_x0_value : Fld Z h0 x0 "java/lang/String" "value" "[B" .null) (pre_F_x0_coder : Fld Z h0 x0 "java/lang/String" "coder" "B" (.int 0)) (g_x0 : n0 ≤ x0) (pre_A_x1 : Arv Z h0 x1 kc .char (1 : Int32) [(.int c0)] (.int 0)) (ne_x0_x1 : x0 ≠ x1) (hc0 : ¬ ((255 : Int32) < c0)) :
    MetFree l (⟨"java/lang/String", "<init>", "([C)V"⟩ : MethodName) (head1 (Jvm.Cond.code (⟨"java/lang/String", "<init>", "([C)V"⟩ : MethodName) jdk_42_method_3_code 2 none :: ws) ({ frames := 3, cells := 1, slots := 1, locals := 52 } : Room)) (fun a U => a = #[(.ref x0), (.ref x1)] ∧ Z.Warmed39 U.vm ∧ U.heap = h0) (fun _ _ _ _ _ => True) (fun _ U o U' => ∃ v L, o = .returned v ∧ Qi1s1 Z x0 x1 cs kc c0 h0 n0 v U'.heap L ∧ FrameEnd U o U' L ({ frames := 3, cells := 1, slots := 1, locals := 52 } : Room).cells ({ frames := 3, cells := 1, slots := 1, locals := 52 } : Room).slots) := by
  refine MetFree.of_bodySF (plainFor_of_name pn_2) hisR ?_
  intro p e s m args below meth c s₁ Bd hml0 hP hK
  obtain ⟨rfl, hZ, hh⟩ := hP
  have hx := Bd.exec
  have hby := Bd.bytes
  have hml : c.maxLocals = 2 := hml0
  have hown : s.vm.findClass "java/lang/String" = some m.cls := findClass_of_methodNamed Bd.named
  have hnm := (name_of_methodNamed Bd.named Bd.method).1
  have X0 : Stand p l e ({ frames := 3, cells := 1, slots := 1, locals := 52 } : Room) s m #[(.ref x0), (.ref x1)] below meth c s₁ [] 0 0 := Stand.of_body Bd
  have e0 : s₁.heap = h0 := by rw [← hh, Bd.state]; rfl
  have N0 := Fr.nil n0
  have Kp0 := Keep.refl h0 [x0]
  have P0 : ∀ t, Steps p.tables e below (s₁.setTop (mkF m 0 #[rv x0, rv x1] [])) t → Steps p.tables e below (s₁.setTop (entryFrame m #[(.ref x0), (.ref x1)] 2)) t := fun t k => castTop (ef_i1s1 m x0 x1) k
  obtain ⟨cl1, Ar1, qa1, S1, Nn1, H1, G1⟩ := id pre_A_x1
  obtain ⟨_, _, ⟨T2, L2, k2, n2⟩, -, X2, ⟨Lc2, hQ2, l2, y2, z2⟩, st2⟩ := X0.specialBack hx (y := (⟨"java/lang/String", "<init>", "([CIILjava/lang/Void;)V"⟩ : MethodName)) rfl hown (mvT hZ (hw _ (im 11 rfl))) (mvT hZ (hw _ (im 12 rfl))) (mvT hZ (hw _ (im 14 rfl))) (by decide) (backOf (W := 0) (rmi4s1 l Z a0 hw [] x0 x1 cs kc c0 h0 n0 Z0 O0 pre_S_COMPACT_STRINGS (hcs) pre_E_x0 pre_F_x0_value pre_F_x0_coder g_x0 pre_A_x1 ne_x0_x1 (hc0)) hZ (hw _ (im 14 rfl)) (hw _ (im 6 rfl)) (by decide) (by decide)) (g := (mkF m 6 #[rv x0, rv x1] [.null, (.int 1), (.int 0), (.ref x1), (.ref x0)])) rfl (by rw [hml]; rfl) (Steps.refl _) (a := x0) (argsL := [(.ref x1), (.int 0), (.int 1), .null]) (rest := []) (lenOf pd_3 rfl) rfl (by show 2 * 0 + _ ≤ _; exact Nat.le_of_eq rfl) (hb hby d2_6) (fun _ _ => ⟨rfl, e0, (by decide : 0 + 1 ≤ _), (by decide : 0 + 1 ≤ _)⟩)
  dsimp only [Pt.U, Pt.locs, Pt.cells, Pt.slots] at X2 l2 y2 z2 st2 hQ2
  subst l2 y2 z2
  obtain ⟨b_2, kb_2, rfl, N2q, K2, r2_0, r2_1, r2_2, r2_3, r2_4, r2_5⟩ := hQ2
  have N2 := Fr.app N0 N2q
  have Z2_ : n0 ≤ T2.heap.size := Nat.le_trans Z0 K2.1
  have O2_ := O0.keep K2 (allS g_x0 all0)
  have KK2 := Kp0.trans K2 (allS (Or.inl (List.mem_of_getElem? (i := 0) rfl)) all0)
  have szz_b_2 : h0.size ≤ b_2 := Nat.le_trans Kp0.1 r2_5
  have P3 := own_go P0 (S' := T2.setTop (mkF m 9 #[rv x0, rv x1] [])) (by
    intro t k
    refine XS.aloadN X0.here hx rfl (hb hby d2_0) rfl rfl ?_
    refine XS.aloadN X0.here hx rfl (hb hby d2_1) rfl rfl ?_
    refine XS.iconst X0.here hx rfl (hb hby d2_2) ?_
    refine XS.aloadN X0.here hx rfl (hb hby d2_3) rfl rfl ?_
    refine X0.arraylength hx (by rw [e0]; exact Ar1.1) (State.isArrayOf_alike hZ.alike Ar1.2.1) (g := (mkF m 4 #[rv x0, rv x1] [(.ref x1), (.int 0), (.ref x1), (.ref x0)])) rfl rfl (hb hby d2_4) _ ?_
    rw [len_of S1 Nn1]
    refine XS.aconstNull X0.here hx rfl (hb hby d2_5) ?_
    refine st2.trans ?_
    exact k)
  obtain ⟨fs, hr, hrun, hended, hW, hsame⟩ := X2.leave (v := none) (fun _ => rfl)
  refine ⟨_, _, P3 _ ?_, hrun, hended, _, _, rfl, ?_, ⟨_, rfl⟩, hW, hsame.mono (by decide) (by decide)⟩
  · show Steps p.tables e below (T2.setTop (mkF m 9 #[rv x0, rv x1] [])) _
    exact X2.returnOut hx Bd.returns (hb hby d2_9) hr
  · show Qi1s1 Z x0 x1 cs kc c0 h0 n0 _ T2.heap _
    exact ⟨b_2, kb_2, rfl, N2, KK2, r2_0, r2_1, r2_2, r2_3, r2_4, szz_b_2⟩
def Qc2s2 (Z : State) (x0 : Addr) (x2 : Addr) (kc : ClassId) (kb : ClassId) (c0 : Int32) (c1 : Int32) (h0 : Heap) (n0 : Nat) (v : Option Value) (h : Heap) (L : List Loc) : Prop := v = some (.int 2) ∧ Fr n0 L ∧ Keep h0 h [x2] ∧ Arv Z h x2 kb .byte (2 : Int32) [(.int (nar .byte (c0.toInt8.toInt32))), (.int (nar .byte (c1.toInt8.toInt32)))] (.int 0)
theorem ef_c2s2 (m : MethodId) (x0 : Addr) (x2 : Addr) : entryFrame m #[(.ref x0), (.int 0), (.ref x2), (.int 0), (.int 2)] 7 = mkF m 0 #[rv x0, iv 0, rv x2, iv 0, iv 2, .unset, .unset] [] := by first | (simp [entryFrame, mkF, argsToLocals, Value.category]; done) | rfl
set_option maxRecDepth 65536 in
set_option maxHeartbeats 40000000 in
theorem rmc2s2 (l : Launch) (Z : State) (a0 : Array Value) (hw : ∀ d ∈ tables_1, d.before a0 Z = true) (ws : List Jvm.Cond) (x0 : Addr) (x2 : Addr) (kc : ClassId) (kb : ClassId) (c0 : Int32) (c1 : Int32) (h0 : Heap) (n0 : Nat) (Z0 : n0 ≤ h0.size) (pre_A_x0 : Arv Z h0 x0 kc .char (2 : Int32) [(.int c0), (.int c1)] (.int 0)) (pre_A_x2 : Arv Z h0 x2 kb .byte (2 : Int32) [(.int 0), (.int 0)] (.int 0)) (g_x2 : n0 ≤ x2) (ne_x0_x2 : x0 ≠ x2) (hc0 : ¬ ((255 : Int32) < c0)) (hc1 : ¬ ((255 : Int32) < c1)) :
    MetFree l (⟨"java/lang/StringUTF16", "compress", "([CI[BII)I"⟩ : MethodName) (head1 (Jvm.Cond.code (⟨"java/lang/StringUTF16", "compress", "([CI[BII)I"⟩ : MethodName) jdk_52_method_21_code 7 (some .int) :: ws) ({ frames := 0, cells := 0, slots := 0, locals := 0 } : Room)) (fun a U => a = #[(.ref x0), (.int 0), (.ref x2), (.int 0), (.int 2)] ∧ Z.Warmed39 U.vm ∧ U.heap = h0) (fun _ _ _ _ _ => True) (fun _ U o U' => ∃ v L, o = .returned v ∧ Qc2s2 Z x0 x2 kc kb c0 c1 h0 n0 v U'.heap L ∧ FrameEnd U o U' L ({ frames := 0, cells := 0, slots := 0, locals := 0 } : Room).cells ({ frames := 0, cells := 0, slots := 0, locals := 0 } : Room).slots) := by
  refine MetFree.of_bodySF (plainFor_of_name pn_11) hisR ?_
  intro p e s m args below meth c s₁ Bd hml0 hP hK
  obtain ⟨rfl, hZ, hh⟩ := hP
  have hx := Bd.exec
  have hby := Bd.bytes
  have hml : c.maxLocals = 7 := hml0
  have hown : s.vm.findClass "java/lang/StringUTF16" = some m.cls := findClass_of_methodNamed Bd.named
  have hnm := (name_of_methodNamed Bd.named Bd.method).1
  have X0 : Stand p l e ({ frames := 0, cells := 0, slots := 0, locals := 0 } : Room) s m #[(.ref x0), (.int 0), (.ref x2), (.int 0), (.int 2)] below meth c s₁ [] 0 0 := Stand.of_body Bd
  have e0 : s₁.heap = h0 := by rw [← hh, Bd.state]; rfl
  have N0 := Fr.nil n0
  have Kp0 := Keep.refl h0 [x2]
  have P0 : ∀ t, Steps p.tables e below (s₁.setTop (mkF m 0 #[rv x0, iv 0, rv x2, iv 0, iv 2, .unset, .unset] [])) t → Steps p.tables e below (s₁.setTop (entryFrame m #[(.ref x0), (.int 0), (.ref x2), (.int 0), (.int 2)] 7)) t := fun t k => castTop (ef_c2s2 m x0 x2) k
  obtain ⟨cl2, Ar2, qa2, S2, Nn2, H2, G2⟩ := id pre_A_x0
  have hin2 : ¬ ((0 : Int32) < 0 ∨ cl2.slots.size ≤ ((0 : Int32)).toNatClampNeg) := inb_of S2 ⟨by decide, by decide⟩
  have hat2 : cl2.slots[((0 : Int32)).toNatClampNeg]? = some (.int c0) := Has.at H2 hin2 rfl
  have hc20_3 : ¬ ((255 : Int32) < c0) := hc0
  obtain ⟨cl4, Ar4, qa4, S4, Nn4, H4, G4⟩ := id pre_A_x2
  have hin4 : ¬ ((0 : Int32) < 0 ∨ cl4.slots.size ≤ ((0 : Int32)).toNatClampNeg) := inb_of S4 ⟨by decide, by decide⟩
  obtain ⟨T5, h5, X5, e5, W5, st5⟩ := stB X0 hx hZ e0 Ar4 (j := (0 : Int32)) hin4 (g := (mkF m 31 #[rv x0, iv 0, rv x2, iv 0, iv 2, iv 0, iv c0] [(.int (c0.toInt8.toInt32)), (.int 0), (.ref x2)])) rfl rfl (hb hby d11_31)
  have Z5_ : n0 ≤ h5.size := Nat.le_trans Z0 (Nat.le_of_eq W5.size.symm)
  have N5 := Fr.snoc X5 N0 g_x2
  have KK5 := Kp0.wr W5 (Or.inl (List.mem_of_getElem? (i := 0) rfl))
  have V5 : Arv Z h5 x2 kb .byte (2 : Int32) [(.int (nar .byte (c0.toInt8.toInt32))), (.int 0)] (.int 0) := Arv.set Ar4 qa4 S4 Nn4 H4 G4 (by first | exact fits_nar_byte _ | decide | rfl) W5 0 rfl (Nat.le_of_ble_eq_true rfl)
  have q7 := (pre_A_x0.other W5 ne_x0_x2)
  obtain ⟨cl8, Ar8, qa8, S8, Nn8, H8, G8⟩ := id q7
  have hin8 : ¬ ((1 : Int32) < 0 ∨ cl8.slots.size ≤ ((1 : Int32)).toNatClampNeg) := inb_of S8 ⟨by decide, by decide⟩
  have hat8 : cl8.slots[((1 : Int32)).toNatClampNeg]? = some (.int c1) := Has.at H8 hin8 rfl
  have P9 := own_go P0 (S' := T5.setTop (mkF m 15 #[rv x0, iv 1, rv x2, iv 1, iv 2, iv 1, iv c1] [])) (by
    intro t k
    refine XS.iconst X0.here hx rfl (hb hby d11_0) ?_
    refine XS.istore X0.here hx rfl (hb hby d11_1) rfl (l' := #[rv x0, iv 0, rv x2, iv 0, iv 2, iv 0, .unset]) rfl ?_
    refine XS.iload X0.here hx rfl (hb hby d11_3) rfl ?_
    refine XS.iload X0.here hx rfl (hb hby d11_5) rfl ?_
    refine XS.icmpNo X0.here hx rfl (hb hby d11_7) rfl (tlt (by decide)).2.1 ?_
    refine XS.aloadN X0.here hx rfl (hb hby d11_10) rfl rfl ?_
    refine XS.iloadN X0.here hx rfl (hb hby d11_11) rfl ?_
    refine X0.caload hx (j := (0 : Int32)) (v := (.int c0)) (by rw [e0]; exact Ar2.1) (State.isArrayOf_alike hZ.alike Ar2.2.1) Ar2.2.2 hin2 hat2 (g := (mkF m 12 #[rv x0, iv 0, rv x2, iv 0, iv 2, iv 0, .unset] [(.int 0), (.ref x0)])) rfl rfl (hb hby d11_12) _ ?_
    show Steps p.tables e below (s₁.setTop (mkF m 13 #[rv x0, iv 0, rv x2, iv 0, iv 2, iv 0, .unset] [(.int c0)])) _
    refine XS.istore X0.here hx rfl (hb hby d11_13) rfl (l' := #[rv x0, iv 0, rv x2, iv 0, iv 2, iv 0, iv c0]) rfl ?_
    refine XS.iload X0.here hx rfl (hb hby d11_15) rfl ?_
    refine XS.sipush X0.here hx rfl (hb hby d11_17) ?_
    refine XS.icmpYes X0.here hx rfl (pc0 := 20) (pc' := 26) rfl (hb hby d11_20) rfl (flt hc20_3).2.2.2 (by decide) (by decide) ?_
    refine XS.aloadN X0.here hx rfl (hb hby d11_26) rfl rfl ?_
    refine XS.iloadN X0.here hx rfl (hb hby d11_27) rfl ?_
    refine XS.iload X0.here hx rfl (hb hby d11_28) rfl ?_
    refine XS.i2b X0.here hx rfl (hb hby d11_30) rfl ?_
    show Steps p.tables e below (s₁.setTop (mkF m 31 #[rv x0, iv 0, rv x2, iv 0, iv 2, iv 0, iv c0] [(.int (c0.toInt8.toInt32)), (.int 0), (.ref x2)])) _
    refine st5 _ ?_
    refine XS.iinc X5.here hx rfl (hb hby d11_32) rfl (l' := #[rv x0, iv 1, rv x2, iv 0, iv 2, iv 0, iv c0]) rfl ?_
    refine XS.iinc X5.here hx rfl (hb hby d11_35) rfl (l' := #[rv x0, iv 1, rv x2, iv 1, iv 2, iv 0, iv c0]) rfl ?_
    refine XS.iinc X5.here hx rfl (hb hby d11_38) rfl (l' := #[rv x0, iv 1, rv x2, iv 1, iv 2, iv 1, iv c0]) rfl ?_
    refine XS.goto X5.here hx rfl (pc0 := 41) (pc' := 3) rfl (hb hby d11_41) (by decide) (by decide) ?_
    refine XS.iload X5.here hx rfl (hb hby d11_3) rfl ?_
    refine XS.iload X5.here hx rfl (hb hby d11_5) rfl ?_
    refine XS.icmpNo X5.here hx rfl (hb hby d11_7) rfl (tlt (by decide)).2.1 ?_
    show Steps p.tables e below (T5.setTop (mkF m 10 #[rv x0, iv 1, rv x2, iv 1, iv 2, iv 1, iv c0] [])) _
    refine XS.aloadN X5.here hx rfl (hb hby d11_10) rfl rfl ?_
    refine XS.iloadN X5.here hx rfl (hb hby d11_11) rfl ?_
    refine X5.caload hx (j := (1 : Int32)) (v := (.int c1)) (by rw [e5]; exact Ar8.1) (State.isArrayOf_alike hZ.alike Ar8.2.1) Ar8.2.2 hin8 hat8 (g := (mkF m 12 #[rv x0, iv 1, rv x2, iv 1, iv 2, iv 1, iv c0] [(.int 1), (.ref x0)])) rfl rfl (hb hby d11_12) _ ?_
    refine XS.istore X5.here hx rfl (hb hby d11_13) rfl (l' := #[rv x0, iv 1, rv x2, iv 1, iv 2, iv 1, iv c1]) rfl ?_
    exact k)
  have hc20_10 : ¬ ((255 : Int32) < c1) := hc1
  obtain ⟨cl11, Ar11, qa11, S11, Nn11, H11, G11⟩ := id V5
  have hin11 : ¬ ((1 : Int32) < 0 ∨ cl11.slots.size ≤ ((1 : Int32)).toNatClampNeg) := inb_of S11 ⟨by decide, by decide⟩
  obtain ⟨T12, h12, X12, e12, W12, st12⟩ := stB X5 hx hZ e5 Ar11 (j := (1 : Int32)) hin11 (g := (mkF m 31 #[rv x0, iv 1, rv x2, iv 1, iv 2, iv 1, iv c1] [(.int (c1.toInt8.toInt32)), (.int 1), (.ref x2)])) rfl rfl (hb hby d11_31)
  have Z12_ : n0 ≤ h12.size := Nat.le_trans Z5_ (Nat.le_of_eq W12.size.symm)
  have N12 := Fr.snoc X12 N5 g_x2
  have KK12 := KK5.wr W12 (Or.inl (List.mem_of_getElem? (i := 0) rfl))
  have V12 : Arv Z h12 x2 kb .byte (2 : Int32) [(.int (nar .byte (c0.toInt8.toInt32))), (.int (nar .byte (c1.toInt8.toInt32)))] (.int 0) := Arv.set Ar11 qa11 S11 Nn11 H11 G11 (by first | exact fits_nar_byte _ | decide | rfl) W12 1 rfl (Nat.le_of_ble_eq_true rfl)
  have P14 := own_go P9 (S' := T12.setTop (mkF m 46 #[rv x0, iv 2, rv x2, iv 2, iv 2, iv 2, iv c1] [(.int 2)])) (by
    intro t k
    refine XS.iload X5.here hx rfl (hb hby d11_15) rfl ?_
    refine XS.sipush X5.here hx rfl (hb hby d11_17) ?_
    refine XS.icmpYes X5.here hx rfl (pc0 := 20) (pc' := 26) rfl (hb hby d11_20) rfl (flt hc20_10).2.2.2 (by decide) (by decide) ?_
    refine XS.aloadN X5.here hx rfl (hb hby d11_26) rfl rfl ?_
    refine XS.iloadN X5.here hx rfl (hb hby d11_27) rfl ?_
    refine XS.iload X5.here hx rfl (hb hby d11_28) rfl ?_
    refine XS.i2b X5.here hx rfl (hb hby d11_30) rfl ?_
    refine st12 _ ?_
    show Steps p.tables e below (T12.setTop (mkF m 32 #[rv x0, iv 1, rv x2, iv 1, iv 2, iv 1, iv c1] [])) _
    refine XS.iinc X12.here hx rfl (hb hby d11_32) rfl (l' := #[rv x0, iv 2, rv x2, iv 1, iv 2, iv 1, iv c1]) rfl ?_
    refine XS.iinc X12.here hx rfl (hb hby d11_35) rfl (l' := #[rv x0, iv 2, rv x2, iv 2, iv 2, iv 1, iv c1]) rfl ?_
    refine XS.iinc X12.here hx rfl (hb hby d11_38) rfl (l' := #[rv x0, iv 2, rv x2, iv 2, iv 2, iv 2, iv c1]) rfl ?_
    refine XS.goto X12.here hx rfl (pc0 := 41) (pc' := 3) rfl (hb hby d11_41) (by decide) (by decide) ?_
    refine XS.iload X12.here hx rfl (hb hby d11_3) rfl ?_
    refine XS.iload X12.here hx rfl (hb hby d11_5) rfl ?_
    refine XS.icmpYes X12.here hx rfl (pc0 := 7) (pc' := 44) rfl (hb hby d11_7) rfl (flt (by decide)).2.1 (by decide) (by decide) ?_
    refine XS.iload X12.here hx rfl (hb hby d11_44) rfl ?_
    show Steps p.tables e below (T12.setTop (mkF m 46 #[rv x0, iv 2, rv x2, iv 2, iv 2, iv 2, iv c1] [(.int 2)])) _
    exact k)
  obtain ⟨fs, hr, hrun, hended, hW, hsame⟩ := X12.leave (v := some (.int 2)) (fun h => by rw [Bd.returns] at h; cases h)
  refine ⟨_, _, P14 _ ?_, hrun, hended, _, _, rfl, ?_, ⟨_, rfl⟩, hW, hsame.mono (by decide) (by decide)⟩
  · show Steps p.tables e below (T12.setTop (mkF m 46 #[rv x0, iv 2, rv x2, iv 2, iv 2, iv 2, iv c1] [(.int 2)])) _
    exact retI X12 hx Bd.returns (hb hby d11_46) hr
  · show Qc2s2 Z x0 x2 kc kb c0 c1 h0 n0 _ T12.heap _
    rw [e12]
    exact ⟨rfl, N12, KK12, V12⟩
def Qc1s2 (Z : State) (x0 : Addr) (kc : ClassId) (c0 : Int32) (c1 : Int32) (h0 : Heap) (n0 : Nat) (v : Option Value) (h : Heap) (L : List Loc) : Prop := ∃ (b : Addr), ∃ (kb : ClassId), v = some (.ref b) ∧ Fr n0 L ∧ Keep h0 h [] ∧ n0 ≤ b ∧ h0.size ≤ b ∧ Arv Z h b kb .byte (2 : Int32) [(.int (nar .byte (c0.toInt8.toInt32))), (.int (nar .byte (c1.toInt8.toInt32)))] (.int 0)
theorem ef_c1s2 (m : MethodId) (x0 : Addr) : entryFrame m #[(.ref x0), (.int 0), (.int 2)] 6 = mkF m 0 #[rv x0, iv 0, iv 2, .unset, .unset, .unset] [] := by first | (simp [entryFrame, mkF, argsToLocals, Value.category]; done) | rfl
set_option maxRecDepth 65536 in
set_option maxHeartbeats 40000000 in
theorem rmc1s2 (l : Launch) (Z : State) (a0 : Array Value) (hw : ∀ d ∈ tables_1, d.before a0 Z = true) (ws : List Jvm.Cond) (x0 : Addr) (kc : ClassId) (c0 : Int32) (c1 : Int32) (h0 : Heap) (n0 : Nat) (Z0 : n0 ≤ h0.size) (pre_A_x0 : Arv Z h0 x0 kc .char (2 : Int32) [(.int c0), (.int c1)] (.int 0)) (hc0 : ¬ ((255 : Int32) < c0)) (hc1 : ¬ ((255 : Int32) < c1)) :
    MetFree l (⟨"java/lang/StringUTF16", "compress", "([CII)[B"⟩ : MethodName) (head1 (Jvm.Cond.code (⟨"java/lang/StringUTF16", "compress", "([CII)[B"⟩ : MethodName) jdk_52_method_16_code 6 (some (.array .byte)) :: ws) ({ frames := 1, cells := 1, slots := 2, locals := 18 } : Room)) (fun a U => a = #[(.ref x0), (.int 0), (.int 2)] ∧ Z.Warmed39 U.vm ∧ U.heap = h0) (fun _ _ _ _ _ => True) (fun _ U o U' => ∃ v L, o = .returned v ∧ Qc1s2 Z x0 kc c0 c1 h0 n0 v U'.heap L ∧ FrameEnd U o U' L ({ frames := 1, cells := 1, slots := 2, locals := 18 } : Room).cells ({ frames := 1, cells := 1, slots := 2, locals := 18 } : Room).slots) := by
  refine MetFree.of_bodySF (plainFor_of_name pn_10) hisR ?_
  intro p e s m args below meth c s₁ Bd hml0 hP hK
  obtain ⟨rfl, hZ, hh⟩ := hP
  have hx := Bd.exec
  have hby := Bd.bytes
  have hml : c.maxLocals = 6 := hml0
  have hown : s.vm.findClass "java/lang/StringUTF16" = some m.cls := findClass_of_methodNamed Bd.named
  have hnm := (name_of_methodNamed Bd.named Bd.method).1
  have X0 : Stand p l e ({ frames := 1, cells := 1, slots := 2, locals := 18 } : Room) s m #[(.ref x0), (.int 0), (.int 2)] below meth c s₁ [] 0 0 := Stand.of_body Bd
  have e0 : s₁.heap = h0 := by rw [← hh, Bd.state]; rfl
  have N0 := Fr.nil n0
  have Kp0 := Keep.refl h0 []
  have P0 : ∀ t, Steps p.tables e below (s₁.setTop (mkF m 0 #[rv x0, iv 0, iv 2, .unset, .unset, .unset] [])) t → Steps p.tables e below (s₁.setTop (entryFrame m #[(.ref x0), (.int 0), (.int 2)] 6)) t := fun t k => castTop (ef_c1s2 m x0) k
  obtain ⟨T1, h1, k1, X1, e1, E1, A1, st1⟩ := newP X0 hx hZ (hw _ (im 19 rfl)) e0 (g := (mkF m 1 #[rv x0, iv 0, iv 2, .unset, .unset, .unset] [(.int 2)])) rfl (hb hby d10_1) rfl (by decide) (cap := 2) (by decide) (by decide) (by decide) (by decide)
  obtain ⟨b1, g1⟩ : ∃ z, z = h0.size := ⟨_, rfl⟩
  rw [← g1] at A1 st1
  have ge_b1 : n0 ≤ b1 := Nat.le_trans Z0 (Nat.le_of_eq g1.symm)
  have sz_b1 : h0.size ≤ b1 := Nat.le_trans Kp0.1 (Nat.le_of_eq g1.symm)
  have Z1_ : n0 ≤ h1.size := Nat.le_trans Z0 E1.1
  have KK1 := Kp0.ext E1
  have V1 : Arv Z h1 b1 k1 .byte (2 : Int32) [(.int 0), (.int 0)] (.int 0) := (Arv.new A1 (by decide)).pad (pad_rep [] (.int 0) 2)
  have q2 := (pre_A_x0.ext E1)
  have ne3 : x0 ≠ b1 := Nat.ne_of_lt (Nat.lt_of_lt_of_le pre_A_x0.lt (Nat.le_of_eq g1.symm))
  obtain ⟨_, _, ⟨T4, L4, k4, n4⟩, -, X4, ⟨Lc4, hQ4, l4, y4, z4⟩, st4⟩ := Jvm.LawKit.callS X1 hx (y := (⟨"java/lang/StringUTF16", "compress", "([CI[BII)I"⟩ : MethodName)) hown (mvT hZ (hw _ (im 62 rfl))) (mvT hZ (hw _ (im 63 rfl))) (mvT hZ (hw _ (im 60 rfl))) (mvT hZ (hw _ (im 64 rfl))) (by decide) (backOf (W := 0) (rmc2s2 l Z a0 hw [] x0 b1 kc k1 c0 c1 h1 n0 Z1_ q2 V1 ge_b1 ne3 (hc0) (hc1)) hZ (hw _ (im 64 rfl)) (hw _ (im 60 rfl)) (by decide) (by decide)) (g := (mkF m 9 #[rv x0, iv 0, iv 2, rv b1, .unset, .unset] [(.int 2), (.int 0), (.ref b1), (.int 0), (.ref x0)])) rfl (by rw [hml]; rfl) (argsL := [(.ref x0), (.int 0), (.ref b1), (.int 0), (.int 2)]) (rest := []) (lenOf pd_0 rfl) rfl (by show 2 * 0 + _ ≤ _; exact Nat.le_of_eq rfl) (hb hby d10_9) (fun _ _ => ⟨rfl, e1, (by decide : 1 + 0 ≤ _), (by decide : 2 + 0 ≤ _)⟩)
  dsimp only [Pt.U, Pt.locs, Pt.cells, Pt.slots] at X4 l4 y4 z4 st4 hQ4
  subst l4 y4 z4
  obtain ⟨rfl, N4q, K4, r4_0⟩ := hQ4
  have N4 := Fr.app N0 N4q
  have Z4_ : n0 ≤ T4.heap.size := Nat.le_trans Z1_ K4.1
  have KK4 := KK1.trans K4 (allS (Or.inr sz_b1) all0)
  have P6 := own_go P0 (S' := T4.setTop (mkF m 58 #[rv x0, iv 0, iv 2, rv b1, iv 2, .unset] [(.ref b1)])) (by
    intro t k
    refine XS.iloadN X0.here hx rfl (hb hby d10_0) rfl ?_
    refine st1 _ ?_
    refine XS.astoreN X1.here hx rfl (hb hby d10_3) rfl rfl (l' := #[rv x0, iv 0, iv 2, rv b1, .unset, .unset]) rfl ?_
    refine XS.aloadN X1.here hx rfl (hb hby d10_4) rfl rfl ?_
    refine XS.iloadN X1.here hx rfl (hb hby d10_5) rfl ?_
    refine XS.aloadN X1.here hx rfl (hb hby d10_6) rfl rfl ?_
    refine XS.iconst X1.here hx rfl (hb hby d10_7) ?_
    refine XS.iloadN X1.here hx rfl (hb hby d10_8) rfl ?_
    show Steps p.tables e below (T1.setTop (mkF m 9 #[rv x0, iv 0, iv 2, rv b1, .unset, .unset] [(.int 2), (.int 0), (.ref b1), (.int 0), (.ref x0)])) _
    refine st4 _ ?_
    refine XS.istore X4.here hx rfl (hb hby d10_12) rfl (l' := #[rv x0, iv 0, iv 2, rv b1, iv 2, .unset]) rfl ?_
    refine XS.iload X4.here hx rfl (hb hby d10_14) rfl ?_
    refine XS.iloadN X4.here hx rfl (hb hby d10_16) rfl ?_
    refine XS.icmpYes X4.here hx rfl (pc0 := 17) (pc' := 57) rfl (hb hby d10_17) rfl (teq (by decide)).1 (by decide) (by decide) ?_
    refine XS.aloadN X4.here hx rfl (hb hby d10_57) rfl rfl ?_
    exact k)
  obtain ⟨fs, hr, hrun, hended, hW, hsame⟩ := X4.leave (v := some (.ref b1)) (fun h => by rw [Bd.returns] at h; cases h)
  refine ⟨_, _, P6 _ ?_, hrun, hended, _, _, rfl, ?_, ⟨_, rfl⟩, hW, hsame.mono (by decide) (by decide)⟩
  · show Steps p.tables e below (T4.setTop (mkF m 58 #[rv x0, iv 0, iv 2, rv b1, iv 2, .unset] [(.ref b1)])) _
    exact retOut X4 hx (t := (.array .byte)) Bd.returns rfl (Or.inr (Or.inr (Or.inr (Or.inr ⟨rfl, rfl, rfl⟩)))) (hb hby d10_58) hr
  · show Qc1s2 Z x0 kc c0 c1 h0 n0 _ T4.heap _
    exact ⟨b1, k1, rfl, N4, KK4, ge_b1, sz_b1, r4_0⟩
def Qcds2 (Z : State) (x0 : Addr) (kb : ClassId) (y0 : Int32) (y1 : Int32) (h0 : Heap) (n0 : Nat) (v : Option Value) (h : Heap) (L : List Loc) : Prop := v = some (.int 0) ∧ Fr n0 L ∧ h = h0
theorem ef_cds2 (m : MethodId) (x0 : Addr) : entryFrame m #[(.ref x0), (.int 2)] 2 = mkF m 0 #[rv x0, iv 2] [] := by first | (simp [entryFrame, mkF, argsToLocals, Value.category]; done) | rfl
set_option maxRecDepth 65536 in
set_option maxHeartbeats 40000000 in
theorem rmcds2 (l : Launch) (Z : State) (a0 : Array Value) (hw : ∀ d ∈ tables_1, d.before a0 Z = true) (ws : List Jvm.Cond) (x0 : Addr) (kb : ClassId) (y0 : Int32) (y1 : Int32) (h0 : Heap) (n0 : Nat) (Z0 : n0 ≤ h0.size) (pre_A_x0 : Arv Z h0 x0 kb .byte (2 : Int32) [(.int y0), (.int y1)] (.int 0)) :
    MetFree l (⟨"java/lang/StringUTF16", "coderFromArrayLen", "([BI)B"⟩ : MethodName) (head1 (Jvm.Cond.code (⟨"java/lang/StringUTF16", "coderFromArrayLen", "([BI)B"⟩ : MethodName) jdk_52_method_15_code 2 (some .byte) :: ws) ({ frames := 0, cells := 0, slots := 0, locals := 0 } : Room)) (fun a U => a = #[(.ref x0), (.int 2)] ∧ Z.Warmed39 U.vm ∧ U.heap = h0) (fun _ _ _ _ _ => True) (fun _ U o U' => ∃ v L, o = .returned v ∧ Qcds2 Z x0 kb y0 y1 h0 n0 v U'.heap L ∧ FrameEnd U o U' L ({ frames := 0, cells := 0, slots := 0, locals := 0 } : Room).cells ({ frames := 0, cells := 0, slots := 0, locals := 0 } : Room).slots) := by
  refine MetFree.of_bodySF (plainFor_of_name pn_12) hisR ?_
  intro p e s m args below meth c s₁ Bd hml0 hP hK
  obtain ⟨rfl, hZ, hh⟩ := hP
  have hx := Bd.exec
  have hby := Bd.bytes
  have hml : c.maxLocals = 2 := hml0
  have hown : s.vm.findClass "java/lang/StringUTF16" = some m.cls := findClass_of_methodNamed Bd.named
  have hnm := (name_of_methodNamed Bd.named Bd.method).1
  have X0 : Stand p l e ({ frames := 0, cells := 0, slots := 0, locals := 0 } : Room) s m #[(.ref x0), (.int 2)] below meth c s₁ [] 0 0 := Stand.of_body Bd
  have e0 : s₁.heap = h0 := by rw [← hh, Bd.state]; rfl
  have N0 := Fr.nil n0
  have Kp0 := Keep.refl h0 []
  have P0 : ∀ t, Steps p.tables e below (s₁.setTop (mkF m 0 #[rv x0, iv 2] [])) t → Steps p.tables e below (s₁.setTop (entryFrame m #[(.ref x0), (.int 2)] 2)) t := fun t k => castTop (ef_cds2 m x0) k
  obtain ⟨cl1, Ar1, qa1, S1, Nn1, H1, G1⟩ := id pre_A_x0
  have P2 := own_go P0 (S' := s₁.setTop (mkF m 8 #[rv x0, iv 2] [(.int 0)])) (by
    intro t k
    refine XS.iloadN X0.here hx rfl (hb hby d12_0) rfl ?_
    refine XS.aloadN X0.here hx rfl (hb hby d12_1) rfl rfl ?_
    refine X0.arraylength hx (by rw [e0]; exact Ar1.1) (State.isArrayOf_alike hZ.alike Ar1.2.1) (g := (mkF m 2 #[rv x0, iv 2] [(.ref x0), (.int 2)])) rfl rfl (hb hby d12_2) _ ?_
    rw [len_of S1 Nn1]
    refine XS.isub X0.here hx rfl (hb hby d12_3) rfl ?_
    refine XS.bipush X0.here hx rfl (hb hby d12_4) ?_
    refine XS.iushr X0.here hx rfl (hb hby d12_6) rfl ?_
    refine XS.i2b X0.here hx rfl (hb hby d12_7) rfl ?_
    exact k)
  obtain ⟨fs, hr, hrun, hended, hW, hsame⟩ := X0.leave (v := some (.int 0)) (fun h => by rw [Bd.returns] at h; cases h)
  refine ⟨_, _, P2 _ ?_, hrun, hended, _, _, rfl, ?_, ⟨_, rfl⟩, hW, hsame.mono (by decide) (by decide)⟩
  · show Steps p.tables e below (s₁.setTop (mkF m 8 #[rv x0, iv 2] [(.int 0)])) _
    exact retN X0 hx (t := .byte) Bd.returns (by simp) (hb hby d12_8) hr
  · show Qcds2 Z x0 kb y0 y1 h0 n0 _ s₁.heap _
    rw [e0]
    exact ⟨rfl, N0, rfl⟩
def Qi4s2 (Z : State) (x0 : Addr) (x1 : Addr) (cs : Int32) (kc : ClassId) (c0 : Int32) (c1 : Int32) (h0 : Heap) (n0 : Nat) (v : Option Value) (h : Heap) (L : List Loc) : Prop := ∃ (b : Addr), ∃ (kb : ClassId), v = none ∧ Fr n0 L ∧ Keep h0 h [x0] ∧ Exa Z h x0 "java/lang/String" ∧ Fld Z h x0 "java/lang/String" "value" "[B" (.ref b) ∧ Fld Z h x0 "java/lang/String" "coder" "B" (.int 0) ∧ Arv Z h b kb .byte (2 : Int32) [(.int (nar .byte (c0.toInt8.toInt32))), (.int (nar .byte (c1.toInt8.toInt32)))] (.int 0) ∧ n0 ≤ b ∧ h0.size ≤ b
theorem ef_i4s2 (m : MethodId) (x0 : Addr) (x1 : Addr) : entryFrame m #[(.ref x0), (.ref x1), (.int 0), (.int 2), .null] 6 = mkF m 0 #[rv x0, rv x1, iv 0, iv 2, .val .null, .unset] [] := by first | (simp [entryFrame, mkF, argsToLocals, Value.category]; done) | rfl
set_option maxRecDepth 65536 in
set_option maxHeartbeats 40000000 in
theorem rmi4s2 (l : Launch) (Z : State) (a0 : Array Value) (hw : ∀ d ∈ tables_1, d.before a0 Z = true) (ws : List Jvm.Cond) (x0 : Addr) (x1 : Addr) (cs : Int32) (kc : ClassId) (c0 : Int32) (c1 : Int32) (h0 : Heap) (n0 : Nat) (Z0 : n0 ≤ h0.size) (O0 : Old Z n0 h0) (pre_S_COMPACT_STRINGS : Sta Z Z.heap "java/lang/String" "COMPACT_STRINGS" "Z" (.int cs)) (hcs : ¬ (cs = (0 : Int32))) (pre_E_x0 : Exa Z h0 x0 "java/lang/String") (pre_F_x0_value : Fld Z h0 x0 "java/lang/String" "value" "[B" .null) (pre_F_x0_coder : Fld Z h0 x0 "java/lang/String" "coder" "B" (.int 0)) (g_x0 : n0 ≤ x0) (pre_A_x1 : Arv Z h0 x1 kc .char (2 : Int32) [(.int c0), (.int c1)] (.int 0)) (ne_x0_x1 : x0 ≠ x1) (hc0 : ¬ ((255 : Int32) < c0)) (hc1 : ¬ ((255 : Int32) < c1)) :
    MetFree l (⟨"java/lang/String", "<init>", "([CIILjava/lang/Void;)V"⟩ : MethodName) (head1 (Jvm.Cond.code (⟨"java/lang/String", "<init>", "([CIILjava/lang/Void;)V"⟩ : MethodName) jdk_42_method_149_code 6 none :: ws) ({ frames := 2, cells := 1, slots := 2, locals := 35 } : Room)) (fun a U => a = #[(.ref x0), (.ref x1), (.int 0), (.int 2), .null] ∧ Z.Warmed39 U.vm ∧ U.heap = h0) (fun _ _ _ _ _ => True) (fun _ U o U' => ∃ v L, o = .returned v ∧ Qi4s2 Z x0 x1 cs kc c0 c1 h0 n0 v U'.heap L ∧ FrameEnd U o U' L ({ frames := 2, cells := 1, slots := 2, locals := 35 } : Room).cells ({ frames := 2, cells := 1, slots := 2, locals := 35 } : Room).slots) := by
  refine MetFree.of_bodySF (plainFor_of_name pn_3) hisR ?_
  intro p e s m args below meth c s₁ Bd hml0 hP hK
  obtain ⟨rfl, hZ, hh⟩ := hP
  have hx := Bd.exec
  have hby := Bd.bytes
  have hml : c.maxLocals = 6 := hml0
  have hown : s.vm.findClass "java/lang/String" = some m.cls := findClass_of_methodNamed Bd.named
  have hnm := (name_of_methodNamed Bd.named Bd.method).1
  have X0 : Stand p l e ({ frames := 2, cells := 1, slots := 2, locals := 35 } : Room) s m #[(.ref x0), (.ref x1), (.int 0), (.int 2), .null] below meth c s₁ [] 0 0 := Stand.of_body Bd
  have e0 : s₁.heap = h0 := by rw [← hh, Bd.state]; rfl
  have N0 := Fr.nil n0
  have Kp0 := Keep.refl h0 [x0]
  have P0 : ∀ t, Steps p.tables e below (s₁.setTop (mkF m 0 #[rv x0, rv x1, iv 0, iv 2, .val .null, .unset] [])) t → Steps p.tables e below (s₁.setTop (entryFrame m #[(.ref x0), (.ref x1), (.int 0), (.int 2), .null] 6)) t := fun t k => castTop (ef_i4s2 m x0 x1) k
  obtain ⟨T1, X1, e1, st1⟩ := initO X0 hx hZ hown (hw _ (im 15 rfl)) (hw _ (im 16 rfl)) (hw _ (im 17 rfl)) e0 (g := (mkF m 1 #[rv x0, rv x1, iv 0, iv 2, .val .null, .unset] [(.ref x0)])) rfl (by rw [hml]; rfl) rfl (hb hby d3_1) (by decide) (W := 0) (by show 2 * 0 + _ ≤ _; exact Nat.le_of_eq rfl) (by decide)
  obtain ⟨T3, X3, e3, st3⟩ := getS2 X1 hx hZ hown (host := "") (Or.inl (hw _ (im 53 rfl))) Via.refl e1 (pre_S_COMPACT_STRINGS.ext O0.2) (g := (mkF m 27 #[rv x0, rv x1, iv 0, iv 2, .val .null, .unset] [])) rfl (hb hby d3_27)
  have hc30_4 : ¬ (cs = (0 : Int32)) := hcs
  obtain ⟨_, _, ⟨T5, L5, k5, n5⟩, -, X5, ⟨Lc5, hQ5, l5, y5, z5⟩, st5⟩ := Jvm.LawKit.callS X3 hx (y := (⟨"java/lang/StringUTF16", "compress", "([CII)[B"⟩ : MethodName)) hown (mvT hZ (hw _ (im 58 rfl))) (mvT hZ (hw _ (im 59 rfl))) (mvT hZ (hw _ (im 60 rfl))) (mvT hZ (hw _ (im 61 rfl))) (by decide) (backOf (W := 0) (rmc1s2 l Z a0 hw [] x1 kc c0 c1 h0 n0 Z0 pre_A_x1 (hc0) (hc1)) hZ (hw _ (im 61 rfl)) (hw _ (im 60 rfl)) (by decide) (by decide)) (g := (mkF m 36 #[rv x0, rv x1, iv 0, iv 2, .val .null, .unset] [(.int 2), (.int 0), (.ref x1)])) rfl (by rw [hml]; rfl) (argsL := [(.ref x1), (.int 0), (.int 2)]) (rest := []) (lenOf pd_1 rfl) rfl (by show 2 * 0 + _ ≤ _; exact Nat.le_of_eq rfl) (hb hby d3_36) (fun _ _ => ⟨rfl, e3, (by decide : 0 + 1 ≤ _), (by decide : 0 + 2 ≤ _)⟩)
  dsimp only [Pt.U, Pt.locs, Pt.cells, Pt.slots] at X5 l5 y5 z5 st5 hQ5
  subst l5 y5 z5
  obtain ⟨b_5, kb_5, rfl, N5q, K5, r5_0, r5_1, r5_2⟩ := hQ5
  have N5 := Fr.app N0 N5q
  have Z5_ : n0 ≤ T5.heap.size := Nat.le_trans Z0 K5.1
  have O5_ := O0.keep K5 all0
  have KK5 := Kp0.trans K5 all0
  have szz_b_5 : h0.size ≤ b_5 := Nat.le_trans Kp0.1 r5_1
  obtain ⟨_, _, ⟨T6, L6, k6, n6⟩, -, X6, ⟨Lc6, hQ6, l6, y6, z6⟩, st6⟩ := Jvm.LawKit.callS X5 hx (y := (⟨"java/lang/StringUTF16", "coderFromArrayLen", "([BI)B"⟩ : MethodName)) hown (mvT hZ (hw _ (im 65 rfl))) (mvT hZ (hw _ (im 66 rfl))) (mvT hZ (hw _ (im 60 rfl))) (mvT hZ (hw _ (im 67 rfl))) (by decide) (backOf (W := 1) (rmcds2 l Z a0 hw [] b_5 kb_5 (nar .byte (c0.toInt8.toInt32)) (nar .byte (c1.toInt8.toInt32)) T5.heap n0 Z5_ r5_2) hZ (hw _ (im 67 rfl)) (hw _ (im 60 rfl)) (by decide) (by decide)) (g := (mkF m 45 #[rv x0, rv x1, iv 0, iv 2, .val .null, rv b_5] [(.int 2), (.ref b_5), (.ref x0)])) rfl (by rw [hml]; rfl) (argsL := [(.ref b_5), (.int 2)]) (rest := [(.ref x0)]) (lenOf pd_2 rfl) rfl (by show 2 * 0 + _ ≤ _; exact Nat.le_of_eq rfl) (hb hby d3_45) (fun _ _ => ⟨rfl, rfl, (by decide : 1 + 0 ≤ _), (by decide : 2 + 0 ≤ _)⟩)
  dsimp only [Pt.U, Pt.locs, Pt.cells, Pt.slots] at X6 l6 y6 z6 st6 hQ6
  subst l6 y6 z6
  obtain ⟨rfl, N6q, e6⟩ := hQ6
  have N6 := Fr.app N5 N6q
  have q7 := (pre_F_x0_coder.keep K5 nin0)
  have q8 := (pre_E_x0.keep K5)
  obtain ⟨T9, h9, X9, e9, W9, st9⟩ := putFN X6 hx hZ hown (hw _ (im 25 rfl)) Via.refl e6 q7 q8 (Or.inr ⟨(hw _ (im 21 rfl)), rfl, hnm⟩) (hw _ (im 5 rfl)) (ty := .byte) (v' := (.int 0)) (by decide) rfl (by first | exact fits_nar_byte _ | decide | rfl) (g := (mkF m 48 #[rv x0, rv x1, iv 0, iv 2, .val .null, rv b_5] [(.int 0), (.ref x0)])) rfl rfl (hb hby d3_48)
  have Fw9 := q7.same W9
  have Z9_ : n0 ≤ h9.size := Nat.le_trans Z5_ (Nat.le_of_eq W9.size.symm)
  have O9_ := O5_.wr W9 g_x0
  have N9 := Fr.snoc X9 N6 g_x0
  have KK9 := KK5.wr W9 (Or.inl (List.mem_of_getElem? (i := 0) rfl))
  have q10 := ((pre_F_x0_value.keep K5 nin0).other W9 (Or.inr (own_sn (la_0 hw) (la_1 hw))))
  have q11 := (q8.wr W9)
  obtain ⟨T12, h12, X12, e12, W12, st12⟩ := putF X9 hx hZ hown (host := "") (Or.inl (hw _ (im 24 rfl))) Via.refl e9 q10 q11 (Or.inr ⟨(hw _ (im 20 rfl)), rfl, hnm⟩) (hw _ (im 5 rfl)) (ty := (.array .byte)) (by decide) rfl rfl (g := (mkF m 54 #[rv x0, rv x1, iv 0, iv 2, .val .null, rv b_5] [(.ref b_5), (.ref x0)])) rfl rfl (hb hby d3_54)
  have Fw12 := q10.same W12
  have Z12_ : n0 ≤ h12.size := Nat.le_trans Z9_ (Nat.le_of_eq W12.size.symm)
  have O12_ := O9_.wr W12 g_x0
  have N12 := Fr.snoc X12 N9 g_x0
  have KK12 := KK9.wr W12 (Or.inl (List.mem_of_getElem? (i := 0) rfl))
  have P13 := own_go P0 (S' := T12.setTop (mkF m 57 #[rv x0, rv x1, iv 0, iv 2, .val .null, rv b_5] [])) (by
    intro t k
    refine XS.aloadN X0.here hx rfl (hb hby d3_0) rfl rfl ?_
    refine st1 _ ?_
    refine XS.iloadN X1.here hx rfl (hb hby d3_4) rfl ?_
    refine XS.ifYes X1.here hx rfl (pc0 := 5) (pc' := 27) rfl (hb hby d3_5) rfl ((if0 _ _).trans (feq (by decide)).2) (by decide) (by decide) ?_
    refine st3 _ ?_
    refine XS.ifNo X3.here hx rfl (hb hby d3_30) rfl ((if0 _ _).trans (feq hc30_4).1) ?_
    refine XS.aloadN X3.here hx rfl (hb hby d3_33) rfl rfl ?_
    refine XS.iloadN X3.here hx rfl (hb hby d3_34) rfl ?_
    show Steps p.tables e below (T3.setTop (mkF m 35 #[rv x0, rv x1, iv 0, iv 2, .val .null, .unset] [(.int 0), (.ref x1)])) _
    refine XS.iloadN X3.here hx rfl (hb hby d3_35) rfl ?_
    refine st5 _ ?_
    refine XS.astore X5.here hx rfl (hb hby d3_39) rfl rfl (l' := #[rv x0, rv x1, iv 0, iv 2, .val .null, rv b_5]) rfl ?_
    refine XS.aloadN X5.here hx rfl (hb hby d3_41) rfl rfl ?_
    refine XS.aload X5.here hx rfl (hb hby d3_42) rfl rfl ?_
    refine XS.iloadN X5.here hx rfl (hb hby d3_44) rfl ?_
    refine st6 _ ?_
    refine st9 _ ?_
    show Steps p.tables e below (T9.setTop (mkF m 51 #[rv x0, rv x1, iv 0, iv 2, .val .null, rv b_5] [])) _
    refine XS.aloadN X9.here hx rfl (hb hby d3_51) rfl rfl ?_
    refine XS.aload X9.here hx rfl (hb hby d3_52) rfl rfl ?_
    refine st12 _ ?_
    exact k)
  have q14 := (q11.wr W12)
  have q15 := (Fw9.other W12 (Or.inr (own_sn (la_1 hw) (la_0 hw))))
  have ne16 : x0 ≠ b_5 := Nat.ne_of_lt (Nat.lt_of_lt_of_le pre_E_x0.lt r5_1)
  have q17 := ((r5_2.other W9 (Ne.symm ne16)).other W12 (Ne.symm ne16))
  obtain ⟨fs, hr, hrun, hended, hW, hsame⟩ := X12.leave (v := none) (fun _ => rfl)
  refine ⟨_, _, P13 _ ?_, hrun, hended, _, _, rfl, ?_, ⟨_, rfl⟩, hW, hsame.mono (by decide) (by decide)⟩
  · show Steps p.tables e below (T12.setTop (mkF m 57 #[rv x0, rv x1, iv 0, iv 2, .val .null, rv b_5] [])) _
    exact X12.returnOut hx Bd.returns (hb hby d3_57) hr
  · show Qi4s2 Z x0 x1 cs kc c0 c1 h0 n0 _ T12.heap _
    rw [e12]
    exact ⟨b_5, kb_5, rfl, N12, KK12, q14, Fw12, q15, q17, r5_0, szz_b_5⟩
def Qi1s2 (Z : State) (x0 : Addr) (x1 : Addr) (cs : Int32) (kc : ClassId) (c0 : Int32) (c1 : Int32) (h0 : Heap) (n0 : Nat) (v : Option Value) (h : Heap) (L : List Loc) : Prop := ∃ (b : Addr), ∃ (kb : ClassId), v = none ∧ Fr n0 L ∧ Keep h0 h [x0] ∧ Exa Z h x0 "java/lang/String" ∧ Fld Z h x0 "java/lang/String" "value" "[B" (.ref b) ∧ Fld Z h x0 "java/lang/String" "coder" "B" (.int 0) ∧ Arv Z h b kb .byte (2 : Int32) [(.int (nar .byte (c0.toInt8.toInt32))), (.int (nar .byte (c1.toInt8.toInt32)))] (.int 0) ∧ n0 ≤ b ∧ h0.size ≤ b
theorem ef_i1s2 (m : MethodId) (x0 : Addr) (x1 : Addr) : entryFrame m #[(.ref x0), (.ref x1)] 2 = mkF m 0 #[rv x0, rv x1] [] := by first | (simp [entryFrame, mkF, argsToLocals, Value.category]; done) | rfl
set_option maxRecDepth 65536 in
set_option maxHeartbeats 40000000 in
theorem rmi1s2 (l : Launch) (Z : State) (a0 : Array Value) (hw : ∀ d ∈ tables_1, d.before a0 Z = true) (ws : List Jvm.Cond) (x0 : Addr) (x1 : Addr) (cs : Int32) (kc : ClassId) (c0 : Int32) (c1 : Int32) (h0 : Heap) (n0 : Nat) (Z0 : n0 ≤ h0.size) (O0 : Old Z n0 h0) (pre_S_COMPACT_STRINGS : Sta Z Z.heap "java/lang/String" "COMPACT_STRINGS" "Z" (.int cs)) (hcs : ¬ (cs = (0 : Int32))) (pre_E_x0 : Exa Z h0 x0 "java/lang/String") (pre_F_x0_value : Fld Z h0 x0 "java/lang/String" "value" "[B" .null) (pre_F_x0_coder : Fld Z h0 x0 "java/lang/String" "coder" "B" (.int 0)) (g_x0 : n0 ≤ x0) (pre_A_x1 : Arv Z h0 x1 kc .char (2 : Int32) [(.int c0), (.int c1)] (.int 0)) (ne_x0_x1 : x0 ≠ x1) (hc0 : ¬ ((255 : Int32) < c0)) (hc1 : ¬ ((255 : Int32) < c1)) :
    MetFree l (⟨"java/lang/String", "<init>", "([C)V"⟩ : MethodName) (head1 (Jvm.Cond.code (⟨"java/lang/String", "<init>", "([C)V"⟩ : MethodName) jdk_42_method_3_code 2 none :: ws) ({ frames := 3, cells := 1, slots := 2, locals := 52 } : Room)) (fun a U => a = #[(.ref x0), (.ref x1)] ∧ Z.Warmed39 U.vm ∧ U.heap = h0) (fun _ _ _ _ _ => True) (fun _ U o U' => ∃ v L, o = .returned v ∧ Qi1s2 Z x0 x1 cs kc c0 c1 h0 n0 v U'.heap L ∧ FrameEnd U o U' L ({ frames := 3, cells := 1, slots := 2, locals := 52 } : Room).cells ({ frames := 3, cells := 1, slots := 2, locals := 52 } : Room).slots) := by
  refine MetFree.of_bodySF (plainFor_of_name pn_2) hisR ?_
  intro p e s m args below meth c s₁ Bd hml0 hP hK
  obtain ⟨rfl, hZ, hh⟩ := hP
  have hx := Bd.exec
  have hby := Bd.bytes
  have hml : c.maxLocals = 2 := hml0
  have hown : s.vm.findClass "java/lang/String" = some m.cls := findClass_of_methodNamed Bd.named
  have hnm := (name_of_methodNamed Bd.named Bd.method).1
  have X0 : Stand p l e ({ frames := 3, cells := 1, slots := 2, locals := 52 } : Room) s m #[(.ref x0), (.ref x1)] below meth c s₁ [] 0 0 := Stand.of_body Bd
  have e0 : s₁.heap = h0 := by rw [← hh, Bd.state]; rfl
  have N0 := Fr.nil n0
  have Kp0 := Keep.refl h0 [x0]
  have P0 : ∀ t, Steps p.tables e below (s₁.setTop (mkF m 0 #[rv x0, rv x1] [])) t → Steps p.tables e below (s₁.setTop (entryFrame m #[(.ref x0), (.ref x1)] 2)) t := fun t k => castTop (ef_i1s2 m x0 x1) k
  obtain ⟨cl1, Ar1, qa1, S1, Nn1, H1, G1⟩ := id pre_A_x1
  obtain ⟨_, _, ⟨T2, L2, k2, n2⟩, -, X2, ⟨Lc2, hQ2, l2, y2, z2⟩, st2⟩ := X0.specialBack hx (y := (⟨"java/lang/String", "<init>", "([CIILjava/lang/Void;)V"⟩ : MethodName)) rfl hown (mvT hZ (hw _ (im 11 rfl))) (mvT hZ (hw _ (im 12 rfl))) (mvT hZ (hw _ (im 14 rfl))) (by decide) (backOf (W := 0) (rmi4s2 l Z a0 hw [] x0 x1 cs kc c0 c1 h0 n0 Z0 O0 pre_S_COMPACT_STRINGS (hcs) pre_E_x0 pre_F_x0_value pre_F_x0_coder g_x0 pre_A_x1 ne_x0_x1 (hc0) (hc1)) hZ (hw _ (im 14 rfl)) (hw _ (im 6 rfl)) (by decide) (by decide)) (g := (mkF m 6 #[rv x0, rv x1] [.null, (.int 2), (.int 0), (.ref x1), (.ref x0)])) rfl (by rw [hml]; rfl) (Steps.refl _) (a := x0) (argsL := [(.ref x1), (.int 0), (.int 2), .null]) (rest := []) (lenOf pd_3 rfl) rfl (by show 2 * 0 + _ ≤ _; exact Nat.le_of_eq rfl) (hb hby d2_6) (fun _ _ => ⟨rfl, e0, (by decide : 0 + 1 ≤ _), (by decide : 0 + 2 ≤ _)⟩)
  dsimp only [Pt.U, Pt.locs, Pt.cells, Pt.slots] at X2 l2 y2 z2 st2 hQ2
  subst l2 y2 z2
  obtain ⟨b_2, kb_2, rfl, N2q, K2, r2_0, r2_1, r2_2, r2_3, r2_4, r2_5⟩ := hQ2
  have N2 := Fr.app N0 N2q
  have Z2_ : n0 ≤ T2.heap.size := Nat.le_trans Z0 K2.1
  have O2_ := O0.keep K2 (allS g_x0 all0)
  have KK2 := Kp0.trans K2 (allS (Or.inl (List.mem_of_getElem? (i := 0) rfl)) all0)
  have szz_b_2 : h0.size ≤ b_2 := Nat.le_trans Kp0.1 r2_5
  have P3 := own_go P0 (S' := T2.setTop (mkF m 9 #[rv x0, rv x1] [])) (by
    intro t k
    refine XS.aloadN X0.here hx rfl (hb hby d2_0) rfl rfl ?_
    refine XS.aloadN X0.here hx rfl (hb hby d2_1) rfl rfl ?_
    refine XS.iconst X0.here hx rfl (hb hby d2_2) ?_
    refine XS.aloadN X0.here hx rfl (hb hby d2_3) rfl rfl ?_
    refine X0.arraylength hx (by rw [e0]; exact Ar1.1) (State.isArrayOf_alike hZ.alike Ar1.2.1) (g := (mkF m 4 #[rv x0, rv x1] [(.ref x1), (.int 0), (.ref x1), (.ref x0)])) rfl rfl (hb hby d2_4) _ ?_
    rw [len_of S1 Nn1]
    refine XS.aconstNull X0.here hx rfl (hb hby d2_5) ?_
    refine st2.trans ?_
    exact k)
  obtain ⟨fs, hr, hrun, hended, hW, hsame⟩ := X2.leave (v := none) (fun _ => rfl)
  refine ⟨_, _, P3 _ ?_, hrun, hended, _, _, rfl, ?_, ⟨_, rfl⟩, hW, hsame.mono (by decide) (by decide)⟩
  · show Steps p.tables e below (T2.setTop (mkF m 9 #[rv x0, rv x1] [])) _
    exact X2.returnOut hx Bd.returns (hb hby d2_9) hr
  · show Qi1s2 Z x0 x1 cs kc c0 c1 h0 n0 _ T2.heap _
    exact ⟨b_2, kb_2, rfl, N2, KK2, r2_0, r2_1, r2_2, r2_3, r2_4, szz_b_2⟩
def Qi4s0 (Z : State) (x0 : Addr) (x1 : Addr) (kc : ClassId) (h0 : Heap) (n0 : Nat) (v : Option Value) (h : Heap) (L : List Loc) : Prop := ∃ (b : Addr), ∃ (kb : ClassId), v = none ∧ Fr n0 L ∧ Keep h0 h [x0] ∧ Exa Z h x0 "java/lang/String" ∧ Fld Z h x0 "java/lang/String" "value" "[B" (.ref b) ∧ Fld Z h x0 "java/lang/String" "coder" "B" (.int 0) ∧ Arv Z h b kb .byte (0 : Int32) [] (.int 0)
theorem ef_i4s0 (m : MethodId) (x0 : Addr) (x1 : Addr) : entryFrame m #[(.ref x0), (.ref x1), (.int 0), (.int 0), .null] 6 = mkF m 0 #[rv x0, rv x1, iv 0, iv 0, .val .null, .unset] [] := by first | (simp [entryFrame, mkF, argsToLocals, Value.category]; done) | rfl
set_option maxRecDepth 65536 in
set_option maxHeartbeats 40000000 in
theorem rmi4s0 (l : Launch) (Z : State) (a0 : Array Value) (hw : ∀ d ∈ tables_1, d.before a0 Z = true) (ws : List Jvm.Cond) (x0 : Addr) (x1 : Addr) (kc : ClassId) (h0 : Heap) (n0 : Nat) (Z0 : n0 ≤ h0.size) (pre_E_x0 : Exa Z h0 x0 "java/lang/String") (pre_F_x0_value : Fld Z h0 x0 "java/lang/String" "value" "[B" .null) (pre_F_x0_coder : Fld Z h0 x0 "java/lang/String" "coder" "B" (.int 0)) (g_x0 : n0 ≤ x0) (pre_A_x1 : Arv Z h0 x1 kc .char (0 : Int32) [] (.int 0)) :
    MetFree l (⟨"java/lang/String", "<init>", "([CIILjava/lang/Void;)V"⟩ : MethodName) (head1 (Jvm.Cond.code (⟨"java/lang/String", "<init>", "([CIILjava/lang/Void;)V"⟩ : MethodName) jdk_42_method_149_code 6 none :: ws) ({ frames := 1, cells := 4, slots := 8, locals := 12 } : Room)) (fun a U => a = #[(.ref x0), (.ref x1), (.int 0), (.int 0), .null] ∧ Z.Warmed39 U.vm ∧ U.heap = h0 ∧ CHv Z own_EL U.vm h0) (fun _ _ _ _ _ => True) (fun _ U o U' => ∃ v L, o = .returned v ∧ Qi4s0 Z x0 x1 kc h0 n0 v U'.heap L ∧ CHr Z own_EL U.vm U.heap U'.vm U'.heap ∧ ReturnedEndW U o U' L ({ frames := 1, cells := 4, slots := 8, locals := 12 } : Room).cells ({ frames := 1, cells := 4, slots := 8, locals := 12 } : Room).slots) := by
  refine MetFree.of_bodySF (plainFor_of_name pn_3) hisR ?_
  intro p e s m args below meth c s₁ Bd hml0 hP hK
  obtain ⟨rfl, hZ, hh, CH0⟩ := hP
  have hx := Bd.exec
  have hby := Bd.bytes
  have hml : c.maxLocals = 6 := hml0
  have hown : s.vm.findClass "java/lang/String" = some m.cls := findClass_of_methodNamed Bd.named
  have hnm := (name_of_methodNamed Bd.named Bd.method).1
  have X0 : Stand p l e ({ frames := 1, cells := 4, slots := 8, locals := 12 } : Room) (s.setVm s.vm) m #[(.ref x0), (.ref x1), (.int 0), (.int 0), .null] below meth c s₁ [] 0 0 := Stand.of_body Bd
  have e0 : s₁.heap = h0 := by rw [← hh, Bd.state]; rfl
  have N0 := Fr.nil n0
  have Kp0 := Keep.refl h0 [x0]
  have hS0 : s.Since s.vm 0 := (State.WarmedH.refl s).since 0
  have hk0 : 0 ≤ h0.size := Nat.zero_le _
  replace hZ : Z.Warmed39 (s.setVm s.vm).vm := hZ
  replace hown : (s.setVm s.vm).vm.findClass "java/lang/String" = some m.cls := hown
  have CR0 := CHr.refl CH0
  have hEW := own_EW hw
  have P0 : ∀ t, Steps p.tables e below (s₁.setTop (mkF m 0 #[rv x0, rv x1, iv 0, iv 0, .val .null, .unset] [])) t → Steps p.tables e below (s₁.setTop (entryFrame m #[(.ref x0), (.ref x1), (.int 0), (.int 0), .null] 6)) t := fun t k => castTop (ef_i4s0 m x0 x1) k
  obtain ⟨T1, X1, e1, st1⟩ := initO X0 hx hZ hown (hw _ (im 15 rfl)) (hw _ (im 16 rfl)) (hw _ (im 17 rfl)) e0 (g := (mkF m 1 #[rv x0, rv x1, iv 0, iv 0, .val .null, .unset] [(.ref x0)])) rfl (by rw [hml]; rfl) rfl (hb hby d3_1) (by decide) (W := 0) (by show 2 * 0 + _ ≤ _; exact Nat.le_of_eq rfl) (by decide)
  obtain ⟨la3, T3, h3, k3, lv3, lk3, X3, e3, E3, hS3, hk3, hZ3, hown3, Ex3, Fc3, Fv3, Av3, lta3, ltv3, cr3, -, hne3, st3⟩ := ldcCH X1 hx hZ hown (hw _ (im 18 rfl)) (own_atoms hw) e1 hS0 hk0 hEW (List.mem_of_getElem? (i := 0) rfl) CH0 (vs := []) (z := 0) ⟨by decide, rfl⟩ (by decide) rfl (g := (mkF m 9 #[rv x0, rv x1, iv 0, iv 0, .val .null, .unset] [(.ref x0)])) rfl (hb hby d3_9) (n := 0) (by decide) (by decide) (by decide) (by decide)
  have Z3_ : n0 ≤ h3.size := Nat.le_trans Z0 E3.1
  have hk3_ := Nat.le_trans hk0 E3.1
  have CH3 := cr3.1
  have CR3 := CR0.trans cr3
  have KK3 := Kp0.ext E3
  have q5 := (pre_E_x0.ext E3)
  have q6 := (pre_F_x0_value.ext E3)
  have sf4 : Safe Z own_EL T3.vm h3 x0 := own_safe_null hZ3.alike q5 q6
  have nn3 := hne3 x0 sf4
  obtain ⟨T7, X7, e7, st7⟩ := getF X3 hx hZ3 hown3 (host := "") (Or.inl (hw _ (im 24 rfl))) Via.refl e3 Fv3 (g := (mkF m 11 #[rv x0, rv x1, iv 0, iv 0, .val .null, .unset] [(.ref la3), (.ref x0)])) rfl rfl (hb hby d3_11)
  obtain ⟨T8, h8, X8, e8, W8, st8⟩ := putF X7 hx hZ3 hown3 (host := "") (Or.inl (hw _ (im 24 rfl))) Via.refl e7 q6 q5 (Or.inr ⟨(hw _ (im 20 rfl)), rfl, hnm⟩) (hw _ (im 5 rfl)) (ty := (.array .byte)) (by decide) rfl rfl (g := (mkF m 14 #[rv x0, rv x1, iv 0, iv 0, .val .null, .unset] [(.ref lv3), (.ref x0)])) rfl rfl (hb hby d3_14)
  have Fw8 := q6.same W8
  have Z8_ : n0 ≤ h8.size := Nat.le_trans Z3_ (Nat.le_of_eq W8.size.symm)
  have hk8_ := Nat.le_trans hk3 (Nat.le_of_eq W8.size.symm)
  have CH8 := CHv.wr W8 sf4 CH3
  have CR8 := CR3.trans (CHr.wr W8 sf4 CH3)
  have sf9 := Safe.wr W8 sf4 CH3 sf4
  have N8 := Fr.snoc X8 N0 g_x0
  have KK8 := KK3.wr W8 (Or.inl (List.mem_of_getElem? (i := 0) rfl))
  obtain ⟨la10, T10, h10, k10, lv10, lk10, X10, e10, E10, hS10, hk10, hZ10, hown10, Ex10, Fc10, Fv10, Av10, lta10, ltv10, cr10, -, hne10, st10⟩ := ldcCH X8 hx hZ3 hown3 (hw _ (im 18 rfl)) (own_atoms hw) e8 hS3 hk8_ hEW (List.mem_of_getElem? (i := 0) rfl) CH8 (vs := []) (z := 0) ⟨by decide, rfl⟩ (by decide) rfl (g := (mkF m 18 #[rv x0, rv x1, iv 0, iv 0, .val .null, .unset] [(.ref x0)])) rfl (hb hby d3_18) (n := 0) (by decide) (by decide) (by decide) (by decide)
  have Z10_ : n0 ≤ h10.size := Nat.le_trans Z8_ E10.1
  have hk10_ := Nat.le_trans hk8_ E10.1
  have CH10 := cr10.1
  have CR10 := CR8.trans cr10
  have q12 := (Nat.lt_of_lt_of_le (Nat.lt_of_lt_of_le pre_E_x0.lt E3.1) (Nat.le_of_eq W8.size.symm))
  have sf11 := CHr.safe cr10 q12 sf9
  have KK10 := KK8.ext E10
  have nn10 := hne10 x0 sf11
  obtain ⟨T13, X13, e13, st13⟩ := getF X10 hx hZ10 hown10 (host := "") (Or.inl (hw _ (im 25 rfl))) Via.refl e10 Fc10 (g := (mkF m 20 #[rv x0, rv x1, iv 0, iv 0, .val .null, .unset] [(.ref la10), (.ref x0)])) rfl rfl (hb hby d3_20)
  have q14 := (((pre_F_x0_coder.ext E3).other W8 (Or.inr (own_sn (la_1 hw) (la_0 hw)))).ext E10)
  have q15 := ((q5.wr W8).ext E10)
  obtain ⟨T16, h16, X16, e16, W16, st16⟩ := putFN X13 hx hZ10 hown10 (hw _ (im 25 rfl)) Via.refl e13 q14 q15 (Or.inr ⟨(hw _ (im 21 rfl)), rfl, hnm⟩) (hw _ (im 5 rfl)) (ty := .byte) (v' := (.int 0)) (by decide) rfl (by first | exact fits_nar_byte _ | decide | rfl) (g := (mkF m 23 #[rv x0, rv x1, iv 0, iv 0, .val .null, .unset] [(.int 0), (.ref x0)])) rfl rfl (hb hby d3_23)
  have Fw16 := q14.same W16
  have Z16_ : n0 ≤ h16.size := Nat.le_trans Z10_ (Nat.le_of_eq W16.size.symm)
  have hk16_ := Nat.le_trans hk10 (Nat.le_of_eq W16.size.symm)
  have CH16 := CHv.wr W16 sf11 CH10
  have CR16 := CR10.trans (CHr.wr W16 sf11 CH10)
  have sf17 := Safe.wr W16 sf11 CH10 sf11
  have N16 := Fr.snoc X16 N8 g_x0
  have KK16 := KK10.wr W16 (Or.inl (List.mem_of_getElem? (i := 0) rfl))
  have P18 := own_go P0 (S' := T16.setTop (mkF m 26 #[rv x0, rv x1, iv 0, iv 0, .val .null, .unset] [])) (by
    intro t k
    refine XS.aloadN X0.here hx rfl (hb hby d3_0) rfl rfl ?_
    refine st1 _ ?_
    refine XS.iloadN X1.here hx rfl (hb hby d3_4) rfl ?_
    refine XS.ifNo X1.here hx rfl (hb hby d3_5) rfl ((if0 _ _).trans (teq (by decide)).2) ?_
    refine XS.aloadN X1.here hx rfl (hb hby d3_8) rfl rfl ?_
    refine st3 _ ?_
    refine st7 _ ?_
    refine st8 _ ?_
    show Steps p.tables e below (T8.setTop (mkF m 17 #[rv x0, rv x1, iv 0, iv 0, .val .null, .unset] [])) _
    refine XS.aloadN X8.here hx rfl (hb hby d3_17) rfl rfl ?_
    refine st10 _ ?_
    refine st13 _ ?_
    refine st16 _ ?_
    exact k)
  have q19 := (q15.wr W16)
  have q20 := ((Fw8.ext E10).other W16 (Or.inr (own_sn (la_0 hw) (la_1 hw))))
  have q21 := (((Av3.other W8 (Ne.symm nn3.2)).ext E10).other W16 (Ne.symm nn3.2))
  obtain ⟨fs, hr, hrun, hended, hend⟩ := X16.leaveW hS10 (by rw [e16]; exact hk16_) (v := none) (fun _ => rfl)
  refine ⟨_, _, P18 _ ?_, hrun, hended, _, _, rfl, ?_, ?_, hend.1, hend.2.1, hend.2.2.1, hend.2.2.2.mono (by decide) (by decide)⟩
  · show Steps p.tables e below (T16.setTop (mkF m 26 #[rv x0, rv x1, iv 0, iv 0, .val .null, .unset] [])) _
    exact X16.returnOut hx Bd.returns (hb hby d3_26) hr
  · show Qi4s0 Z x0 x1 kc h0 n0 _ T16.heap _
    rw [e16]
    exact ⟨lv3, lk3, rfl, N16, KK16, q19, q20, Fw16, q21⟩
  · have q := CR16.trans (CHv.at X16 hZ10 hEW CH16)
    rw [hh]
    show CHr Z own_EL s.vm h0 T16.vm T16.heap
    rw [e16]
    exact q
def Qi1s0 (Z : State) (x0 : Addr) (x1 : Addr) (kc : ClassId) (h0 : Heap) (n0 : Nat) (v : Option Value) (h : Heap) (L : List Loc) : Prop := ∃ (b : Addr), ∃ (kb : ClassId), v = none ∧ Fr n0 L ∧ Keep h0 h [x0] ∧ Exa Z h x0 "java/lang/String" ∧ Fld Z h x0 "java/lang/String" "value" "[B" (.ref b) ∧ Fld Z h x0 "java/lang/String" "coder" "B" (.int 0) ∧ Arv Z h b kb .byte (0 : Int32) [] (.int 0)
theorem ef_i1s0 (m : MethodId) (x0 : Addr) (x1 : Addr) : entryFrame m #[(.ref x0), (.ref x1)] 2 = mkF m 0 #[rv x0, rv x1] [] := by first | (simp [entryFrame, mkF, argsToLocals, Value.category]; done) | rfl
set_option maxRecDepth 65536 in
set_option maxHeartbeats 40000000 in
theorem rmi1s0 (l : Launch) (Z : State) (a0 : Array Value) (hw : ∀ d ∈ tables_1, d.before a0 Z = true) (ws : List Jvm.Cond) (x0 : Addr) (x1 : Addr) (kc : ClassId) (h0 : Heap) (n0 : Nat) (Z0 : n0 ≤ h0.size) (pre_E_x0 : Exa Z h0 x0 "java/lang/String") (pre_F_x0_value : Fld Z h0 x0 "java/lang/String" "value" "[B" .null) (pre_F_x0_coder : Fld Z h0 x0 "java/lang/String" "coder" "B" (.int 0)) (g_x0 : n0 ≤ x0) (pre_A_x1 : Arv Z h0 x1 kc .char (0 : Int32) [] (.int 0)) :
    MetFree l (⟨"java/lang/String", "<init>", "([C)V"⟩ : MethodName) (head1 (Jvm.Cond.code (⟨"java/lang/String", "<init>", "([C)V"⟩ : MethodName) jdk_42_method_3_code 2 none :: ws) ({ frames := 2, cells := 4, slots := 8, locals := 29 } : Room)) (fun a U => a = #[(.ref x0), (.ref x1)] ∧ Z.Warmed39 U.vm ∧ U.heap = h0 ∧ CHv Z own_EL U.vm h0) (fun _ _ _ _ _ => True) (fun _ U o U' => ∃ v L, o = .returned v ∧ Qi1s0 Z x0 x1 kc h0 n0 v U'.heap L ∧ CHr Z own_EL U.vm U.heap U'.vm U'.heap ∧ ReturnedEndW U o U' L ({ frames := 2, cells := 4, slots := 8, locals := 29 } : Room).cells ({ frames := 2, cells := 4, slots := 8, locals := 29 } : Room).slots) := by
  refine MetFree.of_bodySF (plainFor_of_name pn_2) hisR ?_
  intro p e s m args below meth c s₁ Bd hml0 hP hK
  obtain ⟨rfl, hZ, hh, CH0⟩ := hP
  have hx := Bd.exec
  have hby := Bd.bytes
  have hml : c.maxLocals = 2 := hml0
  have hown : s.vm.findClass "java/lang/String" = some m.cls := findClass_of_methodNamed Bd.named
  have hnm := (name_of_methodNamed Bd.named Bd.method).1
  have X0 : Stand p l e ({ frames := 2, cells := 4, slots := 8, locals := 29 } : Room) (s.setVm s.vm) m #[(.ref x0), (.ref x1)] below meth c s₁ [] 0 0 := Stand.of_body Bd
  have e0 : s₁.heap = h0 := by rw [← hh, Bd.state]; rfl
  have N0 := Fr.nil n0
  have Kp0 := Keep.refl h0 [x0]
  have hS0 : s.Since s.vm 0 := (State.WarmedH.refl s).since 0
  have hk0 : 0 ≤ h0.size := Nat.zero_le _
  replace hZ : Z.Warmed39 (s.setVm s.vm).vm := hZ
  replace hown : (s.setVm s.vm).vm.findClass "java/lang/String" = some m.cls := hown
  have CR0 := CHr.refl CH0
  have hEW := own_EW hw
  have P0 : ∀ t, Steps p.tables e below (s₁.setTop (mkF m 0 #[rv x0, rv x1] [])) t → Steps p.tables e below (s₁.setTop (entryFrame m #[(.ref x0), (.ref x1)] 2)) t := fun t k => castTop (ef_i1s0 m x0 x1) k
  obtain ⟨cl1, Ar1, qa1, S1, Nn1, H1, G1⟩ := id pre_A_x1
  obtain ⟨_, _, ⟨T2, L2, k2, n2⟩, -, X2, hS2, hg2, ⟨Lc2, hQ2, l2, y2, z2, cr2⟩, st2⟩ := X0.specialBackS hx (y := (⟨"java/lang/String", "<init>", "([CIILjava/lang/Void;)V"⟩ : MethodName)) rfl hown (mvT hZ (hw _ (im 11 rfl))) (mvT hZ (hw _ (im 12 rfl))) (mvT hZ (hw _ (im 14 rfl))) (by decide) (backOfSH (W := 0) (rmi4s0 l Z a0 hw [] x0 x1 kc h0 n0 Z0 pre_E_x0 pre_F_x0_value pre_F_x0_coder g_x0 pre_A_x1) hZ (hw _ (im 14 rfl)) (hw _ (im 6 rfl)) (by decide) (by decide) hEW CH0) (g := (mkF m 6 #[rv x0, rv x1] [.null, (.int 0), (.int 0), (.ref x1), (.ref x0)])) rfl (by rw [hml]; rfl) (Steps.refl _) (a := x0) (argsL := [(.ref x1), (.int 0), (.int 0), .null]) (rest := []) (lenOf pd_3 rfl) rfl (by show 2 * 0 + _ ≤ _; exact Nat.le_of_eq rfl) (hb hby d2_6) (fun _ _ => ⟨rfl, e0, (by decide : 0 + 4 ≤ _), (by decide : 0 + 8 ≤ _)⟩)
  dsimp only [Pt.U, Pt.locs, Pt.cells, Pt.slots] at X2 l2 y2 z2 st2 hQ2 hS2 hg2 cr2
  subst l2 y2 z2
  obtain ⟨X2, hS2, hZ2, hown2⟩ := rebS hS0 (by rw [e0]; exact hk0) X2 hS2 hg2 hZ hown
  obtain ⟨b_2, kb_2, rfl, N2q, K2, r2_0, r2_1, r2_2, r2_3⟩ := hQ2
  have N2 := Fr.app N0 N2q
  have Z2_ : n0 ≤ T2.heap.size := Nat.le_trans Z0 K2.1
  have hk2_ := Nat.le_trans hk0 K2.1
  have CH2 := cr2.1
  have CR2 := CR0.trans cr2
  have hk2w : T2.heap.size ≤ T2.heap.size := Nat.le_refl _
  have KK2 := Kp0.trans K2 (allS (Or.inl (List.mem_of_getElem? (i := 0) rfl)) all0)
  have P3 := own_go P0 (S' := T2.setTop (mkF m 9 #[rv x0, rv x1] [])) (by
    intro t k
    refine XS.aloadN X0.here hx rfl (hb hby d2_0) rfl rfl ?_
    refine XS.aloadN X0.here hx rfl (hb hby d2_1) rfl rfl ?_
    refine XS.iconst X0.here hx rfl (hb hby d2_2) ?_
    refine XS.aloadN X0.here hx rfl (hb hby d2_3) rfl rfl ?_
    refine X0.arraylength hx (by rw [e0]; exact Ar1.1) (State.isArrayOf_alike hZ.alike Ar1.2.1) (g := (mkF m 4 #[rv x0, rv x1] [(.ref x1), (.int 0), (.ref x1), (.ref x0)])) rfl rfl (hb hby d2_4) _ ?_
    rw [len_of S1 Nn1]
    refine XS.aconstNull X0.here hx rfl (hb hby d2_5) ?_
    refine st2.trans ?_
    exact k)
  obtain ⟨fs, hr, hrun, hended, hend⟩ := X2.leaveW hS2 (hk2w) (v := none) (fun _ => rfl)
  refine ⟨_, _, P3 _ ?_, hrun, hended, _, _, rfl, ?_, ?_, hend.1, hend.2.1, hend.2.2.1, hend.2.2.2.mono (by decide) (by decide)⟩
  · show Steps p.tables e below (T2.setTop (mkF m 9 #[rv x0, rv x1] [])) _
    exact X2.returnOut hx Bd.returns (hb hby d2_9) hr
  · show Qi1s0 Z x0 x1 kc h0 n0 _ T2.heap _
    exact ⟨b_2, kb_2, rfl, N2, KK2, r2_0, r2_1, r2_2, r2_3⟩
  · have q := CR2.trans (CHv.at X2 hZ2 hEW CH2)
    rw [hh]
    show CHr Z own_EL s.vm h0 T2.vm T2.heap
    exact q
def Q1 (Z : State) (x0 : Int32) (x1 : Int32) (x2 : Int32) (cs : Int32) (h0 : Heap) (n0 : Nat) (v : Option Value) (h : Heap) (L : List Loc) : Prop := ∃ (b : Addr), v = some (.ref b) ∧ Fr n0 L ∧ Keep h0 h [] ∧ n0 ≤ b ∧ h0.size ≤ b ∧ own_Str Z h b (own_str x0 x1 x2) h.size
theorem ef_1 (m : MethodId) (x0 : Int32) (x1 : Int32) (x2 : Int32) : entryFrame m #[(.int x0), (.int x1), (.int x2)] 3 = mkF m 0 #[iv x0, iv x1, iv x2] [] := by first | (simp [entryFrame, mkF, argsToLocals, Value.category]; done) | rfl
set_option maxRecDepth 65536 in
set_option maxHeartbeats 40000000 in
theorem rm1 (l : Launch) (Z : State) (a0 : Array Value) (hw : ∀ d ∈ tables_1, d.before a0 Z = true) (ws : List Jvm.Cond) (x0 : Int32) (x1 : Int32) (x2 : Int32) (cs : Int32) (h0 : Heap) (n0 : Nat) (Z0 : n0 ≤ h0.size) (O0 : Old Z n0 h0) (pre_S_COMPACT_STRINGS : Sta Z Z.heap "java/lang/String" "COMPACT_STRINGS" "Z" (.int cs)) (hcs : ¬ (cs = (0 : Int32))) (hx1 : ¬ ((255 : Int32) < (nar .char x1))) (hx2 : ¬ ((255 : Int32) < (nar .char x2))) :
    MetFree l (⟨"com/example/wardflow/wardflow/model/PartySameParticipantPinLaw", "str", "(ICC)Ljava/lang/String;"⟩ : MethodName) (head1 (Jvm.Cond.code (⟨"com/example/wardflow/wardflow/model/PartySameParticipantPinLaw", "str", "(ICC)Ljava/lang/String;"⟩ : MethodName) method_2_code 3 (some (.object "java/lang/String")) :: ws) ({ frames := 4, cells := 6, slots := 12, locals := 66 } : Room)) (fun a U => a = #[(.int x0), (.int x1), (.int x2)] ∧ Z.Warmed39 U.vm ∧ U.heap = h0 ∧ CHv Z own_EL U.vm h0) (fun _ _ _ _ _ => True) (fun _ U o U' => ∃ v L, o = .returned v ∧ Q1 Z x0 x1 x2 cs h0 n0 v U'.heap L ∧ CHr Z own_EL U.vm U.heap U'.vm U'.heap ∧ ReturnedEndW U o U' L ({ frames := 4, cells := 6, slots := 12, locals := 66 } : Room).cells ({ frames := 4, cells := 6, slots := 12, locals := 66 } : Room).slots) := by
  refine MetFree.of_bodySF (plainFor_of_name pn_1) hisR ?_
  intro p e s m args below meth c s₁ Bd hml0 hP hK
  obtain ⟨rfl, hZ, hh, CH0⟩ := hP
  have hx := Bd.exec
  have hby := Bd.bytes
  have hml : c.maxLocals = 3 := hml0
  have hown : s.vm.findClass "com/example/wardflow/wardflow/model/PartySameParticipantPinLaw" = some m.cls := findClass_of_methodNamed Bd.named
  have hnm := (name_of_methodNamed Bd.named Bd.method).1
  have X0 : Stand p l e ({ frames := 4, cells := 6, slots := 12, locals := 66 } : Room) (s.setVm s.vm) m #[(.int x0), (.int x1), (.int x2)] below meth c s₁ [] 0 0 := Stand.of_body Bd
  have e0 : s₁.heap = h0 := by rw [← hh, Bd.state]; rfl
  have N0 := Fr.nil n0
  have Kp0 := Keep.refl h0 []
  have hS0 : s.Since s.vm 0 := (State.WarmedH.refl s).since 0
  have hk0 : 0 ≤ h0.size := Nat.zero_le _
  replace hZ : Z.Warmed39 (s.setVm s.vm).vm := hZ
  replace hown : (s.setVm s.vm).vm.findClass "com/example/wardflow/wardflow/model/PartySameParticipantPinLaw" = some m.cls := hown
  have CR0 := CHr.refl CH0
  have hEW := own_EW hw
  have P0 : ∀ t, Steps p.tables e below (s₁.setTop (mkF m 0 #[iv x0, iv x1, iv x2] [])) t → Steps p.tables e below (s₁.setTop (entryFrame m #[(.int x0), (.int x1), (.int x2)] 3)) t := fun t k => castTop (ef_1 m x0 x1 x2) k
  have P2 := own_go P0 (S' := s₁.setTop (mkF m 1 #[iv x0, iv x1, iv x2] [(.int x0)])) (by
    intro t k
    refine XS.iloadN X0.here hx rfl (hb hby d1_0) rfl ?_
    exact k)
  by_cases hc1_1 : x0 = (0 : Int32)
  · obtain ⟨T3, h3, X3, e3, E3, A3, D3, -, st3⟩ := newO X0 hx hZ hown (hw _ (im 4 rfl)) (hw _ (im 5 rfl)) (hw _ (im 6 rfl)) e0 (g := (mkF m 4 #[iv x0, iv x1, iv x2] [])) rfl (hb hby d1_4) (by decide) (by decide)
    obtain ⟨b3, g3⟩ : ∃ z, z = h0.size := ⟨_, rfl⟩
    rw [← g3] at A3 D3 st3
    have ge_b3 : n0 ≤ b3 := Nat.le_trans Z0 (Nat.le_of_eq g3.symm)
    have sz_b3 : h0.size ≤ b3 := Nat.le_trans Kp0.1 (Nat.le_of_eq g3.symm)
    have Z3_ : n0 ≤ h3.size := Nat.le_trans Z0 E3.1
    have hk3_ := Nat.le_trans hk0 E3.1
    have CH3 := CHv.ext E3 CH0
    have CR3 := CR0.trans (CHr.ext E3 CH0)
    have O3_ := O0.ext E3
    have KK3 := Kp0.ext E3
    have F3_value : Fld Z h3 b3 "java/lang/String" "value" "[B" .null := D3 (Or.inr (hw _ (im 20 rfl))) (ty := (.array .byte)) (by decide)
    have F3_coder : Fld Z h3 b3 "java/lang/String" "coder" "B" (.int 0) := D3 (Or.inr (hw _ (im 21 rfl))) (ty := .byte) (by decide)
    obtain ⟨T4, h4, k4, X4, e4, E4, A4, st4⟩ := newP X3 hx hZ (hw _ (im 7 rfl)) e3 (g := (mkF m 9 #[iv x0, iv x1, iv x2] [(.int 0), (.ref b3), (.ref b3)])) rfl (hb hby d1_9) rfl (by decide) (cap := 0) (by decide) (by decide) (by decide) (by decide)
    obtain ⟨b4, g4⟩ : ∃ z, z = h3.size := ⟨_, rfl⟩
    rw [← g4] at A4 st4
    have ge_b4 : n0 ≤ b4 := Nat.le_trans Z3_ (Nat.le_of_eq g4.symm)
    have sz_b4 : h0.size ≤ b4 := Nat.le_trans KK3.1 (Nat.le_of_eq g4.symm)
    have Z4_ : n0 ≤ h4.size := Nat.le_trans Z3_ E4.1
    have hk4_ := Nat.le_trans hk3_ E4.1
    have CH4 := CHv.ext E4 CH3
    have CR4 := CR3.trans (CHr.ext E4 CH3)
    have O4_ := O3_.ext E4
    have KK4 := KK3.ext E4
    have V4 : Arv Z h4 b4 k4 .char (0 : Int32) [] (.int 0) := (Arv.new A4 (by decide)).pad (pad_rep [] (.int 0) 0)
    have q5 := (A3.ext E4)
    have q6 := (F3_value.ext E4)
    have q7 := (F3_coder.ext E4)
    obtain ⟨_, _, ⟨T8, L8, k8, n8⟩, -, X8, hS8, hg8, ⟨Lc8, hQ8, l8, y8, z8, cr8⟩, st8⟩ := X4.specialBackS hx (y := (⟨"java/lang/String", "<init>", "([C)V"⟩ : MethodName)) rfl hown (mvT hZ (hw _ (im 8 rfl))) (mvT hZ (hw _ (im 9 rfl))) (mvT hZ (hw _ (im 10 rfl))) (by decide) (backOfSH (W := 1) (rmi1s0 l Z a0 hw [] b3 b4 k4 h4 n0 Z4_ q5 q6 q7 ge_b3 V4) hZ (hw _ (im 10 rfl)) (hw _ (im 6 rfl)) (by decide) (by decide) hEW CH4) (g := (mkF m 11 #[iv x0, iv x1, iv x2] [(.ref b4), (.ref b3), (.ref b3)])) rfl (by rw [hml]; rfl) (Steps.refl _) (a := b3) (argsL := [(.ref b4)]) (rest := [(.ref b3)]) (lenOf pd_4 rfl) rfl (by show 2 * 0 + _ ≤ _; exact Nat.le_of_eq rfl) (hb hby d1_11) (fun _ _ => ⟨rfl, e4, (by decide : 2 + 4 ≤ _), (by decide : 4 + 8 ≤ _)⟩)
    dsimp only [Pt.U, Pt.locs, Pt.cells, Pt.slots] at X8 l8 y8 z8 st8 hQ8 hS8 hg8 cr8
    subst l8 y8 z8
    obtain ⟨X8, hS8, hZ8, hown8⟩ := rebS hS0 (by rw [e4]; exact hk4_) X8 hS8 hg8 hZ hown
    obtain ⟨b_8, kb_8, rfl, N8q, K8, r8_0, r8_1, r8_2, r8_3⟩ := hQ8
    have N8 := Fr.app N0 N8q
    have Z8_ : n0 ≤ T8.heap.size := Nat.le_trans Z4_ K8.1
    have hk8_ := Nat.le_trans hk4_ K8.1
    have CH8 := cr8.1
    have CR8 := CR4.trans cr8
    have O8_ := O4_.keep K8 (allS ge_b3 all0)
    have hk8w : T8.heap.size ≤ T8.heap.size := Nat.le_refl _
    have KK8 := KK4.trans K8 (allS (Or.inr sz_b3) all0)
    have P9 := own_go P2 (S' := T8.setTop (mkF m 14 #[iv x0, iv x1, iv x2] [(.ref b3)])) (by
      intro t k
      refine XS.ifNo X0.here hx rfl (hb hby d1_1) rfl ((if0 _ _).trans (teq hc1_1).2) ?_
      refine st3 _ ?_
      refine XS.dup X3.here hx rfl (hb hby d1_7) rfl rfl ?_
      refine XS.iconst X3.here hx rfl (hb hby d1_8) ?_
      refine st4 _ ?_
      refine st8.trans ?_
      exact k)
    obtain ⟨fs, hr, hrun, hended, hend⟩ := X8.leaveW hS8 (hk8w) (v := some (.ref b3)) (fun h => by rw [Bd.returns] at h; cases h)
    refine ⟨_, _, P9 _ ?_, hrun, hended, _, _, rfl, ?_, ?_, hend.1, hend.2.1, hend.2.2.1, hend.2.2.2.mono (by decide) (by decide)⟩
    · show Steps p.tables e below (T8.setTop (mkF m 14 #[iv x0, iv x1, iv x2] [(.ref b3)])) _
      exact retOut X8 hx (t := (.object "java/lang/String")) Bd.returns rfl (Or.inr (Or.inr (Or.inr (Or.inr ⟨rfl, rfl, rfl⟩)))) (hb hby d1_14) hr
    · show Q1 Z x0 x1 x2 cs h0 n0 _ T8.heap _
      exact ⟨b3, rfl, N8, KK8, ge_b3, sz_b3, (by rw [show own_str x0 x1 x2 = [] from by simp [own_str, hc1_1]]; exact ⟨b_8, kb_8, r8_0, r8_2, r8_1, r8_3, Nat.le_of_ble_eq_true rfl, r8_0.lt, r8_3.lt⟩)⟩
    · have q := CR8.trans (CHv.at X8 hZ8 hEW CH8)
      rw [hh]
      show CHr Z own_EL s.vm h0 T8.vm T8.heap
      exact q
  · have P11 := own_go P2 (S' := s₁.setTop (mkF m 17 #[iv x0, iv x1, iv x2] [(.int 1), (.int x0)])) (by
      intro t k
      refine XS.ifYes X0.here hx rfl (pc0 := 1) (pc' := 15) rfl (hb hby d1_1) rfl ((if0 _ _).trans (feq hc1_1).2) (by decide) (by decide) ?_
      refine XS.iloadN X0.here hx rfl (hb hby d1_15) rfl ?_
      refine XS.iconst X0.here hx rfl (hb hby d1_16) ?_
      exact k)
    by_cases hc17_10 : x0 = (1 : Int32)
    · obtain ⟨T12, h12, X12, e12, E12, A12, D12, -, st12⟩ := newO X0 hx hZ hown (hw _ (im 4 rfl)) (hw _ (im 5 rfl)) (hw _ (im 6 rfl)) e0 (g := (mkF m 20 #[iv x0, iv x1, iv x2] [])) rfl (hb hby d1_20) (by decide) (by decide)
      obtain ⟨b12, g12⟩ : ∃ z, z = h0.size := ⟨_, rfl⟩
      rw [← g12] at A12 D12 st12
      have ge_b12 : n0 ≤ b12 := Nat.le_trans Z0 (Nat.le_of_eq g12.symm)
      have sz_b12 : h0.size ≤ b12 := Nat.le_trans Kp0.1 (Nat.le_of_eq g12.symm)
      have Z12_ : n0 ≤ h12.size := Nat.le_trans Z0 E12.1
      have hk12_ := Nat.le_trans hk0 E12.1
      have CH12 := CHv.ext E12 CH0
      have CR12 := CR0.trans (CHr.ext E12 CH0)
      have O12_ := O0.ext E12
      have KK12 := Kp0.ext E12
      have F12_value : Fld Z h12 b12 "java/lang/String" "value" "[B" .null := D12 (Or.inr (hw _ (im 20 rfl))) (ty := (.array .byte)) (by decide)
      have F12_coder : Fld Z h12 b12 "java/lang/String" "coder" "B" (.int 0) := D12 (Or.inr (hw _ (im 21 rfl))) (ty := .byte) (by decide)
      obtain ⟨T13, h13, k13, X13, e13, E13, A13, st13⟩ := newP X12 hx hZ (hw _ (im 7 rfl)) e12 (g := (mkF m 25 #[iv x0, iv x1, iv x2] [(.int 1), (.ref b12), (.ref b12)])) rfl (hb hby d1_25) rfl (by decide) (cap := 1) (by decide) (by decide) (by decide) (by decide)
      obtain ⟨b13, g13⟩ : ∃ z, z = h12.size := ⟨_, rfl⟩
      rw [← g13] at A13 st13
      have ge_b13 : n0 ≤ b13 := Nat.le_trans Z12_ (Nat.le_of_eq g13.symm)
      have sz_b13 : h0.size ≤ b13 := Nat.le_trans KK12.1 (Nat.le_of_eq g13.symm)
      have Z13_ : n0 ≤ h13.size := Nat.le_trans Z12_ E13.1
      have hk13_ := Nat.le_trans hk12_ E13.1
      have CH13 := CHv.ext E13 CH12
      have CR13 := CR12.trans (CHr.ext E13 CH12)
      have O13_ := O12_.ext E13
      have KK13 := KK12.ext E13
      have V13 : Arv Z h13 b13 k13 .char (1 : Int32) [(.int 0)] (.int 0) := (Arv.new A13 (by decide)).pad (pad_rep [] (.int 0) 1)
      obtain ⟨cl14, Ar14, qa14, S14, Nn14, H14, G14⟩ := id V13
      have hin14 : ¬ ((0 : Int32) < 0 ∨ cl14.slots.size ≤ ((0 : Int32)).toNatClampNeg) := inb_of S14 ⟨by decide, by decide⟩
      obtain ⟨T15, h15, X15, e15, W15, st15⟩ := stC X13 hx hZ e13 Ar14 (j := (0 : Int32)) hin14 (g := (mkF m 30 #[iv x0, iv x1, iv x2] [(.int x1), (.int 0), (.ref b13), (.ref b13), (.ref b12), (.ref b12)])) rfl rfl (hb hby d1_30)
      have Z15_ : n0 ≤ h15.size := Nat.le_trans Z13_ (Nat.le_of_eq W15.size.symm)
      have hk15_ := Nat.le_trans hk13_ (Nat.le_of_eq W15.size.symm)
      have CH15 := CHv.wr W15 (own_safe_arv hZ.alike V13 (by decide)) CH13
      have CR15 := CR13.trans (CHr.wr W15 (own_safe_arv hZ.alike V13 (by decide)) CH13)
      have O15_ := O13_.wr W15 ge_b13
      have N15 := Fr.snoc X15 N0 ge_b13
      have KK15 := KK13.wr W15 (Or.inr sz_b13)
      have V15 : Arv Z h15 b13 k13 .char (1 : Int32) [(.int (nar .char x1))] (.int 0) := Arv.set Ar14 qa14 S14 Nn14 H14 G14 (by first | exact fits_nar_char _ | decide | rfl) W15 0 rfl (Nat.le_of_ble_eq_true rfl)
      have q16 := ((A12.ext E13).wr W15)
      have ne17 : b12 ≠ b13 := Nat.ne_of_lt (Nat.lt_of_lt_of_le A12.lt (Nat.le_of_eq g13.symm))
      have q18 := ((F12_value.ext E13).other W15 (Or.inl ne17))
      have q19 := ((F12_coder.ext E13).other W15 (Or.inl ne17))
      have sf20 : Safe Z own_EL s.vm h15 b12 := own_safe_null hZ.alike q16 q18
      obtain ⟨_, _, ⟨T21, L21, k21, n21⟩, -, X21, ⟨Lc21, hQ21, l21, y21, z21⟩, st21⟩ := X15.specialBack hx (y := (⟨"java/lang/String", "<init>", "([C)V"⟩ : MethodName)) rfl hown (mvT hZ (hw _ (im 8 rfl))) (mvT hZ (hw _ (im 9 rfl))) (mvT hZ (hw _ (im 10 rfl))) (by decide) (backOf (W := 1) (rmi1s1 l Z a0 hw [] b12 b13 cs k13 (nar .char x1) h15 n0 Z15_ O15_ pre_S_COMPACT_STRINGS (hcs) q16 q18 q19 ge_b12 V15 ne17 (hx1)) hZ (hw _ (im 10 rfl)) (hw _ (im 6 rfl)) (by decide) (by decide)) (g := (mkF m 31 #[iv x0, iv x1, iv x2] [(.ref b13), (.ref b12), (.ref b12)])) rfl (by rw [hml]; rfl) (Steps.refl _) (a := b12) (argsL := [(.ref b13)]) (rest := [(.ref b12)]) (lenOf pd_4 rfl) rfl (by show 2 * 0 + _ ≤ _; exact Nat.le_of_eq rfl) (hb hby d1_31) (fun _ _ => ⟨rfl, e15, (by decide : 2 + 1 ≤ _), (by decide : 5 + 1 ≤ _)⟩)
      dsimp only [Pt.U, Pt.locs, Pt.cells, Pt.slots] at X21 l21 y21 z21 st21 hQ21
      subst l21 y21 z21
      obtain ⟨b_21, kb_21, rfl, N21q, K21, r21_0, r21_1, r21_2, r21_3, r21_4, r21_5⟩ := hQ21
      have N21 := Fr.app N15 N21q
      have Z21_ : n0 ≤ T21.heap.size := Nat.le_trans Z15_ K21.1
      have hk21_ := Nat.le_trans hk15_ K21.1
      have CH21 := CHv.keep K21 (allS sf20 all0) CH15
      have CR21 := CR15.trans (CHr.keep K21 (allS sf20 all0) CH15)
      have sf22 := Safe.keep K21 (allS sf20 all0) CH15 sf20
      have O21_ := O15_.keep K21 (allS ge_b12 all0)
      have KK21 := KK15.trans K21 (allS (Or.inr sz_b12) all0)
      have szz_b_21 : h0.size ≤ b_21 := Nat.le_trans KK15.1 r21_5
      have P23 := own_go P11 (S' := T21.setTop (mkF m 34 #[iv x0, iv x1, iv x2] [(.ref b12)])) (by
        intro t k
        refine XS.icmpNo X0.here hx rfl (hb hby d1_17) rfl (teq hc17_10).2 ?_
        refine st12 _ ?_
        refine XS.dup X12.here hx rfl (hb hby d1_23) rfl rfl ?_
        refine XS.iconst X12.here hx rfl (hb hby d1_24) ?_
        refine st13 _ ?_
        refine XS.dup X13.here hx rfl (hb hby d1_27) rfl rfl ?_
        refine XS.iconst X13.here hx rfl (hb hby d1_28) ?_
        refine XS.iloadN X13.here hx rfl (hb hby d1_29) rfl ?_
        show Steps p.tables e below (T13.setTop (mkF m 30 #[iv x0, iv x1, iv x2] [(.int x1), (.int 0), (.ref b13), (.ref b13), (.ref b12), (.ref b12)])) _
        refine st15 _ ?_
        refine st21.trans ?_
        exact k)
      obtain ⟨fs, hr, hrun, hended, hend⟩ := X21.leaveW hS0 (hk21_) (v := some (.ref b12)) (fun h => by rw [Bd.returns] at h; cases h)
      refine ⟨_, _, P23 _ ?_, hrun, hended, _, _, rfl, ?_, ?_, hend.1, hend.2.1, hend.2.2.1, hend.2.2.2.mono (by decide) (by decide)⟩
      · show Steps p.tables e below (T21.setTop (mkF m 34 #[iv x0, iv x1, iv x2] [(.ref b12)])) _
        exact retOut X21 hx (t := (.object "java/lang/String")) Bd.returns rfl (Or.inr (Or.inr (Or.inr (Or.inr ⟨rfl, rfl, rfl⟩)))) (hb hby d1_34) hr
      · show Q1 Z x0 x1 x2 cs h0 n0 _ T21.heap _
        exact ⟨b12, rfl, N21, KK21, ge_b12, sz_b12, (by rw [show own_str x0 x1 x2 = [(nar .byte ((nar .char x1).toInt8.toInt32))] from by simp [own_str, hc1_1, hc17_10]]; exact ⟨b_21, kb_21, r21_0, r21_2, r21_1, r21_3, Nat.le_of_ble_eq_true rfl, r21_0.lt, r21_3.lt⟩)⟩
      · have q := CR21.trans (CHv.at X21 hZ hEW CH21)
        rw [hh]
        show CHr Z own_EL s.vm h0 T21.vm T21.heap
        exact q
    · obtain ⟨T24, h24, X24, e24, E24, A24, D24, -, st24⟩ := newO X0 hx hZ hown (hw _ (im 4 rfl)) (hw _ (im 5 rfl)) (hw _ (im 6 rfl)) e0 (g := (mkF m 35 #[iv x0, iv x1, iv x2] [])) rfl (hb hby d1_35) (by decide) (by decide)
      obtain ⟨b24, g24⟩ : ∃ z, z = h0.size := ⟨_, rfl⟩
      rw [← g24] at A24 D24 st24
      have ge_b24 : n0 ≤ b24 := Nat.le_trans Z0 (Nat.le_of_eq g24.symm)
      have sz_b24 : h0.size ≤ b24 := Nat.le_trans Kp0.1 (Nat.le_of_eq g24.symm)
      have Z24_ : n0 ≤ h24.size := Nat.le_trans Z0 E24.1
      have hk24_ := Nat.le_trans hk0 E24.1
      have CH24 := CHv.ext E24 CH0
      have CR24 := CR0.trans (CHr.ext E24 CH0)
      have O24_ := O0.ext E24
      have KK24 := Kp0.ext E24
      have F24_value : Fld Z h24 b24 "java/lang/String" "value" "[B" .null := D24 (Or.inr (hw _ (im 20 rfl))) (ty := (.array .byte)) (by decide)
      have F24_coder : Fld Z h24 b24 "java/lang/String" "coder" "B" (.int 0) := D24 (Or.inr (hw _ (im 21 rfl))) (ty := .byte) (by decide)
      obtain ⟨T25, h25, k25, X25, e25, E25, A25, st25⟩ := newP X24 hx hZ (hw _ (im 7 rfl)) e24 (g := (mkF m 40 #[iv x0, iv x1, iv x2] [(.int 2), (.ref b24), (.ref b24)])) rfl (hb hby d1_40) rfl (by decide) (cap := 2) (by decide) (by decide) (by decide) (by decide)
      obtain ⟨b25, g25⟩ : ∃ z, z = h24.size := ⟨_, rfl⟩
      rw [← g25] at A25 st25
      have ge_b25 : n0 ≤ b25 := Nat.le_trans Z24_ (Nat.le_of_eq g25.symm)
      have sz_b25 : h0.size ≤ b25 := Nat.le_trans KK24.1 (Nat.le_of_eq g25.symm)
      have Z25_ : n0 ≤ h25.size := Nat.le_trans Z24_ E25.1
      have hk25_ := Nat.le_trans hk24_ E25.1
      have CH25 := CHv.ext E25 CH24
      have CR25 := CR24.trans (CHr.ext E25 CH24)
      have O25_ := O24_.ext E25
      have KK25 := KK24.ext E25
      have V25 : Arv Z h25 b25 k25 .char (2 : Int32) [(.int 0), (.int 0)] (.int 0) := (Arv.new A25 (by decide)).pad (pad_rep [] (.int 0) 2)
      obtain ⟨cl26, Ar26, qa26, S26, Nn26, H26, G26⟩ := id V25
      have hin26 : ¬ ((0 : Int32) < 0 ∨ cl26.slots.size ≤ ((0 : Int32)).toNatClampNeg) := inb_of S26 ⟨by decide, by decide⟩
      obtain ⟨T27, h27, X27, e27, W27, st27⟩ := stC X25 hx hZ e25 Ar26 (j := (0 : Int32)) hin26 (g := (mkF m 45 #[iv x0, iv x1, iv x2] [(.int x1), (.int 0), (.ref b25), (.ref b25), (.ref b24), (.ref b24)])) rfl rfl (hb hby d1_45)
      have Z27_ : n0 ≤ h27.size := Nat.le_trans Z25_ (Nat.le_of_eq W27.size.symm)
      have hk27_ := Nat.le_trans hk25_ (Nat.le_of_eq W27.size.symm)
      have CH27 := CHv.wr W27 (own_safe_arv hZ.alike V25 (by decide)) CH25
      have CR27 := CR25.trans (CHr.wr W27 (own_safe_arv hZ.alike V25 (by decide)) CH25)
      have O27_ := O25_.wr W27 ge_b25
      have N27 := Fr.snoc X27 N0 ge_b25
      have KK27 := KK25.wr W27 (Or.inr sz_b25)
      have V27 : Arv Z h27 b25 k25 .char (2 : Int32) [(.int (nar .char x1)), (.int 0)] (.int 0) := Arv.set Ar26 qa26 S26 Nn26 H26 G26 (by first | exact fits_nar_char _ | decide | rfl) W27 0 rfl (Nat.le_of_ble_eq_true rfl)
      obtain ⟨cl28, Ar28, qa28, S28, Nn28, H28, G28⟩ := id V27
      have hin28 : ¬ ((1 : Int32) < 0 ∨ cl28.slots.size ≤ ((1 : Int32)).toNatClampNeg) := inb_of S28 ⟨by decide, by decide⟩
      obtain ⟨T29, h29, X29, e29, W29, st29⟩ := stC X27 hx hZ e27 Ar28 (j := (1 : Int32)) hin28 (g := (mkF m 49 #[iv x0, iv x1, iv x2] [(.int x2), (.int 1), (.ref b25), (.ref b25), (.ref b24), (.ref b24)])) rfl rfl (hb hby d1_49)
      have Z29_ : n0 ≤ h29.size := Nat.le_trans Z27_ (Nat.le_of_eq W29.size.symm)
      have hk29_ := Nat.le_trans hk27_ (Nat.le_of_eq W29.size.symm)
      have CH29 := CHv.wr W29 (own_safe_arv hZ.alike V27 (by decide)) CH27
      have CR29 := CR27.trans (CHr.wr W29 (own_safe_arv hZ.alike V27 (by decide)) CH27)
      have O29_ := O27_.wr W29 ge_b25
      have N29 := Fr.snoc X29 N27 ge_b25
      have KK29 := KK27.wr W29 (Or.inr sz_b25)
      have V29 : Arv Z h29 b25 k25 .char (2 : Int32) [(.int (nar .char x1)), (.int (nar .char x2))] (.int 0) := Arv.set Ar28 qa28 S28 Nn28 H28 G28 (by first | exact fits_nar_char _ | decide | rfl) W29 1 rfl (Nat.le_of_ble_eq_true rfl)
      have q30 := (((A24.ext E25).wr W27).wr W29)
      have ne31 : b24 ≠ b25 := Nat.ne_of_lt (Nat.lt_of_lt_of_le A24.lt (Nat.le_of_eq g25.symm))
      have q32 := (((F24_value.ext E25).other W27 (Or.inl ne31)).other W29 (Or.inl ne31))
      have q33 := (((F24_coder.ext E25).other W27 (Or.inl ne31)).other W29 (Or.inl ne31))
      have sf34 : Safe Z own_EL s.vm h29 b24 := own_safe_null hZ.alike q30 q32
      obtain ⟨_, _, ⟨T35, L35, k35, n35⟩, -, X35, ⟨Lc35, hQ35, l35, y35, z35⟩, st35⟩ := X29.specialBack hx (y := (⟨"java/lang/String", "<init>", "([C)V"⟩ : MethodName)) rfl hown (mvT hZ (hw _ (im 8 rfl))) (mvT hZ (hw _ (im 9 rfl))) (mvT hZ (hw _ (im 10 rfl))) (by decide) (backOf (W := 1) (rmi1s2 l Z a0 hw [] b24 b25 cs k25 (nar .char x1) (nar .char x2) h29 n0 Z29_ O29_ pre_S_COMPACT_STRINGS (hcs) q30 q32 q33 ge_b24 V29 ne31 (hx1) (hx2)) hZ (hw _ (im 10 rfl)) (hw _ (im 6 rfl)) (by decide) (by decide)) (g := (mkF m 50 #[iv x0, iv x1, iv x2] [(.ref b25), (.ref b24), (.ref b24)])) rfl (by rw [hml]; rfl) (Steps.refl _) (a := b24) (argsL := [(.ref b25)]) (rest := [(.ref b24)]) (lenOf pd_4 rfl) rfl (by show 2 * 0 + _ ≤ _; exact Nat.le_of_eq rfl) (hb hby d1_50) (fun _ _ => ⟨rfl, e29, (by decide : 2 + 1 ≤ _), (by decide : 6 + 2 ≤ _)⟩)
      dsimp only [Pt.U, Pt.locs, Pt.cells, Pt.slots] at X35 l35 y35 z35 st35 hQ35
      subst l35 y35 z35
      obtain ⟨b_35, kb_35, rfl, N35q, K35, r35_0, r35_1, r35_2, r35_3, r35_4, r35_5⟩ := hQ35
      have N35 := Fr.app N29 N35q
      have Z35_ : n0 ≤ T35.heap.size := Nat.le_trans Z29_ K35.1
      have hk35_ := Nat.le_trans hk29_ K35.1
      have CH35 := CHv.keep K35 (allS sf34 all0) CH29
      have CR35 := CR29.trans (CHr.keep K35 (allS sf34 all0) CH29)
      have sf36 := Safe.keep K35 (allS sf34 all0) CH29 sf34
      have O35_ := O29_.keep K35 (allS ge_b24 all0)
      have KK35 := KK29.trans K35 (allS (Or.inr sz_b24) all0)
      have szz_b_35 : h0.size ≤ b_35 := Nat.le_trans KK29.1 r35_5
      have P37 := own_go P11 (S' := T35.setTop (mkF m 53 #[iv x0, iv x1, iv x2] [(.ref b24)])) (by
        intro t k
        refine XS.icmpYes X0.here hx rfl (pc0 := 17) (pc' := 35) rfl (hb hby d1_17) rfl (feq hc17_10).2 (by decide) (by decide) ?_
        refine st24 _ ?_
        refine XS.dup X24.here hx rfl (hb hby d1_38) rfl rfl ?_
        refine XS.iconst X24.here hx rfl (hb hby d1_39) ?_
        refine st25 _ ?_
        refine XS.dup X25.here hx rfl (hb hby d1_42) rfl rfl ?_
        refine XS.iconst X25.here hx rfl (hb hby d1_43) ?_
        refine XS.iloadN X25.here hx rfl (hb hby d1_44) rfl ?_
        show Steps p.tables e below (T25.setTop (mkF m 45 #[iv x0, iv x1, iv x2] [(.int x1), (.int 0), (.ref b25), (.ref b25), (.ref b24), (.ref b24)])) _
        refine st27 _ ?_
        refine XS.dup X27.here hx rfl (hb hby d1_46) rfl rfl ?_
        refine XS.iconst X27.here hx rfl (hb hby d1_47) ?_
        refine XS.iloadN X27.here hx rfl (hb hby d1_48) rfl ?_
        refine st29 _ ?_
        refine st35.trans ?_
        exact k)
      obtain ⟨fs, hr, hrun, hended, hend⟩ := X35.leaveW hS0 (hk35_) (v := some (.ref b24)) (fun h => by rw [Bd.returns] at h; cases h)
      refine ⟨_, _, P37 _ ?_, hrun, hended, _, _, rfl, ?_, ?_, hend.1, hend.2.1, hend.2.2.1, hend.2.2.2.mono (by decide) (by decide)⟩
      · show Steps p.tables e below (T35.setTop (mkF m 53 #[iv x0, iv x1, iv x2] [(.ref b24)])) _
        exact retOut X35 hx (t := (.object "java/lang/String")) Bd.returns rfl (Or.inr (Or.inr (Or.inr (Or.inr ⟨rfl, rfl, rfl⟩)))) (hb hby d1_53) hr
      · show Q1 Z x0 x1 x2 cs h0 n0 _ T35.heap _
        exact ⟨b24, rfl, N35, KK35, ge_b24, sz_b24, (by rw [show own_str x0 x1 x2 = [(nar .byte ((nar .char x1).toInt8.toInt32)), (nar .byte ((nar .char x2).toInt8.toInt32))] from by simp [own_str, hc1_1, hc17_10]]; exact ⟨b_35, kb_35, r35_0, r35_2, r35_1, r35_3, Nat.le_of_ble_eq_true rfl, r35_0.lt, r35_3.lt⟩)⟩
      · have q := CR35.trans (CHv.at X35 hZ hEW CH35)
        rw [hh]
        show CHr Z own_EL s.vm h0 T35.vm T35.heap
        exact q
def Q6 (Z : State) (x0 : Addr) (h0 : Heap) (n0 : Nat) (v : Option Value) (h : Heap) (L : List Loc) : Prop := v = none ∧ Fr n0 L ∧ h = h0
theorem ef_6 (m : MethodId) (x0 : Addr) : entryFrame m #[(.ref x0)] 1 = mkF m 0 #[rv x0] [] := by first | (simp [entryFrame, mkF, argsToLocals, Value.category]; done) | rfl
set_option maxRecDepth 65536 in
set_option maxHeartbeats 40000000 in
theorem rm6 (l : Launch) (Z : State) (a0 : Array Value) (hw : ∀ d ∈ tables_1, d.before a0 Z = true) (ws : List Jvm.Cond) (x0 : Addr) (h0 : Heap) (n0 : Nat) (Z0 : n0 ≤ h0.size) :
    MetFree l (⟨"java/lang/Record", "<init>", "()V"⟩ : MethodName) (head1 (Jvm.Cond.code (⟨"java/lang/Record", "<init>", "()V"⟩ : MethodName) jdk_30_method_1_code 1 none :: ws) ({ frames := 1, cells := 0, slots := 0, locals := 12 } : Room)) (fun a U => a = #[(.ref x0)] ∧ Z.Warmed39 U.vm ∧ U.heap = h0) (fun _ _ _ _ _ => True) (fun _ U o U' => ∃ v L, o = .returned v ∧ Q6 Z x0 h0 n0 v U'.heap L ∧ FrameEnd U o U' L ({ frames := 1, cells := 0, slots := 0, locals := 12 } : Room).cells ({ frames := 1, cells := 0, slots := 0, locals := 12 } : Room).slots) := by
  refine MetFree.of_bodySF (plainFor_of_name pn_6) hisR ?_
  intro p e s m args below meth c s₁ Bd hml0 hP hK
  obtain ⟨rfl, hZ, hh⟩ := hP
  have hx := Bd.exec
  have hby := Bd.bytes
  have hml : c.maxLocals = 1 := hml0
  have hown : s.vm.findClass "java/lang/Record" = some m.cls := findClass_of_methodNamed Bd.named
  have hnm := (name_of_methodNamed Bd.named Bd.method).1
  have X0 : Stand p l e ({ frames := 1, cells := 0, slots := 0, locals := 12 } : Room) s m #[(.ref x0)] below meth c s₁ [] 0 0 := Stand.of_body Bd
  have e0 : s₁.heap = h0 := by rw [← hh, Bd.state]; rfl
  have N0 := Fr.nil n0
  have Kp0 := Keep.refl h0 []
  have P0 : ∀ t, Steps p.tables e below (s₁.setTop (mkF m 0 #[rv x0] [])) t → Steps p.tables e below (s₁.setTop (entryFrame m #[(.ref x0)] 1)) t := fun t k => castTop (ef_6 m x0) k
  obtain ⟨T1, X1, e1, st1⟩ := initO X0 hx hZ hown (hw _ (im 37 rfl)) (hw _ (im 16 rfl)) (hw _ (im 17 rfl)) e0 (g := (mkF m 1 #[rv x0] [(.ref x0)])) rfl (by rw [hml]; rfl) rfl (hb hby d6_1) (by decide) (W := 0) (by show 2 * 0 + _ ≤ _; exact Nat.le_of_eq rfl) (by decide)
  have P2 := own_go P0 (S' := T1.setTop (mkF m 4 #[rv x0] [])) (by
    intro t k
    refine XS.aloadN X0.here hx rfl (hb hby d6_0) rfl rfl ?_
    refine st1 _ ?_
    exact k)
  obtain ⟨fs, hr, hrun, hended, hW, hsame⟩ := X1.leave (v := none) (fun _ => rfl)
  refine ⟨_, _, P2 _ ?_, hrun, hended, _, _, rfl, ?_, ⟨_, rfl⟩, hW, hsame.mono (by decide) (by decide)⟩
  · show Steps p.tables e below (T1.setTop (mkF m 4 #[rv x0] [])) _
    exact X1.returnOut hx Bd.returns (hb hby d6_4) hr
  · show Q6 Z x0 h0 n0 _ T1.heap _
    rw [e1]
    exact ⟨rfl, N0, rfl⟩
def Q5 (Z : State) (x0 : Addr) (x1 : Addr) (x2 : Addr) (h0 : Heap) (n0 : Nat) (v : Option Value) (h : Heap) (L : List Loc) : Prop := v = none ∧ Fr n0 L ∧ Keep h0 h [x0] ∧ Exa Z h x0 "com/example/wardflow/wardflow/model/Party" ∧ Fld Z h x0 "com/example/wardflow/wardflow/model/Party" "participant" "Ljava/lang/String;" (.ref x1)
theorem ef_5 (m : MethodId) (x0 : Addr) (x1 : Addr) (x2 : Addr) : entryFrame m #[(.ref x0), (.ref x1), (.ref x2)] 3 = mkF m 0 #[rv x0, rv x1, rv x2] [] := by first | (simp [entryFrame, mkF, argsToLocals, Value.category]; done) | rfl
set_option maxRecDepth 65536 in
set_option maxHeartbeats 40000000 in
theorem rm5 (l : Launch) (Z : State) (a0 : Array Value) (hw : ∀ d ∈ tables_1, d.before a0 Z = true) (ws : List Jvm.Cond) (x0 : Addr) (x1 : Addr) (x2 : Addr) (h0 : Heap) (n0 : Nat) (Z0 : n0 ≤ h0.size) (pre_E_x0 : Exa Z h0 x0 "com/example/wardflow/wardflow/model/Party") (pre_F_x0_participant : Fld Z h0 x0 "com/example/wardflow/wardflow/model/Party" "participant" "Ljava/lang/String;" .null) (pre_F_x0_role : Fld Z h0 x0 "com/example/wardflow/wardflow/model/Party" "role" "Ljava/lang/String;" .null) (g_x0 : n0 ≤ x0) :
    MetFree l (⟨"com/example/wardflow/wardflow/model/Party", "<init>", "(Ljava/lang/String;Ljava/lang/String;)V"⟩ : MethodName) (head1 (Jvm.Cond.code (⟨"com/example/wardflow/wardflow/model/Party", "<init>", "(Ljava/lang/String;Ljava/lang/String;)V"⟩ : MethodName) prog_87_method_1_code 3 none :: ws) ({ frames := 2, cells := 0, slots := 0, locals := 24 } : Room)) (fun a U => a = #[(.ref x0), (.ref x1), (.ref x2)] ∧ Z.Warmed39 U.vm ∧ U.heap = h0) (fun _ _ _ _ _ => True) (fun _ U o U' => ∃ v L, o = .returned v ∧ Q5 Z x0 x1 x2 h0 n0 v U'.heap L ∧ FrameEnd U o U' L ({ frames := 2, cells := 0, slots := 0, locals := 24 } : Room).cells ({ frames := 2, cells := 0, slots := 0, locals := 24 } : Room).slots) := by
  refine MetFree.of_bodySF (plainFor_of_name pn_5) hisR ?_
  intro p e s m args below meth c s₁ Bd hml0 hP hK
  obtain ⟨rfl, hZ, hh⟩ := hP
  have hx := Bd.exec
  have hby := Bd.bytes
  have hml : c.maxLocals = 3 := hml0
  have hown : s.vm.findClass "com/example/wardflow/wardflow/model/Party" = some m.cls := findClass_of_methodNamed Bd.named
  have hnm := (name_of_methodNamed Bd.named Bd.method).1
  have X0 : Stand p l e ({ frames := 2, cells := 0, slots := 0, locals := 24 } : Room) s m #[(.ref x0), (.ref x1), (.ref x2)] below meth c s₁ [] 0 0 := Stand.of_body Bd
  have e0 : s₁.heap = h0 := by rw [← hh, Bd.state]; rfl
  have N0 := Fr.nil n0
  have Kp0 := Keep.refl h0 [x0]
  have P0 : ∀ t, Steps p.tables e below (s₁.setTop (mkF m 0 #[rv x0, rv x1, rv x2] [])) t → Steps p.tables e below (s₁.setTop (entryFrame m #[(.ref x0), (.ref x1), (.ref x2)] 3)) t := fun t k => castTop (ef_5 m x0 x1 x2) k
  obtain ⟨_, _, ⟨T1, L1, k1, n1⟩, -, X1, ⟨Lc1, hQ1, l1, y1, z1⟩, st1⟩ := X0.specialBack hx (y := (⟨"java/lang/Record", "<init>", "()V"⟩ : MethodName)) rfl hown (mvT hZ (hw _ (im 32 rfl))) (mvT hZ (hw _ (im 33 rfl))) (mvT hZ (hw _ (im 36 rfl))) (by decide) (backOf (W := 0) (rm6 l Z a0 hw [] x0 h0 n0 Z0 ) hZ (hw _ (im 36 rfl)) (hw _ (im 35 rfl)) (by decide) (by decide)) (g := (mkF m 1 #[rv x0, rv x1, rv x2] [(.ref x0)])) rfl (by rw [hml]; rfl) (Steps.refl _) (a := x0) (argsL := []) (rest := []) (lenOf pd_5 rfl) rfl (by show 2 * 0 + _ ≤ _; exact Nat.le_of_eq rfl) (hb hby d5_1) (fun _ _ => ⟨rfl, e0, (by decide : 0 + 0 ≤ _), (by decide : 0 + 0 ≤ _)⟩)
  dsimp only [Pt.U, Pt.locs, Pt.cells, Pt.slots] at X1 l1 y1 z1 st1 hQ1
  subst l1 y1 z1
  obtain ⟨rfl, N1q, e1⟩ := hQ1
  have N1 := Fr.app N0 N1q
  obtain ⟨T2, h2, X2, e2, W2, st2⟩ := putF X1 hx hZ hown (host := "") (Or.inl (hw _ (im 38 rfl))) Via.refl e1 pre_F_x0_participant pre_E_x0 (Or.inr ⟨(hw _ (im 39 rfl)), rfl, hnm⟩) (hw _ (im 27 rfl)) (ty := (.object "java/lang/String")) (by decide) rfl rfl (g := (mkF m 6 #[rv x0, rv x1, rv x2] [(.ref x1), (.ref x0)])) rfl rfl (hb hby d5_6)
  have Fw2 := pre_F_x0_participant.same W2
  have Z2_ : n0 ≤ h2.size := Nat.le_trans Z0 (Nat.le_of_eq W2.size.symm)
  have N2 := Fr.snoc X2 N1 g_x0
  have KK2 := Kp0.wr W2 (Or.inl (List.mem_of_getElem? (i := 0) rfl))
  have q3 := (pre_F_x0_role.other W2 (Or.inr (own_sn (la_2 hw) (la_3 hw))))
  have q4 := (pre_E_x0.wr W2)
  obtain ⟨T5, h5, X5, e5, W5, st5⟩ := putF X2 hx hZ hown (host := "") (Or.inl (hw _ (im 40 rfl))) Via.refl e2 q3 q4 (Or.inr ⟨(hw _ (im 41 rfl)), rfl, hnm⟩) (hw _ (im 27 rfl)) (ty := (.object "java/lang/String")) (by decide) rfl rfl (g := (mkF m 11 #[rv x0, rv x1, rv x2] [(.ref x2), (.ref x0)])) rfl rfl (hb hby d5_11)
  have Fw5 := q3.same W5
  have Z5_ : n0 ≤ h5.size := Nat.le_trans Z2_ (Nat.le_of_eq W5.size.symm)
  have N5 := Fr.snoc X5 N2 g_x0
  have KK5 := KK2.wr W5 (Or.inl (List.mem_of_getElem? (i := 0) rfl))
  have P6 := own_go P0 (S' := T5.setTop (mkF m 14 #[rv x0, rv x1, rv x2] [])) (by
    intro t k
    refine XS.aloadN X0.here hx rfl (hb hby d5_0) rfl rfl ?_
    refine st1.trans ?_
    refine XS.aloadN X1.here hx rfl (hb hby d5_4) rfl rfl ?_
    refine XS.aloadN X1.here hx rfl (hb hby d5_5) rfl rfl ?_
    refine st2 _ ?_
    refine XS.aloadN X2.here hx rfl (hb hby d5_9) rfl rfl ?_
    refine XS.aloadN X2.here hx rfl (hb hby d5_10) rfl rfl ?_
    refine st5 _ ?_
    show Steps p.tables e below (T5.setTop (mkF m 14 #[rv x0, rv x1, rv x2] [])) _
    exact k)
  have q7 := (q4.wr W5)
  have q8 := (Fw2.other W5 (Or.inr (own_sn (la_3 hw) (la_2 hw))))
  obtain ⟨fs, hr, hrun, hended, hW, hsame⟩ := X5.leave (v := none) (fun _ => rfl)
  refine ⟨_, _, P6 _ ?_, hrun, hended, _, _, rfl, ?_, ⟨_, rfl⟩, hW, hsame.mono (by decide) (by decide)⟩
  · show Steps p.tables e below (T5.setTop (mkF m 14 #[rv x0, rv x1, rv x2] [])) _
    exact X5.returnOut hx Bd.returns (hb hby d5_14) hr
  · show Q5 Z x0 x1 x2 h0 n0 _ T5.heap _
    rw [e5]
    exact ⟨rfl, N5, KK5, q7, q8⟩
def Qleq00 (Z : State) (x0 : Addr) (x1 : Addr) (ka : ClassId) (kb : ClassId) (h0 : Heap) (n0 : Nat) (v : Option Value) (h : Heap) (L : List Loc) : Prop := v = some (.int 1) ∧ Fr n0 L ∧ h = h0
theorem ef_leq00 (m : MethodId) (x0 : Addr) (x1 : Addr) : entryFrame m #[(.ref x0), (.ref x1)] 3 = mkF m 0 #[rv x0, rv x1, .unset] [] := by first | (simp [entryFrame, mkF, argsToLocals, Value.category]; done) | rfl
set_option maxRecDepth 65536 in
set_option maxHeartbeats 40000000 in
theorem rmleq00 (l : Launch) (Z : State) (a0 : Array Value) (hw : ∀ d ∈ tables_1, d.before a0 Z = true) (ws : List Jvm.Cond) (x0 : Addr) (x1 : Addr) (ka : ClassId) (kb : ClassId) (h0 : Heap) (n0 : Nat) (Z0 : n0 ≤ h0.size) (pre_A_x0 : Arv Z h0 x0 ka .byte (0 : Int32) [] (.int 0)) (pre_A_x1 : Arv Z h0 x1 kb .byte (0 : Int32) [] (.int 0)) :
    MetFree l (⟨"java/lang/StringLatin1", "equals", "([B[B)Z"⟩ : MethodName) (head1 (Jvm.Cond.code (⟨"java/lang/StringLatin1", "equals", "([B[B)Z"⟩ : MethodName) jdk_43_method_13_code 3 (some .boolean) :: ws) ({ frames := 0, cells := 0, slots := 0, locals := 0 } : Room)) (fun a U => a = #[(.ref x0), (.ref x1)] ∧ Z.Warmed39 U.vm ∧ U.heap = h0) (fun _ _ _ _ _ => True) (fun _ U o U' => ∃ v L, o = .returned v ∧ Qleq00 Z x0 x1 ka kb h0 n0 v U'.heap L ∧ FrameEnd U o U' L ({ frames := 0, cells := 0, slots := 0, locals := 0 } : Room).cells ({ frames := 0, cells := 0, slots := 0, locals := 0 } : Room).slots) := by
  refine MetFree.of_bodySF (plainFor_of_name pn_9) hisR ?_
  intro p e s m args below meth c s₁ Bd hml0 hP hK
  obtain ⟨rfl, hZ, hh⟩ := hP
  have hx := Bd.exec
  have hby := Bd.bytes
  have hml : c.maxLocals = 3 := hml0
  have hown : s.vm.findClass "java/lang/StringLatin1" = some m.cls := findClass_of_methodNamed Bd.named
  have hnm := (name_of_methodNamed Bd.named Bd.method).1
  have X0 : Stand p l e ({ frames := 0, cells := 0, slots := 0, locals := 0 } : Room) s m #[(.ref x0), (.ref x1)] below meth c s₁ [] 0 0 := Stand.of_body Bd
  have e0 : s₁.heap = h0 := by rw [← hh, Bd.state]; rfl
  have N0 := Fr.nil n0
  have Kp0 := Keep.refl h0 []
  have P0 : ∀ t, Steps p.tables e below (s₁.setTop (mkF m 0 #[rv x0, rv x1, .unset] [])) t → Steps p.tables e below (s₁.setTop (entryFrame m #[(.ref x0), (.ref x1)] 3)) t := fun t k => castTop (ef_leq00 m x0 x1) k
  obtain ⟨cl1, Ar1, qa1, S1, Nn1, H1, G1⟩ := id pre_A_x0
  obtain ⟨cl2, Ar2, qa2, S2, Nn2, H2, G2⟩ := id pre_A_x1
  obtain ⟨cl4, Ar4, qa4, S4, Nn4, H4, G4⟩ := id pre_A_x0
  have P6 := own_go P0 (S' := s₁.setTop (mkF m 33 #[rv x0, rv x1, iv 0] [(.int 1)])) (by
    intro t k
    refine XS.aloadN X0.here hx rfl (hb hby d9_0) rfl rfl ?_
    refine X0.arraylength hx (by rw [e0]; exact Ar1.1) (State.isArrayOf_alike hZ.alike Ar1.2.1) (g := (mkF m 1 #[rv x0, rv x1, .unset] [(.ref x0)])) rfl rfl (hb hby d9_1) _ ?_
    rw [len_of S1 Nn1]
    refine XS.aloadN X0.here hx rfl (hb hby d9_2) rfl rfl ?_
    refine X0.arraylength hx (by rw [e0]; exact Ar2.1) (State.isArrayOf_alike hZ.alike Ar2.2.1) (g := (mkF m 3 #[rv x0, rv x1, .unset] [(.ref x1), (.int 0)])) rfl rfl (hb hby d9_3) _ ?_
    rw [len_of S2 Nn2]
    refine XS.icmpNo X0.here hx rfl (hb hby d9_4) rfl (teq (by decide)).2 ?_
    refine XS.iconst X0.here hx rfl (hb hby d9_7) ?_
    refine XS.istoreN X0.here hx rfl (hb hby d9_8) rfl (l' := #[rv x0, rv x1, iv 0]) rfl ?_
    refine XS.iloadN X0.here hx rfl (hb hby d9_9) rfl ?_
    show Steps p.tables e below (s₁.setTop (mkF m 10 #[rv x0, rv x1, iv 0] [(.int 0)])) _
    refine XS.aloadN X0.here hx rfl (hb hby d9_10) rfl rfl ?_
    refine X0.arraylength hx (by rw [e0]; exact Ar4.1) (State.isArrayOf_alike hZ.alike Ar4.2.1) (g := (mkF m 11 #[rv x0, rv x1, iv 0] [(.ref x0), (.int 0)])) rfl rfl (hb hby d9_11) _ ?_
    rw [len_of S4 Nn4]
    refine XS.icmpYes X0.here hx rfl (pc0 := 12) (pc' := 32) rfl (hb hby d9_12) rfl (flt (by decide)).2.1 (by decide) (by decide) ?_
    refine XS.iconst X0.here hx rfl (hb hby d9_32) ?_
    exact k)
  obtain ⟨fs, hr, hrun, hended, hW, hsame⟩ := X0.leave (v := some (.int 1)) (fun h => by rw [Bd.returns] at h; cases h)
  refine ⟨_, _, P6 _ ?_, hrun, hended, _, _, rfl, ?_, ⟨_, rfl⟩, hW, hsame.mono (by decide) (by decide)⟩
  · show Steps p.tables e below (s₁.setTop (mkF m 33 #[rv x0, rv x1, iv 0] [(.int 1)])) _
    exact retN X0 hx (t := .boolean) Bd.returns (by simp) (hb hby d9_33) hr
  · show Qleq00 Z x0 x1 ka kb h0 n0 _ s₁.heap _
    rw [e0]
    exact ⟨rfl, N0, rfl⟩
def Qleq01 (Z : State) (x0 : Addr) (x1 : Addr) (ka : ClassId) (kb : ClassId) (z0 : Int32) (h0 : Heap) (n0 : Nat) (v : Option Value) (h : Heap) (L : List Loc) : Prop := v = some (.int 0) ∧ Fr n0 L ∧ h = h0
theorem ef_leq01 (m : MethodId) (x0 : Addr) (x1 : Addr) : entryFrame m #[(.ref x0), (.ref x1)] 3 = mkF m 0 #[rv x0, rv x1, .unset] [] := by first | (simp [entryFrame, mkF, argsToLocals, Value.category]; done) | rfl
set_option maxRecDepth 65536 in
set_option maxHeartbeats 40000000 in
theorem rmleq01 (l : Launch) (Z : State) (a0 : Array Value) (hw : ∀ d ∈ tables_1, d.before a0 Z = true) (ws : List Jvm.Cond) (x0 : Addr) (x1 : Addr) (ka : ClassId) (kb : ClassId) (z0 : Int32) (h0 : Heap) (n0 : Nat) (Z0 : n0 ≤ h0.size) (pre_A_x0 : Arv Z h0 x0 ka .byte (0 : Int32) [] (.int 0)) (pre_A_x1 : Arv Z h0 x1 kb .byte (1 : Int32) [(.int z0)] (.int 0)) :
    MetFree l (⟨"java/lang/StringLatin1", "equals", "([B[B)Z"⟩ : MethodName) (head1 (Jvm.Cond.code (⟨"java/lang/StringLatin1", "equals", "([B[B)Z"⟩ : MethodName) jdk_43_method_13_code 3 (some .boolean) :: ws) ({ frames := 0, cells := 0, slots := 0, locals := 0 } : Room)) (fun a U => a = #[(.ref x0), (.ref x1)] ∧ Z.Warmed39 U.vm ∧ U.heap = h0) (fun _ _ _ _ _ => True) (fun _ U o U' => ∃ v L, o = .returned v ∧ Qleq01 Z x0 x1 ka kb z0 h0 n0 v U'.heap L ∧ FrameEnd U o U' L ({ frames := 0, cells := 0, slots := 0, locals := 0 } : Room).cells ({ frames := 0, cells := 0, slots := 0, locals := 0 } : Room).slots) := by
  refine MetFree.of_bodySF (plainFor_of_name pn_9) hisR ?_
  intro p e s m args below meth c s₁ Bd hml0 hP hK
  obtain ⟨rfl, hZ, hh⟩ := hP
  have hx := Bd.exec
  have hby := Bd.bytes
  have hml : c.maxLocals = 3 := hml0
  have hown : s.vm.findClass "java/lang/StringLatin1" = some m.cls := findClass_of_methodNamed Bd.named
  have hnm := (name_of_methodNamed Bd.named Bd.method).1
  have X0 : Stand p l e ({ frames := 0, cells := 0, slots := 0, locals := 0 } : Room) s m #[(.ref x0), (.ref x1)] below meth c s₁ [] 0 0 := Stand.of_body Bd
  have e0 : s₁.heap = h0 := by rw [← hh, Bd.state]; rfl
  have N0 := Fr.nil n0
  have Kp0 := Keep.refl h0 []
  have P0 : ∀ t, Steps p.tables e below (s₁.setTop (mkF m 0 #[rv x0, rv x1, .unset] [])) t → Steps p.tables e below (s₁.setTop (entryFrame m #[(.ref x0), (.ref x1)] 3)) t := fun t k => castTop (ef_leq01 m x0 x1) k
  obtain ⟨cl1, Ar1, qa1, S1, Nn1, H1, G1⟩ := id pre_A_x0
  obtain ⟨cl2, Ar2, qa2, S2, Nn2, H2, G2⟩ := id pre_A_x1
  have P4 := own_go P0 (S' := s₁.setTop (mkF m 35 #[rv x0, rv x1, .unset] [(.int 0)])) (by
    intro t k
    refine XS.aloadN X0.here hx rfl (hb hby d9_0) rfl rfl ?_
    refine X0.arraylength hx (by rw [e0]; exact Ar1.1) (State.isArrayOf_alike hZ.alike Ar1.2.1) (g := (mkF m 1 #[rv x0, rv x1, .unset] [(.ref x0)])) rfl rfl (hb hby d9_1) _ ?_
    rw [len_of S1 Nn1]
    refine XS.aloadN X0.here hx rfl (hb hby d9_2) rfl rfl ?_
    refine X0.arraylength hx (by rw [e0]; exact Ar2.1) (State.isArrayOf_alike hZ.alike Ar2.2.1) (g := (mkF m 3 #[rv x0, rv x1, .unset] [(.ref x1), (.int 0)])) rfl rfl (hb hby d9_3) _ ?_
    rw [len_of S2 Nn2]
    refine XS.icmpYes X0.here hx rfl (pc0 := 4) (pc' := 34) rfl (hb hby d9_4) rfl (feq (by decide)).2 (by decide) (by decide) ?_
    refine XS.iconst X0.here hx rfl (hb hby d9_34) ?_
    exact k)
  obtain ⟨fs, hr, hrun, hended, hW, hsame⟩ := X0.leave (v := some (.int 0)) (fun h => by rw [Bd.returns] at h; cases h)
  refine ⟨_, _, P4 _ ?_, hrun, hended, _, _, rfl, ?_, ⟨_, rfl⟩, hW, hsame.mono (by decide) (by decide)⟩
  · show Steps p.tables e below (s₁.setTop (mkF m 35 #[rv x0, rv x1, .unset] [(.int 0)])) _
    exact retN X0 hx (t := .boolean) Bd.returns (by simp) (hb hby d9_35) hr
  · show Qleq01 Z x0 x1 ka kb z0 h0 n0 _ s₁.heap _
    rw [e0]
    exact ⟨rfl, N0, rfl⟩
def Qleq02 (Z : State) (x0 : Addr) (x1 : Addr) (ka : ClassId) (kb : ClassId) (z0 : Int32) (z1 : Int32) (h0 : Heap) (n0 : Nat) (v : Option Value) (h : Heap) (L : List Loc) : Prop := v = some (.int 0) ∧ Fr n0 L ∧ h = h0
theorem ef_leq02 (m : MethodId) (x0 : Addr) (x1 : Addr) : entryFrame m #[(.ref x0), (.ref x1)] 3 = mkF m 0 #[rv x0, rv x1, .unset] [] := by first | (simp [entryFrame, mkF, argsToLocals, Value.category]; done) | rfl
set_option maxRecDepth 65536 in
set_option maxHeartbeats 40000000 in
theorem rmleq02 (l : Launch) (Z : State) (a0 : Array Value) (hw : ∀ d ∈ tables_1, d.before a0 Z = true) (ws : List Jvm.Cond) (x0 : Addr) (x1 : Addr) (ka : ClassId) (kb : ClassId) (z0 : Int32) (z1 : Int32) (h0 : Heap) (n0 : Nat) (Z0 : n0 ≤ h0.size) (pre_A_x0 : Arv Z h0 x0 ka .byte (0 : Int32) [] (.int 0)) (pre_A_x1 : Arv Z h0 x1 kb .byte (2 : Int32) [(.int z0), (.int z1)] (.int 0)) :
    MetFree l (⟨"java/lang/StringLatin1", "equals", "([B[B)Z"⟩ : MethodName) (head1 (Jvm.Cond.code (⟨"java/lang/StringLatin1", "equals", "([B[B)Z"⟩ : MethodName) jdk_43_method_13_code 3 (some .boolean) :: ws) ({ frames := 0, cells := 0, slots := 0, locals := 0 } : Room)) (fun a U => a = #[(.ref x0), (.ref x1)] ∧ Z.Warmed39 U.vm ∧ U.heap = h0) (fun _ _ _ _ _ => True) (fun _ U o U' => ∃ v L, o = .returned v ∧ Qleq02 Z x0 x1 ka kb z0 z1 h0 n0 v U'.heap L ∧ FrameEnd U o U' L ({ frames := 0, cells := 0, slots := 0, locals := 0 } : Room).cells ({ frames := 0, cells := 0, slots := 0, locals := 0 } : Room).slots) := by
  refine MetFree.of_bodySF (plainFor_of_name pn_9) hisR ?_
  intro p e s m args below meth c s₁ Bd hml0 hP hK
  obtain ⟨rfl, hZ, hh⟩ := hP
  have hx := Bd.exec
  have hby := Bd.bytes
  have hml : c.maxLocals = 3 := hml0
  have hown : s.vm.findClass "java/lang/StringLatin1" = some m.cls := findClass_of_methodNamed Bd.named
  have hnm := (name_of_methodNamed Bd.named Bd.method).1
  have X0 : Stand p l e ({ frames := 0, cells := 0, slots := 0, locals := 0 } : Room) s m #[(.ref x0), (.ref x1)] below meth c s₁ [] 0 0 := Stand.of_body Bd
  have e0 : s₁.heap = h0 := by rw [← hh, Bd.state]; rfl
  have N0 := Fr.nil n0
  have Kp0 := Keep.refl h0 []
  have P0 : ∀ t, Steps p.tables e below (s₁.setTop (mkF m 0 #[rv x0, rv x1, .unset] [])) t → Steps p.tables e below (s₁.setTop (entryFrame m #[(.ref x0), (.ref x1)] 3)) t := fun t k => castTop (ef_leq02 m x0 x1) k
  obtain ⟨cl1, Ar1, qa1, S1, Nn1, H1, G1⟩ := id pre_A_x0
  obtain ⟨cl2, Ar2, qa2, S2, Nn2, H2, G2⟩ := id pre_A_x1
  have P4 := own_go P0 (S' := s₁.setTop (mkF m 35 #[rv x0, rv x1, .unset] [(.int 0)])) (by
    intro t k
    refine XS.aloadN X0.here hx rfl (hb hby d9_0) rfl rfl ?_
    refine X0.arraylength hx (by rw [e0]; exact Ar1.1) (State.isArrayOf_alike hZ.alike Ar1.2.1) (g := (mkF m 1 #[rv x0, rv x1, .unset] [(.ref x0)])) rfl rfl (hb hby d9_1) _ ?_
    rw [len_of S1 Nn1]
    refine XS.aloadN X0.here hx rfl (hb hby d9_2) rfl rfl ?_
    refine X0.arraylength hx (by rw [e0]; exact Ar2.1) (State.isArrayOf_alike hZ.alike Ar2.2.1) (g := (mkF m 3 #[rv x0, rv x1, .unset] [(.ref x1), (.int 0)])) rfl rfl (hb hby d9_3) _ ?_
    rw [len_of S2 Nn2]
    refine XS.icmpYes X0.here hx rfl (pc0 := 4) (pc' := 34) rfl (hb hby d9_4) rfl (feq (by decide)).2 (by decide) (by decide) ?_
    refine XS.iconst X0.here hx rfl (hb hby d9_34) ?_
    exact k)
  obtain ⟨fs, hr, hrun, hended, hW, hsame⟩ := X0.leave (v := some (.int 0)) (fun h => by rw [Bd.returns] at h; cases h)
  refine ⟨_, _, P4 _ ?_, hrun, hended, _, _, rfl, ?_, ⟨_, rfl⟩, hW, hsame.mono (by decide) (by decide)⟩
  · show Steps p.tables e below (s₁.setTop (mkF m 35 #[rv x0, rv x1, .unset] [(.int 0)])) _
    exact retN X0 hx (t := .boolean) Bd.returns (by simp) (hb hby d9_35) hr
  · show Qleq02 Z x0 x1 ka kb z0 z1 h0 n0 _ s₁.heap _
    rw [e0]
    exact ⟨rfl, N0, rfl⟩
def Qleq10 (Z : State) (x0 : Addr) (x1 : Addr) (ka : ClassId) (kb : ClassId) (y0 : Int32) (h0 : Heap) (n0 : Nat) (v : Option Value) (h : Heap) (L : List Loc) : Prop := v = some (.int 0) ∧ Fr n0 L ∧ h = h0
theorem ef_leq10 (m : MethodId) (x0 : Addr) (x1 : Addr) : entryFrame m #[(.ref x0), (.ref x1)] 3 = mkF m 0 #[rv x0, rv x1, .unset] [] := by first | (simp [entryFrame, mkF, argsToLocals, Value.category]; done) | rfl
set_option maxRecDepth 65536 in
set_option maxHeartbeats 40000000 in
theorem rmleq10 (l : Launch) (Z : State) (a0 : Array Value) (hw : ∀ d ∈ tables_1, d.before a0 Z = true) (ws : List Jvm.Cond) (x0 : Addr) (x1 : Addr) (ka : ClassId) (kb : ClassId) (y0 : Int32) (h0 : Heap) (n0 : Nat) (Z0 : n0 ≤ h0.size) (pre_A_x0 : Arv Z h0 x0 ka .byte (1 : Int32) [(.int y0)] (.int 0)) (pre_A_x1 : Arv Z h0 x1 kb .byte (0 : Int32) [] (.int 0)) :
    MetFree l (⟨"java/lang/StringLatin1", "equals", "([B[B)Z"⟩ : MethodName) (head1 (Jvm.Cond.code (⟨"java/lang/StringLatin1", "equals", "([B[B)Z"⟩ : MethodName) jdk_43_method_13_code 3 (some .boolean) :: ws) ({ frames := 0, cells := 0, slots := 0, locals := 0 } : Room)) (fun a U => a = #[(.ref x0), (.ref x1)] ∧ Z.Warmed39 U.vm ∧ U.heap = h0) (fun _ _ _ _ _ => True) (fun _ U o U' => ∃ v L, o = .returned v ∧ Qleq10 Z x0 x1 ka kb y0 h0 n0 v U'.heap L ∧ FrameEnd U o U' L ({ frames := 0, cells := 0, slots := 0, locals := 0 } : Room).cells ({ frames := 0, cells := 0, slots := 0, locals := 0 } : Room).slots) := by
  refine MetFree.of_bodySF (plainFor_of_name pn_9) hisR ?_
  intro p e s m args below meth c s₁ Bd hml0 hP hK
  obtain ⟨rfl, hZ, hh⟩ := hP
  have hx := Bd.exec
  have hby := Bd.bytes
  have hml : c.maxLocals = 3 := hml0
  have hown : s.vm.findClass "java/lang/StringLatin1" = some m.cls := findClass_of_methodNamed Bd.named
  have hnm := (name_of_methodNamed Bd.named Bd.method).1
  have X0 : Stand p l e ({ frames := 0, cells := 0, slots := 0, locals := 0 } : Room) s m #[(.ref x0), (.ref x1)] below meth c s₁ [] 0 0 := Stand.of_body Bd
  have e0 : s₁.heap = h0 := by rw [← hh, Bd.state]; rfl
  have N0 := Fr.nil n0
  have Kp0 := Keep.refl h0 []
  have P0 : ∀ t, Steps p.tables e below (s₁.setTop (mkF m 0 #[rv x0, rv x1, .unset] [])) t → Steps p.tables e below (s₁.setTop (entryFrame m #[(.ref x0), (.ref x1)] 3)) t := fun t k => castTop (ef_leq10 m x0 x1) k
  obtain ⟨cl1, Ar1, qa1, S1, Nn1, H1, G1⟩ := id pre_A_x0
  obtain ⟨cl2, Ar2, qa2, S2, Nn2, H2, G2⟩ := id pre_A_x1
  have P4 := own_go P0 (S' := s₁.setTop (mkF m 35 #[rv x0, rv x1, .unset] [(.int 0)])) (by
    intro t k
    refine XS.aloadN X0.here hx rfl (hb hby d9_0) rfl rfl ?_
    refine X0.arraylength hx (by rw [e0]; exact Ar1.1) (State.isArrayOf_alike hZ.alike Ar1.2.1) (g := (mkF m 1 #[rv x0, rv x1, .unset] [(.ref x0)])) rfl rfl (hb hby d9_1) _ ?_
    rw [len_of S1 Nn1]
    refine XS.aloadN X0.here hx rfl (hb hby d9_2) rfl rfl ?_
    refine X0.arraylength hx (by rw [e0]; exact Ar2.1) (State.isArrayOf_alike hZ.alike Ar2.2.1) (g := (mkF m 3 #[rv x0, rv x1, .unset] [(.ref x1), (.int 1)])) rfl rfl (hb hby d9_3) _ ?_
    rw [len_of S2 Nn2]
    refine XS.icmpYes X0.here hx rfl (pc0 := 4) (pc' := 34) rfl (hb hby d9_4) rfl (feq (by decide)).2 (by decide) (by decide) ?_
    refine XS.iconst X0.here hx rfl (hb hby d9_34) ?_
    exact k)
  obtain ⟨fs, hr, hrun, hended, hW, hsame⟩ := X0.leave (v := some (.int 0)) (fun h => by rw [Bd.returns] at h; cases h)
  refine ⟨_, _, P4 _ ?_, hrun, hended, _, _, rfl, ?_, ⟨_, rfl⟩, hW, hsame.mono (by decide) (by decide)⟩
  · show Steps p.tables e below (s₁.setTop (mkF m 35 #[rv x0, rv x1, .unset] [(.int 0)])) _
    exact retN X0 hx (t := .boolean) Bd.returns (by simp) (hb hby d9_35) hr
  · show Qleq10 Z x0 x1 ka kb y0 h0 n0 _ s₁.heap _
    rw [e0]
    exact ⟨rfl, N0, rfl⟩
def Qleq11 (Z : State) (x0 : Addr) (x1 : Addr) (ka : ClassId) (kb : ClassId) (y0 : Int32) (z0 : Int32) (h0 : Heap) (n0 : Nat) (v : Option Value) (h : Heap) (L : List Loc) : Prop := v = some (.int (if y0 = z0 then (1 : Int32) else (0 : Int32))) ∧ Fr n0 L ∧ h = h0
theorem ef_leq11 (m : MethodId) (x0 : Addr) (x1 : Addr) : entryFrame m #[(.ref x0), (.ref x1)] 3 = mkF m 0 #[rv x0, rv x1, .unset] [] := by first | (simp [entryFrame, mkF, argsToLocals, Value.category]; done) | rfl
set_option maxRecDepth 65536 in
set_option maxHeartbeats 40000000 in
theorem rmleq11 (l : Launch) (Z : State) (a0 : Array Value) (hw : ∀ d ∈ tables_1, d.before a0 Z = true) (ws : List Jvm.Cond) (x0 : Addr) (x1 : Addr) (ka : ClassId) (kb : ClassId) (y0 : Int32) (z0 : Int32) (h0 : Heap) (n0 : Nat) (Z0 : n0 ≤ h0.size) (pre_A_x0 : Arv Z h0 x0 ka .byte (1 : Int32) [(.int y0)] (.int 0)) (pre_A_x1 : Arv Z h0 x1 kb .byte (1 : Int32) [(.int z0)] (.int 0)) :
    MetFree l (⟨"java/lang/StringLatin1", "equals", "([B[B)Z"⟩ : MethodName) (head1 (Jvm.Cond.code (⟨"java/lang/StringLatin1", "equals", "([B[B)Z"⟩ : MethodName) jdk_43_method_13_code 3 (some .boolean) :: ws) ({ frames := 0, cells := 0, slots := 0, locals := 0 } : Room)) (fun a U => a = #[(.ref x0), (.ref x1)] ∧ Z.Warmed39 U.vm ∧ U.heap = h0) (fun _ _ _ _ _ => True) (fun _ U o U' => ∃ v L, o = .returned v ∧ Qleq11 Z x0 x1 ka kb y0 z0 h0 n0 v U'.heap L ∧ FrameEnd U o U' L ({ frames := 0, cells := 0, slots := 0, locals := 0 } : Room).cells ({ frames := 0, cells := 0, slots := 0, locals := 0 } : Room).slots) := by
  refine MetFree.of_bodySF (plainFor_of_name pn_9) hisR ?_
  intro p e s m args below meth c s₁ Bd hml0 hP hK
  obtain ⟨rfl, hZ, hh⟩ := hP
  have hx := Bd.exec
  have hby := Bd.bytes
  have hml : c.maxLocals = 3 := hml0
  have hown : s.vm.findClass "java/lang/StringLatin1" = some m.cls := findClass_of_methodNamed Bd.named
  have hnm := (name_of_methodNamed Bd.named Bd.method).1
  have X0 : Stand p l e ({ frames := 0, cells := 0, slots := 0, locals := 0 } : Room) s m #[(.ref x0), (.ref x1)] below meth c s₁ [] 0 0 := Stand.of_body Bd
  have e0 : s₁.heap = h0 := by rw [← hh, Bd.state]; rfl
  have N0 := Fr.nil n0
  have Kp0 := Keep.refl h0 []
  have P0 : ∀ t, Steps p.tables e below (s₁.setTop (mkF m 0 #[rv x0, rv x1, .unset] [])) t → Steps p.tables e below (s₁.setTop (entryFrame m #[(.ref x0), (.ref x1)] 3)) t := fun t k => castTop (ef_leq11 m x0 x1) k
  obtain ⟨cl1, Ar1, qa1, S1, Nn1, H1, G1⟩ := id pre_A_x0
  obtain ⟨cl2, Ar2, qa2, S2, Nn2, H2, G2⟩ := id pre_A_x1
  obtain ⟨cl4, Ar4, qa4, S4, Nn4, H4, G4⟩ := id pre_A_x0
  obtain ⟨cl6, Ar6, qa6, S6, Nn6, H6, G6⟩ := id pre_A_x0
  have hin6 : ¬ ((0 : Int32) < 0 ∨ cl6.slots.size ≤ ((0 : Int32)).toNatClampNeg) := inb_of S6 ⟨by decide, by decide⟩
  have hat6 : cl6.slots[((0 : Int32)).toNatClampNeg]? = some (.int y0) := Has.at H6 hin6 rfl
  obtain ⟨cl7, Ar7, qa7, S7, Nn7, H7, G7⟩ := id pre_A_x1
  have hin7 : ¬ ((0 : Int32) < 0 ∨ cl7.slots.size ≤ ((0 : Int32)).toNatClampNeg) := inb_of S7 ⟨by decide, by decide⟩
  have hat7 : cl7.slots[((0 : Int32)).toNatClampNeg]? = some (.int z0) := Has.at H7 hin7 rfl
  have P9 := own_go P0 (S' := s₁.setTop (mkF m 21 #[rv x0, rv x1, iv 0] [(.int z0), (.int y0)])) (by
    intro t k
    refine XS.aloadN X0.here hx rfl (hb hby d9_0) rfl rfl ?_
    refine X0.arraylength hx (by rw [e0]; exact Ar1.1) (State.isArrayOf_alike hZ.alike Ar1.2.1) (g := (mkF m 1 #[rv x0, rv x1, .unset] [(.ref x0)])) rfl rfl (hb hby d9_1) _ ?_
    rw [len_of S1 Nn1]
    refine XS.aloadN X0.here hx rfl (hb hby d9_2) rfl rfl ?_
    refine X0.arraylength hx (by rw [e0]; exact Ar2.1) (State.isArrayOf_alike hZ.alike Ar2.2.1) (g := (mkF m 3 #[rv x0, rv x1, .unset] [(.ref x1), (.int 1)])) rfl rfl (hb hby d9_3) _ ?_
    rw [len_of S2 Nn2]
    refine XS.icmpNo X0.here hx rfl (hb hby d9_4) rfl (teq (by decide)).2 ?_
    refine XS.iconst X0.here hx rfl (hb hby d9_7) ?_
    refine XS.istoreN X0.here hx rfl (hb hby d9_8) rfl (l' := #[rv x0, rv x1, iv 0]) rfl ?_
    refine XS.iloadN X0.here hx rfl (hb hby d9_9) rfl ?_
    show Steps p.tables e below (s₁.setTop (mkF m 10 #[rv x0, rv x1, iv 0] [(.int 0)])) _
    refine XS.aloadN X0.here hx rfl (hb hby d9_10) rfl rfl ?_
    refine X0.arraylength hx (by rw [e0]; exact Ar4.1) (State.isArrayOf_alike hZ.alike Ar4.2.1) (g := (mkF m 11 #[rv x0, rv x1, iv 0] [(.ref x0), (.int 0)])) rfl rfl (hb hby d9_11) _ ?_
    rw [len_of S4 Nn4]
    refine XS.icmpNo X0.here hx rfl (hb hby d9_12) rfl (tlt (by decide)).2.1 ?_
    refine XS.aloadN X0.here hx rfl (hb hby d9_15) rfl rfl ?_
    refine XS.iloadN X0.here hx rfl (hb hby d9_16) rfl ?_
    refine X0.baloadBytes hx (j := (0 : Int32)) (v := (.int y0)) (by rw [e0]; exact Ar6.1) (State.isArrayOf_alike hZ.alike Ar6.2.1) Ar6.2.2 hin6 hat6 (g := (mkF m 17 #[rv x0, rv x1, iv 0] [(.int 0), (.ref x0)])) rfl rfl (hb hby d9_17) _ ?_
    refine XS.aloadN X0.here hx rfl (hb hby d9_18) rfl rfl ?_
    refine XS.iloadN X0.here hx rfl (hb hby d9_19) rfl ?_
    show Steps p.tables e below (s₁.setTop (mkF m 20 #[rv x0, rv x1, iv 0] [(.int 0), (.ref x1), (.int y0)])) _
    refine X0.baloadBytes hx (j := (0 : Int32)) (v := (.int z0)) (by rw [e0]; exact Ar7.1) (State.isArrayOf_alike hZ.alike Ar7.2.1) Ar7.2.2 hin7 hat7 (g := (mkF m 20 #[rv x0, rv x1, iv 0] [(.int 0), (.ref x1), (.int y0)])) rfl rfl (hb hby d9_20) _ ?_
    exact k)
  by_cases hc21_8 : y0 = z0
  · obtain ⟨cl10, Ar10, qa10, S10, Nn10, H10, G10⟩ := id pre_A_x0
    have P12 := own_go P9 (S' := s₁.setTop (mkF m 33 #[rv x0, rv x1, iv 1] [(.int 1)])) (by
      intro t k
      refine XS.icmpYes X0.here hx rfl (pc0 := 21) (pc' := 26) rfl (hb hby d9_21) rfl (teq hc21_8).1 (by decide) (by decide) ?_
      refine XS.iinc X0.here hx rfl (hb hby d9_26) rfl (l' := #[rv x0, rv x1, iv 1]) rfl ?_
      refine XS.goto X0.here hx rfl (pc0 := 29) (pc' := 9) rfl (hb hby d9_29) (by decide) (by decide) ?_
      refine XS.iloadN X0.here hx rfl (hb hby d9_9) rfl ?_
      refine XS.aloadN X0.here hx rfl (hb hby d9_10) rfl rfl ?_
      refine X0.arraylength hx (by rw [e0]; exact Ar10.1) (State.isArrayOf_alike hZ.alike Ar10.2.1) (g := (mkF m 11 #[rv x0, rv x1, iv 1] [(.ref x0), (.int 1)])) rfl rfl (hb hby d9_11) _ ?_
      rw [len_of S10 Nn10]
      refine XS.icmpYes X0.here hx rfl (pc0 := 12) (pc' := 32) rfl (hb hby d9_12) rfl (flt (by decide)).2.1 (by decide) (by decide) ?_
      refine XS.iconst X0.here hx rfl (hb hby d9_32) ?_
      show Steps p.tables e below (s₁.setTop (mkF m 33 #[rv x0, rv x1, iv 1] [(.int 1)])) _
      exact k)
    obtain ⟨fs, hr, hrun, hended, hW, hsame⟩ := X0.leave (v := some (.int 1)) (fun h => by rw [Bd.returns] at h; cases h)
    refine ⟨_, _, P12 _ ?_, hrun, hended, _, _, rfl, ?_, ⟨_, rfl⟩, hW, hsame.mono (by decide) (by decide)⟩
    · show Steps p.tables e below (s₁.setTop (mkF m 33 #[rv x0, rv x1, iv 1] [(.int 1)])) _
      exact retN X0 hx (t := .boolean) Bd.returns (by simp) (hb hby d9_33) hr
    · show Qleq11 Z x0 x1 ka kb y0 z0 h0 n0 _ s₁.heap _
      rw [e0]
      exact ⟨(by first | rfl | rw [if_pos hc21_8] | rw [if_neg hc21_8] | rw [if_neg (not_not_intro hc21_8)] | simp [hc21_8]), N0, rfl⟩
  · have P13 := own_go P9 (S' := s₁.setTop (mkF m 25 #[rv x0, rv x1, iv 0] [(.int 0)])) (by
      intro t k
      refine XS.icmpNo X0.here hx rfl (hb hby d9_21) rfl (feq hc21_8).1 ?_
      refine XS.iconst X0.here hx rfl (hb hby d9_24) ?_
      exact k)
    obtain ⟨fs, hr, hrun, hended, hW, hsame⟩ := X0.leave (v := some (.int 0)) (fun h => by rw [Bd.returns] at h; cases h)
    refine ⟨_, _, P13 _ ?_, hrun, hended, _, _, rfl, ?_, ⟨_, rfl⟩, hW, hsame.mono (by decide) (by decide)⟩
    · show Steps p.tables e below (s₁.setTop (mkF m 25 #[rv x0, rv x1, iv 0] [(.int 0)])) _
      exact retN X0 hx (t := .boolean) Bd.returns (by simp) (hb hby d9_25) hr
    · show Qleq11 Z x0 x1 ka kb y0 z0 h0 n0 _ s₁.heap _
      rw [e0]
      exact ⟨(by first | rfl | rw [if_pos hc21_8] | rw [if_neg hc21_8] | rw [if_neg (not_not_intro hc21_8)] | simp [hc21_8]), N0, rfl⟩
def Qleq12 (Z : State) (x0 : Addr) (x1 : Addr) (ka : ClassId) (kb : ClassId) (y0 : Int32) (z0 : Int32) (z1 : Int32) (h0 : Heap) (n0 : Nat) (v : Option Value) (h : Heap) (L : List Loc) : Prop := v = some (.int 0) ∧ Fr n0 L ∧ h = h0
theorem ef_leq12 (m : MethodId) (x0 : Addr) (x1 : Addr) : entryFrame m #[(.ref x0), (.ref x1)] 3 = mkF m 0 #[rv x0, rv x1, .unset] [] := by first | (simp [entryFrame, mkF, argsToLocals, Value.category]; done) | rfl
set_option maxRecDepth 65536 in
set_option maxHeartbeats 40000000 in
theorem rmleq12 (l : Launch) (Z : State) (a0 : Array Value) (hw : ∀ d ∈ tables_1, d.before a0 Z = true) (ws : List Jvm.Cond) (x0 : Addr) (x1 : Addr) (ka : ClassId) (kb : ClassId) (y0 : Int32) (z0 : Int32) (z1 : Int32) (h0 : Heap) (n0 : Nat) (Z0 : n0 ≤ h0.size) (pre_A_x0 : Arv Z h0 x0 ka .byte (1 : Int32) [(.int y0)] (.int 0)) (pre_A_x1 : Arv Z h0 x1 kb .byte (2 : Int32) [(.int z0), (.int z1)] (.int 0)) :
    MetFree l (⟨"java/lang/StringLatin1", "equals", "([B[B)Z"⟩ : MethodName) (head1 (Jvm.Cond.code (⟨"java/lang/StringLatin1", "equals", "([B[B)Z"⟩ : MethodName) jdk_43_method_13_code 3 (some .boolean) :: ws) ({ frames := 0, cells := 0, slots := 0, locals := 0 } : Room)) (fun a U => a = #[(.ref x0), (.ref x1)] ∧ Z.Warmed39 U.vm ∧ U.heap = h0) (fun _ _ _ _ _ => True) (fun _ U o U' => ∃ v L, o = .returned v ∧ Qleq12 Z x0 x1 ka kb y0 z0 z1 h0 n0 v U'.heap L ∧ FrameEnd U o U' L ({ frames := 0, cells := 0, slots := 0, locals := 0 } : Room).cells ({ frames := 0, cells := 0, slots := 0, locals := 0 } : Room).slots) := by
  refine MetFree.of_bodySF (plainFor_of_name pn_9) hisR ?_
  intro p e s m args below meth c s₁ Bd hml0 hP hK
  obtain ⟨rfl, hZ, hh⟩ := hP
  have hx := Bd.exec
  have hby := Bd.bytes
  have hml : c.maxLocals = 3 := hml0
  have hown : s.vm.findClass "java/lang/StringLatin1" = some m.cls := findClass_of_methodNamed Bd.named
  have hnm := (name_of_methodNamed Bd.named Bd.method).1
  have X0 : Stand p l e ({ frames := 0, cells := 0, slots := 0, locals := 0 } : Room) s m #[(.ref x0), (.ref x1)] below meth c s₁ [] 0 0 := Stand.of_body Bd
  have e0 : s₁.heap = h0 := by rw [← hh, Bd.state]; rfl
  have N0 := Fr.nil n0
  have Kp0 := Keep.refl h0 []
  have P0 : ∀ t, Steps p.tables e below (s₁.setTop (mkF m 0 #[rv x0, rv x1, .unset] [])) t → Steps p.tables e below (s₁.setTop (entryFrame m #[(.ref x0), (.ref x1)] 3)) t := fun t k => castTop (ef_leq12 m x0 x1) k
  obtain ⟨cl1, Ar1, qa1, S1, Nn1, H1, G1⟩ := id pre_A_x0
  obtain ⟨cl2, Ar2, qa2, S2, Nn2, H2, G2⟩ := id pre_A_x1
  have P4 := own_go P0 (S' := s₁.setTop (mkF m 35 #[rv x0, rv x1, .unset] [(.int 0)])) (by
    intro t k
    refine XS.aloadN X0.here hx rfl (hb hby d9_0) rfl rfl ?_
    refine X0.arraylength hx (by rw [e0]; exact Ar1.1) (State.isArrayOf_alike hZ.alike Ar1.2.1) (g := (mkF m 1 #[rv x0, rv x1, .unset] [(.ref x0)])) rfl rfl (hb hby d9_1) _ ?_
    rw [len_of S1 Nn1]
    refine XS.aloadN X0.here hx rfl (hb hby d9_2) rfl rfl ?_
    refine X0.arraylength hx (by rw [e0]; exact Ar2.1) (State.isArrayOf_alike hZ.alike Ar2.2.1) (g := (mkF m 3 #[rv x0, rv x1, .unset] [(.ref x1), (.int 1)])) rfl rfl (hb hby d9_3) _ ?_
    rw [len_of S2 Nn2]
    refine XS.icmpYes X0.here hx rfl (pc0 := 4) (pc' := 34) rfl (hb hby d9_4) rfl (feq (by decide)).2 (by decide) (by decide) ?_
    refine XS.iconst X0.here hx rfl (hb hby d9_34) ?_
    exact k)
  obtain ⟨fs, hr, hrun, hended, hW, hsame⟩ := X0.leave (v := some (.int 0)) (fun h => by rw [Bd.returns] at h; cases h)
  refine ⟨_, _, P4 _ ?_, hrun, hended, _, _, rfl, ?_, ⟨_, rfl⟩, hW, hsame.mono (by decide) (by decide)⟩
  · show Steps p.tables e below (s₁.setTop (mkF m 35 #[rv x0, rv x1, .unset] [(.int 0)])) _
    exact retN X0 hx (t := .boolean) Bd.returns (by simp) (hb hby d9_35) hr
  · show Qleq12 Z x0 x1 ka kb y0 z0 z1 h0 n0 _ s₁.heap _
    rw [e0]
    exact ⟨rfl, N0, rfl⟩
def Qleq20 (Z : State) (x0 : Addr) (x1 : Addr) (ka : ClassId) (kb : ClassId) (y0 : Int32) (y1 : Int32) (h0 : Heap) (n0 : Nat) (v : Option Value) (h : Heap) (L : List Loc) : Prop := v = some (.int 0) ∧ Fr n0 L ∧ h = h0
theorem ef_leq20 (m : MethodId) (x0 : Addr) (x1 : Addr) : entryFrame m #[(.ref x0), (.ref x1)] 3 = mkF m 0 #[rv x0, rv x1, .unset] [] := by first | (simp [entryFrame, mkF, argsToLocals, Value.category]; done) | rfl
set_option maxRecDepth 65536 in
set_option maxHeartbeats 40000000 in
theorem rmleq20 (l : Launch) (Z : State) (a0 : Array Value) (hw : ∀ d ∈ tables_1, d.before a0 Z = true) (ws : List Jvm.Cond) (x0 : Addr) (x1 : Addr) (ka : ClassId) (kb : ClassId) (y0 : Int32) (y1 : Int32) (h0 : Heap) (n0 : Nat) (Z0 : n0 ≤ h0.size) (pre_A_x0 : Arv Z h0 x0 ka .byte (2 : Int32) [(.int y0), (.int y1)] (.int 0)) (pre_A_x1 : Arv Z h0 x1 kb .byte (0 : Int32) [] (.int 0)) :
    MetFree l (⟨"java/lang/StringLatin1", "equals", "([B[B)Z"⟩ : MethodName) (head1 (Jvm.Cond.code (⟨"java/lang/StringLatin1", "equals", "([B[B)Z"⟩ : MethodName) jdk_43_method_13_code 3 (some .boolean) :: ws) ({ frames := 0, cells := 0, slots := 0, locals := 0 } : Room)) (fun a U => a = #[(.ref x0), (.ref x1)] ∧ Z.Warmed39 U.vm ∧ U.heap = h0) (fun _ _ _ _ _ => True) (fun _ U o U' => ∃ v L, o = .returned v ∧ Qleq20 Z x0 x1 ka kb y0 y1 h0 n0 v U'.heap L ∧ FrameEnd U o U' L ({ frames := 0, cells := 0, slots := 0, locals := 0 } : Room).cells ({ frames := 0, cells := 0, slots := 0, locals := 0 } : Room).slots) := by
  refine MetFree.of_bodySF (plainFor_of_name pn_9) hisR ?_
  intro p e s m args below meth c s₁ Bd hml0 hP hK
  obtain ⟨rfl, hZ, hh⟩ := hP
  have hx := Bd.exec
  have hby := Bd.bytes
  have hml : c.maxLocals = 3 := hml0
  have hown : s.vm.findClass "java/lang/StringLatin1" = some m.cls := findClass_of_methodNamed Bd.named
  have hnm := (name_of_methodNamed Bd.named Bd.method).1
  have X0 : Stand p l e ({ frames := 0, cells := 0, slots := 0, locals := 0 } : Room) s m #[(.ref x0), (.ref x1)] below meth c s₁ [] 0 0 := Stand.of_body Bd
  have e0 : s₁.heap = h0 := by rw [← hh, Bd.state]; rfl
  have N0 := Fr.nil n0
  have Kp0 := Keep.refl h0 []
  have P0 : ∀ t, Steps p.tables e below (s₁.setTop (mkF m 0 #[rv x0, rv x1, .unset] [])) t → Steps p.tables e below (s₁.setTop (entryFrame m #[(.ref x0), (.ref x1)] 3)) t := fun t k => castTop (ef_leq20 m x0 x1) k
  obtain ⟨cl1, Ar1, qa1, S1, Nn1, H1, G1⟩ := id pre_A_x0
  obtain ⟨cl2, Ar2, qa2, S2, Nn2, H2, G2⟩ := id pre_A_x1
  have P4 := own_go P0 (S' := s₁.setTop (mkF m 35 #[rv x0, rv x1, .unset] [(.int 0)])) (by
    intro t k
    refine XS.aloadN X0.here hx rfl (hb hby d9_0) rfl rfl ?_
    refine X0.arraylength hx (by rw [e0]; exact Ar1.1) (State.isArrayOf_alike hZ.alike Ar1.2.1) (g := (mkF m 1 #[rv x0, rv x1, .unset] [(.ref x0)])) rfl rfl (hb hby d9_1) _ ?_
    rw [len_of S1 Nn1]
    refine XS.aloadN X0.here hx rfl (hb hby d9_2) rfl rfl ?_
    refine X0.arraylength hx (by rw [e0]; exact Ar2.1) (State.isArrayOf_alike hZ.alike Ar2.2.1) (g := (mkF m 3 #[rv x0, rv x1, .unset] [(.ref x1), (.int 2)])) rfl rfl (hb hby d9_3) _ ?_
    rw [len_of S2 Nn2]
    refine XS.icmpYes X0.here hx rfl (pc0 := 4) (pc' := 34) rfl (hb hby d9_4) rfl (feq (by decide)).2 (by decide) (by decide) ?_
    refine XS.iconst X0.here hx rfl (hb hby d9_34) ?_
    exact k)
  obtain ⟨fs, hr, hrun, hended, hW, hsame⟩ := X0.leave (v := some (.int 0)) (fun h => by rw [Bd.returns] at h; cases h)
  refine ⟨_, _, P4 _ ?_, hrun, hended, _, _, rfl, ?_, ⟨_, rfl⟩, hW, hsame.mono (by decide) (by decide)⟩
  · show Steps p.tables e below (s₁.setTop (mkF m 35 #[rv x0, rv x1, .unset] [(.int 0)])) _
    exact retN X0 hx (t := .boolean) Bd.returns (by simp) (hb hby d9_35) hr
  · show Qleq20 Z x0 x1 ka kb y0 y1 h0 n0 _ s₁.heap _
    rw [e0]
    exact ⟨rfl, N0, rfl⟩
def Qleq21 (Z : State) (x0 : Addr) (x1 : Addr) (ka : ClassId) (kb : ClassId) (y0 : Int32) (y1 : Int32) (z0 : Int32) (h0 : Heap) (n0 : Nat) (v : Option Value) (h : Heap) (L : List Loc) : Prop := v = some (.int 0) ∧ Fr n0 L ∧ h = h0
theorem ef_leq21 (m : MethodId) (x0 : Addr) (x1 : Addr) : entryFrame m #[(.ref x0), (.ref x1)] 3 = mkF m 0 #[rv x0, rv x1, .unset] [] := by first | (simp [entryFrame, mkF, argsToLocals, Value.category]; done) | rfl
set_option maxRecDepth 65536 in
set_option maxHeartbeats 40000000 in
theorem rmleq21 (l : Launch) (Z : State) (a0 : Array Value) (hw : ∀ d ∈ tables_1, d.before a0 Z = true) (ws : List Jvm.Cond) (x0 : Addr) (x1 : Addr) (ka : ClassId) (kb : ClassId) (y0 : Int32) (y1 : Int32) (z0 : Int32) (h0 : Heap) (n0 : Nat) (Z0 : n0 ≤ h0.size) (pre_A_x0 : Arv Z h0 x0 ka .byte (2 : Int32) [(.int y0), (.int y1)] (.int 0)) (pre_A_x1 : Arv Z h0 x1 kb .byte (1 : Int32) [(.int z0)] (.int 0)) :
    MetFree l (⟨"java/lang/StringLatin1", "equals", "([B[B)Z"⟩ : MethodName) (head1 (Jvm.Cond.code (⟨"java/lang/StringLatin1", "equals", "([B[B)Z"⟩ : MethodName) jdk_43_method_13_code 3 (some .boolean) :: ws) ({ frames := 0, cells := 0, slots := 0, locals := 0 } : Room)) (fun a U => a = #[(.ref x0), (.ref x1)] ∧ Z.Warmed39 U.vm ∧ U.heap = h0) (fun _ _ _ _ _ => True) (fun _ U o U' => ∃ v L, o = .returned v ∧ Qleq21 Z x0 x1 ka kb y0 y1 z0 h0 n0 v U'.heap L ∧ FrameEnd U o U' L ({ frames := 0, cells := 0, slots := 0, locals := 0 } : Room).cells ({ frames := 0, cells := 0, slots := 0, locals := 0 } : Room).slots) := by
  refine MetFree.of_bodySF (plainFor_of_name pn_9) hisR ?_
  intro p e s m args below meth c s₁ Bd hml0 hP hK
  obtain ⟨rfl, hZ, hh⟩ := hP
  have hx := Bd.exec
  have hby := Bd.bytes
  have hml : c.maxLocals = 3 := hml0
  have hown : s.vm.findClass "java/lang/StringLatin1" = some m.cls := findClass_of_methodNamed Bd.named
  have hnm := (name_of_methodNamed Bd.named Bd.method).1
  have X0 : Stand p l e ({ frames := 0, cells := 0, slots := 0, locals := 0 } : Room) s m #[(.ref x0), (.ref x1)] below meth c s₁ [] 0 0 := Stand.of_body Bd
  have e0 : s₁.heap = h0 := by rw [← hh, Bd.state]; rfl
  have N0 := Fr.nil n0
  have Kp0 := Keep.refl h0 []
  have P0 : ∀ t, Steps p.tables e below (s₁.setTop (mkF m 0 #[rv x0, rv x1, .unset] [])) t → Steps p.tables e below (s₁.setTop (entryFrame m #[(.ref x0), (.ref x1)] 3)) t := fun t k => castTop (ef_leq21 m x0 x1) k
  obtain ⟨cl1, Ar1, qa1, S1, Nn1, H1, G1⟩ := id pre_A_x0
  obtain ⟨cl2, Ar2, qa2, S2, Nn2, H2, G2⟩ := id pre_A_x1
  have P4 := own_go P0 (S' := s₁.setTop (mkF m 35 #[rv x0, rv x1, .unset] [(.int 0)])) (by
    intro t k
    refine XS.aloadN X0.here hx rfl (hb hby d9_0) rfl rfl ?_
    refine X0.arraylength hx (by rw [e0]; exact Ar1.1) (State.isArrayOf_alike hZ.alike Ar1.2.1) (g := (mkF m 1 #[rv x0, rv x1, .unset] [(.ref x0)])) rfl rfl (hb hby d9_1) _ ?_
    rw [len_of S1 Nn1]
    refine XS.aloadN X0.here hx rfl (hb hby d9_2) rfl rfl ?_
    refine X0.arraylength hx (by rw [e0]; exact Ar2.1) (State.isArrayOf_alike hZ.alike Ar2.2.1) (g := (mkF m 3 #[rv x0, rv x1, .unset] [(.ref x1), (.int 2)])) rfl rfl (hb hby d9_3) _ ?_
    rw [len_of S2 Nn2]
    refine XS.icmpYes X0.here hx rfl (pc0 := 4) (pc' := 34) rfl (hb hby d9_4) rfl (feq (by decide)).2 (by decide) (by decide) ?_
    refine XS.iconst X0.here hx rfl (hb hby d9_34) ?_
    exact k)
  obtain ⟨fs, hr, hrun, hended, hW, hsame⟩ := X0.leave (v := some (.int 0)) (fun h => by rw [Bd.returns] at h; cases h)
  refine ⟨_, _, P4 _ ?_, hrun, hended, _, _, rfl, ?_, ⟨_, rfl⟩, hW, hsame.mono (by decide) (by decide)⟩
  · show Steps p.tables e below (s₁.setTop (mkF m 35 #[rv x0, rv x1, .unset] [(.int 0)])) _
    exact retN X0 hx (t := .boolean) Bd.returns (by simp) (hb hby d9_35) hr
  · show Qleq21 Z x0 x1 ka kb y0 y1 z0 h0 n0 _ s₁.heap _
    rw [e0]
    exact ⟨rfl, N0, rfl⟩
def Qleq22 (Z : State) (x0 : Addr) (x1 : Addr) (ka : ClassId) (kb : ClassId) (y0 : Int32) (y1 : Int32) (z0 : Int32) (z1 : Int32) (h0 : Heap) (n0 : Nat) (v : Option Value) (h : Heap) (L : List Loc) : Prop := v = some (.int (if (y0 = z0 ∧ y1 = z1) then (1 : Int32) else (0 : Int32))) ∧ Fr n0 L ∧ h = h0
theorem ef_leq22 (m : MethodId) (x0 : Addr) (x1 : Addr) : entryFrame m #[(.ref x0), (.ref x1)] 3 = mkF m 0 #[rv x0, rv x1, .unset] [] := by first | (simp [entryFrame, mkF, argsToLocals, Value.category]; done) | rfl
set_option maxRecDepth 65536 in
set_option maxHeartbeats 40000000 in
theorem rmleq22 (l : Launch) (Z : State) (a0 : Array Value) (hw : ∀ d ∈ tables_1, d.before a0 Z = true) (ws : List Jvm.Cond) (x0 : Addr) (x1 : Addr) (ka : ClassId) (kb : ClassId) (y0 : Int32) (y1 : Int32) (z0 : Int32) (z1 : Int32) (h0 : Heap) (n0 : Nat) (Z0 : n0 ≤ h0.size) (pre_A_x0 : Arv Z h0 x0 ka .byte (2 : Int32) [(.int y0), (.int y1)] (.int 0)) (pre_A_x1 : Arv Z h0 x1 kb .byte (2 : Int32) [(.int z0), (.int z1)] (.int 0)) :
    MetFree l (⟨"java/lang/StringLatin1", "equals", "([B[B)Z"⟩ : MethodName) (head1 (Jvm.Cond.code (⟨"java/lang/StringLatin1", "equals", "([B[B)Z"⟩ : MethodName) jdk_43_method_13_code 3 (some .boolean) :: ws) ({ frames := 0, cells := 0, slots := 0, locals := 0 } : Room)) (fun a U => a = #[(.ref x0), (.ref x1)] ∧ Z.Warmed39 U.vm ∧ U.heap = h0) (fun _ _ _ _ _ => True) (fun _ U o U' => ∃ v L, o = .returned v ∧ Qleq22 Z x0 x1 ka kb y0 y1 z0 z1 h0 n0 v U'.heap L ∧ FrameEnd U o U' L ({ frames := 0, cells := 0, slots := 0, locals := 0 } : Room).cells ({ frames := 0, cells := 0, slots := 0, locals := 0 } : Room).slots) := by
  refine MetFree.of_bodySF (plainFor_of_name pn_9) hisR ?_
  intro p e s m args below meth c s₁ Bd hml0 hP hK
  obtain ⟨rfl, hZ, hh⟩ := hP
  have hx := Bd.exec
  have hby := Bd.bytes
  have hml : c.maxLocals = 3 := hml0
  have hown : s.vm.findClass "java/lang/StringLatin1" = some m.cls := findClass_of_methodNamed Bd.named
  have hnm := (name_of_methodNamed Bd.named Bd.method).1
  have X0 : Stand p l e ({ frames := 0, cells := 0, slots := 0, locals := 0 } : Room) s m #[(.ref x0), (.ref x1)] below meth c s₁ [] 0 0 := Stand.of_body Bd
  have e0 : s₁.heap = h0 := by rw [← hh, Bd.state]; rfl
  have N0 := Fr.nil n0
  have Kp0 := Keep.refl h0 []
  have P0 : ∀ t, Steps p.tables e below (s₁.setTop (mkF m 0 #[rv x0, rv x1, .unset] [])) t → Steps p.tables e below (s₁.setTop (entryFrame m #[(.ref x0), (.ref x1)] 3)) t := fun t k => castTop (ef_leq22 m x0 x1) k
  obtain ⟨cl1, Ar1, qa1, S1, Nn1, H1, G1⟩ := id pre_A_x0
  obtain ⟨cl2, Ar2, qa2, S2, Nn2, H2, G2⟩ := id pre_A_x1
  obtain ⟨cl4, Ar4, qa4, S4, Nn4, H4, G4⟩ := id pre_A_x0
  obtain ⟨cl6, Ar6, qa6, S6, Nn6, H6, G6⟩ := id pre_A_x0
  have hin6 : ¬ ((0 : Int32) < 0 ∨ cl6.slots.size ≤ ((0 : Int32)).toNatClampNeg) := inb_of S6 ⟨by decide, by decide⟩
  have hat6 : cl6.slots[((0 : Int32)).toNatClampNeg]? = some (.int y0) := Has.at H6 hin6 rfl
  obtain ⟨cl7, Ar7, qa7, S7, Nn7, H7, G7⟩ := id pre_A_x1
  have hin7 : ¬ ((0 : Int32) < 0 ∨ cl7.slots.size ≤ ((0 : Int32)).toNatClampNeg) := inb_of S7 ⟨by decide, by decide⟩
  have hat7 : cl7.slots[((0 : Int32)).toNatClampNeg]? = some (.int z0) := Has.at H7 hin7 rfl
  have P9 := own_go P0 (S' := s₁.setTop (mkF m 21 #[rv x0, rv x1, iv 0] [(.int z0), (.int y0)])) (by
    intro t k
    refine XS.aloadN X0.here hx rfl (hb hby d9_0) rfl rfl ?_
    refine X0.arraylength hx (by rw [e0]; exact Ar1.1) (State.isArrayOf_alike hZ.alike Ar1.2.1) (g := (mkF m 1 #[rv x0, rv x1, .unset] [(.ref x0)])) rfl rfl (hb hby d9_1) _ ?_
    rw [len_of S1 Nn1]
    refine XS.aloadN X0.here hx rfl (hb hby d9_2) rfl rfl ?_
    refine X0.arraylength hx (by rw [e0]; exact Ar2.1) (State.isArrayOf_alike hZ.alike Ar2.2.1) (g := (mkF m 3 #[rv x0, rv x1, .unset] [(.ref x1), (.int 2)])) rfl rfl (hb hby d9_3) _ ?_
    rw [len_of S2 Nn2]
    refine XS.icmpNo X0.here hx rfl (hb hby d9_4) rfl (teq (by decide)).2 ?_
    refine XS.iconst X0.here hx rfl (hb hby d9_7) ?_
    refine XS.istoreN X0.here hx rfl (hb hby d9_8) rfl (l' := #[rv x0, rv x1, iv 0]) rfl ?_
    refine XS.iloadN X0.here hx rfl (hb hby d9_9) rfl ?_
    show Steps p.tables e below (s₁.setTop (mkF m 10 #[rv x0, rv x1, iv 0] [(.int 0)])) _
    refine XS.aloadN X0.here hx rfl (hb hby d9_10) rfl rfl ?_
    refine X0.arraylength hx (by rw [e0]; exact Ar4.1) (State.isArrayOf_alike hZ.alike Ar4.2.1) (g := (mkF m 11 #[rv x0, rv x1, iv 0] [(.ref x0), (.int 0)])) rfl rfl (hb hby d9_11) _ ?_
    rw [len_of S4 Nn4]
    refine XS.icmpNo X0.here hx rfl (hb hby d9_12) rfl (tlt (by decide)).2.1 ?_
    refine XS.aloadN X0.here hx rfl (hb hby d9_15) rfl rfl ?_
    refine XS.iloadN X0.here hx rfl (hb hby d9_16) rfl ?_
    refine X0.baloadBytes hx (j := (0 : Int32)) (v := (.int y0)) (by rw [e0]; exact Ar6.1) (State.isArrayOf_alike hZ.alike Ar6.2.1) Ar6.2.2 hin6 hat6 (g := (mkF m 17 #[rv x0, rv x1, iv 0] [(.int 0), (.ref x0)])) rfl rfl (hb hby d9_17) _ ?_
    refine XS.aloadN X0.here hx rfl (hb hby d9_18) rfl rfl ?_
    refine XS.iloadN X0.here hx rfl (hb hby d9_19) rfl ?_
    show Steps p.tables e below (s₁.setTop (mkF m 20 #[rv x0, rv x1, iv 0] [(.int 0), (.ref x1), (.int y0)])) _
    refine X0.baloadBytes hx (j := (0 : Int32)) (v := (.int z0)) (by rw [e0]; exact Ar7.1) (State.isArrayOf_alike hZ.alike Ar7.2.1) Ar7.2.2 hin7 hat7 (g := (mkF m 20 #[rv x0, rv x1, iv 0] [(.int 0), (.ref x1), (.int y0)])) rfl rfl (hb hby d9_20) _ ?_
    exact k)
  by_cases hc21_8 : y0 = z0
  · obtain ⟨cl10, Ar10, qa10, S10, Nn10, H10, G10⟩ := id pre_A_x0
    obtain ⟨cl12, Ar12, qa12, S12, Nn12, H12, G12⟩ := id pre_A_x0
    have hin12 : ¬ ((1 : Int32) < 0 ∨ cl12.slots.size ≤ ((1 : Int32)).toNatClampNeg) := inb_of S12 ⟨by decide, by decide⟩
    have hat12 : cl12.slots[((1 : Int32)).toNatClampNeg]? = some (.int y1) := Has.at H12 hin12 rfl
    obtain ⟨cl13, Ar13, qa13, S13, Nn13, H13, G13⟩ := id pre_A_x1
    have hin13 : ¬ ((1 : Int32) < 0 ∨ cl13.slots.size ≤ ((1 : Int32)).toNatClampNeg) := inb_of S13 ⟨by decide, by decide⟩
    have hat13 : cl13.slots[((1 : Int32)).toNatClampNeg]? = some (.int z1) := Has.at H13 hin13 rfl
    have P15 := own_go P9 (S' := s₁.setTop (mkF m 21 #[rv x0, rv x1, iv 1] [(.int z1), (.int y1)])) (by
      intro t k
      refine XS.icmpYes X0.here hx rfl (pc0 := 21) (pc' := 26) rfl (hb hby d9_21) rfl (teq hc21_8).1 (by decide) (by decide) ?_
      refine XS.iinc X0.here hx rfl (hb hby d9_26) rfl (l' := #[rv x0, rv x1, iv 1]) rfl ?_
      refine XS.goto X0.here hx rfl (pc0 := 29) (pc' := 9) rfl (hb hby d9_29) (by decide) (by decide) ?_
      refine XS.iloadN X0.here hx rfl (hb hby d9_9) rfl ?_
      refine XS.aloadN X0.here hx rfl (hb hby d9_10) rfl rfl ?_
      refine X0.arraylength hx (by rw [e0]; exact Ar10.1) (State.isArrayOf_alike hZ.alike Ar10.2.1) (g := (mkF m 11 #[rv x0, rv x1, iv 1] [(.ref x0), (.int 1)])) rfl rfl (hb hby d9_11) _ ?_
      rw [len_of S10 Nn10]
      refine XS.icmpNo X0.here hx rfl (hb hby d9_12) rfl (tlt (by decide)).2.1 ?_
      refine XS.aloadN X0.here hx rfl (hb hby d9_15) rfl rfl ?_
      show Steps p.tables e below (s₁.setTop (mkF m 16 #[rv x0, rv x1, iv 1] [(.ref x0)])) _
      refine XS.iloadN X0.here hx rfl (hb hby d9_16) rfl ?_
      refine X0.baloadBytes hx (j := (1 : Int32)) (v := (.int y1)) (by rw [e0]; exact Ar12.1) (State.isArrayOf_alike hZ.alike Ar12.2.1) Ar12.2.2 hin12 hat12 (g := (mkF m 17 #[rv x0, rv x1, iv 1] [(.int 1), (.ref x0)])) rfl rfl (hb hby d9_17) _ ?_
      refine XS.aloadN X0.here hx rfl (hb hby d9_18) rfl rfl ?_
      refine XS.iloadN X0.here hx rfl (hb hby d9_19) rfl ?_
      refine X0.baloadBytes hx (j := (1 : Int32)) (v := (.int z1)) (by rw [e0]; exact Ar13.1) (State.isArrayOf_alike hZ.alike Ar13.2.1) Ar13.2.2 hin13 hat13 (g := (mkF m 20 #[rv x0, rv x1, iv 1] [(.int 1), (.ref x1), (.int y1)])) rfl rfl (hb hby d9_20) _ ?_
      exact k)
    by_cases hc21_14 : y1 = z1
    · obtain ⟨cl16, Ar16, qa16, S16, Nn16, H16, G16⟩ := id pre_A_x0
      have P18 := own_go P15 (S' := s₁.setTop (mkF m 33 #[rv x0, rv x1, iv 2] [(.int 1)])) (by
        intro t k
        refine XS.icmpYes X0.here hx rfl (pc0 := 21) (pc' := 26) rfl (hb hby d9_21) rfl (teq hc21_14).1 (by decide) (by decide) ?_
        refine XS.iinc X0.here hx rfl (hb hby d9_26) rfl (l' := #[rv x0, rv x1, iv 2]) rfl ?_
        refine XS.goto X0.here hx rfl (pc0 := 29) (pc' := 9) rfl (hb hby d9_29) (by decide) (by decide) ?_
        refine XS.iloadN X0.here hx rfl (hb hby d9_9) rfl ?_
        refine XS.aloadN X0.here hx rfl (hb hby d9_10) rfl rfl ?_
        refine X0.arraylength hx (by rw [e0]; exact Ar16.1) (State.isArrayOf_alike hZ.alike Ar16.2.1) (g := (mkF m 11 #[rv x0, rv x1, iv 2] [(.ref x0), (.int 2)])) rfl rfl (hb hby d9_11) _ ?_
        rw [len_of S16 Nn16]
        refine XS.icmpYes X0.here hx rfl (pc0 := 12) (pc' := 32) rfl (hb hby d9_12) rfl (flt (by decide)).2.1 (by decide) (by decide) ?_
        refine XS.iconst X0.here hx rfl (hb hby d9_32) ?_
        show Steps p.tables e below (s₁.setTop (mkF m 33 #[rv x0, rv x1, iv 2] [(.int 1)])) _
        exact k)
      obtain ⟨fs, hr, hrun, hended, hW, hsame⟩ := X0.leave (v := some (.int 1)) (fun h => by rw [Bd.returns] at h; cases h)
      refine ⟨_, _, P18 _ ?_, hrun, hended, _, _, rfl, ?_, ⟨_, rfl⟩, hW, hsame.mono (by decide) (by decide)⟩
      · show Steps p.tables e below (s₁.setTop (mkF m 33 #[rv x0, rv x1, iv 2] [(.int 1)])) _
        exact retN X0 hx (t := .boolean) Bd.returns (by simp) (hb hby d9_33) hr
      · show Qleq22 Z x0 x1 ka kb y0 y1 z0 z1 h0 n0 _ s₁.heap _
        rw [e0]
        exact ⟨(by first | rfl | rw [if_pos hc21_14] | rw [if_neg hc21_14] | rw [if_neg (not_not_intro hc21_14)] | simp [hc21_8, hc21_14]), N0, rfl⟩
    · have P19 := own_go P15 (S' := s₁.setTop (mkF m 25 #[rv x0, rv x1, iv 1] [(.int 0)])) (by
        intro t k
        refine XS.icmpNo X0.here hx rfl (hb hby d9_21) rfl (feq hc21_14).1 ?_
        refine XS.iconst X0.here hx rfl (hb hby d9_24) ?_
        exact k)
      obtain ⟨fs, hr, hrun, hended, hW, hsame⟩ := X0.leave (v := some (.int 0)) (fun h => by rw [Bd.returns] at h; cases h)
      refine ⟨_, _, P19 _ ?_, hrun, hended, _, _, rfl, ?_, ⟨_, rfl⟩, hW, hsame.mono (by decide) (by decide)⟩
      · show Steps p.tables e below (s₁.setTop (mkF m 25 #[rv x0, rv x1, iv 1] [(.int 0)])) _
        exact retN X0 hx (t := .boolean) Bd.returns (by simp) (hb hby d9_25) hr
      · show Qleq22 Z x0 x1 ka kb y0 y1 z0 z1 h0 n0 _ s₁.heap _
        rw [e0]
        exact ⟨(by first | rfl | rw [if_pos hc21_14] | rw [if_neg hc21_14] | rw [if_neg (not_not_intro hc21_14)] | simp [hc21_8, hc21_14]), N0, rfl⟩
  · have P20 := own_go P9 (S' := s₁.setTop (mkF m 25 #[rv x0, rv x1, iv 0] [(.int 0)])) (by
      intro t k
      refine XS.icmpNo X0.here hx rfl (hb hby d9_21) rfl (feq hc21_8).1 ?_
      refine XS.iconst X0.here hx rfl (hb hby d9_24) ?_
      exact k)
    obtain ⟨fs, hr, hrun, hended, hW, hsame⟩ := X0.leave (v := some (.int 0)) (fun h => by rw [Bd.returns] at h; cases h)
    refine ⟨_, _, P20 _ ?_, hrun, hended, _, _, rfl, ?_, ⟨_, rfl⟩, hW, hsame.mono (by decide) (by decide)⟩
    · show Steps p.tables e below (s₁.setTop (mkF m 25 #[rv x0, rv x1, iv 0] [(.int 0)])) _
      exact retN X0 hx (t := .boolean) Bd.returns (by simp) (hb hby d9_25) hr
    · show Qleq22 Z x0 x1 ka kb y0 y1 z0 z1 h0 n0 _ s₁.heap _
      rw [e0]
      exact ⟨(by first | rfl | rw [if_pos hc21_8] | rw [if_neg hc21_8] | rw [if_neg (not_not_intro hc21_8)] | simp [hc21_8]), N0, rfl⟩
def QeqP (Z : State) (x0 : Addr) (x1 : Addr) (cs : Int32) (as : List Int32) (bs : List Int32) (B1 : Nat) (B2 : Nat) (h0 : Heap) (n0 : Nat) (v : Option Value) (h : Heap) (L : List Loc) : Prop := v = some (.int (if as = bs then (1 : Int32) else (0 : Int32))) ∧ Fr n0 L ∧ h = h0
theorem ef_eqP (m : MethodId) (x0 : Addr) (x1 : Addr) : entryFrame m #[(.ref x0), (.ref x1)] 3 = mkF m 0 #[rv x0, rv x1, .unset] [] := by first | (simp [entryFrame, mkF, argsToLocals, Value.category]; done) | rfl
set_option maxRecDepth 65536 in
set_option maxHeartbeats 40000000 in
theorem rmeqP (l : Launch) (Z : State) (a0 : Array Value) (hw : ∀ d ∈ tables_1, d.before a0 Z = true) (ws : List Jvm.Cond) (x0 : Addr) (x1 : Addr) (cs : Int32) (as : List Int32) (bs : List Int32) (B1 : Nat) (B2 : Nat) (h0 : Heap) (n0 : Nat) (Z0 : n0 ≤ h0.size) (O0 : Old Z n0 h0) (pre_S_COMPACT_STRINGS : Sta Z Z.heap "java/lang/String" "COMPACT_STRINGS" "Z" (.int cs)) (hcs : ¬ (cs = (0 : Int32))) (ne_x0_x1 : x0 ≠ x1) (pre_P_x0 : own_Str Z h0 x0 as B1) (pre_P_x1 : own_Str Z h0 x1 bs B2) :
    MetFree l (⟨"java/lang/String", "equals", "(Ljava/lang/Object;)Z"⟩ : MethodName) (head1 (Jvm.Cond.code (⟨"java/lang/String", "equals", "(Ljava/lang/Object;)Z"⟩ : MethodName) jdk_42_method_66_code 3 (some .boolean) :: ws) ({ frames := 1, cells := 0, slots := 0, locals := 14 } : Room)) (fun a U => a = #[(.ref x0), (.ref x1)] ∧ Z.Warmed39 U.vm ∧ U.heap = h0) (fun _ _ _ _ _ => True) (fun _ U o U' => ∃ v L, o = .returned v ∧ QeqP Z x0 x1 cs as bs B1 B2 h0 n0 v U'.heap L ∧ FrameEnd U o U' L ({ frames := 1, cells := 0, slots := 0, locals := 14 } : Room).cells ({ frames := 1, cells := 0, slots := 0, locals := 14 } : Room).slots) := by
  refine MetFree.of_bodySF (plainFor_of_name pn_8) hisR ?_
  intro p e s m args below meth c s₁ Bd hml0 hP hK
  obtain ⟨rfl, hZ, hh⟩ := hP
  have hx := Bd.exec
  have hby := Bd.bytes
  have hml : c.maxLocals = 3 := hml0
  have hown : s.vm.findClass "java/lang/String" = some m.cls := findClass_of_methodNamed Bd.named
  have hnm := (name_of_methodNamed Bd.named Bd.method).1
  have X0 : Stand p l e ({ frames := 1, cells := 0, slots := 0, locals := 14 } : Room) s m #[(.ref x0), (.ref x1)] below meth c s₁ [] 0 0 := Stand.of_body Bd
  have e0 : s₁.heap = h0 := by rw [← hh, Bd.state]; rfl
  have N0 := Fr.nil n0
  have Kp0 := Keep.refl h0 []
  have P0 : ∀ t, Steps p.tables e below (s₁.setTop (mkF m 0 #[rv x0, rv x1, .unset] [])) t → Steps p.tables e below (s₁.setTop (entryFrame m #[(.ref x0), (.ref x1)] 3)) t := fun t k => castTop (ef_eqP m x0 x1) k
  obtain ⟨va, ka, Ea, Ca, Va, Aa, la, -, -⟩ := id pre_P_x0
  obtain ⟨vb, kb, Eb, Cb, Vb, Ab, lb, -, -⟩ := id pre_P_x1
  rcases own_three as la with ea | ⟨y0, ea⟩ | ⟨y0, y1, ea⟩
  · rw [ea] at Aa
    replace Aa : Arv Z h0 va ka .byte (0 : Int32) [] (.int 0) := Aa
    rcases own_three bs lb with eb | ⟨z0, eb⟩ | ⟨z0, z1, eb⟩
    · rw [eb] at Ab
      replace Ab : Arv Z h0 vb kb .byte (0 : Int32) [] (.int 0) := Ab
      obtain ⟨T1, X1, e1, st1⟩ := instY X0 hx hZ hown (hw _ (im 52 rfl)) e0 (Ins.self Eb) (g := (mkF m 8 #[rv x0, rv x1, .unset] [(.ref x1)])) rfl rfl (hb hby d8_8)
      obtain ⟨T3, X3, e3, st3⟩ := castY X1 hx hZ hown (hw _ (im 52 rfl)) e1 (Ins.self Eb) (g := (mkF m 15 #[rv x0, rv x1, .unset] [(.ref x1)])) rfl rfl (hb hby d8_15)
      obtain ⟨T4, X4, e4, st4⟩ := getS2 X3 hx hZ hown (host := "") (Or.inl (hw _ (im 53 rfl))) Via.refl e3 (pre_S_COMPACT_STRINGS.ext O0.2) (g := (mkF m 19 #[rv x0, rv x1, rv x1] [])) rfl (hb hby d8_19)
      have hc22_5 : ¬ (cs = (0 : Int32)) := hcs
      obtain ⟨T6, X6, e6, st6⟩ := getF X4 hx hZ hown (host := "") (Or.inl (hw _ (im 25 rfl))) Via.refl e4 Ca (g := (mkF m 26 #[rv x0, rv x1, rv x1] [(.ref x0)])) rfl rfl (hb hby d8_26)
      obtain ⟨T7, X7, e7, st7⟩ := getF X6 hx hZ hown (host := "") (Or.inl (hw _ (im 25 rfl))) Via.refl e6 Cb (g := (mkF m 30 #[rv x0, rv x1, rv x1] [(.ref x1), (.int 0)])) rfl rfl (hb hby d8_30)
      obtain ⟨T9, X9, e9, st9⟩ := getF X7 hx hZ hown (host := "") (Or.inl (hw _ (im 24 rfl))) Via.refl e7 Va (g := (mkF m 37 #[rv x0, rv x1, rv x1] [(.ref x0)])) rfl rfl (hb hby d8_37)
      obtain ⟨T10, X10, e10, st10⟩ := getF X9 hx hZ hown (host := "") (Or.inl (hw _ (im 24 rfl))) Via.refl e9 Vb (g := (mkF m 41 #[rv x0, rv x1, rv x1] [(.ref x1), (.ref va)])) rfl rfl (hb hby d8_41)
      obtain ⟨_, _, ⟨T11, L11, k11, n11⟩, -, X11, ⟨Lc11, hQ11, l11, y11, z11⟩, st11⟩ := Jvm.LawKit.callS X10 hx (y := (⟨"java/lang/StringLatin1", "equals", "([B[B)Z"⟩ : MethodName)) hown (mvT hZ (hw _ (im 54 rfl))) (mvT hZ (hw _ (im 55 rfl))) (mvT hZ (hw _ (im 56 rfl))) (mvT hZ (hw _ (im 57 rfl))) (by decide) (backOf (W := 0) (rmleq00 l Z a0 hw [] va vb ka kb h0 n0 Z0 Aa Ab) hZ (hw _ (im 57 rfl)) (hw _ (im 56 rfl)) (by decide) (by decide)) (g := (mkF m 44 #[rv x0, rv x1, rv x1] [(.ref vb), (.ref va)])) rfl (by rw [hml]; rfl) (argsL := [(.ref va), (.ref vb)]) (rest := []) (lenOf pd_6 rfl) rfl (by show 2 * 0 + _ ≤ _; exact Nat.le_of_eq rfl) (hb hby d8_44) (fun _ _ => ⟨rfl, e10, (by decide : 0 + 0 ≤ _), (by decide : 0 + 0 ≤ _)⟩)
      dsimp only [Pt.U, Pt.locs, Pt.cells, Pt.slots] at X11 l11 y11 z11 st11 hQ11
      subst l11 y11 z11
      obtain ⟨rfl, N11q, e11⟩ := hQ11
      have N11 := Fr.app N0 N11q
      have P13 := own_go P0 (S' := T11.setTop (mkF m 55 #[rv x0, rv x1, rv x1] [(.int 1)])) (by
        intro t k
        refine XS.aloadN X0.here hx rfl (hb hby d8_0) rfl rfl ?_
        refine XS.aloadN X0.here hx rfl (hb hby d8_1) rfl rfl ?_
        refine Jvm.RoadKit.acmp (g := (mkF m 2 #[rv x0, rv x1, .unset] [(.ref x1), (.ref x0)])) X0 hx rfl rfl rfl (pc0 := 2) (pc' := 7) (same := false) rfl (hb hby d8_2) rfl (decide_eq_false fun q => ne_x0_x1 (Value.ref.inj q)) (by decide) (by decide) ?_
        refine XS.aloadN X0.here hx rfl (hb hby d8_7) rfl rfl ?_
        refine st1 _ ?_
        refine XS.ifNo X1.here hx rfl (hb hby d8_11) rfl ((if0 _ _).trans (feq (by decide)).1) ?_
        refine XS.aloadN X1.here hx rfl (hb hby d8_14) rfl rfl ?_
        refine st3 _ ?_
        show Steps p.tables e below (T3.setTop (mkF m 18 #[rv x0, rv x1, .unset] [(.ref x1)])) _
        refine XS.astoreN X3.here hx rfl (hb hby d8_18) rfl rfl (l' := #[rv x0, rv x1, rv x1]) rfl ?_
        refine st4 _ ?_
        refine XS.ifNo X4.here hx rfl (hb hby d8_22) rfl ((if0 _ _).trans (feq hc22_5).1) ?_
        refine XS.aloadN X4.here hx rfl (hb hby d8_25) rfl rfl ?_
        refine st6 _ ?_
        refine XS.aloadN X6.here hx rfl (hb hby d8_29) rfl rfl ?_
        refine st7 _ ?_
        refine XS.icmpNo X7.here hx rfl (hb hby d8_33) rfl (teq (by decide)).2 ?_
        show Steps p.tables e below (T7.setTop (mkF m 36 #[rv x0, rv x1, rv x1] [])) _
        refine XS.aloadN X7.here hx rfl (hb hby d8_36) rfl rfl ?_
        refine st9 _ ?_
        refine XS.aloadN X9.here hx rfl (hb hby d8_40) rfl rfl ?_
        refine st10 _ ?_
        refine st11 _ ?_
        refine XS.ifNo X11.here hx rfl (hb hby d8_47) rfl ((if0 _ _).trans (feq (by decide)).1) ?_
        refine XS.iconst X11.here hx rfl (hb hby d8_50) ?_
        refine XS.goto X11.here hx rfl (pc0 := 51) (pc' := 55) rfl (hb hby d8_51) (by decide) (by decide) ?_
        show Steps p.tables e below (T11.setTop (mkF m 55 #[rv x0, rv x1, rv x1] [(.int 1)])) _
        exact k)
      obtain ⟨fs, hr, hrun, hended, hW, hsame⟩ := X11.leave (v := some (.int 1)) (fun h => by rw [Bd.returns] at h; cases h)
      refine ⟨_, _, P13 _ ?_, hrun, hended, _, _, rfl, ?_, ⟨_, rfl⟩, hW, hsame.mono (by decide) (by decide)⟩
      · show Steps p.tables e below (T11.setTop (mkF m 55 #[rv x0, rv x1, rv x1] [(.int 1)])) _
        exact retN X11 hx (t := .boolean) Bd.returns (by simp) (hb hby d8_55) hr
      · show QeqP Z x0 x1 cs as bs B1 B2 h0 n0 _ T11.heap _
        rw [e11]
        exact ⟨(by rw [ea, eb]; simp), N11, rfl⟩
    · rw [eb] at Ab
      replace Ab : Arv Z h0 vb kb .byte (1 : Int32) [(.int z0)] (.int 0) := Ab
      obtain ⟨T14, X14, e14, st14⟩ := instY X0 hx hZ hown (hw _ (im 52 rfl)) e0 (Ins.self Eb) (g := (mkF m 8 #[rv x0, rv x1, .unset] [(.ref x1)])) rfl rfl (hb hby d8_8)
      obtain ⟨T16, X16, e16, st16⟩ := castY X14 hx hZ hown (hw _ (im 52 rfl)) e14 (Ins.self Eb) (g := (mkF m 15 #[rv x0, rv x1, .unset] [(.ref x1)])) rfl rfl (hb hby d8_15)
      obtain ⟨T17, X17, e17, st17⟩ := getS2 X16 hx hZ hown (host := "") (Or.inl (hw _ (im 53 rfl))) Via.refl e16 (pre_S_COMPACT_STRINGS.ext O0.2) (g := (mkF m 19 #[rv x0, rv x1, rv x1] [])) rfl (hb hby d8_19)
      have hc22_18 : ¬ (cs = (0 : Int32)) := hcs
      obtain ⟨T19, X19, e19, st19⟩ := getF X17 hx hZ hown (host := "") (Or.inl (hw _ (im 25 rfl))) Via.refl e17 Ca (g := (mkF m 26 #[rv x0, rv x1, rv x1] [(.ref x0)])) rfl rfl (hb hby d8_26)
      obtain ⟨T20, X20, e20, st20⟩ := getF X19 hx hZ hown (host := "") (Or.inl (hw _ (im 25 rfl))) Via.refl e19 Cb (g := (mkF m 30 #[rv x0, rv x1, rv x1] [(.ref x1), (.int 0)])) rfl rfl (hb hby d8_30)
      obtain ⟨T22, X22, e22, st22⟩ := getF X20 hx hZ hown (host := "") (Or.inl (hw _ (im 24 rfl))) Via.refl e20 Va (g := (mkF m 37 #[rv x0, rv x1, rv x1] [(.ref x0)])) rfl rfl (hb hby d8_37)
      obtain ⟨T23, X23, e23, st23⟩ := getF X22 hx hZ hown (host := "") (Or.inl (hw _ (im 24 rfl))) Via.refl e22 Vb (g := (mkF m 41 #[rv x0, rv x1, rv x1] [(.ref x1), (.ref va)])) rfl rfl (hb hby d8_41)
      obtain ⟨_, _, ⟨T24, L24, k24, n24⟩, -, X24, ⟨Lc24, hQ24, l24, y24, z24⟩, st24⟩ := Jvm.LawKit.callS X23 hx (y := (⟨"java/lang/StringLatin1", "equals", "([B[B)Z"⟩ : MethodName)) hown (mvT hZ (hw _ (im 54 rfl))) (mvT hZ (hw _ (im 55 rfl))) (mvT hZ (hw _ (im 56 rfl))) (mvT hZ (hw _ (im 57 rfl))) (by decide) (backOf (W := 0) (rmleq01 l Z a0 hw [] va vb ka kb z0 h0 n0 Z0 Aa Ab) hZ (hw _ (im 57 rfl)) (hw _ (im 56 rfl)) (by decide) (by decide)) (g := (mkF m 44 #[rv x0, rv x1, rv x1] [(.ref vb), (.ref va)])) rfl (by rw [hml]; rfl) (argsL := [(.ref va), (.ref vb)]) (rest := []) (lenOf pd_6 rfl) rfl (by show 2 * 0 + _ ≤ _; exact Nat.le_of_eq rfl) (hb hby d8_44) (fun _ _ => ⟨rfl, e23, (by decide : 0 + 0 ≤ _), (by decide : 0 + 0 ≤ _)⟩)
      dsimp only [Pt.U, Pt.locs, Pt.cells, Pt.slots] at X24 l24 y24 z24 st24 hQ24
      subst l24 y24 z24
      obtain ⟨rfl, N24q, e24⟩ := hQ24
      have N24 := Fr.app N0 N24q
      have P26 := own_go P0 (S' := T24.setTop (mkF m 55 #[rv x0, rv x1, rv x1] [(.int 0)])) (by
        intro t k
        refine XS.aloadN X0.here hx rfl (hb hby d8_0) rfl rfl ?_
        refine XS.aloadN X0.here hx rfl (hb hby d8_1) rfl rfl ?_
        refine Jvm.RoadKit.acmp (g := (mkF m 2 #[rv x0, rv x1, .unset] [(.ref x1), (.ref x0)])) X0 hx rfl rfl rfl (pc0 := 2) (pc' := 7) (same := false) rfl (hb hby d8_2) rfl (decide_eq_false fun q => ne_x0_x1 (Value.ref.inj q)) (by decide) (by decide) ?_
        refine XS.aloadN X0.here hx rfl (hb hby d8_7) rfl rfl ?_
        refine st14 _ ?_
        refine XS.ifNo X14.here hx rfl (hb hby d8_11) rfl ((if0 _ _).trans (feq (by decide)).1) ?_
        refine XS.aloadN X14.here hx rfl (hb hby d8_14) rfl rfl ?_
        refine st16 _ ?_
        show Steps p.tables e below (T16.setTop (mkF m 18 #[rv x0, rv x1, .unset] [(.ref x1)])) _
        refine XS.astoreN X16.here hx rfl (hb hby d8_18) rfl rfl (l' := #[rv x0, rv x1, rv x1]) rfl ?_
        refine st17 _ ?_
        refine XS.ifNo X17.here hx rfl (hb hby d8_22) rfl ((if0 _ _).trans (feq hc22_18).1) ?_
        refine XS.aloadN X17.here hx rfl (hb hby d8_25) rfl rfl ?_
        refine st19 _ ?_
        refine XS.aloadN X19.here hx rfl (hb hby d8_29) rfl rfl ?_
        refine st20 _ ?_
        refine XS.icmpNo X20.here hx rfl (hb hby d8_33) rfl (teq (by decide)).2 ?_
        show Steps p.tables e below (T20.setTop (mkF m 36 #[rv x0, rv x1, rv x1] [])) _
        refine XS.aloadN X20.here hx rfl (hb hby d8_36) rfl rfl ?_
        refine st22 _ ?_
        refine XS.aloadN X22.here hx rfl (hb hby d8_40) rfl rfl ?_
        refine st23 _ ?_
        refine st24 _ ?_
        refine XS.ifYes X24.here hx rfl (pc0 := 47) (pc' := 54) rfl (hb hby d8_47) rfl ((if0 _ _).trans (teq (by decide)).1) (by decide) (by decide) ?_
        refine XS.iconst X24.here hx rfl (hb hby d8_54) ?_
        exact k)
      obtain ⟨fs, hr, hrun, hended, hW, hsame⟩ := X24.leave (v := some (.int 0)) (fun h => by rw [Bd.returns] at h; cases h)
      refine ⟨_, _, P26 _ ?_, hrun, hended, _, _, rfl, ?_, ⟨_, rfl⟩, hW, hsame.mono (by decide) (by decide)⟩
      · show Steps p.tables e below (T24.setTop (mkF m 55 #[rv x0, rv x1, rv x1] [(.int 0)])) _
        exact retN X24 hx (t := .boolean) Bd.returns (by simp) (hb hby d8_55) hr
      · show QeqP Z x0 x1 cs as bs B1 B2 h0 n0 _ T24.heap _
        rw [e24]
        exact ⟨(by rw [ea, eb]; simp), N24, rfl⟩
    · rw [eb] at Ab
      replace Ab : Arv Z h0 vb kb .byte (2 : Int32) [(.int z0), (.int z1)] (.int 0) := Ab
      obtain ⟨T27, X27, e27, st27⟩ := instY X0 hx hZ hown (hw _ (im 52 rfl)) e0 (Ins.self Eb) (g := (mkF m 8 #[rv x0, rv x1, .unset] [(.ref x1)])) rfl rfl (hb hby d8_8)
      obtain ⟨T29, X29, e29, st29⟩ := castY X27 hx hZ hown (hw _ (im 52 rfl)) e27 (Ins.self Eb) (g := (mkF m 15 #[rv x0, rv x1, .unset] [(.ref x1)])) rfl rfl (hb hby d8_15)
      obtain ⟨T30, X30, e30, st30⟩ := getS2 X29 hx hZ hown (host := "") (Or.inl (hw _ (im 53 rfl))) Via.refl e29 (pre_S_COMPACT_STRINGS.ext O0.2) (g := (mkF m 19 #[rv x0, rv x1, rv x1] [])) rfl (hb hby d8_19)
      have hc22_31 : ¬ (cs = (0 : Int32)) := hcs
      obtain ⟨T32, X32, e32, st32⟩ := getF X30 hx hZ hown (host := "") (Or.inl (hw _ (im 25 rfl))) Via.refl e30 Ca (g := (mkF m 26 #[rv x0, rv x1, rv x1] [(.ref x0)])) rfl rfl (hb hby d8_26)
      obtain ⟨T33, X33, e33, st33⟩ := getF X32 hx hZ hown (host := "") (Or.inl (hw _ (im 25 rfl))) Via.refl e32 Cb (g := (mkF m 30 #[rv x0, rv x1, rv x1] [(.ref x1), (.int 0)])) rfl rfl (hb hby d8_30)
      obtain ⟨T35, X35, e35, st35⟩ := getF X33 hx hZ hown (host := "") (Or.inl (hw _ (im 24 rfl))) Via.refl e33 Va (g := (mkF m 37 #[rv x0, rv x1, rv x1] [(.ref x0)])) rfl rfl (hb hby d8_37)
      obtain ⟨T36, X36, e36, st36⟩ := getF X35 hx hZ hown (host := "") (Or.inl (hw _ (im 24 rfl))) Via.refl e35 Vb (g := (mkF m 41 #[rv x0, rv x1, rv x1] [(.ref x1), (.ref va)])) rfl rfl (hb hby d8_41)
      obtain ⟨_, _, ⟨T37, L37, k37, n37⟩, -, X37, ⟨Lc37, hQ37, l37, y37, z37⟩, st37⟩ := Jvm.LawKit.callS X36 hx (y := (⟨"java/lang/StringLatin1", "equals", "([B[B)Z"⟩ : MethodName)) hown (mvT hZ (hw _ (im 54 rfl))) (mvT hZ (hw _ (im 55 rfl))) (mvT hZ (hw _ (im 56 rfl))) (mvT hZ (hw _ (im 57 rfl))) (by decide) (backOf (W := 0) (rmleq02 l Z a0 hw [] va vb ka kb z0 z1 h0 n0 Z0 Aa Ab) hZ (hw _ (im 57 rfl)) (hw _ (im 56 rfl)) (by decide) (by decide)) (g := (mkF m 44 #[rv x0, rv x1, rv x1] [(.ref vb), (.ref va)])) rfl (by rw [hml]; rfl) (argsL := [(.ref va), (.ref vb)]) (rest := []) (lenOf pd_6 rfl) rfl (by show 2 * 0 + _ ≤ _; exact Nat.le_of_eq rfl) (hb hby d8_44) (fun _ _ => ⟨rfl, e36, (by decide : 0 + 0 ≤ _), (by decide : 0 + 0 ≤ _)⟩)
      dsimp only [Pt.U, Pt.locs, Pt.cells, Pt.slots] at X37 l37 y37 z37 st37 hQ37
      subst l37 y37 z37
      obtain ⟨rfl, N37q, e37⟩ := hQ37
      have N37 := Fr.app N0 N37q
      have P39 := own_go P0 (S' := T37.setTop (mkF m 55 #[rv x0, rv x1, rv x1] [(.int 0)])) (by
        intro t k
        refine XS.aloadN X0.here hx rfl (hb hby d8_0) rfl rfl ?_
        refine XS.aloadN X0.here hx rfl (hb hby d8_1) rfl rfl ?_
        refine Jvm.RoadKit.acmp (g := (mkF m 2 #[rv x0, rv x1, .unset] [(.ref x1), (.ref x0)])) X0 hx rfl rfl rfl (pc0 := 2) (pc' := 7) (same := false) rfl (hb hby d8_2) rfl (decide_eq_false fun q => ne_x0_x1 (Value.ref.inj q)) (by decide) (by decide) ?_
        refine XS.aloadN X0.here hx rfl (hb hby d8_7) rfl rfl ?_
        refine st27 _ ?_
        refine XS.ifNo X27.here hx rfl (hb hby d8_11) rfl ((if0 _ _).trans (feq (by decide)).1) ?_
        refine XS.aloadN X27.here hx rfl (hb hby d8_14) rfl rfl ?_
        refine st29 _ ?_
        show Steps p.tables e below (T29.setTop (mkF m 18 #[rv x0, rv x1, .unset] [(.ref x1)])) _
        refine XS.astoreN X29.here hx rfl (hb hby d8_18) rfl rfl (l' := #[rv x0, rv x1, rv x1]) rfl ?_
        refine st30 _ ?_
        refine XS.ifNo X30.here hx rfl (hb hby d8_22) rfl ((if0 _ _).trans (feq hc22_31).1) ?_
        refine XS.aloadN X30.here hx rfl (hb hby d8_25) rfl rfl ?_
        refine st32 _ ?_
        refine XS.aloadN X32.here hx rfl (hb hby d8_29) rfl rfl ?_
        refine st33 _ ?_
        refine XS.icmpNo X33.here hx rfl (hb hby d8_33) rfl (teq (by decide)).2 ?_
        show Steps p.tables e below (T33.setTop (mkF m 36 #[rv x0, rv x1, rv x1] [])) _
        refine XS.aloadN X33.here hx rfl (hb hby d8_36) rfl rfl ?_
        refine st35 _ ?_
        refine XS.aloadN X35.here hx rfl (hb hby d8_40) rfl rfl ?_
        refine st36 _ ?_
        refine st37 _ ?_
        refine XS.ifYes X37.here hx rfl (pc0 := 47) (pc' := 54) rfl (hb hby d8_47) rfl ((if0 _ _).trans (teq (by decide)).1) (by decide) (by decide) ?_
        refine XS.iconst X37.here hx rfl (hb hby d8_54) ?_
        exact k)
      obtain ⟨fs, hr, hrun, hended, hW, hsame⟩ := X37.leave (v := some (.int 0)) (fun h => by rw [Bd.returns] at h; cases h)
      refine ⟨_, _, P39 _ ?_, hrun, hended, _, _, rfl, ?_, ⟨_, rfl⟩, hW, hsame.mono (by decide) (by decide)⟩
      · show Steps p.tables e below (T37.setTop (mkF m 55 #[rv x0, rv x1, rv x1] [(.int 0)])) _
        exact retN X37 hx (t := .boolean) Bd.returns (by simp) (hb hby d8_55) hr
      · show QeqP Z x0 x1 cs as bs B1 B2 h0 n0 _ T37.heap _
        rw [e37]
        exact ⟨(by rw [ea, eb]; simp), N37, rfl⟩
  · rw [ea] at Aa
    replace Aa : Arv Z h0 va ka .byte (1 : Int32) [(.int y0)] (.int 0) := Aa
    rcases own_three bs lb with eb | ⟨z0, eb⟩ | ⟨z0, z1, eb⟩
    · rw [eb] at Ab
      replace Ab : Arv Z h0 vb kb .byte (0 : Int32) [] (.int 0) := Ab
      obtain ⟨T40, X40, e40, st40⟩ := instY X0 hx hZ hown (hw _ (im 52 rfl)) e0 (Ins.self Eb) (g := (mkF m 8 #[rv x0, rv x1, .unset] [(.ref x1)])) rfl rfl (hb hby d8_8)
      obtain ⟨T42, X42, e42, st42⟩ := castY X40 hx hZ hown (hw _ (im 52 rfl)) e40 (Ins.self Eb) (g := (mkF m 15 #[rv x0, rv x1, .unset] [(.ref x1)])) rfl rfl (hb hby d8_15)
      obtain ⟨T43, X43, e43, st43⟩ := getS2 X42 hx hZ hown (host := "") (Or.inl (hw _ (im 53 rfl))) Via.refl e42 (pre_S_COMPACT_STRINGS.ext O0.2) (g := (mkF m 19 #[rv x0, rv x1, rv x1] [])) rfl (hb hby d8_19)
      have hc22_44 : ¬ (cs = (0 : Int32)) := hcs
      obtain ⟨T45, X45, e45, st45⟩ := getF X43 hx hZ hown (host := "") (Or.inl (hw _ (im 25 rfl))) Via.refl e43 Ca (g := (mkF m 26 #[rv x0, rv x1, rv x1] [(.ref x0)])) rfl rfl (hb hby d8_26)
      obtain ⟨T46, X46, e46, st46⟩ := getF X45 hx hZ hown (host := "") (Or.inl (hw _ (im 25 rfl))) Via.refl e45 Cb (g := (mkF m 30 #[rv x0, rv x1, rv x1] [(.ref x1), (.int 0)])) rfl rfl (hb hby d8_30)
      obtain ⟨T48, X48, e48, st48⟩ := getF X46 hx hZ hown (host := "") (Or.inl (hw _ (im 24 rfl))) Via.refl e46 Va (g := (mkF m 37 #[rv x0, rv x1, rv x1] [(.ref x0)])) rfl rfl (hb hby d8_37)
      obtain ⟨T49, X49, e49, st49⟩ := getF X48 hx hZ hown (host := "") (Or.inl (hw _ (im 24 rfl))) Via.refl e48 Vb (g := (mkF m 41 #[rv x0, rv x1, rv x1] [(.ref x1), (.ref va)])) rfl rfl (hb hby d8_41)
      obtain ⟨_, _, ⟨T50, L50, k50, n50⟩, -, X50, ⟨Lc50, hQ50, l50, y50, z50⟩, st50⟩ := Jvm.LawKit.callS X49 hx (y := (⟨"java/lang/StringLatin1", "equals", "([B[B)Z"⟩ : MethodName)) hown (mvT hZ (hw _ (im 54 rfl))) (mvT hZ (hw _ (im 55 rfl))) (mvT hZ (hw _ (im 56 rfl))) (mvT hZ (hw _ (im 57 rfl))) (by decide) (backOf (W := 0) (rmleq10 l Z a0 hw [] va vb ka kb y0 h0 n0 Z0 Aa Ab) hZ (hw _ (im 57 rfl)) (hw _ (im 56 rfl)) (by decide) (by decide)) (g := (mkF m 44 #[rv x0, rv x1, rv x1] [(.ref vb), (.ref va)])) rfl (by rw [hml]; rfl) (argsL := [(.ref va), (.ref vb)]) (rest := []) (lenOf pd_6 rfl) rfl (by show 2 * 0 + _ ≤ _; exact Nat.le_of_eq rfl) (hb hby d8_44) (fun _ _ => ⟨rfl, e49, (by decide : 0 + 0 ≤ _), (by decide : 0 + 0 ≤ _)⟩)
      dsimp only [Pt.U, Pt.locs, Pt.cells, Pt.slots] at X50 l50 y50 z50 st50 hQ50
      subst l50 y50 z50
      obtain ⟨rfl, N50q, e50⟩ := hQ50
      have N50 := Fr.app N0 N50q
      have P52 := own_go P0 (S' := T50.setTop (mkF m 55 #[rv x0, rv x1, rv x1] [(.int 0)])) (by
        intro t k
        refine XS.aloadN X0.here hx rfl (hb hby d8_0) rfl rfl ?_
        refine XS.aloadN X0.here hx rfl (hb hby d8_1) rfl rfl ?_
        refine Jvm.RoadKit.acmp (g := (mkF m 2 #[rv x0, rv x1, .unset] [(.ref x1), (.ref x0)])) X0 hx rfl rfl rfl (pc0 := 2) (pc' := 7) (same := false) rfl (hb hby d8_2) rfl (decide_eq_false fun q => ne_x0_x1 (Value.ref.inj q)) (by decide) (by decide) ?_
        refine XS.aloadN X0.here hx rfl (hb hby d8_7) rfl rfl ?_
        refine st40 _ ?_
        refine XS.ifNo X40.here hx rfl (hb hby d8_11) rfl ((if0 _ _).trans (feq (by decide)).1) ?_
        refine XS.aloadN X40.here hx rfl (hb hby d8_14) rfl rfl ?_
        refine st42 _ ?_
        show Steps p.tables e below (T42.setTop (mkF m 18 #[rv x0, rv x1, .unset] [(.ref x1)])) _
        refine XS.astoreN X42.here hx rfl (hb hby d8_18) rfl rfl (l' := #[rv x0, rv x1, rv x1]) rfl ?_
        refine st43 _ ?_
        refine XS.ifNo X43.here hx rfl (hb hby d8_22) rfl ((if0 _ _).trans (feq hc22_44).1) ?_
        refine XS.aloadN X43.here hx rfl (hb hby d8_25) rfl rfl ?_
        refine st45 _ ?_
        refine XS.aloadN X45.here hx rfl (hb hby d8_29) rfl rfl ?_
        refine st46 _ ?_
        refine XS.icmpNo X46.here hx rfl (hb hby d8_33) rfl (teq (by decide)).2 ?_
        show Steps p.tables e below (T46.setTop (mkF m 36 #[rv x0, rv x1, rv x1] [])) _
        refine XS.aloadN X46.here hx rfl (hb hby d8_36) rfl rfl ?_
        refine st48 _ ?_
        refine XS.aloadN X48.here hx rfl (hb hby d8_40) rfl rfl ?_
        refine st49 _ ?_
        refine st50 _ ?_
        refine XS.ifYes X50.here hx rfl (pc0 := 47) (pc' := 54) rfl (hb hby d8_47) rfl ((if0 _ _).trans (teq (by decide)).1) (by decide) (by decide) ?_
        refine XS.iconst X50.here hx rfl (hb hby d8_54) ?_
        exact k)
      obtain ⟨fs, hr, hrun, hended, hW, hsame⟩ := X50.leave (v := some (.int 0)) (fun h => by rw [Bd.returns] at h; cases h)
      refine ⟨_, _, P52 _ ?_, hrun, hended, _, _, rfl, ?_, ⟨_, rfl⟩, hW, hsame.mono (by decide) (by decide)⟩
      · show Steps p.tables e below (T50.setTop (mkF m 55 #[rv x0, rv x1, rv x1] [(.int 0)])) _
        exact retN X50 hx (t := .boolean) Bd.returns (by simp) (hb hby d8_55) hr
      · show QeqP Z x0 x1 cs as bs B1 B2 h0 n0 _ T50.heap _
        rw [e50]
        exact ⟨(by rw [ea, eb]; simp), N50, rfl⟩
    · rw [eb] at Ab
      replace Ab : Arv Z h0 vb kb .byte (1 : Int32) [(.int z0)] (.int 0) := Ab
      obtain ⟨T53, X53, e53, st53⟩ := instY X0 hx hZ hown (hw _ (im 52 rfl)) e0 (Ins.self Eb) (g := (mkF m 8 #[rv x0, rv x1, .unset] [(.ref x1)])) rfl rfl (hb hby d8_8)
      obtain ⟨T55, X55, e55, st55⟩ := castY X53 hx hZ hown (hw _ (im 52 rfl)) e53 (Ins.self Eb) (g := (mkF m 15 #[rv x0, rv x1, .unset] [(.ref x1)])) rfl rfl (hb hby d8_15)
      obtain ⟨T56, X56, e56, st56⟩ := getS2 X55 hx hZ hown (host := "") (Or.inl (hw _ (im 53 rfl))) Via.refl e55 (pre_S_COMPACT_STRINGS.ext O0.2) (g := (mkF m 19 #[rv x0, rv x1, rv x1] [])) rfl (hb hby d8_19)
      have hc22_57 : ¬ (cs = (0 : Int32)) := hcs
      obtain ⟨T58, X58, e58, st58⟩ := getF X56 hx hZ hown (host := "") (Or.inl (hw _ (im 25 rfl))) Via.refl e56 Ca (g := (mkF m 26 #[rv x0, rv x1, rv x1] [(.ref x0)])) rfl rfl (hb hby d8_26)
      obtain ⟨T59, X59, e59, st59⟩ := getF X58 hx hZ hown (host := "") (Or.inl (hw _ (im 25 rfl))) Via.refl e58 Cb (g := (mkF m 30 #[rv x0, rv x1, rv x1] [(.ref x1), (.int 0)])) rfl rfl (hb hby d8_30)
      obtain ⟨T61, X61, e61, st61⟩ := getF X59 hx hZ hown (host := "") (Or.inl (hw _ (im 24 rfl))) Via.refl e59 Va (g := (mkF m 37 #[rv x0, rv x1, rv x1] [(.ref x0)])) rfl rfl (hb hby d8_37)
      obtain ⟨T62, X62, e62, st62⟩ := getF X61 hx hZ hown (host := "") (Or.inl (hw _ (im 24 rfl))) Via.refl e61 Vb (g := (mkF m 41 #[rv x0, rv x1, rv x1] [(.ref x1), (.ref va)])) rfl rfl (hb hby d8_41)
      obtain ⟨_, _, ⟨T63, L63, k63, n63⟩, -, X63, ⟨Lc63, hQ63, l63, y63, z63⟩, st63⟩ := Jvm.LawKit.callS X62 hx (y := (⟨"java/lang/StringLatin1", "equals", "([B[B)Z"⟩ : MethodName)) hown (mvT hZ (hw _ (im 54 rfl))) (mvT hZ (hw _ (im 55 rfl))) (mvT hZ (hw _ (im 56 rfl))) (mvT hZ (hw _ (im 57 rfl))) (by decide) (backOf (W := 0) (rmleq11 l Z a0 hw [] va vb ka kb y0 z0 h0 n0 Z0 Aa Ab) hZ (hw _ (im 57 rfl)) (hw _ (im 56 rfl)) (by decide) (by decide)) (g := (mkF m 44 #[rv x0, rv x1, rv x1] [(.ref vb), (.ref va)])) rfl (by rw [hml]; rfl) (argsL := [(.ref va), (.ref vb)]) (rest := []) (lenOf pd_6 rfl) rfl (by show 2 * 0 + _ ≤ _; exact Nat.le_of_eq rfl) (hb hby d8_44) (fun _ _ => ⟨rfl, e62, (by decide : 0 + 0 ≤ _), (by decide : 0 + 0 ≤ _)⟩)
      dsimp only [Pt.U, Pt.locs, Pt.cells, Pt.slots] at X63 l63 y63 z63 st63 hQ63
      subst l63 y63 z63
      obtain ⟨rfl, N63q, e63⟩ := hQ63
      have N63 := Fr.app N0 N63q
      have P65 := own_go P0 (S' := T63.setTop (mkF m 47 #[rv x0, rv x1, rv x1] [(.int (if y0 = z0 then (1 : Int32) else (0 : Int32)))])) (by
        intro t k
        refine XS.aloadN X0.here hx rfl (hb hby d8_0) rfl rfl ?_
        refine XS.aloadN X0.here hx rfl (hb hby d8_1) rfl rfl ?_
        refine Jvm.RoadKit.acmp (g := (mkF m 2 #[rv x0, rv x1, .unset] [(.ref x1), (.ref x0)])) X0 hx rfl rfl rfl (pc0 := 2) (pc' := 7) (same := false) rfl (hb hby d8_2) rfl (decide_eq_false fun q => ne_x0_x1 (Value.ref.inj q)) (by decide) (by decide) ?_
        refine XS.aloadN X0.here hx rfl (hb hby d8_7) rfl rfl ?_
        refine st53 _ ?_
        refine XS.ifNo X53.here hx rfl (hb hby d8_11) rfl ((if0 _ _).trans (feq (by decide)).1) ?_
        refine XS.aloadN X53.here hx rfl (hb hby d8_14) rfl rfl ?_
        refine st55 _ ?_
        show Steps p.tables e below (T55.setTop (mkF m 18 #[rv x0, rv x1, .unset] [(.ref x1)])) _
        refine XS.astoreN X55.here hx rfl (hb hby d8_18) rfl rfl (l' := #[rv x0, rv x1, rv x1]) rfl ?_
        refine st56 _ ?_
        refine XS.ifNo X56.here hx rfl (hb hby d8_22) rfl ((if0 _ _).trans (feq hc22_57).1) ?_
        refine XS.aloadN X56.here hx rfl (hb hby d8_25) rfl rfl ?_
        refine st58 _ ?_
        refine XS.aloadN X58.here hx rfl (hb hby d8_29) rfl rfl ?_
        refine st59 _ ?_
        refine XS.icmpNo X59.here hx rfl (hb hby d8_33) rfl (teq (by decide)).2 ?_
        show Steps p.tables e below (T59.setTop (mkF m 36 #[rv x0, rv x1, rv x1] [])) _
        refine XS.aloadN X59.here hx rfl (hb hby d8_36) rfl rfl ?_
        refine st61 _ ?_
        refine XS.aloadN X61.here hx rfl (hb hby d8_40) rfl rfl ?_
        refine st62 _ ?_
        refine st63 _ ?_
        exact k)
      by_cases hc47_64 : y0 = z0
      · have P66 := own_go P65 (S' := T63.setTop (mkF m 55 #[rv x0, rv x1, rv x1] [(.int 1)])) (by
          intro t k
          refine XS.ifNo X63.here hx rfl (hb hby d8_47) rfl ((if0 _ _).trans (feq (by rw [if_pos hc47_64]; decide)).1) ?_
          refine XS.iconst X63.here hx rfl (hb hby d8_50) ?_
          refine XS.goto X63.here hx rfl (pc0 := 51) (pc' := 55) rfl (hb hby d8_51) (by decide) (by decide) ?_
          exact k)
        obtain ⟨fs, hr, hrun, hended, hW, hsame⟩ := X63.leave (v := some (.int 1)) (fun h => by rw [Bd.returns] at h; cases h)
        refine ⟨_, _, P66 _ ?_, hrun, hended, _, _, rfl, ?_, ⟨_, rfl⟩, hW, hsame.mono (by decide) (by decide)⟩
        · show Steps p.tables e below (T63.setTop (mkF m 55 #[rv x0, rv x1, rv x1] [(.int 1)])) _
          exact retN X63 hx (t := .boolean) Bd.returns (by simp) (hb hby d8_55) hr
        · show QeqP Z x0 x1 cs as bs B1 B2 h0 n0 _ T63.heap _
          rw [e63]
          exact ⟨(by rw [ea, eb]; simp [hc47_64]), N63, rfl⟩
      · have P67 := own_go P65 (S' := T63.setTop (mkF m 55 #[rv x0, rv x1, rv x1] [(.int 0)])) (by
          intro t k
          refine XS.ifYes X63.here hx rfl (pc0 := 47) (pc' := 54) rfl (hb hby d8_47) rfl ((if0 _ _).trans (teq (if_neg hc47_64)).1) (by decide) (by decide) ?_
          refine XS.iconst X63.here hx rfl (hb hby d8_54) ?_
          exact k)
        obtain ⟨fs, hr, hrun, hended, hW, hsame⟩ := X63.leave (v := some (.int 0)) (fun h => by rw [Bd.returns] at h; cases h)
        refine ⟨_, _, P67 _ ?_, hrun, hended, _, _, rfl, ?_, ⟨_, rfl⟩, hW, hsame.mono (by decide) (by decide)⟩
        · show Steps p.tables e below (T63.setTop (mkF m 55 #[rv x0, rv x1, rv x1] [(.int 0)])) _
          exact retN X63 hx (t := .boolean) Bd.returns (by simp) (hb hby d8_55) hr
        · show QeqP Z x0 x1 cs as bs B1 B2 h0 n0 _ T63.heap _
          rw [e63]
          exact ⟨(by rw [ea, eb]; simp [hc47_64]), N63, rfl⟩
    · rw [eb] at Ab
      replace Ab : Arv Z h0 vb kb .byte (2 : Int32) [(.int z0), (.int z1)] (.int 0) := Ab
      obtain ⟨T68, X68, e68, st68⟩ := instY X0 hx hZ hown (hw _ (im 52 rfl)) e0 (Ins.self Eb) (g := (mkF m 8 #[rv x0, rv x1, .unset] [(.ref x1)])) rfl rfl (hb hby d8_8)
      obtain ⟨T70, X70, e70, st70⟩ := castY X68 hx hZ hown (hw _ (im 52 rfl)) e68 (Ins.self Eb) (g := (mkF m 15 #[rv x0, rv x1, .unset] [(.ref x1)])) rfl rfl (hb hby d8_15)
      obtain ⟨T71, X71, e71, st71⟩ := getS2 X70 hx hZ hown (host := "") (Or.inl (hw _ (im 53 rfl))) Via.refl e70 (pre_S_COMPACT_STRINGS.ext O0.2) (g := (mkF m 19 #[rv x0, rv x1, rv x1] [])) rfl (hb hby d8_19)
      have hc22_72 : ¬ (cs = (0 : Int32)) := hcs
      obtain ⟨T73, X73, e73, st73⟩ := getF X71 hx hZ hown (host := "") (Or.inl (hw _ (im 25 rfl))) Via.refl e71 Ca (g := (mkF m 26 #[rv x0, rv x1, rv x1] [(.ref x0)])) rfl rfl (hb hby d8_26)
      obtain ⟨T74, X74, e74, st74⟩ := getF X73 hx hZ hown (host := "") (Or.inl (hw _ (im 25 rfl))) Via.refl e73 Cb (g := (mkF m 30 #[rv x0, rv x1, rv x1] [(.ref x1), (.int 0)])) rfl rfl (hb hby d8_30)
      obtain ⟨T76, X76, e76, st76⟩ := getF X74 hx hZ hown (host := "") (Or.inl (hw _ (im 24 rfl))) Via.refl e74 Va (g := (mkF m 37 #[rv x0, rv x1, rv x1] [(.ref x0)])) rfl rfl (hb hby d8_37)
      obtain ⟨T77, X77, e77, st77⟩ := getF X76 hx hZ hown (host := "") (Or.inl (hw _ (im 24 rfl))) Via.refl e76 Vb (g := (mkF m 41 #[rv x0, rv x1, rv x1] [(.ref x1), (.ref va)])) rfl rfl (hb hby d8_41)
      obtain ⟨_, _, ⟨T78, L78, k78, n78⟩, -, X78, ⟨Lc78, hQ78, l78, y78, z78⟩, st78⟩ := Jvm.LawKit.callS X77 hx (y := (⟨"java/lang/StringLatin1", "equals", "([B[B)Z"⟩ : MethodName)) hown (mvT hZ (hw _ (im 54 rfl))) (mvT hZ (hw _ (im 55 rfl))) (mvT hZ (hw _ (im 56 rfl))) (mvT hZ (hw _ (im 57 rfl))) (by decide) (backOf (W := 0) (rmleq12 l Z a0 hw [] va vb ka kb y0 z0 z1 h0 n0 Z0 Aa Ab) hZ (hw _ (im 57 rfl)) (hw _ (im 56 rfl)) (by decide) (by decide)) (g := (mkF m 44 #[rv x0, rv x1, rv x1] [(.ref vb), (.ref va)])) rfl (by rw [hml]; rfl) (argsL := [(.ref va), (.ref vb)]) (rest := []) (lenOf pd_6 rfl) rfl (by show 2 * 0 + _ ≤ _; exact Nat.le_of_eq rfl) (hb hby d8_44) (fun _ _ => ⟨rfl, e77, (by decide : 0 + 0 ≤ _), (by decide : 0 + 0 ≤ _)⟩)
      dsimp only [Pt.U, Pt.locs, Pt.cells, Pt.slots] at X78 l78 y78 z78 st78 hQ78
      subst l78 y78 z78
      obtain ⟨rfl, N78q, e78⟩ := hQ78
      have N78 := Fr.app N0 N78q
      have P80 := own_go P0 (S' := T78.setTop (mkF m 55 #[rv x0, rv x1, rv x1] [(.int 0)])) (by
        intro t k
        refine XS.aloadN X0.here hx rfl (hb hby d8_0) rfl rfl ?_
        refine XS.aloadN X0.here hx rfl (hb hby d8_1) rfl rfl ?_
        refine Jvm.RoadKit.acmp (g := (mkF m 2 #[rv x0, rv x1, .unset] [(.ref x1), (.ref x0)])) X0 hx rfl rfl rfl (pc0 := 2) (pc' := 7) (same := false) rfl (hb hby d8_2) rfl (decide_eq_false fun q => ne_x0_x1 (Value.ref.inj q)) (by decide) (by decide) ?_
        refine XS.aloadN X0.here hx rfl (hb hby d8_7) rfl rfl ?_
        refine st68 _ ?_
        refine XS.ifNo X68.here hx rfl (hb hby d8_11) rfl ((if0 _ _).trans (feq (by decide)).1) ?_
        refine XS.aloadN X68.here hx rfl (hb hby d8_14) rfl rfl ?_
        refine st70 _ ?_
        show Steps p.tables e below (T70.setTop (mkF m 18 #[rv x0, rv x1, .unset] [(.ref x1)])) _
        refine XS.astoreN X70.here hx rfl (hb hby d8_18) rfl rfl (l' := #[rv x0, rv x1, rv x1]) rfl ?_
        refine st71 _ ?_
        refine XS.ifNo X71.here hx rfl (hb hby d8_22) rfl ((if0 _ _).trans (feq hc22_72).1) ?_
        refine XS.aloadN X71.here hx rfl (hb hby d8_25) rfl rfl ?_
        refine st73 _ ?_
        refine XS.aloadN X73.here hx rfl (hb hby d8_29) rfl rfl ?_
        refine st74 _ ?_
        refine XS.icmpNo X74.here hx rfl (hb hby d8_33) rfl (teq (by decide)).2 ?_
        show Steps p.tables e below (T74.setTop (mkF m 36 #[rv x0, rv x1, rv x1] [])) _
        refine XS.aloadN X74.here hx rfl (hb hby d8_36) rfl rfl ?_
        refine st76 _ ?_
        refine XS.aloadN X76.here hx rfl (hb hby d8_40) rfl rfl ?_
        refine st77 _ ?_
        refine st78 _ ?_
        refine XS.ifYes X78.here hx rfl (pc0 := 47) (pc' := 54) rfl (hb hby d8_47) rfl ((if0 _ _).trans (teq (by decide)).1) (by decide) (by decide) ?_
        refine XS.iconst X78.here hx rfl (hb hby d8_54) ?_
        exact k)
      obtain ⟨fs, hr, hrun, hended, hW, hsame⟩ := X78.leave (v := some (.int 0)) (fun h => by rw [Bd.returns] at h; cases h)
      refine ⟨_, _, P80 _ ?_, hrun, hended, _, _, rfl, ?_, ⟨_, rfl⟩, hW, hsame.mono (by decide) (by decide)⟩
      · show Steps p.tables e below (T78.setTop (mkF m 55 #[rv x0, rv x1, rv x1] [(.int 0)])) _
        exact retN X78 hx (t := .boolean) Bd.returns (by simp) (hb hby d8_55) hr
      · show QeqP Z x0 x1 cs as bs B1 B2 h0 n0 _ T78.heap _
        rw [e78]
        exact ⟨(by rw [ea, eb]; simp), N78, rfl⟩
  · rw [ea] at Aa
    replace Aa : Arv Z h0 va ka .byte (2 : Int32) [(.int y0), (.int y1)] (.int 0) := Aa
    rcases own_three bs lb with eb | ⟨z0, eb⟩ | ⟨z0, z1, eb⟩
    · rw [eb] at Ab
      replace Ab : Arv Z h0 vb kb .byte (0 : Int32) [] (.int 0) := Ab
      obtain ⟨T81, X81, e81, st81⟩ := instY X0 hx hZ hown (hw _ (im 52 rfl)) e0 (Ins.self Eb) (g := (mkF m 8 #[rv x0, rv x1, .unset] [(.ref x1)])) rfl rfl (hb hby d8_8)
      obtain ⟨T83, X83, e83, st83⟩ := castY X81 hx hZ hown (hw _ (im 52 rfl)) e81 (Ins.self Eb) (g := (mkF m 15 #[rv x0, rv x1, .unset] [(.ref x1)])) rfl rfl (hb hby d8_15)
      obtain ⟨T84, X84, e84, st84⟩ := getS2 X83 hx hZ hown (host := "") (Or.inl (hw _ (im 53 rfl))) Via.refl e83 (pre_S_COMPACT_STRINGS.ext O0.2) (g := (mkF m 19 #[rv x0, rv x1, rv x1] [])) rfl (hb hby d8_19)
      have hc22_85 : ¬ (cs = (0 : Int32)) := hcs
      obtain ⟨T86, X86, e86, st86⟩ := getF X84 hx hZ hown (host := "") (Or.inl (hw _ (im 25 rfl))) Via.refl e84 Ca (g := (mkF m 26 #[rv x0, rv x1, rv x1] [(.ref x0)])) rfl rfl (hb hby d8_26)
      obtain ⟨T87, X87, e87, st87⟩ := getF X86 hx hZ hown (host := "") (Or.inl (hw _ (im 25 rfl))) Via.refl e86 Cb (g := (mkF m 30 #[rv x0, rv x1, rv x1] [(.ref x1), (.int 0)])) rfl rfl (hb hby d8_30)
      obtain ⟨T89, X89, e89, st89⟩ := getF X87 hx hZ hown (host := "") (Or.inl (hw _ (im 24 rfl))) Via.refl e87 Va (g := (mkF m 37 #[rv x0, rv x1, rv x1] [(.ref x0)])) rfl rfl (hb hby d8_37)
      obtain ⟨T90, X90, e90, st90⟩ := getF X89 hx hZ hown (host := "") (Or.inl (hw _ (im 24 rfl))) Via.refl e89 Vb (g := (mkF m 41 #[rv x0, rv x1, rv x1] [(.ref x1), (.ref va)])) rfl rfl (hb hby d8_41)
      obtain ⟨_, _, ⟨T91, L91, k91, n91⟩, -, X91, ⟨Lc91, hQ91, l91, y91, z91⟩, st91⟩ := Jvm.LawKit.callS X90 hx (y := (⟨"java/lang/StringLatin1", "equals", "([B[B)Z"⟩ : MethodName)) hown (mvT hZ (hw _ (im 54 rfl))) (mvT hZ (hw _ (im 55 rfl))) (mvT hZ (hw _ (im 56 rfl))) (mvT hZ (hw _ (im 57 rfl))) (by decide) (backOf (W := 0) (rmleq20 l Z a0 hw [] va vb ka kb y0 y1 h0 n0 Z0 Aa Ab) hZ (hw _ (im 57 rfl)) (hw _ (im 56 rfl)) (by decide) (by decide)) (g := (mkF m 44 #[rv x0, rv x1, rv x1] [(.ref vb), (.ref va)])) rfl (by rw [hml]; rfl) (argsL := [(.ref va), (.ref vb)]) (rest := []) (lenOf pd_6 rfl) rfl (by show 2 * 0 + _ ≤ _; exact Nat.le_of_eq rfl) (hb hby d8_44) (fun _ _ => ⟨rfl, e90, (by decide : 0 + 0 ≤ _), (by decide : 0 + 0 ≤ _)⟩)
      dsimp only [Pt.U, Pt.locs, Pt.cells, Pt.slots] at X91 l91 y91 z91 st91 hQ91
      subst l91 y91 z91
      obtain ⟨rfl, N91q, e91⟩ := hQ91
      have N91 := Fr.app N0 N91q
      have P93 := own_go P0 (S' := T91.setTop (mkF m 55 #[rv x0, rv x1, rv x1] [(.int 0)])) (by
        intro t k
        refine XS.aloadN X0.here hx rfl (hb hby d8_0) rfl rfl ?_
        refine XS.aloadN X0.here hx rfl (hb hby d8_1) rfl rfl ?_
        refine Jvm.RoadKit.acmp (g := (mkF m 2 #[rv x0, rv x1, .unset] [(.ref x1), (.ref x0)])) X0 hx rfl rfl rfl (pc0 := 2) (pc' := 7) (same := false) rfl (hb hby d8_2) rfl (decide_eq_false fun q => ne_x0_x1 (Value.ref.inj q)) (by decide) (by decide) ?_
        refine XS.aloadN X0.here hx rfl (hb hby d8_7) rfl rfl ?_
        refine st81 _ ?_
        refine XS.ifNo X81.here hx rfl (hb hby d8_11) rfl ((if0 _ _).trans (feq (by decide)).1) ?_
        refine XS.aloadN X81.here hx rfl (hb hby d8_14) rfl rfl ?_
        refine st83 _ ?_
        show Steps p.tables e below (T83.setTop (mkF m 18 #[rv x0, rv x1, .unset] [(.ref x1)])) _
        refine XS.astoreN X83.here hx rfl (hb hby d8_18) rfl rfl (l' := #[rv x0, rv x1, rv x1]) rfl ?_
        refine st84 _ ?_
        refine XS.ifNo X84.here hx rfl (hb hby d8_22) rfl ((if0 _ _).trans (feq hc22_85).1) ?_
        refine XS.aloadN X84.here hx rfl (hb hby d8_25) rfl rfl ?_
        refine st86 _ ?_
        refine XS.aloadN X86.here hx rfl (hb hby d8_29) rfl rfl ?_
        refine st87 _ ?_
        refine XS.icmpNo X87.here hx rfl (hb hby d8_33) rfl (teq (by decide)).2 ?_
        show Steps p.tables e below (T87.setTop (mkF m 36 #[rv x0, rv x1, rv x1] [])) _
        refine XS.aloadN X87.here hx rfl (hb hby d8_36) rfl rfl ?_
        refine st89 _ ?_
        refine XS.aloadN X89.here hx rfl (hb hby d8_40) rfl rfl ?_
        refine st90 _ ?_
        refine st91 _ ?_
        refine XS.ifYes X91.here hx rfl (pc0 := 47) (pc' := 54) rfl (hb hby d8_47) rfl ((if0 _ _).trans (teq (by decide)).1) (by decide) (by decide) ?_
        refine XS.iconst X91.here hx rfl (hb hby d8_54) ?_
        exact k)
      obtain ⟨fs, hr, hrun, hended, hW, hsame⟩ := X91.leave (v := some (.int 0)) (fun h => by rw [Bd.returns] at h; cases h)
      refine ⟨_, _, P93 _ ?_, hrun, hended, _, _, rfl, ?_, ⟨_, rfl⟩, hW, hsame.mono (by decide) (by decide)⟩
      · show Steps p.tables e below (T91.setTop (mkF m 55 #[rv x0, rv x1, rv x1] [(.int 0)])) _
        exact retN X91 hx (t := .boolean) Bd.returns (by simp) (hb hby d8_55) hr
      · show QeqP Z x0 x1 cs as bs B1 B2 h0 n0 _ T91.heap _
        rw [e91]
        exact ⟨(by rw [ea, eb]; simp), N91, rfl⟩
    · rw [eb] at Ab
      replace Ab : Arv Z h0 vb kb .byte (1 : Int32) [(.int z0)] (.int 0) := Ab
      obtain ⟨T94, X94, e94, st94⟩ := instY X0 hx hZ hown (hw _ (im 52 rfl)) e0 (Ins.self Eb) (g := (mkF m 8 #[rv x0, rv x1, .unset] [(.ref x1)])) rfl rfl (hb hby d8_8)
      obtain ⟨T96, X96, e96, st96⟩ := castY X94 hx hZ hown (hw _ (im 52 rfl)) e94 (Ins.self Eb) (g := (mkF m 15 #[rv x0, rv x1, .unset] [(.ref x1)])) rfl rfl (hb hby d8_15)
      obtain ⟨T97, X97, e97, st97⟩ := getS2 X96 hx hZ hown (host := "") (Or.inl (hw _ (im 53 rfl))) Via.refl e96 (pre_S_COMPACT_STRINGS.ext O0.2) (g := (mkF m 19 #[rv x0, rv x1, rv x1] [])) rfl (hb hby d8_19)
      have hc22_98 : ¬ (cs = (0 : Int32)) := hcs
      obtain ⟨T99, X99, e99, st99⟩ := getF X97 hx hZ hown (host := "") (Or.inl (hw _ (im 25 rfl))) Via.refl e97 Ca (g := (mkF m 26 #[rv x0, rv x1, rv x1] [(.ref x0)])) rfl rfl (hb hby d8_26)
      obtain ⟨T100, X100, e100, st100⟩ := getF X99 hx hZ hown (host := "") (Or.inl (hw _ (im 25 rfl))) Via.refl e99 Cb (g := (mkF m 30 #[rv x0, rv x1, rv x1] [(.ref x1), (.int 0)])) rfl rfl (hb hby d8_30)
      obtain ⟨T102, X102, e102, st102⟩ := getF X100 hx hZ hown (host := "") (Or.inl (hw _ (im 24 rfl))) Via.refl e100 Va (g := (mkF m 37 #[rv x0, rv x1, rv x1] [(.ref x0)])) rfl rfl (hb hby d8_37)
      obtain ⟨T103, X103, e103, st103⟩ := getF X102 hx hZ hown (host := "") (Or.inl (hw _ (im 24 rfl))) Via.refl e102 Vb (g := (mkF m 41 #[rv x0, rv x1, rv x1] [(.ref x1), (.ref va)])) rfl rfl (hb hby d8_41)
      obtain ⟨_, _, ⟨T104, L104, k104, n104⟩, -, X104, ⟨Lc104, hQ104, l104, y104, z104⟩, st104⟩ := Jvm.LawKit.callS X103 hx (y := (⟨"java/lang/StringLatin1", "equals", "([B[B)Z"⟩ : MethodName)) hown (mvT hZ (hw _ (im 54 rfl))) (mvT hZ (hw _ (im 55 rfl))) (mvT hZ (hw _ (im 56 rfl))) (mvT hZ (hw _ (im 57 rfl))) (by decide) (backOf (W := 0) (rmleq21 l Z a0 hw [] va vb ka kb y0 y1 z0 h0 n0 Z0 Aa Ab) hZ (hw _ (im 57 rfl)) (hw _ (im 56 rfl)) (by decide) (by decide)) (g := (mkF m 44 #[rv x0, rv x1, rv x1] [(.ref vb), (.ref va)])) rfl (by rw [hml]; rfl) (argsL := [(.ref va), (.ref vb)]) (rest := []) (lenOf pd_6 rfl) rfl (by show 2 * 0 + _ ≤ _; exact Nat.le_of_eq rfl) (hb hby d8_44) (fun _ _ => ⟨rfl, e103, (by decide : 0 + 0 ≤ _), (by decide : 0 + 0 ≤ _)⟩)
      dsimp only [Pt.U, Pt.locs, Pt.cells, Pt.slots] at X104 l104 y104 z104 st104 hQ104
      subst l104 y104 z104
      obtain ⟨rfl, N104q, e104⟩ := hQ104
      have N104 := Fr.app N0 N104q
      have P106 := own_go P0 (S' := T104.setTop (mkF m 55 #[rv x0, rv x1, rv x1] [(.int 0)])) (by
        intro t k
        refine XS.aloadN X0.here hx rfl (hb hby d8_0) rfl rfl ?_
        refine XS.aloadN X0.here hx rfl (hb hby d8_1) rfl rfl ?_
        refine Jvm.RoadKit.acmp (g := (mkF m 2 #[rv x0, rv x1, .unset] [(.ref x1), (.ref x0)])) X0 hx rfl rfl rfl (pc0 := 2) (pc' := 7) (same := false) rfl (hb hby d8_2) rfl (decide_eq_false fun q => ne_x0_x1 (Value.ref.inj q)) (by decide) (by decide) ?_
        refine XS.aloadN X0.here hx rfl (hb hby d8_7) rfl rfl ?_
        refine st94 _ ?_
        refine XS.ifNo X94.here hx rfl (hb hby d8_11) rfl ((if0 _ _).trans (feq (by decide)).1) ?_
        refine XS.aloadN X94.here hx rfl (hb hby d8_14) rfl rfl ?_
        refine st96 _ ?_
        show Steps p.tables e below (T96.setTop (mkF m 18 #[rv x0, rv x1, .unset] [(.ref x1)])) _
        refine XS.astoreN X96.here hx rfl (hb hby d8_18) rfl rfl (l' := #[rv x0, rv x1, rv x1]) rfl ?_
        refine st97 _ ?_
        refine XS.ifNo X97.here hx rfl (hb hby d8_22) rfl ((if0 _ _).trans (feq hc22_98).1) ?_
        refine XS.aloadN X97.here hx rfl (hb hby d8_25) rfl rfl ?_
        refine st99 _ ?_
        refine XS.aloadN X99.here hx rfl (hb hby d8_29) rfl rfl ?_
        refine st100 _ ?_
        refine XS.icmpNo X100.here hx rfl (hb hby d8_33) rfl (teq (by decide)).2 ?_
        show Steps p.tables e below (T100.setTop (mkF m 36 #[rv x0, rv x1, rv x1] [])) _
        refine XS.aloadN X100.here hx rfl (hb hby d8_36) rfl rfl ?_
        refine st102 _ ?_
        refine XS.aloadN X102.here hx rfl (hb hby d8_40) rfl rfl ?_
        refine st103 _ ?_
        refine st104 _ ?_
        refine XS.ifYes X104.here hx rfl (pc0 := 47) (pc' := 54) rfl (hb hby d8_47) rfl ((if0 _ _).trans (teq (by decide)).1) (by decide) (by decide) ?_
        refine XS.iconst X104.here hx rfl (hb hby d8_54) ?_
        exact k)
      obtain ⟨fs, hr, hrun, hended, hW, hsame⟩ := X104.leave (v := some (.int 0)) (fun h => by rw [Bd.returns] at h; cases h)
      refine ⟨_, _, P106 _ ?_, hrun, hended, _, _, rfl, ?_, ⟨_, rfl⟩, hW, hsame.mono (by decide) (by decide)⟩
      · show Steps p.tables e below (T104.setTop (mkF m 55 #[rv x0, rv x1, rv x1] [(.int 0)])) _
        exact retN X104 hx (t := .boolean) Bd.returns (by simp) (hb hby d8_55) hr
      · show QeqP Z x0 x1 cs as bs B1 B2 h0 n0 _ T104.heap _
        rw [e104]
        exact ⟨(by rw [ea, eb]; simp), N104, rfl⟩
    · rw [eb] at Ab
      replace Ab : Arv Z h0 vb kb .byte (2 : Int32) [(.int z0), (.int z1)] (.int 0) := Ab
      obtain ⟨T107, X107, e107, st107⟩ := instY X0 hx hZ hown (hw _ (im 52 rfl)) e0 (Ins.self Eb) (g := (mkF m 8 #[rv x0, rv x1, .unset] [(.ref x1)])) rfl rfl (hb hby d8_8)
      obtain ⟨T109, X109, e109, st109⟩ := castY X107 hx hZ hown (hw _ (im 52 rfl)) e107 (Ins.self Eb) (g := (mkF m 15 #[rv x0, rv x1, .unset] [(.ref x1)])) rfl rfl (hb hby d8_15)
      obtain ⟨T110, X110, e110, st110⟩ := getS2 X109 hx hZ hown (host := "") (Or.inl (hw _ (im 53 rfl))) Via.refl e109 (pre_S_COMPACT_STRINGS.ext O0.2) (g := (mkF m 19 #[rv x0, rv x1, rv x1] [])) rfl (hb hby d8_19)
      have hc22_111 : ¬ (cs = (0 : Int32)) := hcs
      obtain ⟨T112, X112, e112, st112⟩ := getF X110 hx hZ hown (host := "") (Or.inl (hw _ (im 25 rfl))) Via.refl e110 Ca (g := (mkF m 26 #[rv x0, rv x1, rv x1] [(.ref x0)])) rfl rfl (hb hby d8_26)
      obtain ⟨T113, X113, e113, st113⟩ := getF X112 hx hZ hown (host := "") (Or.inl (hw _ (im 25 rfl))) Via.refl e112 Cb (g := (mkF m 30 #[rv x0, rv x1, rv x1] [(.ref x1), (.int 0)])) rfl rfl (hb hby d8_30)
      obtain ⟨T115, X115, e115, st115⟩ := getF X113 hx hZ hown (host := "") (Or.inl (hw _ (im 24 rfl))) Via.refl e113 Va (g := (mkF m 37 #[rv x0, rv x1, rv x1] [(.ref x0)])) rfl rfl (hb hby d8_37)
      obtain ⟨T116, X116, e116, st116⟩ := getF X115 hx hZ hown (host := "") (Or.inl (hw _ (im 24 rfl))) Via.refl e115 Vb (g := (mkF m 41 #[rv x0, rv x1, rv x1] [(.ref x1), (.ref va)])) rfl rfl (hb hby d8_41)
      obtain ⟨_, _, ⟨T117, L117, k117, n117⟩, -, X117, ⟨Lc117, hQ117, l117, y117, z117⟩, st117⟩ := Jvm.LawKit.callS X116 hx (y := (⟨"java/lang/StringLatin1", "equals", "([B[B)Z"⟩ : MethodName)) hown (mvT hZ (hw _ (im 54 rfl))) (mvT hZ (hw _ (im 55 rfl))) (mvT hZ (hw _ (im 56 rfl))) (mvT hZ (hw _ (im 57 rfl))) (by decide) (backOf (W := 0) (rmleq22 l Z a0 hw [] va vb ka kb y0 y1 z0 z1 h0 n0 Z0 Aa Ab) hZ (hw _ (im 57 rfl)) (hw _ (im 56 rfl)) (by decide) (by decide)) (g := (mkF m 44 #[rv x0, rv x1, rv x1] [(.ref vb), (.ref va)])) rfl (by rw [hml]; rfl) (argsL := [(.ref va), (.ref vb)]) (rest := []) (lenOf pd_6 rfl) rfl (by show 2 * 0 + _ ≤ _; exact Nat.le_of_eq rfl) (hb hby d8_44) (fun _ _ => ⟨rfl, e116, (by decide : 0 + 0 ≤ _), (by decide : 0 + 0 ≤ _)⟩)
      dsimp only [Pt.U, Pt.locs, Pt.cells, Pt.slots] at X117 l117 y117 z117 st117 hQ117
      subst l117 y117 z117
      obtain ⟨rfl, N117q, e117⟩ := hQ117
      have N117 := Fr.app N0 N117q
      have P119 := own_go P0 (S' := T117.setTop (mkF m 47 #[rv x0, rv x1, rv x1] [(.int (if (y0 = z0 ∧ y1 = z1) then (1 : Int32) else (0 : Int32)))])) (by
        intro t k
        refine XS.aloadN X0.here hx rfl (hb hby d8_0) rfl rfl ?_
        refine XS.aloadN X0.here hx rfl (hb hby d8_1) rfl rfl ?_
        refine Jvm.RoadKit.acmp (g := (mkF m 2 #[rv x0, rv x1, .unset] [(.ref x1), (.ref x0)])) X0 hx rfl rfl rfl (pc0 := 2) (pc' := 7) (same := false) rfl (hb hby d8_2) rfl (decide_eq_false fun q => ne_x0_x1 (Value.ref.inj q)) (by decide) (by decide) ?_
        refine XS.aloadN X0.here hx rfl (hb hby d8_7) rfl rfl ?_
        refine st107 _ ?_
        refine XS.ifNo X107.here hx rfl (hb hby d8_11) rfl ((if0 _ _).trans (feq (by decide)).1) ?_
        refine XS.aloadN X107.here hx rfl (hb hby d8_14) rfl rfl ?_
        refine st109 _ ?_
        show Steps p.tables e below (T109.setTop (mkF m 18 #[rv x0, rv x1, .unset] [(.ref x1)])) _
        refine XS.astoreN X109.here hx rfl (hb hby d8_18) rfl rfl (l' := #[rv x0, rv x1, rv x1]) rfl ?_
        refine st110 _ ?_
        refine XS.ifNo X110.here hx rfl (hb hby d8_22) rfl ((if0 _ _).trans (feq hc22_111).1) ?_
        refine XS.aloadN X110.here hx rfl (hb hby d8_25) rfl rfl ?_
        refine st112 _ ?_
        refine XS.aloadN X112.here hx rfl (hb hby d8_29) rfl rfl ?_
        refine st113 _ ?_
        refine XS.icmpNo X113.here hx rfl (hb hby d8_33) rfl (teq (by decide)).2 ?_
        show Steps p.tables e below (T113.setTop (mkF m 36 #[rv x0, rv x1, rv x1] [])) _
        refine XS.aloadN X113.here hx rfl (hb hby d8_36) rfl rfl ?_
        refine st115 _ ?_
        refine XS.aloadN X115.here hx rfl (hb hby d8_40) rfl rfl ?_
        refine st116 _ ?_
        refine st117 _ ?_
        exact k)
      by_cases hc47_118 : (y0 = z0 ∧ y1 = z1)
      · have P120 := own_go P119 (S' := T117.setTop (mkF m 55 #[rv x0, rv x1, rv x1] [(.int 1)])) (by
          intro t k
          refine XS.ifNo X117.here hx rfl (hb hby d8_47) rfl ((if0 _ _).trans (feq (by rw [if_pos hc47_118]; decide)).1) ?_
          refine XS.iconst X117.here hx rfl (hb hby d8_50) ?_
          refine XS.goto X117.here hx rfl (pc0 := 51) (pc' := 55) rfl (hb hby d8_51) (by decide) (by decide) ?_
          exact k)
        obtain ⟨fs, hr, hrun, hended, hW, hsame⟩ := X117.leave (v := some (.int 1)) (fun h => by rw [Bd.returns] at h; cases h)
        refine ⟨_, _, P120 _ ?_, hrun, hended, _, _, rfl, ?_, ⟨_, rfl⟩, hW, hsame.mono (by decide) (by decide)⟩
        · show Steps p.tables e below (T117.setTop (mkF m 55 #[rv x0, rv x1, rv x1] [(.int 1)])) _
          exact retN X117 hx (t := .boolean) Bd.returns (by simp) (hb hby d8_55) hr
        · show QeqP Z x0 x1 cs as bs B1 B2 h0 n0 _ T117.heap _
          rw [e117]
          exact ⟨(by rw [ea, eb]; simp [hc47_118]), N117, rfl⟩
      · have P121 := own_go P119 (S' := T117.setTop (mkF m 55 #[rv x0, rv x1, rv x1] [(.int 0)])) (by
          intro t k
          refine XS.ifYes X117.here hx rfl (pc0 := 47) (pc' := 54) rfl (hb hby d8_47) rfl ((if0 _ _).trans (teq (if_neg hc47_118)).1) (by decide) (by decide) ?_
          refine XS.iconst X117.here hx rfl (hb hby d8_54) ?_
          exact k)
        obtain ⟨fs, hr, hrun, hended, hW, hsame⟩ := X117.leave (v := some (.int 0)) (fun h => by rw [Bd.returns] at h; cases h)
        refine ⟨_, _, P121 _ ?_, hrun, hended, _, _, rfl, ?_, ⟨_, rfl⟩, hW, hsame.mono (by decide) (by decide)⟩
        · show Steps p.tables e below (T117.setTop (mkF m 55 #[rv x0, rv x1, rv x1] [(.int 0)])) _
          exact retN X117 hx (t := .boolean) Bd.returns (by simp) (hb hby d8_55) hr
        · show QeqP Z x0 x1 cs as bs B1 B2 h0 n0 _ T117.heap _
          rw [e117]
          exact ⟨(by rw [ea, eb]; simp [hc47_118]), N117, rfl⟩
def Q7 (Z : State) (x0 : Addr) (x1 : Addr) (cs : Int32) (p1 : Addr) (p2 : Addr) (as : List Int32) (bs : List Int32) (B1 : Nat) (B2 : Nat) (h0 : Heap) (n0 : Nat) (v : Option Value) (h : Heap) (L : List Loc) : Prop := v = some (.int (if as = bs then (1 : Int32) else (0 : Int32))) ∧ Fr n0 L ∧ h = h0
theorem ef_7 (m : MethodId) (x0 : Addr) (x1 : Addr) : entryFrame m #[(.ref x0), (.ref x1)] 2 = mkF m 0 #[rv x0, rv x1] [] := by first | (simp [entryFrame, mkF, argsToLocals, Value.category]; done) | rfl
set_option maxRecDepth 65536 in
set_option maxHeartbeats 40000000 in
theorem rm7 (l : Launch) (Z : State) (a0 : Array Value) (hw : ∀ d ∈ tables_1, d.before a0 Z = true) (ws : List Jvm.Cond) (x0 : Addr) (x1 : Addr) (cs : Int32) (p1 : Addr) (p2 : Addr) (as : List Int32) (bs : List Int32) (B1 : Nat) (B2 : Nat) (h0 : Heap) (n0 : Nat) (Z0 : n0 ≤ h0.size) (O0 : Old Z n0 h0) (pre_S_COMPACT_STRINGS : Sta Z Z.heap "java/lang/String" "COMPACT_STRINGS" "Z" (.int cs)) (hcs : ¬ (cs = (0 : Int32))) (pre_F_x0_participant : Fld Z h0 x0 "com/example/wardflow/wardflow/model/Party" "participant" "Ljava/lang/String;" (.ref p1)) (pre_F_x1_participant : Fld Z h0 x1 "com/example/wardflow/wardflow/model/Party" "participant" "Ljava/lang/String;" (.ref p2)) (ne_p1_p2 : p1 ≠ p2) (pre_P_p1 : own_Str Z h0 p1 as B1) (pre_P_p2 : own_Str Z h0 p2 bs B2) :
    MetFree l (⟨"com/example/wardflow/wardflow/model/Party", "sameParticipant", "(Lcom/example/wardflow/wardflow/model/Party;)Z"⟩ : MethodName) (head1 (Jvm.Cond.code (⟨"com/example/wardflow/wardflow/model/Party", "sameParticipant", "(Lcom/example/wardflow/wardflow/model/Party;)Z"⟩ : MethodName) prog_87_method_3_code 2 (some .boolean) :: ws) ({ frames := 2, cells := 0, slots := 0, locals := 28 } : Room)) (fun a U => a = #[(.ref x0), (.ref x1)] ∧ Z.Warmed39 U.vm ∧ U.heap = h0) (fun _ _ _ _ _ => True) (fun _ U o U' => ∃ v L, o = .returned v ∧ Q7 Z x0 x1 cs p1 p2 as bs B1 B2 h0 n0 v U'.heap L ∧ FrameEnd U o U' L ({ frames := 2, cells := 0, slots := 0, locals := 28 } : Room).cells ({ frames := 2, cells := 0, slots := 0, locals := 28 } : Room).slots) := by
  refine MetFree.of_bodySF (plainFor_of_name pn_7) hisR ?_
  intro p e s m args below meth c s₁ Bd hml0 hP hK
  obtain ⟨rfl, hZ, hh⟩ := hP
  have hx := Bd.exec
  have hby := Bd.bytes
  have hml : c.maxLocals = 2 := hml0
  have hown : s.vm.findClass "com/example/wardflow/wardflow/model/Party" = some m.cls := findClass_of_methodNamed Bd.named
  have hnm := (name_of_methodNamed Bd.named Bd.method).1
  have X0 : Stand p l e ({ frames := 2, cells := 0, slots := 0, locals := 28 } : Room) s m #[(.ref x0), (.ref x1)] below meth c s₁ [] 0 0 := Stand.of_body Bd
  have e0 : s₁.heap = h0 := by rw [← hh, Bd.state]; rfl
  have N0 := Fr.nil n0
  have Kp0 := Keep.refl h0 []
  have P0 : ∀ t, Steps p.tables e below (s₁.setTop (mkF m 0 #[rv x0, rv x1] [])) t → Steps p.tables e below (s₁.setTop (entryFrame m #[(.ref x0), (.ref x1)] 2)) t := fun t k => castTop (ef_7 m x0 x1) k
  obtain ⟨T1, X1, e1, st1⟩ := getF X0 hx hZ hown (host := "") (Or.inl (hw _ (im 38 rfl))) Via.refl e0 pre_F_x0_participant (g := (mkF m 1 #[rv x0, rv x1] [(.ref x0)])) rfl rfl (hb hby d7_1)
  obtain ⟨T2, X2, e2, st2⟩ := getF X1 hx hZ hown (host := "") (Or.inl (hw _ (im 38 rfl))) Via.refl e1 pre_F_x1_participant (g := (mkF m 5 #[rv x0, rv x1] [(.ref x1), (.ref p1)])) rfl rfl (hb hby d7_5)
  obtain ⟨cq3, kq3, q3a, q3b, q3c⟩ := isOf hZ e2 (own_Str_exa pre_P_p1)
  obtain ⟨_, _, ⟨T3, L3, k3, n3⟩, -, X3, ⟨Lc3, hQ3, l3, y3, z3⟩, st3⟩ := X2.virtualBack hx (y := (⟨"java/lang/String", "equals", "(Ljava/lang/Object;)Z"⟩ : MethodName)) (z := (⟨"java/lang/String", "equals", "(Ljava/lang/Object;)Z"⟩ : MethodName)) hown (mvT hZ (hw _ (im 47 rfl))) (mvT hZ (hw _ (im 48 rfl))) (notFace_of_selects (args := #[]) (mvT hZ (hw _ (im 50 rfl)))) (mvT hZ (hw _ (im 50 rfl))) (mvT hZ (hw _ (im 49 rfl))) (by decide) (backOf (W := 0) (rmeqP l Z a0 hw [] p1 p2 cs as bs B1 B2 h0 n0 Z0 O0 pre_S_COMPACT_STRINGS (hcs) ne_p1_p2 pre_P_p1 pre_P_p2) hZ (hw _ (im 51 rfl)) (hw _ (im 6 rfl)) (by decide) (by decide)) q3a q3c (g := (mkF m 8 #[rv x0, rv x1] [(.ref p2), (.ref p1)])) rfl (by rw [hml]; rfl) (Steps.refl _) (argsL := [(.ref p2)]) (rest := []) (lenOf pd_7 rfl) rfl (by show 2 * 0 + _ ≤ _; exact Nat.le_of_eq rfl) (hb hby d7_8) (fun _ _ => ⟨rfl, e2, (by decide : 0 + 0 ≤ _), (by decide : 0 + 0 ≤ _)⟩)
  dsimp only [Pt.U, Pt.locs, Pt.cells, Pt.slots] at X3 l3 y3 z3 st3 hQ3
  subst l3 y3 z3
  obtain ⟨rfl, N3q, e3⟩ := hQ3
  have N3 := Fr.app N0 N3q
  have P4 := own_go P0 (S' := T3.setTop (mkF m 11 #[rv x0, rv x1] [(.int (if as = bs then (1 : Int32) else (0 : Int32)))])) (by
    intro t k
    refine XS.aloadN X0.here hx rfl (hb hby d7_0) rfl rfl ?_
    refine st1 _ ?_
    refine XS.aloadN X1.here hx rfl (hb hby d7_4) rfl rfl ?_
    refine st2 _ ?_
    refine st3.trans ?_
    exact k)
  by_cases hc11_5 : as = bs
  · have P6 := own_go P4 (S' := T3.setTop (mkF m 11 #[rv x0, rv x1] [(.int 1)])) (by
      intro t k
      rw [if_pos hc11_5]
      exact k)
    obtain ⟨fs, hr, hrun, hended, hW, hsame⟩ := X3.leave (v := some (.int 1)) (fun h => by rw [Bd.returns] at h; cases h)
    refine ⟨_, _, P6 _ ?_, hrun, hended, _, _, rfl, ?_, ⟨_, rfl⟩, hW, hsame.mono (by decide) (by decide)⟩
    · show Steps p.tables e below (T3.setTop (mkF m 11 #[rv x0, rv x1] [(.int 1)])) _
      exact retN X3 hx (t := .boolean) Bd.returns (by simp) (hb hby d7_11) hr
    · show Q7 Z x0 x1 cs p1 p2 as bs B1 B2 h0 n0 _ T3.heap _
      rw [e3]
      exact ⟨(by first | rfl | rw [if_pos hc11_5] | rw [if_neg hc11_5] | rw [if_neg (not_not_intro hc11_5)] | simp [hc11_5]), N3, rfl⟩
  · have P7 := own_go P4 (S' := T3.setTop (mkF m 11 #[rv x0, rv x1] [(.int 0)])) (by
      intro t k
      rw [if_neg hc11_5]
      exact k)
    obtain ⟨fs, hr, hrun, hended, hW, hsame⟩ := X3.leave (v := some (.int 0)) (fun h => by rw [Bd.returns] at h; cases h)
    refine ⟨_, _, P7 _ ?_, hrun, hended, _, _, rfl, ?_, ⟨_, rfl⟩, hW, hsame.mono (by decide) (by decide)⟩
    · show Steps p.tables e below (T3.setTop (mkF m 11 #[rv x0, rv x1] [(.int 0)])) _
      exact retN X3 hx (t := .boolean) Bd.returns (by simp) (hb hby d7_11) hr
    · show Q7 Z x0 x1 cs p1 p2 as bs B1 B2 h0 n0 _ T3.heap _
      rw [e3]
      exact ⟨(by first | rfl | rw [if_pos hc11_5] | rw [if_neg hc11_5] | rw [if_neg (not_not_intro hc11_5)] | simp [hc11_5]), N3, rfl⟩
def Q0 (Z : State) (x0 : Int32) (x1 : Int32) (x2 : Int32) (x3 : Int32) (cs : Int32) (h0 : Heap) (n0 : Nat) (v : Option Value) (h : Heap) (L : List Loc) : Prop := v = some (.int 1) ∧ Fr n0 L
theorem ef_0 (m : MethodId) (x0 : Int32) (x1 : Int32) (x2 : Int32) (x3 : Int32) : entryFrame m #[(.int x0), (.int x1), (.int x2), (.int x3)] maxLocals = mkF m 0 #[iv x0, iv x1, iv x2, iv x3, .unset, .unset, .unset, .unset, .unset, .unset, .unset, .unset, .unset, .unset, .unset, .unset, .unset, .unset, .unset, .unset, .unset] [] := by first | (simp [entryFrame, mkF, argsToLocals, Value.category, maxLocals]; done) | rfl
set_option maxRecDepth 65536 in
set_option maxHeartbeats 40000000 in
theorem rm0 (l : Launch) (Z : State) (a0 : Array Value) (hw : ∀ d ∈ tables_1, d.before a0 Z = true) (ws : List Jvm.Cond) (x0 : Int32) (x1 : Int32) (x2 : Int32) (x3 : Int32) (cs : Int32) (h0 : Heap) (n0 : Nat) (Z0 : n0 ≤ h0.size) (O0 : Old Z n0 h0) (pre_S_COMPACT_STRINGS : Sta Z Z.heap "java/lang/String" "COMPACT_STRINGS" "Z" (.int cs)) (hcs : ¬ (cs = (0 : Int32))) :
    MetFree l x (head1 (Jvm.Cond.code x code maxLocals ret :: ws) room_1) (fun a U => a = #[(.int x0), (.int x1), (.int x2), (.int x3)] ∧ Z.Warmed39 U.vm ∧ U.heap = h0 ∧ CHv Z own_EL U.vm h0) (fun _ _ _ _ _ => True) (fun _ U o U' => ∃ v L, o = .returned v ∧ Q0 Z x0 x1 x2 x3 cs h0 n0 v U'.heap L ∧ CHr Z own_EL U.vm U.heap U'.vm U'.heap ∧ ReturnedEndW U o U' L room_1.cells room_1.slots) := by
  refine MetFree.of_bodySF (plainFor_of_name pn_0) hisR ?_
  intro p e s m args below meth c s₁ Bd hml0 hP hK
  obtain ⟨rfl, hZ, hh, CH0⟩ := hP
  have hx := Bd.exec
  have hby := Bd.bytes
  have hml : c.maxLocals = 21 := hml0
  have hown : s.vm.findClass "com/example/wardflow/wardflow/model/PartySameParticipantPinLaw" = some m.cls := findClass_of_methodNamed Bd.named
  have hnm := (name_of_methodNamed Bd.named Bd.method).1
  have X0 : Stand p l e room_1 (s.setVm s.vm) m #[(.int x0), (.int x1), (.int x2), (.int x3)] below meth c s₁ [] 0 0 := Stand.of_body Bd
  have e0 : s₁.heap = h0 := by rw [← hh, Bd.state]; rfl
  have N0 := Fr.nil n0
  have Kp0 := Keep.refl h0 []
  have hS0 : s.Since s.vm 0 := (State.WarmedH.refl s).since 0
  have hk0 : 0 ≤ h0.size := Nat.zero_le _
  replace hZ : Z.Warmed39 (s.setVm s.vm).vm := hZ
  replace hown : (s.setVm s.vm).vm.findClass "com/example/wardflow/wardflow/model/PartySameParticipantPinLaw" = some m.cls := hown
  have CR0 := CHr.refl CH0
  have hEW := own_EW hw
  have P0 : ∀ t, Steps p.tables e below (s₁.setTop (mkF m 0 #[iv x0, iv x1, iv x2, iv x3, .unset, .unset, .unset, .unset, .unset, .unset, .unset, .unset, .unset, .unset, .unset, .unset, .unset, .unset, .unset, .unset, .unset] [])) t → Steps p.tables e below (s₁.setTop (entryFrame m #[(.int x0), (.int x1), (.int x2), (.int x3)] maxLocals)) t := fun t k => castTop (ef_0 m x0 x1 x2 x3) k
  have P3 := own_go P0 (S' := s₁.setTop (mkF m 21 #[iv x0, iv x1, iv x2, iv x3, iv ((x0 &&& (3 : Int32)) % (3 : Int32)), iv ((((x0.toUInt32 >>> ((2 : Int32) &&& 31).toUInt32).toInt32) &&& (3 : Int32)) % (3 : Int32)), .unset, .unset, .unset, .unset, .unset, .unset, .unset, .unset, .unset, .unset, .unset, .unset, .unset, .unset, .unset] [(.int (((x0.toUInt32 >>> ((4 : Int32) &&& 31).toUInt32).toInt32) &&& (1 : Int32)))])) (by
    intro t k
    refine XS.iloadN X0.here hx rfl (hb hby at_0) rfl ?_
    refine XS.iconst X0.here hx rfl (hb hby at_1) ?_
    refine XS.iand X0.here hx rfl (hb hby at_2) rfl ?_
    refine XS.iconst X0.here hx rfl (hb hby at_3) ?_
    refine Jvm.RoadKit.iremM X0 hx rfl (hb hby at_4) rfl (by decide) ?_
    refine XS.istore X0.here hx rfl (hb hby at_5) rfl (l' := #[iv x0, iv x1, iv x2, iv x3, iv ((x0 &&& (3 : Int32)) % (3 : Int32)), .unset, .unset, .unset, .unset, .unset, .unset, .unset, .unset, .unset, .unset, .unset, .unset, .unset, .unset, .unset, .unset]) rfl ?_
    refine XS.iloadN X0.here hx rfl (hb hby at_7) rfl ?_
    refine XS.iconst X0.here hx rfl (hb hby at_8) ?_
    show Steps p.tables e below (s₁.setTop (mkF m 9 #[iv x0, iv x1, iv x2, iv x3, iv ((x0 &&& (3 : Int32)) % (3 : Int32)), .unset, .unset, .unset, .unset, .unset, .unset, .unset, .unset, .unset, .unset, .unset, .unset, .unset, .unset, .unset, .unset] [(.int 2), (.int x0)])) _
    refine XS.iushr X0.here hx rfl (hb hby at_9) rfl ?_
    refine XS.iconst X0.here hx rfl (hb hby at_10) ?_
    refine XS.iand X0.here hx rfl (hb hby at_11) rfl ?_
    refine XS.iconst X0.here hx rfl (hb hby at_12) ?_
    refine Jvm.RoadKit.iremM X0 hx rfl (hb hby at_13) rfl (by decide) ?_
    refine XS.istore X0.here hx rfl (hb hby at_14) rfl (l' := #[iv x0, iv x1, iv x2, iv x3, iv ((x0 &&& (3 : Int32)) % (3 : Int32)), iv ((((x0.toUInt32 >>> ((2 : Int32) &&& 31).toUInt32).toInt32) &&& (3 : Int32)) % (3 : Int32)), .unset, .unset, .unset, .unset, .unset, .unset, .unset, .unset, .unset, .unset, .unset, .unset, .unset, .unset, .unset]) rfl ?_
    refine XS.iloadN X0.here hx rfl (hb hby at_16) rfl ?_
    refine XS.iconst X0.here hx rfl (hb hby at_17) ?_
    show Steps p.tables e below (s₁.setTop (mkF m 18 #[iv x0, iv x1, iv x2, iv x3, iv ((x0 &&& (3 : Int32)) % (3 : Int32)), iv ((((x0.toUInt32 >>> ((2 : Int32) &&& 31).toUInt32).toInt32) &&& (3 : Int32)) % (3 : Int32)), .unset, .unset, .unset, .unset, .unset, .unset, .unset, .unset, .unset, .unset, .unset, .unset, .unset, .unset, .unset] [(.int 4), (.int x0)])) _
    refine XS.iushr X0.here hx rfl (hb hby at_18) rfl ?_
    refine XS.iconst X0.here hx rfl (hb hby at_19) ?_
    refine XS.iand X0.here hx rfl (hb hby at_20) rfl ?_
    exact k)
  obtain ⟨v2_0, hv2_0⟩ : ∃ z : Int32, z = (if (((x0.toUInt32 >>> ((4 : Int32) &&& 31).toUInt32).toInt32) &&& (1 : Int32)) = (0 : Int32) then (0 : Int32) else (1 : Int32)) := ⟨_, rfl⟩
  have P5 := own_go P3 (S' := s₁.setTop (mkF m 29 #[iv x0, iv x1, iv x2, iv x3, iv ((x0 &&& (3 : Int32)) % (3 : Int32)), iv ((((x0.toUInt32 >>> ((2 : Int32) &&& 31).toUInt32).toInt32) &&& (3 : Int32)) % (3 : Int32)), .unset, .unset, .unset, .unset, .unset, .unset, .unset, .unset, .unset, .unset, .unset, .unset, .unset, .unset, .unset] [(.int v2_0)])) (by
    intro t k
    by_cases hc21_4 : (((x0.toUInt32 >>> ((4 : Int32) &&& 31).toUInt32).toInt32) &&& (1 : Int32)) = (0 : Int32)
    · refine XS.ifYes X0.here hx rfl (pc0 := 21) (pc' := 28) rfl (hb hby at_21) rfl ((if0 _ _).trans (teq hc21_4).1) (by decide) (by decide) ?_
      refine XS.iconst X0.here hx rfl (hb hby at_28) ?_
      have q_v2_0 : v2_0 = (0 : Int32) := by rw [hv2_0, if_pos hc21_4]
      subst q_v2_0
      exact k
    · refine XS.ifNo X0.here hx rfl (hb hby at_21) rfl ((if0 _ _).trans (feq hc21_4).1) ?_
      refine XS.iconst X0.here hx rfl (hb hby at_24) ?_
      refine XS.goto X0.here hx rfl (pc0 := 25) (pc' := 29) rfl (hb hby at_25) (by decide) (by decide) ?_
      have q_v2_0 : v2_0 = (1 : Int32) := by rw [hv2_0, if_neg hc21_4]
      subst q_v2_0
      exact k)
  have P8 := own_go P5 (S' := s₁.setTop (mkF m 36 #[iv x0, iv x1, iv x2, iv x3, iv ((x0 &&& (3 : Int32)) % (3 : Int32)), iv ((((x0.toUInt32 >>> ((2 : Int32) &&& 31).toUInt32).toInt32) &&& (3 : Int32)) % (3 : Int32)), iv v2_0, .unset, .unset, .unset, .unset, .unset, .unset, .unset, .unset, .unset, .unset, .unset, .unset, .unset, .unset] [(.int (((x0.toUInt32 >>> ((5 : Int32) &&& 31).toUInt32).toInt32) &&& (1 : Int32)))])) (by
    intro t k
    refine XS.istore X0.here hx rfl (hb hby at_29) rfl (l' := #[iv x0, iv x1, iv x2, iv x3, iv ((x0 &&& (3 : Int32)) % (3 : Int32)), iv ((((x0.toUInt32 >>> ((2 : Int32) &&& 31).toUInt32).toInt32) &&& (3 : Int32)) % (3 : Int32)), iv v2_0, .unset, .unset, .unset, .unset, .unset, .unset, .unset, .unset, .unset, .unset, .unset, .unset, .unset, .unset]) rfl ?_
    refine XS.iloadN X0.here hx rfl (hb hby at_31) rfl ?_
    refine XS.iconst X0.here hx rfl (hb hby at_32) ?_
    refine XS.iushr X0.here hx rfl (hb hby at_33) rfl ?_
    refine XS.iconst X0.here hx rfl (hb hby at_34) ?_
    refine XS.iand X0.here hx rfl (hb hby at_35) rfl ?_
    exact k)
  obtain ⟨v7_0, hv7_0⟩ : ∃ z : Int32, z = (if (((x0.toUInt32 >>> ((5 : Int32) &&& 31).toUInt32).toInt32) &&& (1 : Int32)) = (0 : Int32) then (0 : Int32) else (1 : Int32)) := ⟨_, rfl⟩
  have P10 := own_go P8 (S' := s₁.setTop (mkF m 44 #[iv x0, iv x1, iv x2, iv x3, iv ((x0 &&& (3 : Int32)) % (3 : Int32)), iv ((((x0.toUInt32 >>> ((2 : Int32) &&& 31).toUInt32).toInt32) &&& (3 : Int32)) % (3 : Int32)), iv v2_0, .unset, .unset, .unset, .unset, .unset, .unset, .unset, .unset, .unset, .unset, .unset, .unset, .unset, .unset] [(.int v7_0)])) (by
    intro t k
    by_cases hc36_9 : (((x0.toUInt32 >>> ((5 : Int32) &&& 31).toUInt32).toInt32) &&& (1 : Int32)) = (0 : Int32)
    · refine XS.ifYes X0.here hx rfl (pc0 := 36) (pc' := 43) rfl (hb hby at_36) rfl ((if0 _ _).trans (teq hc36_9).1) (by decide) (by decide) ?_
      refine XS.iconst X0.here hx rfl (hb hby at_43) ?_
      have q_v7_0 : v7_0 = (0 : Int32) := by rw [hv7_0, if_pos hc36_9]
      subst q_v7_0
      exact k
    · refine XS.ifNo X0.here hx rfl (hb hby at_36) rfl ((if0 _ _).trans (feq hc36_9).1) ?_
      refine XS.iconst X0.here hx rfl (hb hby at_39) ?_
      refine XS.goto X0.here hx rfl (pc0 := 40) (pc' := 44) rfl (hb hby at_40) (by decide) (by decide) ?_
      have q_v7_0 : v7_0 = (1 : Int32) := by rw [hv7_0, if_neg hc36_9]
      subst q_v7_0
      exact k)
  have P13 := own_go P10 (S' := s₁.setTop (mkF m 67 #[iv x0, iv x1, iv x2, iv x3, iv ((x0 &&& (3 : Int32)) % (3 : Int32)), iv ((((x0.toUInt32 >>> ((2 : Int32) &&& 31).toUInt32).toInt32) &&& (3 : Int32)) % (3 : Int32)), iv v2_0, iv v7_0, iv ((x1 &&& (255 : Int32)).toUInt32.toUInt16.toUInt32.toInt32), iv ((((x1.toUInt32 >>> ((8 : Int32) &&& 31).toUInt32).toInt32) &&& (255 : Int32)).toUInt32.toUInt16.toUInt32.toInt32), .unset, .unset, .unset, .unset, .unset, .unset, .unset, .unset, .unset, .unset, .unset] [(.int v2_0)])) (by
    intro t k
    refine XS.istore X0.here hx rfl (hb hby at_44) rfl (l' := #[iv x0, iv x1, iv x2, iv x3, iv ((x0 &&& (3 : Int32)) % (3 : Int32)), iv ((((x0.toUInt32 >>> ((2 : Int32) &&& 31).toUInt32).toInt32) &&& (3 : Int32)) % (3 : Int32)), iv v2_0, iv v7_0, .unset, .unset, .unset, .unset, .unset, .unset, .unset, .unset, .unset, .unset, .unset, .unset, .unset]) rfl ?_
    refine XS.iloadN X0.here hx rfl (hb hby at_46) rfl ?_
    refine XS.sipush X0.here hx rfl (hb hby at_47) ?_
    refine XS.iand X0.here hx rfl (hb hby at_50) rfl ?_
    refine XS.i2c X0.here hx rfl (hb hby at_51) rfl ?_
    refine XS.istore X0.here hx rfl (hb hby at_52) rfl (l' := #[iv x0, iv x1, iv x2, iv x3, iv ((x0 &&& (3 : Int32)) % (3 : Int32)), iv ((((x0.toUInt32 >>> ((2 : Int32) &&& 31).toUInt32).toInt32) &&& (3 : Int32)) % (3 : Int32)), iv v2_0, iv v7_0, iv ((x1 &&& (255 : Int32)).toUInt32.toUInt16.toUInt32.toInt32), .unset, .unset, .unset, .unset, .unset, .unset, .unset, .unset, .unset, .unset, .unset, .unset]) rfl ?_
    refine XS.iloadN X0.here hx rfl (hb hby at_54) rfl ?_
    refine XS.bipush X0.here hx rfl (hb hby at_55) ?_
    show Steps p.tables e below (s₁.setTop (mkF m 57 #[iv x0, iv x1, iv x2, iv x3, iv ((x0 &&& (3 : Int32)) % (3 : Int32)), iv ((((x0.toUInt32 >>> ((2 : Int32) &&& 31).toUInt32).toInt32) &&& (3 : Int32)) % (3 : Int32)), iv v2_0, iv v7_0, iv ((x1 &&& (255 : Int32)).toUInt32.toUInt16.toUInt32.toInt32), .unset, .unset, .unset, .unset, .unset, .unset, .unset, .unset, .unset, .unset, .unset, .unset] [(.int 8), (.int x1)])) _
    refine XS.iushr X0.here hx rfl (hb hby at_57) rfl ?_
    refine XS.sipush X0.here hx rfl (hb hby at_58) ?_
    refine XS.iand X0.here hx rfl (hb hby at_61) rfl ?_
    refine XS.i2c X0.here hx rfl (hb hby at_62) rfl ?_
    refine XS.istore X0.here hx rfl (hb hby at_63) rfl (l' := #[iv x0, iv x1, iv x2, iv x3, iv ((x0 &&& (3 : Int32)) % (3 : Int32)), iv ((((x0.toUInt32 >>> ((2 : Int32) &&& 31).toUInt32).toInt32) &&& (3 : Int32)) % (3 : Int32)), iv v2_0, iv v7_0, iv ((x1 &&& (255 : Int32)).toUInt32.toUInt16.toUInt32.toInt32), iv ((((x1.toUInt32 >>> ((8 : Int32) &&& 31).toUInt32).toInt32) &&& (255 : Int32)).toUInt32.toUInt16.toUInt32.toInt32), .unset, .unset, .unset, .unset, .unset, .unset, .unset, .unset, .unset, .unset, .unset]) rfl ?_
    refine XS.iload X0.here hx rfl (hb hby at_65) rfl ?_
    exact k)
  obtain ⟨v12_0, hv12_0⟩ : ∃ z : Int32, z = (if v2_0 = (0 : Int32) then ((x2 &&& (255 : Int32)).toUInt32.toUInt16.toUInt32.toInt32) else ((x1 &&& (255 : Int32)).toUInt32.toUInt16.toUInt32.toInt32)) := ⟨_, rfl⟩
  have P15 := own_go P13 (S' := s₁.setTop (mkF m 81 #[iv x0, iv x1, iv x2, iv x3, iv ((x0 &&& (3 : Int32)) % (3 : Int32)), iv ((((x0.toUInt32 >>> ((2 : Int32) &&& 31).toUInt32).toInt32) &&& (3 : Int32)) % (3 : Int32)), iv v2_0, iv v7_0, iv ((x1 &&& (255 : Int32)).toUInt32.toUInt16.toUInt32.toInt32), iv ((((x1.toUInt32 >>> ((8 : Int32) &&& 31).toUInt32).toInt32) &&& (255 : Int32)).toUInt32.toUInt16.toUInt32.toInt32), .unset, .unset, .unset, .unset, .unset, .unset, .unset, .unset, .unset, .unset, .unset] [(.int v12_0)])) (by
    intro t k
    by_cases hc67_14 : v2_0 = (0 : Int32)
    · refine XS.ifYes X0.here hx rfl (pc0 := 67) (pc' := 75) rfl (hb hby at_67) rfl ((if0 _ _).trans (teq hc67_14).1) (by decide) (by decide) ?_
      refine XS.iloadN X0.here hx rfl (hb hby at_75) rfl ?_
      refine XS.sipush X0.here hx rfl (hb hby at_76) ?_
      refine XS.iand X0.here hx rfl (hb hby at_79) rfl ?_
      refine XS.i2c X0.here hx rfl (hb hby at_80) rfl ?_
      have q_v12_0 : v12_0 = ((x2 &&& (255 : Int32)).toUInt32.toUInt16.toUInt32.toInt32) := by rw [hv12_0, if_pos hc67_14]
      subst q_v12_0
      exact k
    · refine XS.ifNo X0.here hx rfl (hb hby at_67) rfl ((if0 _ _).trans (feq hc67_14).1) ?_
      refine XS.iload X0.here hx rfl (hb hby at_70) rfl ?_
      refine XS.goto X0.here hx rfl (pc0 := 72) (pc' := 81) rfl (hb hby at_72) (by decide) (by decide) ?_
      have q_v12_0 : v12_0 = ((x1 &&& (255 : Int32)).toUInt32.toUInt16.toUInt32.toInt32) := by rw [hv12_0, if_neg hc67_14]
      subst q_v12_0
      exact k)
  have P18 := own_go P15 (S' := s₁.setTop (mkF m 85 #[iv x0, iv x1, iv x2, iv x3, iv ((x0 &&& (3 : Int32)) % (3 : Int32)), iv ((((x0.toUInt32 >>> ((2 : Int32) &&& 31).toUInt32).toInt32) &&& (3 : Int32)) % (3 : Int32)), iv v2_0, iv v7_0, iv ((x1 &&& (255 : Int32)).toUInt32.toUInt16.toUInt32.toInt32), iv ((((x1.toUInt32 >>> ((8 : Int32) &&& 31).toUInt32).toInt32) &&& (255 : Int32)).toUInt32.toUInt16.toUInt32.toInt32), iv v12_0, .unset, .unset, .unset, .unset, .unset, .unset, .unset, .unset, .unset, .unset] [(.int v7_0)])) (by
    intro t k
    refine XS.istore X0.here hx rfl (hb hby at_81) rfl (l' := #[iv x0, iv x1, iv x2, iv x3, iv ((x0 &&& (3 : Int32)) % (3 : Int32)), iv ((((x0.toUInt32 >>> ((2 : Int32) &&& 31).toUInt32).toInt32) &&& (3 : Int32)) % (3 : Int32)), iv v2_0, iv v7_0, iv ((x1 &&& (255 : Int32)).toUInt32.toUInt16.toUInt32.toInt32), iv ((((x1.toUInt32 >>> ((8 : Int32) &&& 31).toUInt32).toInt32) &&& (255 : Int32)).toUInt32.toUInt16.toUInt32.toInt32), iv v12_0, .unset, .unset, .unset, .unset, .unset, .unset, .unset, .unset, .unset, .unset]) rfl ?_
    refine XS.iload X0.here hx rfl (hb hby at_83) rfl ?_
    exact k)
  obtain ⟨v17_0, hv17_0⟩ : ∃ z : Int32, z = (if v7_0 = (0 : Int32) then ((((x2.toUInt32 >>> ((8 : Int32) &&& 31).toUInt32).toInt32) &&& (255 : Int32)).toUInt32.toUInt16.toUInt32.toInt32) else ((((x1.toUInt32 >>> ((8 : Int32) &&& 31).toUInt32).toInt32) &&& (255 : Int32)).toUInt32.toUInt16.toUInt32.toInt32)) := ⟨_, rfl⟩
  have P20 := own_go P18 (S' := s₁.setTop (mkF m 102 #[iv x0, iv x1, iv x2, iv x3, iv ((x0 &&& (3 : Int32)) % (3 : Int32)), iv ((((x0.toUInt32 >>> ((2 : Int32) &&& 31).toUInt32).toInt32) &&& (3 : Int32)) % (3 : Int32)), iv v2_0, iv v7_0, iv ((x1 &&& (255 : Int32)).toUInt32.toUInt16.toUInt32.toInt32), iv ((((x1.toUInt32 >>> ((8 : Int32) &&& 31).toUInt32).toInt32) &&& (255 : Int32)).toUInt32.toUInt16.toUInt32.toInt32), iv v12_0, .unset, .unset, .unset, .unset, .unset, .unset, .unset, .unset, .unset, .unset] [(.int v17_0)])) (by
    intro t k
    by_cases hc85_19 : v7_0 = (0 : Int32)
    · refine XS.ifYes X0.here hx rfl (pc0 := 85) (pc' := 93) rfl (hb hby at_85) rfl ((if0 _ _).trans (teq hc85_19).1) (by decide) (by decide) ?_
      refine XS.iloadN X0.here hx rfl (hb hby at_93) rfl ?_
      refine XS.bipush X0.here hx rfl (hb hby at_94) ?_
      refine XS.iushr X0.here hx rfl (hb hby at_96) rfl ?_
      refine XS.sipush X0.here hx rfl (hb hby at_97) ?_
      refine XS.iand X0.here hx rfl (hb hby at_100) rfl ?_
      refine XS.i2c X0.here hx rfl (hb hby at_101) rfl ?_
      have q_v17_0 : v17_0 = ((((x2.toUInt32 >>> ((8 : Int32) &&& 31).toUInt32).toInt32) &&& (255 : Int32)).toUInt32.toUInt16.toUInt32.toInt32) := by rw [hv17_0, if_pos hc85_19]
      subst q_v17_0
      exact k
    · refine XS.ifNo X0.here hx rfl (hb hby at_85) rfl ((if0 _ _).trans (feq hc85_19).1) ?_
      refine XS.iload X0.here hx rfl (hb hby at_88) rfl ?_
      refine XS.goto X0.here hx rfl (pc0 := 90) (pc' := 102) rfl (hb hby at_90) (by decide) (by decide) ?_
      have q_v17_0 : v17_0 = ((((x1.toUInt32 >>> ((8 : Int32) &&& 31).toUInt32).toInt32) &&& (255 : Int32)).toUInt32.toUInt16.toUInt32.toInt32) := by rw [hv17_0, if_neg hc85_19]
      subst q_v17_0
      exact k)
  obtain ⟨_, _, ⟨T21, L21, k21, n21⟩, -, X21, hS21, hg21, ⟨Lc21, hQ21, l21, y21, z21, cr21⟩, st21⟩ := callSS X0 hx (y := (⟨"com/example/wardflow/wardflow/model/PartySameParticipantPinLaw", "str", "(ICC)Ljava/lang/String;"⟩ : MethodName)) hown (mvT hZ (hw _ (im 0 rfl))) (mvT hZ (hw _ (im 1 rfl))) (mvT hZ (hw _ (im 2 rfl))) (mvT hZ (hw _ (im 3 rfl))) (by decide) (backOfSH (W := 0) (rm1 l Z a0 hw [] ((x0 &&& (3 : Int32)) % (3 : Int32)) ((x1 &&& (255 : Int32)).toUInt32.toUInt16.toUInt32.toInt32) ((((x1.toUInt32 >>> ((8 : Int32) &&& 31).toUInt32).toInt32) &&& (255 : Int32)).toUInt32.toUInt16.toUInt32.toInt32) cs h0 n0 Z0 O0 pre_S_COMPACT_STRINGS (hcs) (own_ch255 _ (own_rng x1)) (own_ch255 _ (own_rng _))) hZ (hw _ (im 3 rfl)) (hw _ (im 2 rfl)) (by decide) (by decide) hEW CH0) (g := (mkF m 110 #[iv x0, iv x1, iv x2, iv x3, iv ((x0 &&& (3 : Int32)) % (3 : Int32)), iv ((((x0.toUInt32 >>> ((2 : Int32) &&& 31).toUInt32).toInt32) &&& (3 : Int32)) % (3 : Int32)), iv v2_0, iv v7_0, iv ((x1 &&& (255 : Int32)).toUInt32.toUInt16.toUInt32.toInt32), iv ((((x1.toUInt32 >>> ((8 : Int32) &&& 31).toUInt32).toInt32) &&& (255 : Int32)).toUInt32.toUInt16.toUInt32.toInt32), iv v12_0, iv v17_0, .unset, .unset, .unset, .unset, .unset, .unset, .unset, .unset, .unset] [(.int ((((x1.toUInt32 >>> ((8 : Int32) &&& 31).toUInt32).toInt32) &&& (255 : Int32)).toUInt32.toUInt16.toUInt32.toInt32)), (.int ((x1 &&& (255 : Int32)).toUInt32.toUInt16.toUInt32.toInt32)), (.int ((x0 &&& (3 : Int32)) % (3 : Int32)))])) rfl (by rw [hml]; rfl) (argsL := [(.int ((x0 &&& (3 : Int32)) % (3 : Int32))), (.int ((x1 &&& (255 : Int32)).toUInt32.toUInt16.toUInt32.toInt32)), (.int ((((x1.toUInt32 >>> ((8 : Int32) &&& 31).toUInt32).toInt32) &&& (255 : Int32)).toUInt32.toUInt16.toUInt32.toInt32))]) (rest := []) (lenOf pd_8 rfl) rfl (by show 2 * 0 + _ ≤ _; exact Nat.le_of_eq rfl) (hb hby at_110) (fun _ _ => ⟨rfl, e0, (by decide : 0 + 6 ≤ _), (by decide : 0 + 12 ≤ _)⟩)
  dsimp only [Pt.U, Pt.locs, Pt.cells, Pt.slots] at X21 l21 y21 z21 st21 hQ21 hS21 hg21 cr21
  subst l21 y21 z21
  obtain ⟨X21, hS21, hZ21, hown21⟩ := rebS hS0 (by rw [e0]; exact hk0) X21 hS21 hg21 hZ hown
  obtain ⟨b_21, rfl, N21q, K21, r21_0, r21_1, r21_2⟩ := hQ21
  have N21 := Fr.app N0 N21q
  have Z21_ : n0 ≤ T21.heap.size := Nat.le_trans Z0 K21.1
  have hk21_ := Nat.le_trans hk0 K21.1
  have CH21 := cr21.1
  have CR21 := CR0.trans cr21
  have O21_ := O0.keep K21 all0
  have hk21w : T21.heap.size ≤ T21.heap.size := Nat.le_refl _
  obtain ⟨_, _, ⟨T22, L22, k22, n22⟩, -, X22, hS22, hg22, ⟨Lc22, hQ22, l22, y22, z22, cr22⟩, st22⟩ := callSS X21 hx (y := (⟨"com/example/wardflow/wardflow/model/PartySameParticipantPinLaw", "str", "(ICC)Ljava/lang/String;"⟩ : MethodName)) hown21 (mvT hZ21 (hw _ (im 0 rfl))) (mvT hZ21 (hw _ (im 1 rfl))) (mvT hZ21 (hw _ (im 2 rfl))) (mvT hZ21 (hw _ (im 3 rfl))) (by decide) (backOfSH (W := 0) (rm1 l Z a0 hw [] ((((x0.toUInt32 >>> ((2 : Int32) &&& 31).toUInt32).toInt32) &&& (3 : Int32)) % (3 : Int32)) v12_0 v17_0 cs T21.heap n0 Z21_ O21_ pre_S_COMPACT_STRINGS (hcs) (own_ch255 _ (own_rng2 hv12_0)) (own_ch255 _ (own_rng2 hv17_0))) hZ21 (hw _ (im 3 rfl)) (hw _ (im 2 rfl)) (by decide) (by decide) hEW CH21) (g := (mkF m 121 #[iv x0, iv x1, iv x2, iv x3, iv ((x0 &&& (3 : Int32)) % (3 : Int32)), iv ((((x0.toUInt32 >>> ((2 : Int32) &&& 31).toUInt32).toInt32) &&& (3 : Int32)) % (3 : Int32)), iv v2_0, iv v7_0, iv ((x1 &&& (255 : Int32)).toUInt32.toUInt16.toUInt32.toInt32), iv ((((x1.toUInt32 >>> ((8 : Int32) &&& 31).toUInt32).toInt32) &&& (255 : Int32)).toUInt32.toUInt16.toUInt32.toInt32), iv v12_0, iv v17_0, rv b_21, .unset, .unset, .unset, .unset, .unset, .unset, .unset, .unset] [(.int v17_0), (.int v12_0), (.int ((((x0.toUInt32 >>> ((2 : Int32) &&& 31).toUInt32).toInt32) &&& (3 : Int32)) % (3 : Int32)))])) rfl (by rw [hml]; rfl) (argsL := [(.int ((((x0.toUInt32 >>> ((2 : Int32) &&& 31).toUInt32).toInt32) &&& (3 : Int32)) % (3 : Int32))), (.int v12_0), (.int v17_0)]) (rest := []) (lenOf pd_8 rfl) rfl (by show 2 * 0 + _ ≤ _; exact Nat.le_of_eq rfl) (hb hby at_121) (fun _ _ => ⟨rfl, rfl, (by decide : 6 + 6 ≤ _), (by decide : 12 + 12 ≤ _)⟩)
  dsimp only [Pt.U, Pt.locs, Pt.cells, Pt.slots] at X22 l22 y22 z22 st22 hQ22 hS22 hg22 cr22
  subst l22 y22 z22
  obtain ⟨X22, hS22, hZ22, hown22⟩ := rebS hS21 (hk21w) X22 hS22 hg22 hZ21 hown21
  obtain ⟨b_22, rfl, N22q, K22, r22_0, r22_1, r22_2⟩ := hQ22
  have N22 := Fr.app N21 N22q
  have Z22_ : n0 ≤ T22.heap.size := Nat.le_trans Z21_ K22.1
  have hk22_ := Nat.le_trans hk21w K22.1
  have CH22 := cr22.1
  have CR22 := CR21.trans cr22
  have O22_ := O21_.keep K22 all0
  have hk22w : T22.heap.size ≤ T22.heap.size := Nat.le_refl _
  have P23 := own_go P20 (S' := T22.setTop (mkF m 143 #[iv x0, iv x1, iv x2, iv x3, iv ((x0 &&& (3 : Int32)) % (3 : Int32)), iv ((((x0.toUInt32 >>> ((2 : Int32) &&& 31).toUInt32).toInt32) &&& (3 : Int32)) % (3 : Int32)), iv v2_0, iv v7_0, iv ((x1 &&& (255 : Int32)).toUInt32.toUInt16.toUInt32.toInt32), iv ((((x1.toUInt32 >>> ((8 : Int32) &&& 31).toUInt32).toInt32) &&& (255 : Int32)).toUInt32.toUInt16.toUInt32.toInt32), iv v12_0, iv v17_0, rv b_21, rv b_22, iv ((((x0.toUInt32 >>> ((6 : Int32) &&& 31).toUInt32).toInt32) &&& (3 : Int32)) % (3 : Int32)), .unset, .unset, .unset, .unset, .unset, .unset] [(.int 3), (.int (((x0.toUInt32 >>> ((8 : Int32) &&& 31).toUInt32).toInt32) &&& (3 : Int32)))])) (by
    intro t k
    refine XS.istore X0.here hx rfl (hb hby at_102) rfl (l' := #[iv x0, iv x1, iv x2, iv x3, iv ((x0 &&& (3 : Int32)) % (3 : Int32)), iv ((((x0.toUInt32 >>> ((2 : Int32) &&& 31).toUInt32).toInt32) &&& (3 : Int32)) % (3 : Int32)), iv v2_0, iv v7_0, iv ((x1 &&& (255 : Int32)).toUInt32.toUInt16.toUInt32.toInt32), iv ((((x1.toUInt32 >>> ((8 : Int32) &&& 31).toUInt32).toInt32) &&& (255 : Int32)).toUInt32.toUInt16.toUInt32.toInt32), iv v12_0, iv v17_0, .unset, .unset, .unset, .unset, .unset, .unset, .unset, .unset, .unset]) rfl ?_
    refine XS.iload X0.here hx rfl (hb hby at_104) rfl ?_
    refine XS.iload X0.here hx rfl (hb hby at_106) rfl ?_
    refine XS.iload X0.here hx rfl (hb hby at_108) rfl ?_
    refine st21.trans ?_
    refine XS.astore X21.here hx rfl (hb hby at_113) rfl rfl (l' := #[iv x0, iv x1, iv x2, iv x3, iv ((x0 &&& (3 : Int32)) % (3 : Int32)), iv ((((x0.toUInt32 >>> ((2 : Int32) &&& 31).toUInt32).toInt32) &&& (3 : Int32)) % (3 : Int32)), iv v2_0, iv v7_0, iv ((x1 &&& (255 : Int32)).toUInt32.toUInt16.toUInt32.toInt32), iv ((((x1.toUInt32 >>> ((8 : Int32) &&& 31).toUInt32).toInt32) &&& (255 : Int32)).toUInt32.toUInt16.toUInt32.toInt32), iv v12_0, iv v17_0, rv b_21, .unset, .unset, .unset, .unset, .unset, .unset, .unset, .unset]) rfl ?_
    refine XS.iload X21.here hx rfl (hb hby at_115) rfl ?_
    refine XS.iload X21.here hx rfl (hb hby at_117) rfl ?_
    show Steps p.tables e below (T21.setTop (mkF m 119 #[iv x0, iv x1, iv x2, iv x3, iv ((x0 &&& (3 : Int32)) % (3 : Int32)), iv ((((x0.toUInt32 >>> ((2 : Int32) &&& 31).toUInt32).toInt32) &&& (3 : Int32)) % (3 : Int32)), iv v2_0, iv v7_0, iv ((x1 &&& (255 : Int32)).toUInt32.toUInt16.toUInt32.toInt32), iv ((((x1.toUInt32 >>> ((8 : Int32) &&& 31).toUInt32).toInt32) &&& (255 : Int32)).toUInt32.toUInt16.toUInt32.toInt32), iv v12_0, iv v17_0, rv b_21, .unset, .unset, .unset, .unset, .unset, .unset, .unset, .unset] [(.int v12_0), (.int ((((x0.toUInt32 >>> ((2 : Int32) &&& 31).toUInt32).toInt32) &&& (3 : Int32)) % (3 : Int32)))])) _
    refine XS.iload X21.here hx rfl (hb hby at_119) rfl ?_
    refine st22.trans ?_
    refine XS.astore X22.here hx rfl (hb hby at_124) rfl rfl (l' := #[iv x0, iv x1, iv x2, iv x3, iv ((x0 &&& (3 : Int32)) % (3 : Int32)), iv ((((x0.toUInt32 >>> ((2 : Int32) &&& 31).toUInt32).toInt32) &&& (3 : Int32)) % (3 : Int32)), iv v2_0, iv v7_0, iv ((x1 &&& (255 : Int32)).toUInt32.toUInt16.toUInt32.toInt32), iv ((((x1.toUInt32 >>> ((8 : Int32) &&& 31).toUInt32).toInt32) &&& (255 : Int32)).toUInt32.toUInt16.toUInt32.toInt32), iv v12_0, iv v17_0, rv b_21, rv b_22, .unset, .unset, .unset, .unset, .unset, .unset, .unset]) rfl ?_
    refine XS.iloadN X22.here hx rfl (hb hby at_126) rfl ?_
    refine XS.bipush X22.here hx rfl (hb hby at_127) ?_
    refine XS.iushr X22.here hx rfl (hb hby at_129) rfl ?_
    refine XS.iconst X22.here hx rfl (hb hby at_130) ?_
    refine XS.iand X22.here hx rfl (hb hby at_131) rfl ?_
    show Steps p.tables e below (T22.setTop (mkF m 132 #[iv x0, iv x1, iv x2, iv x3, iv ((x0 &&& (3 : Int32)) % (3 : Int32)), iv ((((x0.toUInt32 >>> ((2 : Int32) &&& 31).toUInt32).toInt32) &&& (3 : Int32)) % (3 : Int32)), iv v2_0, iv v7_0, iv ((x1 &&& (255 : Int32)).toUInt32.toUInt16.toUInt32.toInt32), iv ((((x1.toUInt32 >>> ((8 : Int32) &&& 31).toUInt32).toInt32) &&& (255 : Int32)).toUInt32.toUInt16.toUInt32.toInt32), iv v12_0, iv v17_0, rv b_21, rv b_22, .unset, .unset, .unset, .unset, .unset, .unset, .unset] [(.int (((x0.toUInt32 >>> ((6 : Int32) &&& 31).toUInt32).toInt32) &&& (3 : Int32)))])) _
    refine XS.iconst X22.here hx rfl (hb hby at_132) ?_
    refine Jvm.RoadKit.iremM X22 hx rfl (hb hby at_133) rfl (by decide) ?_
    refine XS.istore X22.here hx rfl (hb hby at_134) rfl (l' := #[iv x0, iv x1, iv x2, iv x3, iv ((x0 &&& (3 : Int32)) % (3 : Int32)), iv ((((x0.toUInt32 >>> ((2 : Int32) &&& 31).toUInt32).toInt32) &&& (3 : Int32)) % (3 : Int32)), iv v2_0, iv v7_0, iv ((x1 &&& (255 : Int32)).toUInt32.toUInt16.toUInt32.toInt32), iv ((((x1.toUInt32 >>> ((8 : Int32) &&& 31).toUInt32).toInt32) &&& (255 : Int32)).toUInt32.toUInt16.toUInt32.toInt32), iv v12_0, iv v17_0, rv b_21, rv b_22, iv ((((x0.toUInt32 >>> ((6 : Int32) &&& 31).toUInt32).toInt32) &&& (3 : Int32)) % (3 : Int32)), .unset, .unset, .unset, .unset, .unset, .unset]) rfl ?_
    refine XS.iloadN X22.here hx rfl (hb hby at_136) rfl ?_
    refine XS.bipush X22.here hx rfl (hb hby at_137) ?_
    refine XS.iushr X22.here hx rfl (hb hby at_139) rfl ?_
    refine XS.iconst X22.here hx rfl (hb hby at_140) ?_
    refine XS.iand X22.here hx rfl (hb hby at_141) rfl ?_
    show Steps p.tables e below (T22.setTop (mkF m 142 #[iv x0, iv x1, iv x2, iv x3, iv ((x0 &&& (3 : Int32)) % (3 : Int32)), iv ((((x0.toUInt32 >>> ((2 : Int32) &&& 31).toUInt32).toInt32) &&& (3 : Int32)) % (3 : Int32)), iv v2_0, iv v7_0, iv ((x1 &&& (255 : Int32)).toUInt32.toUInt16.toUInt32.toInt32), iv ((((x1.toUInt32 >>> ((8 : Int32) &&& 31).toUInt32).toInt32) &&& (255 : Int32)).toUInt32.toUInt16.toUInt32.toInt32), iv v12_0, iv v17_0, rv b_21, rv b_22, iv ((((x0.toUInt32 >>> ((6 : Int32) &&& 31).toUInt32).toInt32) &&& (3 : Int32)) % (3 : Int32)), .unset, .unset, .unset, .unset, .unset, .unset] [(.int (((x0.toUInt32 >>> ((8 : Int32) &&& 31).toUInt32).toInt32) &&& (3 : Int32)))])) _
    refine XS.iconst X22.here hx rfl (hb hby at_142) ?_
    exact k)
  obtain ⟨_, _, ⟨T24, L24, k24, n24⟩, -, X24, hS24, hg24, ⟨Lc24, hQ24, l24, y24, z24, cr24⟩, st24⟩ := callSS X22 hx (y := (⟨"com/example/wardflow/wardflow/model/PartySameParticipantPinLaw", "str", "(ICC)Ljava/lang/String;"⟩ : MethodName)) hown22 (mvT hZ22 (hw _ (im 0 rfl))) (mvT hZ22 (hw _ (im 1 rfl))) (mvT hZ22 (hw _ (im 2 rfl))) (mvT hZ22 (hw _ (im 3 rfl))) (by decide) (backOfSH (W := 0) (rm1 l Z a0 hw [] ((((x0.toUInt32 >>> ((6 : Int32) &&& 31).toUInt32).toInt32) &&& (3 : Int32)) % (3 : Int32)) ((x3 &&& (255 : Int32)).toUInt32.toUInt16.toUInt32.toInt32) ((((x3.toUInt32 >>> ((8 : Int32) &&& 31).toUInt32).toInt32) &&& (255 : Int32)).toUInt32.toUInt16.toUInt32.toInt32) cs T22.heap n0 Z22_ O22_ pre_S_COMPACT_STRINGS (hcs) (own_ch255 _ (own_rng _)) (own_ch255 _ (own_rng _))) hZ22 (hw _ (im 3 rfl)) (hw _ (im 2 rfl)) (by decide) (by decide) hEW CH22) (g := (mkF m 163 #[iv x0, iv x1, iv x2, iv x3, iv ((x0 &&& (3 : Int32)) % (3 : Int32)), iv ((((x0.toUInt32 >>> ((2 : Int32) &&& 31).toUInt32).toInt32) &&& (3 : Int32)) % (3 : Int32)), iv v2_0, iv v7_0, iv ((x1 &&& (255 : Int32)).toUInt32.toUInt16.toUInt32.toInt32), iv ((((x1.toUInt32 >>> ((8 : Int32) &&& 31).toUInt32).toInt32) &&& (255 : Int32)).toUInt32.toUInt16.toUInt32.toInt32), iv v12_0, iv v17_0, rv b_21, rv b_22, iv ((((x0.toUInt32 >>> ((6 : Int32) &&& 31).toUInt32).toInt32) &&& (3 : Int32)) % (3 : Int32)), iv ((((x0.toUInt32 >>> ((8 : Int32) &&& 31).toUInt32).toInt32) &&& (3 : Int32)) % (3 : Int32)), .unset, .unset, .unset, .unset, .unset] [(.int ((((x3.toUInt32 >>> ((8 : Int32) &&& 31).toUInt32).toInt32) &&& (255 : Int32)).toUInt32.toUInt16.toUInt32.toInt32)), (.int ((x3 &&& (255 : Int32)).toUInt32.toUInt16.toUInt32.toInt32)), (.int ((((x0.toUInt32 >>> ((6 : Int32) &&& 31).toUInt32).toInt32) &&& (3 : Int32)) % (3 : Int32)))])) rfl (by rw [hml]; rfl) (argsL := [(.int ((((x0.toUInt32 >>> ((6 : Int32) &&& 31).toUInt32).toInt32) &&& (3 : Int32)) % (3 : Int32))), (.int ((x3 &&& (255 : Int32)).toUInt32.toUInt16.toUInt32.toInt32)), (.int ((((x3.toUInt32 >>> ((8 : Int32) &&& 31).toUInt32).toInt32) &&& (255 : Int32)).toUInt32.toUInt16.toUInt32.toInt32))]) (rest := []) (lenOf pd_8 rfl) rfl (by show 2 * 0 + _ ≤ _; exact Nat.le_of_eq rfl) (hb hby at_163) (fun _ _ => ⟨rfl, rfl, (by decide : 12 + 6 ≤ _), (by decide : 24 + 12 ≤ _)⟩)
  dsimp only [Pt.U, Pt.locs, Pt.cells, Pt.slots] at X24 l24 y24 z24 st24 hQ24 hS24 hg24 cr24
  subst l24 y24 z24
  obtain ⟨X24, hS24, hZ24, hown24⟩ := rebS hS22 (hk22w) X24 hS24 hg24 hZ22 hown22
  obtain ⟨b_24, rfl, N24q, K24, r24_0, r24_1, r24_2⟩ := hQ24
  have N24 := Fr.app N22 N24q
  have Z24_ : n0 ≤ T24.heap.size := Nat.le_trans Z22_ K24.1
  have hk24_ := Nat.le_trans hk22w K24.1
  have CH24 := cr24.1
  have CR24 := CR22.trans cr24
  have O24_ := O22_.keep K24 all0
  have hk24w : T24.heap.size ≤ T24.heap.size := Nat.le_refl _
  have P25 := own_go P23 (S' := T24.setTop (mkF m 183 #[iv x0, iv x1, iv x2, iv x3, iv ((x0 &&& (3 : Int32)) % (3 : Int32)), iv ((((x0.toUInt32 >>> ((2 : Int32) &&& 31).toUInt32).toInt32) &&& (3 : Int32)) % (3 : Int32)), iv v2_0, iv v7_0, iv ((x1 &&& (255 : Int32)).toUInt32.toUInt16.toUInt32.toInt32), iv ((((x1.toUInt32 >>> ((8 : Int32) &&& 31).toUInt32).toInt32) &&& (255 : Int32)).toUInt32.toUInt16.toUInt32.toInt32), iv v12_0, iv v17_0, rv b_21, rv b_22, iv ((((x0.toUInt32 >>> ((6 : Int32) &&& 31).toUInt32).toInt32) &&& (3 : Int32)) % (3 : Int32)), iv ((((x0.toUInt32 >>> ((8 : Int32) &&& 31).toUInt32).toInt32) &&& (3 : Int32)) % (3 : Int32)), rv b_24, .unset, .unset, .unset, .unset] [(.int ((x3.toUInt32 >>> ((24 : Int32) &&& 31).toUInt32).toInt32)), (.int ((((x3.toUInt32 >>> ((16 : Int32) &&& 31).toUInt32).toInt32) &&& (255 : Int32)).toUInt32.toUInt16.toUInt32.toInt32)), (.int ((((x0.toUInt32 >>> ((8 : Int32) &&& 31).toUInt32).toInt32) &&& (3 : Int32)) % (3 : Int32)))])) (by
    intro t k
    refine Jvm.RoadKit.iremM X22 hx rfl (hb hby at_143) rfl (by decide) ?_
    refine XS.istore X22.here hx rfl (hb hby at_144) rfl (l' := #[iv x0, iv x1, iv x2, iv x3, iv ((x0 &&& (3 : Int32)) % (3 : Int32)), iv ((((x0.toUInt32 >>> ((2 : Int32) &&& 31).toUInt32).toInt32) &&& (3 : Int32)) % (3 : Int32)), iv v2_0, iv v7_0, iv ((x1 &&& (255 : Int32)).toUInt32.toUInt16.toUInt32.toInt32), iv ((((x1.toUInt32 >>> ((8 : Int32) &&& 31).toUInt32).toInt32) &&& (255 : Int32)).toUInt32.toUInt16.toUInt32.toInt32), iv v12_0, iv v17_0, rv b_21, rv b_22, iv ((((x0.toUInt32 >>> ((6 : Int32) &&& 31).toUInt32).toInt32) &&& (3 : Int32)) % (3 : Int32)), iv ((((x0.toUInt32 >>> ((8 : Int32) &&& 31).toUInt32).toInt32) &&& (3 : Int32)) % (3 : Int32)), .unset, .unset, .unset, .unset, .unset]) rfl ?_
    refine XS.iload X22.here hx rfl (hb hby at_146) rfl ?_
    refine XS.iloadN X22.here hx rfl (hb hby at_148) rfl ?_
    refine XS.sipush X22.here hx rfl (hb hby at_149) ?_
    refine XS.iand X22.here hx rfl (hb hby at_152) rfl ?_
    refine XS.i2c X22.here hx rfl (hb hby at_153) rfl ?_
    refine XS.iloadN X22.here hx rfl (hb hby at_154) rfl ?_
    show Steps p.tables e below (T22.setTop (mkF m 155 #[iv x0, iv x1, iv x2, iv x3, iv ((x0 &&& (3 : Int32)) % (3 : Int32)), iv ((((x0.toUInt32 >>> ((2 : Int32) &&& 31).toUInt32).toInt32) &&& (3 : Int32)) % (3 : Int32)), iv v2_0, iv v7_0, iv ((x1 &&& (255 : Int32)).toUInt32.toUInt16.toUInt32.toInt32), iv ((((x1.toUInt32 >>> ((8 : Int32) &&& 31).toUInt32).toInt32) &&& (255 : Int32)).toUInt32.toUInt16.toUInt32.toInt32), iv v12_0, iv v17_0, rv b_21, rv b_22, iv ((((x0.toUInt32 >>> ((6 : Int32) &&& 31).toUInt32).toInt32) &&& (3 : Int32)) % (3 : Int32)), iv ((((x0.toUInt32 >>> ((8 : Int32) &&& 31).toUInt32).toInt32) &&& (3 : Int32)) % (3 : Int32)), .unset, .unset, .unset, .unset, .unset] [(.int x3), (.int ((x3 &&& (255 : Int32)).toUInt32.toUInt16.toUInt32.toInt32)), (.int ((((x0.toUInt32 >>> ((6 : Int32) &&& 31).toUInt32).toInt32) &&& (3 : Int32)) % (3 : Int32)))])) _
    refine XS.bipush X22.here hx rfl (hb hby at_155) ?_
    refine XS.iushr X22.here hx rfl (hb hby at_157) rfl ?_
    refine XS.sipush X22.here hx rfl (hb hby at_158) ?_
    refine XS.iand X22.here hx rfl (hb hby at_161) rfl ?_
    refine XS.i2c X22.here hx rfl (hb hby at_162) rfl ?_
    refine st24.trans ?_
    refine XS.astore X24.here hx rfl (hb hby at_166) rfl rfl (l' := #[iv x0, iv x1, iv x2, iv x3, iv ((x0 &&& (3 : Int32)) % (3 : Int32)), iv ((((x0.toUInt32 >>> ((2 : Int32) &&& 31).toUInt32).toInt32) &&& (3 : Int32)) % (3 : Int32)), iv v2_0, iv v7_0, iv ((x1 &&& (255 : Int32)).toUInt32.toUInt16.toUInt32.toInt32), iv ((((x1.toUInt32 >>> ((8 : Int32) &&& 31).toUInt32).toInt32) &&& (255 : Int32)).toUInt32.toUInt16.toUInt32.toInt32), iv v12_0, iv v17_0, rv b_21, rv b_22, iv ((((x0.toUInt32 >>> ((6 : Int32) &&& 31).toUInt32).toInt32) &&& (3 : Int32)) % (3 : Int32)), iv ((((x0.toUInt32 >>> ((8 : Int32) &&& 31).toUInt32).toInt32) &&& (3 : Int32)) % (3 : Int32)), rv b_24, .unset, .unset, .unset, .unset]) rfl ?_
    refine XS.iload X24.here hx rfl (hb hby at_168) rfl ?_
    show Steps p.tables e below (T24.setTop (mkF m 170 #[iv x0, iv x1, iv x2, iv x3, iv ((x0 &&& (3 : Int32)) % (3 : Int32)), iv ((((x0.toUInt32 >>> ((2 : Int32) &&& 31).toUInt32).toInt32) &&& (3 : Int32)) % (3 : Int32)), iv v2_0, iv v7_0, iv ((x1 &&& (255 : Int32)).toUInt32.toUInt16.toUInt32.toInt32), iv ((((x1.toUInt32 >>> ((8 : Int32) &&& 31).toUInt32).toInt32) &&& (255 : Int32)).toUInt32.toUInt16.toUInt32.toInt32), iv v12_0, iv v17_0, rv b_21, rv b_22, iv ((((x0.toUInt32 >>> ((6 : Int32) &&& 31).toUInt32).toInt32) &&& (3 : Int32)) % (3 : Int32)), iv ((((x0.toUInt32 >>> ((8 : Int32) &&& 31).toUInt32).toInt32) &&& (3 : Int32)) % (3 : Int32)), rv b_24, .unset, .unset, .unset, .unset] [(.int ((((x0.toUInt32 >>> ((8 : Int32) &&& 31).toUInt32).toInt32) &&& (3 : Int32)) % (3 : Int32)))])) _
    refine XS.iloadN X24.here hx rfl (hb hby at_170) rfl ?_
    refine XS.bipush X24.here hx rfl (hb hby at_171) ?_
    refine XS.iushr X24.here hx rfl (hb hby at_173) rfl ?_
    refine XS.sipush X24.here hx rfl (hb hby at_174) ?_
    refine XS.iand X24.here hx rfl (hb hby at_177) rfl ?_
    refine XS.i2c X24.here hx rfl (hb hby at_178) rfl ?_
    refine XS.iloadN X24.here hx rfl (hb hby at_179) rfl ?_
    refine XS.bipush X24.here hx rfl (hb hby at_180) ?_
    show Steps p.tables e below (T24.setTop (mkF m 182 #[iv x0, iv x1, iv x2, iv x3, iv ((x0 &&& (3 : Int32)) % (3 : Int32)), iv ((((x0.toUInt32 >>> ((2 : Int32) &&& 31).toUInt32).toInt32) &&& (3 : Int32)) % (3 : Int32)), iv v2_0, iv v7_0, iv ((x1 &&& (255 : Int32)).toUInt32.toUInt16.toUInt32.toInt32), iv ((((x1.toUInt32 >>> ((8 : Int32) &&& 31).toUInt32).toInt32) &&& (255 : Int32)).toUInt32.toUInt16.toUInt32.toInt32), iv v12_0, iv v17_0, rv b_21, rv b_22, iv ((((x0.toUInt32 >>> ((6 : Int32) &&& 31).toUInt32).toInt32) &&& (3 : Int32)) % (3 : Int32)), iv ((((x0.toUInt32 >>> ((8 : Int32) &&& 31).toUInt32).toInt32) &&& (3 : Int32)) % (3 : Int32)), rv b_24, .unset, .unset, .unset, .unset] [(.int 24), (.int x3), (.int ((((x3.toUInt32 >>> ((16 : Int32) &&& 31).toUInt32).toInt32) &&& (255 : Int32)).toUInt32.toUInt16.toUInt32.toInt32)), (.int ((((x0.toUInt32 >>> ((8 : Int32) &&& 31).toUInt32).toInt32) &&& (3 : Int32)) % (3 : Int32)))])) _
    refine XS.iushr X24.here hx rfl (hb hby at_182) rfl ?_
    exact k)
  obtain ⟨_, _, ⟨T26, L26, k26, n26⟩, -, X26, hS26, hg26, ⟨Lc26, hQ26, l26, y26, z26, cr26⟩, st26⟩ := callSS X24 hx (y := (⟨"com/example/wardflow/wardflow/model/PartySameParticipantPinLaw", "str", "(ICC)Ljava/lang/String;"⟩ : MethodName)) hown24 (mvT hZ24 (hw _ (im 0 rfl))) (mvT hZ24 (hw _ (im 1 rfl))) (mvT hZ24 (hw _ (im 2 rfl))) (mvT hZ24 (hw _ (im 3 rfl))) (by decide) (backOfSH (W := 0) (rm1 l Z a0 hw [] ((((x0.toUInt32 >>> ((8 : Int32) &&& 31).toUInt32).toInt32) &&& (3 : Int32)) % (3 : Int32)) ((((x3.toUInt32 >>> ((16 : Int32) &&& 31).toUInt32).toInt32) &&& (255 : Int32)).toUInt32.toUInt16.toUInt32.toInt32) ((((x3.toUInt32 >>> ((24 : Int32) &&& 31).toUInt32).toInt32) &&& (255 : Int32)).toUInt32.toUInt16.toUInt32.toInt32) cs T24.heap n0 Z24_ O24_ pre_S_COMPACT_STRINGS (hcs) (own_ch255 _ (own_rng _)) (own_ch255 _ (own_rng _))) hZ24 (hw _ (im 3 rfl)) (hw _ (im 2 rfl)) (by decide) (by decide) hEW CH24) (g := (mkF m 188 #[iv x0, iv x1, iv x2, iv x3, iv ((x0 &&& (3 : Int32)) % (3 : Int32)), iv ((((x0.toUInt32 >>> ((2 : Int32) &&& 31).toUInt32).toInt32) &&& (3 : Int32)) % (3 : Int32)), iv v2_0, iv v7_0, iv ((x1 &&& (255 : Int32)).toUInt32.toUInt16.toUInt32.toInt32), iv ((((x1.toUInt32 >>> ((8 : Int32) &&& 31).toUInt32).toInt32) &&& (255 : Int32)).toUInt32.toUInt16.toUInt32.toInt32), iv v12_0, iv v17_0, rv b_21, rv b_22, iv ((((x0.toUInt32 >>> ((6 : Int32) &&& 31).toUInt32).toInt32) &&& (3 : Int32)) % (3 : Int32)), iv ((((x0.toUInt32 >>> ((8 : Int32) &&& 31).toUInt32).toInt32) &&& (3 : Int32)) % (3 : Int32)), rv b_24, .unset, .unset, .unset, .unset] [(.int ((((x3.toUInt32 >>> ((24 : Int32) &&& 31).toUInt32).toInt32) &&& (255 : Int32)).toUInt32.toUInt16.toUInt32.toInt32)), (.int ((((x3.toUInt32 >>> ((16 : Int32) &&& 31).toUInt32).toInt32) &&& (255 : Int32)).toUInt32.toUInt16.toUInt32.toInt32)), (.int ((((x0.toUInt32 >>> ((8 : Int32) &&& 31).toUInt32).toInt32) &&& (3 : Int32)) % (3 : Int32)))])) rfl (by rw [hml]; rfl) (argsL := [(.int ((((x0.toUInt32 >>> ((8 : Int32) &&& 31).toUInt32).toInt32) &&& (3 : Int32)) % (3 : Int32))), (.int ((((x3.toUInt32 >>> ((16 : Int32) &&& 31).toUInt32).toInt32) &&& (255 : Int32)).toUInt32.toUInt16.toUInt32.toInt32)), (.int ((((x3.toUInt32 >>> ((24 : Int32) &&& 31).toUInt32).toInt32) &&& (255 : Int32)).toUInt32.toUInt16.toUInt32.toInt32))]) (rest := []) (lenOf pd_8 rfl) rfl (by show 2 * 0 + _ ≤ _; exact Nat.le_of_eq rfl) (hb hby at_188) (fun _ _ => ⟨rfl, rfl, (by decide : 18 + 6 ≤ _), (by decide : 36 + 12 ≤ _)⟩)
  dsimp only [Pt.U, Pt.locs, Pt.cells, Pt.slots] at X26 l26 y26 z26 st26 hQ26 hS26 hg26 cr26
  subst l26 y26 z26
  obtain ⟨X26, hS26, hZ26, hown26⟩ := rebS hS24 (hk24w) X26 hS26 hg26 hZ24 hown24
  obtain ⟨b_26, rfl, N26q, K26, r26_0, r26_1, r26_2⟩ := hQ26
  have N26 := Fr.app N24 N26q
  have Z26_ : n0 ≤ T26.heap.size := Nat.le_trans Z24_ K26.1
  have hk26_ := Nat.le_trans hk24w K26.1
  have CH26 := cr26.1
  have CR26 := CR24.trans cr26
  have O26_ := O24_.keep K26 all0
  have hk26w : T26.heap.size ≤ T26.heap.size := Nat.le_refl _
  obtain ⟨T27, h27, X27, e27, E27, A27, D27, -, st27⟩ := newO X26 hx hZ26 hown26 (hw _ (im 26 rfl)) (hw _ (im 27 rfl)) (hw _ (im 28 rfl)) rfl (g := (mkF m 193 #[iv x0, iv x1, iv x2, iv x3, iv ((x0 &&& (3 : Int32)) % (3 : Int32)), iv ((((x0.toUInt32 >>> ((2 : Int32) &&& 31).toUInt32).toInt32) &&& (3 : Int32)) % (3 : Int32)), iv v2_0, iv v7_0, iv ((x1 &&& (255 : Int32)).toUInt32.toUInt16.toUInt32.toInt32), iv ((((x1.toUInt32 >>> ((8 : Int32) &&& 31).toUInt32).toInt32) &&& (255 : Int32)).toUInt32.toUInt16.toUInt32.toInt32), iv v12_0, iv v17_0, rv b_21, rv b_22, iv ((((x0.toUInt32 >>> ((6 : Int32) &&& 31).toUInt32).toInt32) &&& (3 : Int32)) % (3 : Int32)), iv ((((x0.toUInt32 >>> ((8 : Int32) &&& 31).toUInt32).toInt32) &&& (3 : Int32)) % (3 : Int32)), rv b_24, rv b_26, .unset, .unset, .unset] [])) rfl (hb hby at_193) (by decide) (by decide)
  obtain ⟨b27, g27⟩ : ∃ z, z = T26.heap.size := ⟨_, rfl⟩
  rw [← g27] at A27 D27 st27
  have ge_b27 : n0 ≤ b27 := Nat.le_trans Z26_ (Nat.le_of_eq g27.symm)
  have Z27_ : n0 ≤ h27.size := Nat.le_trans Z26_ E27.1
  have hk27_ := Nat.le_trans hk26w E27.1
  have CH27 := CHv.ext E27 CH26
  have CR27 := CR26.trans (CHr.ext E27 CH26)
  have O27_ := O26_.ext E27
  have F27_participant : Fld Z h27 b27 "com/example/wardflow/wardflow/model/Party" "participant" "Ljava/lang/String;" .null := D27 (Or.inr (hw _ (im 39 rfl))) (ty := (.object "java/lang/String")) (by decide)
  have F27_role : Fld Z h27 b27 "com/example/wardflow/wardflow/model/Party" "role" "Ljava/lang/String;" .null := D27 (Or.inr (hw _ (im 41 rfl))) (ty := (.object "java/lang/String")) (by decide)
  obtain ⟨_, _, ⟨T28, L28, k28, n28⟩, -, X28, ⟨Lc28, hQ28, l28, y28, z28⟩, st28⟩ := X27.specialBack hx (y := (⟨"com/example/wardflow/wardflow/model/Party", "<init>", "(Ljava/lang/String;Ljava/lang/String;)V"⟩ : MethodName)) rfl hown26 (mvT hZ26 (hw _ (im 29 rfl))) (mvT hZ26 (hw _ (im 30 rfl))) (mvT hZ26 (hw _ (im 31 rfl))) (by decide) (backOf (W := 1) (rm5 l Z a0 hw [] b27 b_21 b_24 h27 n0 Z27_ A27 F27_participant F27_role ge_b27) hZ26 (hw _ (im 31 rfl)) (hw _ (im 28 rfl)) (by decide) (by decide)) (g := (mkF m 201 #[iv x0, iv x1, iv x2, iv x3, iv ((x0 &&& (3 : Int32)) % (3 : Int32)), iv ((((x0.toUInt32 >>> ((2 : Int32) &&& 31).toUInt32).toInt32) &&& (3 : Int32)) % (3 : Int32)), iv v2_0, iv v7_0, iv ((x1 &&& (255 : Int32)).toUInt32.toUInt16.toUInt32.toInt32), iv ((((x1.toUInt32 >>> ((8 : Int32) &&& 31).toUInt32).toInt32) &&& (255 : Int32)).toUInt32.toUInt16.toUInt32.toInt32), iv v12_0, iv v17_0, rv b_21, rv b_22, iv ((((x0.toUInt32 >>> ((6 : Int32) &&& 31).toUInt32).toInt32) &&& (3 : Int32)) % (3 : Int32)), iv ((((x0.toUInt32 >>> ((8 : Int32) &&& 31).toUInt32).toInt32) &&& (3 : Int32)) % (3 : Int32)), rv b_24, rv b_26, .unset, .unset, .unset] [(.ref b_24), (.ref b_21), (.ref b27), (.ref b27)])) rfl (by rw [hml]; rfl) (Steps.refl _) (a := b27) (argsL := [(.ref b_21), (.ref b_24)]) (rest := [(.ref b27)]) (lenOf pd_9 rfl) rfl (by show 2 * 0 + _ ≤ _; exact Nat.le_of_eq rfl) (hb hby at_201) (fun _ _ => ⟨rfl, e27, (by decide : 25 + 0 ≤ _), (by decide : 50 + 0 ≤ _)⟩)
  dsimp only [Pt.U, Pt.locs, Pt.cells, Pt.slots] at X28 l28 y28 z28 st28 hQ28
  subst l28 y28 z28
  obtain ⟨rfl, N28q, K28, r28_0, r28_1⟩ := hQ28
  have N28 := Fr.app N26 N28q
  have Z28_ : n0 ≤ T28.heap.size := Nat.le_trans Z27_ K28.1
  have hk28_ := Nat.le_trans hk27_ K28.1
  have CH28 := CHv.keep K28 (allS (Safe.exa hZ26.alike A27 (by decide) (by decide)) all0) CH27
  have CR28 := CR27.trans (CHr.keep K28 (allS (Safe.exa hZ26.alike A27 (by decide) (by decide)) all0) CH27)
  have O28_ := O27_.keep K28 (allS ge_b27 all0)
  obtain ⟨T29, h29, X29, e29, E29, A29, D29, -, st29⟩ := newO X28 hx hZ26 hown26 (hw _ (im 26 rfl)) (hw _ (im 27 rfl)) (hw _ (im 28 rfl)) rfl (g := (mkF m 206 #[iv x0, iv x1, iv x2, iv x3, iv ((x0 &&& (3 : Int32)) % (3 : Int32)), iv ((((x0.toUInt32 >>> ((2 : Int32) &&& 31).toUInt32).toInt32) &&& (3 : Int32)) % (3 : Int32)), iv v2_0, iv v7_0, iv ((x1 &&& (255 : Int32)).toUInt32.toUInt16.toUInt32.toInt32), iv ((((x1.toUInt32 >>> ((8 : Int32) &&& 31).toUInt32).toInt32) &&& (255 : Int32)).toUInt32.toUInt16.toUInt32.toInt32), iv v12_0, iv v17_0, rv b_21, rv b_22, iv ((((x0.toUInt32 >>> ((6 : Int32) &&& 31).toUInt32).toInt32) &&& (3 : Int32)) % (3 : Int32)), iv ((((x0.toUInt32 >>> ((8 : Int32) &&& 31).toUInt32).toInt32) &&& (3 : Int32)) % (3 : Int32)), rv b_24, rv b_26, rv b27, .unset, .unset] [])) rfl (hb hby at_206) (by decide) (by decide)
  obtain ⟨b29, g29⟩ : ∃ z, z = T28.heap.size := ⟨_, rfl⟩
  rw [← g29] at A29 D29 st29
  have ge_b29 : n0 ≤ b29 := Nat.le_trans Z28_ (Nat.le_of_eq g29.symm)
  have Z29_ : n0 ≤ h29.size := Nat.le_trans Z28_ E29.1
  have hk29_ := Nat.le_trans hk28_ E29.1
  have CH29 := CHv.ext E29 CH28
  have CR29 := CR28.trans (CHr.ext E29 CH28)
  have O29_ := O28_.ext E29
  have F29_participant : Fld Z h29 b29 "com/example/wardflow/wardflow/model/Party" "participant" "Ljava/lang/String;" .null := D29 (Or.inr (hw _ (im 39 rfl))) (ty := (.object "java/lang/String")) (by decide)
  have F29_role : Fld Z h29 b29 "com/example/wardflow/wardflow/model/Party" "role" "Ljava/lang/String;" .null := D29 (Or.inr (hw _ (im 41 rfl))) (ty := (.object "java/lang/String")) (by decide)
  obtain ⟨_, _, ⟨T30, L30, k30, n30⟩, -, X30, ⟨Lc30, hQ30, l30, y30, z30⟩, st30⟩ := X29.specialBack hx (y := (⟨"com/example/wardflow/wardflow/model/Party", "<init>", "(Ljava/lang/String;Ljava/lang/String;)V"⟩ : MethodName)) rfl hown26 (mvT hZ26 (hw _ (im 29 rfl))) (mvT hZ26 (hw _ (im 30 rfl))) (mvT hZ26 (hw _ (im 31 rfl))) (by decide) (backOf (W := 1) (rm5 l Z a0 hw [] b29 b_22 b_26 h29 n0 Z29_ A29 F29_participant F29_role ge_b29) hZ26 (hw _ (im 31 rfl)) (hw _ (im 28 rfl)) (by decide) (by decide)) (g := (mkF m 214 #[iv x0, iv x1, iv x2, iv x3, iv ((x0 &&& (3 : Int32)) % (3 : Int32)), iv ((((x0.toUInt32 >>> ((2 : Int32) &&& 31).toUInt32).toInt32) &&& (3 : Int32)) % (3 : Int32)), iv v2_0, iv v7_0, iv ((x1 &&& (255 : Int32)).toUInt32.toUInt16.toUInt32.toInt32), iv ((((x1.toUInt32 >>> ((8 : Int32) &&& 31).toUInt32).toInt32) &&& (255 : Int32)).toUInt32.toUInt16.toUInt32.toInt32), iv v12_0, iv v17_0, rv b_21, rv b_22, iv ((((x0.toUInt32 >>> ((6 : Int32) &&& 31).toUInt32).toInt32) &&& (3 : Int32)) % (3 : Int32)), iv ((((x0.toUInt32 >>> ((8 : Int32) &&& 31).toUInt32).toInt32) &&& (3 : Int32)) % (3 : Int32)), rv b_24, rv b_26, rv b27, .unset, .unset] [(.ref b_26), (.ref b_22), (.ref b29), (.ref b29)])) rfl (by rw [hml]; rfl) (Steps.refl _) (a := b29) (argsL := [(.ref b_22), (.ref b_26)]) (rest := [(.ref b29)]) (lenOf pd_9 rfl) rfl (by show 2 * 0 + _ ≤ _; exact Nat.le_of_eq rfl) (hb hby at_214) (fun _ _ => ⟨rfl, e29, (by decide : 26 + 0 ≤ _), (by decide : 52 + 0 ≤ _)⟩)
  dsimp only [Pt.U, Pt.locs, Pt.cells, Pt.slots] at X30 l30 y30 z30 st30 hQ30
  subst l30 y30 z30
  obtain ⟨rfl, N30q, K30, r30_0, r30_1⟩ := hQ30
  have N30 := Fr.app N28 N30q
  have Z30_ : n0 ≤ T30.heap.size := Nat.le_trans Z29_ K30.1
  have hk30_ := Nat.le_trans hk29_ K30.1
  have CH30 := CHv.keep K30 (allS (Safe.exa hZ26.alike A29 (by decide) (by decide)) all0) CH29
  have CR30 := CR29.trans (CHr.keep K30 (allS (Safe.exa hZ26.alike A29 (by decide) (by decide)) all0) CH29)
  have O30_ := O29_.keep K30 (allS ge_b29 all0)
  have P33 := own_go P25 (S' := T30.setTop (mkF m 223 #[iv x0, iv x1, iv x2, iv x3, iv ((x0 &&& (3 : Int32)) % (3 : Int32)), iv ((((x0.toUInt32 >>> ((2 : Int32) &&& 31).toUInt32).toInt32) &&& (3 : Int32)) % (3 : Int32)), iv v2_0, iv v7_0, iv ((x1 &&& (255 : Int32)).toUInt32.toUInt16.toUInt32.toInt32), iv ((((x1.toUInt32 >>> ((8 : Int32) &&& 31).toUInt32).toInt32) &&& (255 : Int32)).toUInt32.toUInt16.toUInt32.toInt32), iv v12_0, iv v17_0, rv b_21, rv b_22, iv ((((x0.toUInt32 >>> ((6 : Int32) &&& 31).toUInt32).toInt32) &&& (3 : Int32)) % (3 : Int32)), iv ((((x0.toUInt32 >>> ((8 : Int32) &&& 31).toUInt32).toInt32) &&& (3 : Int32)) % (3 : Int32)), rv b_24, rv b_26, rv b27, rv b29, .unset] [(.int ((((x0.toUInt32 >>> ((2 : Int32) &&& 31).toUInt32).toInt32) &&& (3 : Int32)) % (3 : Int32))), (.int ((x0 &&& (3 : Int32)) % (3 : Int32)))])) (by
    intro t k
    refine XS.sipush X24.here hx rfl (hb hby at_183) ?_
    refine XS.iand X24.here hx rfl (hb hby at_186) rfl ?_
    refine XS.i2c X24.here hx rfl (hb hby at_187) rfl ?_
    refine st26.trans ?_
    refine XS.astore X26.here hx rfl (hb hby at_191) rfl rfl (l' := #[iv x0, iv x1, iv x2, iv x3, iv ((x0 &&& (3 : Int32)) % (3 : Int32)), iv ((((x0.toUInt32 >>> ((2 : Int32) &&& 31).toUInt32).toInt32) &&& (3 : Int32)) % (3 : Int32)), iv v2_0, iv v7_0, iv ((x1 &&& (255 : Int32)).toUInt32.toUInt16.toUInt32.toInt32), iv ((((x1.toUInt32 >>> ((8 : Int32) &&& 31).toUInt32).toInt32) &&& (255 : Int32)).toUInt32.toUInt16.toUInt32.toInt32), iv v12_0, iv v17_0, rv b_21, rv b_22, iv ((((x0.toUInt32 >>> ((6 : Int32) &&& 31).toUInt32).toInt32) &&& (3 : Int32)) % (3 : Int32)), iv ((((x0.toUInt32 >>> ((8 : Int32) &&& 31).toUInt32).toInt32) &&& (3 : Int32)) % (3 : Int32)), rv b_24, rv b_26, .unset, .unset, .unset]) rfl ?_
    refine st27 _ ?_
    refine XS.dup X27.here hx rfl (hb hby at_196) rfl rfl ?_
    refine XS.aload X27.here hx rfl (hb hby at_197) rfl rfl ?_
    show Steps p.tables e below (T27.setTop (mkF m 199 #[iv x0, iv x1, iv x2, iv x3, iv ((x0 &&& (3 : Int32)) % (3 : Int32)), iv ((((x0.toUInt32 >>> ((2 : Int32) &&& 31).toUInt32).toInt32) &&& (3 : Int32)) % (3 : Int32)), iv v2_0, iv v7_0, iv ((x1 &&& (255 : Int32)).toUInt32.toUInt16.toUInt32.toInt32), iv ((((x1.toUInt32 >>> ((8 : Int32) &&& 31).toUInt32).toInt32) &&& (255 : Int32)).toUInt32.toUInt16.toUInt32.toInt32), iv v12_0, iv v17_0, rv b_21, rv b_22, iv ((((x0.toUInt32 >>> ((6 : Int32) &&& 31).toUInt32).toInt32) &&& (3 : Int32)) % (3 : Int32)), iv ((((x0.toUInt32 >>> ((8 : Int32) &&& 31).toUInt32).toInt32) &&& (3 : Int32)) % (3 : Int32)), rv b_24, rv b_26, .unset, .unset, .unset] [(.ref b_21), (.ref b27), (.ref b27)])) _
    refine XS.aload X27.here hx rfl (hb hby at_199) rfl rfl ?_
    refine st28.trans ?_
    refine XS.astore X28.here hx rfl (hb hby at_204) rfl rfl (l' := #[iv x0, iv x1, iv x2, iv x3, iv ((x0 &&& (3 : Int32)) % (3 : Int32)), iv ((((x0.toUInt32 >>> ((2 : Int32) &&& 31).toUInt32).toInt32) &&& (3 : Int32)) % (3 : Int32)), iv v2_0, iv v7_0, iv ((x1 &&& (255 : Int32)).toUInt32.toUInt16.toUInt32.toInt32), iv ((((x1.toUInt32 >>> ((8 : Int32) &&& 31).toUInt32).toInt32) &&& (255 : Int32)).toUInt32.toUInt16.toUInt32.toInt32), iv v12_0, iv v17_0, rv b_21, rv b_22, iv ((((x0.toUInt32 >>> ((6 : Int32) &&& 31).toUInt32).toInt32) &&& (3 : Int32)) % (3 : Int32)), iv ((((x0.toUInt32 >>> ((8 : Int32) &&& 31).toUInt32).toInt32) &&& (3 : Int32)) % (3 : Int32)), rv b_24, rv b_26, rv b27, .unset, .unset]) rfl ?_
    refine st29 _ ?_
    refine XS.dup X29.here hx rfl (hb hby at_209) rfl rfl ?_
    refine XS.aload X29.here hx rfl (hb hby at_210) rfl rfl ?_
    refine XS.aload X29.here hx rfl (hb hby at_212) rfl rfl ?_
    refine st30.trans ?_
    show Steps p.tables e below (T30.setTop (mkF m 217 #[iv x0, iv x1, iv x2, iv x3, iv ((x0 &&& (3 : Int32)) % (3 : Int32)), iv ((((x0.toUInt32 >>> ((2 : Int32) &&& 31).toUInt32).toInt32) &&& (3 : Int32)) % (3 : Int32)), iv v2_0, iv v7_0, iv ((x1 &&& (255 : Int32)).toUInt32.toUInt16.toUInt32.toInt32), iv ((((x1.toUInt32 >>> ((8 : Int32) &&& 31).toUInt32).toInt32) &&& (255 : Int32)).toUInt32.toUInt16.toUInt32.toInt32), iv v12_0, iv v17_0, rv b_21, rv b_22, iv ((((x0.toUInt32 >>> ((6 : Int32) &&& 31).toUInt32).toInt32) &&& (3 : Int32)) % (3 : Int32)), iv ((((x0.toUInt32 >>> ((8 : Int32) &&& 31).toUInt32).toInt32) &&& (3 : Int32)) % (3 : Int32)), rv b_24, rv b_26, rv b27, .unset, .unset] [(.ref b29)])) _
    refine XS.astore X30.here hx rfl (hb hby at_217) rfl rfl (l' := #[iv x0, iv x1, iv x2, iv x3, iv ((x0 &&& (3 : Int32)) % (3 : Int32)), iv ((((x0.toUInt32 >>> ((2 : Int32) &&& 31).toUInt32).toInt32) &&& (3 : Int32)) % (3 : Int32)), iv v2_0, iv v7_0, iv ((x1 &&& (255 : Int32)).toUInt32.toUInt16.toUInt32.toInt32), iv ((((x1.toUInt32 >>> ((8 : Int32) &&& 31).toUInt32).toInt32) &&& (255 : Int32)).toUInt32.toUInt16.toUInt32.toInt32), iv v12_0, iv v17_0, rv b_21, rv b_22, iv ((((x0.toUInt32 >>> ((6 : Int32) &&& 31).toUInt32).toInt32) &&& (3 : Int32)) % (3 : Int32)), iv ((((x0.toUInt32 >>> ((8 : Int32) &&& 31).toUInt32).toInt32) &&& (3 : Int32)) % (3 : Int32)), rv b_24, rv b_26, rv b27, rv b29, .unset]) rfl ?_
    refine XS.iload X30.here hx rfl (hb hby at_219) rfl ?_
    refine XS.iload X30.here hx rfl (hb hby at_221) rfl ?_
    exact k)
  obtain ⟨v32_0, hv32_0⟩ : ∃ z : Int32, z = (if ((x0 &&& (3 : Int32)) % (3 : Int32)) = ((((x0.toUInt32 >>> ((2 : Int32) &&& 31).toUInt32).toInt32) &&& (3 : Int32)) % (3 : Int32)) then (if ((x0 &&& (3 : Int32)) % (3 : Int32)) < (1 : Int32) then (if ((x0 &&& (3 : Int32)) % (3 : Int32)) < (2 : Int32) then (1 : Int32) else (if ((((x1.toUInt32 >>> ((8 : Int32) &&& 31).toUInt32).toInt32) &&& (255 : Int32)).toUInt32.toUInt16.toUInt32.toInt32) = v17_0 then (1 : Int32) else (0 : Int32))) else (if ((x1 &&& (255 : Int32)).toUInt32.toUInt16.toUInt32.toInt32) = v12_0 then (if ((x0 &&& (3 : Int32)) % (3 : Int32)) < (2 : Int32) then (1 : Int32) else (if ((((x1.toUInt32 >>> ((8 : Int32) &&& 31).toUInt32).toInt32) &&& (255 : Int32)).toUInt32.toUInt16.toUInt32.toInt32) = v17_0 then (1 : Int32) else (0 : Int32))) else (0 : Int32))) else (0 : Int32)) := ⟨_, rfl⟩
  have P41 := own_go P33 (S' := T30.setTop (mkF m 257 #[iv x0, iv x1, iv x2, iv x3, iv ((x0 &&& (3 : Int32)) % (3 : Int32)), iv ((((x0.toUInt32 >>> ((2 : Int32) &&& 31).toUInt32).toInt32) &&& (3 : Int32)) % (3 : Int32)), iv v2_0, iv v7_0, iv ((x1 &&& (255 : Int32)).toUInt32.toUInt16.toUInt32.toInt32), iv ((((x1.toUInt32 >>> ((8 : Int32) &&& 31).toUInt32).toInt32) &&& (255 : Int32)).toUInt32.toUInt16.toUInt32.toInt32), iv v12_0, iv v17_0, rv b_21, rv b_22, iv ((((x0.toUInt32 >>> ((6 : Int32) &&& 31).toUInt32).toInt32) &&& (3 : Int32)) % (3 : Int32)), iv ((((x0.toUInt32 >>> ((8 : Int32) &&& 31).toUInt32).toInt32) &&& (3 : Int32)) % (3 : Int32)), rv b_24, rv b_26, rv b27, rv b29, .unset] [(.int v32_0)])) (by
    intro t k
    by_cases hc223_34 : ((x0 &&& (3 : Int32)) % (3 : Int32)) = ((((x0.toUInt32 >>> ((2 : Int32) &&& 31).toUInt32).toInt32) &&& (3 : Int32)) % (3 : Int32))
    · refine XS.icmpNo X30.here hx rfl (hb hby at_223) rfl (teq hc223_34).2 ?_
      refine XS.iload X30.here hx rfl (hb hby at_226) rfl ?_
      refine XS.iconst X30.here hx rfl (hb hby at_228) ?_
      by_cases hc229_35 : ((x0 &&& (3 : Int32)) % (3 : Int32)) < (1 : Int32)
      · refine XS.icmpYes X30.here hx rfl (pc0 := 229) (pc' := 239) rfl (hb hby at_229) rfl (tlt hc229_35).1 (by decide) (by decide) ?_
        refine XS.iload X30.here hx rfl (hb hby at_239) rfl ?_
        refine XS.iconst X30.here hx rfl (hb hby at_241) ?_
        by_cases hc242_36 : ((x0 &&& (3 : Int32)) % (3 : Int32)) < (2 : Int32)
        · refine XS.icmpYes X30.here hx rfl (pc0 := 242) (pc' := 252) rfl (hb hby at_242) rfl (tlt hc242_36).1 (by decide) (by decide) ?_
          refine XS.iconst X30.here hx rfl (hb hby at_252) ?_
          show Steps p.tables e below (T30.setTop (mkF m 253 #[iv x0, iv x1, iv x2, iv x3, iv ((x0 &&& (3 : Int32)) % (3 : Int32)), iv ((((x0.toUInt32 >>> ((2 : Int32) &&& 31).toUInt32).toInt32) &&& (3 : Int32)) % (3 : Int32)), iv v2_0, iv v7_0, iv ((x1 &&& (255 : Int32)).toUInt32.toUInt16.toUInt32.toInt32), iv ((((x1.toUInt32 >>> ((8 : Int32) &&& 31).toUInt32).toInt32) &&& (255 : Int32)).toUInt32.toUInt16.toUInt32.toInt32), iv v12_0, iv v17_0, rv b_21, rv b_22, iv ((((x0.toUInt32 >>> ((6 : Int32) &&& 31).toUInt32).toInt32) &&& (3 : Int32)) % (3 : Int32)), iv ((((x0.toUInt32 >>> ((8 : Int32) &&& 31).toUInt32).toInt32) &&& (3 : Int32)) % (3 : Int32)), rv b_24, rv b_26, rv b27, rv b29, .unset] [(.int 1)])) _
          refine XS.goto X30.here hx rfl (pc0 := 253) (pc' := 257) rfl (hb hby at_253) (by decide) (by decide) ?_
          have q_v32_0 : v32_0 = (1 : Int32) := by rw [hv32_0, if_pos hc223_34, if_pos hc229_35, if_pos hc242_36]
          subst q_v32_0
          exact k
        · refine XS.icmpNo X30.here hx rfl (hb hby at_242) rfl (flt hc242_36).1 ?_
          refine XS.iload X30.here hx rfl (hb hby at_245) rfl ?_
          show Steps p.tables e below (T30.setTop (mkF m 247 #[iv x0, iv x1, iv x2, iv x3, iv ((x0 &&& (3 : Int32)) % (3 : Int32)), iv ((((x0.toUInt32 >>> ((2 : Int32) &&& 31).toUInt32).toInt32) &&& (3 : Int32)) % (3 : Int32)), iv v2_0, iv v7_0, iv ((x1 &&& (255 : Int32)).toUInt32.toUInt16.toUInt32.toInt32), iv ((((x1.toUInt32 >>> ((8 : Int32) &&& 31).toUInt32).toInt32) &&& (255 : Int32)).toUInt32.toUInt16.toUInt32.toInt32), iv v12_0, iv v17_0, rv b_21, rv b_22, iv ((((x0.toUInt32 >>> ((6 : Int32) &&& 31).toUInt32).toInt32) &&& (3 : Int32)) % (3 : Int32)), iv ((((x0.toUInt32 >>> ((8 : Int32) &&& 31).toUInt32).toInt32) &&& (3 : Int32)) % (3 : Int32)), rv b_24, rv b_26, rv b27, rv b29, .unset] [(.int ((((x1.toUInt32 >>> ((8 : Int32) &&& 31).toUInt32).toInt32) &&& (255 : Int32)).toUInt32.toUInt16.toUInt32.toInt32))])) _
          refine XS.iload X30.here hx rfl (hb hby at_247) rfl ?_
          by_cases hc249_37 : ((((x1.toUInt32 >>> ((8 : Int32) &&& 31).toUInt32).toInt32) &&& (255 : Int32)).toUInt32.toUInt16.toUInt32.toInt32) = v17_0
          · refine XS.icmpNo X30.here hx rfl (hb hby at_249) rfl (teq hc249_37).2 ?_
            refine XS.iconst X30.here hx rfl (hb hby at_252) ?_
            refine XS.goto X30.here hx rfl (pc0 := 253) (pc' := 257) rfl (hb hby at_253) (by decide) (by decide) ?_
            have q_v32_0 : v32_0 = (1 : Int32) := by rw [hv32_0, if_pos hc223_34, if_pos hc229_35, if_neg hc242_36, if_pos hc249_37]
            subst q_v32_0
            exact k
          · refine XS.icmpYes X30.here hx rfl (pc0 := 249) (pc' := 256) rfl (hb hby at_249) rfl (feq hc249_37).2 (by decide) (by decide) ?_
            refine XS.iconst X30.here hx rfl (hb hby at_256) ?_
            have q_v32_0 : v32_0 = (0 : Int32) := by rw [hv32_0, if_pos hc223_34, if_pos hc229_35, if_neg hc242_36, if_neg hc249_37]
            subst q_v32_0
            exact k
      · refine XS.icmpNo X30.here hx rfl (hb hby at_229) rfl (flt hc229_35).1 ?_
        refine XS.iload X30.here hx rfl (hb hby at_232) rfl ?_
        refine XS.iload X30.here hx rfl (hb hby at_234) rfl ?_
        by_cases hc236_38 : ((x1 &&& (255 : Int32)).toUInt32.toUInt16.toUInt32.toInt32) = v12_0
        · refine XS.icmpNo X30.here hx rfl (hb hby at_236) rfl (teq hc236_38).2 ?_
          refine XS.iload X30.here hx rfl (hb hby at_239) rfl ?_
          show Steps p.tables e below (T30.setTop (mkF m 241 #[iv x0, iv x1, iv x2, iv x3, iv ((x0 &&& (3 : Int32)) % (3 : Int32)), iv ((((x0.toUInt32 >>> ((2 : Int32) &&& 31).toUInt32).toInt32) &&& (3 : Int32)) % (3 : Int32)), iv v2_0, iv v7_0, iv ((x1 &&& (255 : Int32)).toUInt32.toUInt16.toUInt32.toInt32), iv ((((x1.toUInt32 >>> ((8 : Int32) &&& 31).toUInt32).toInt32) &&& (255 : Int32)).toUInt32.toUInt16.toUInt32.toInt32), iv v12_0, iv v17_0, rv b_21, rv b_22, iv ((((x0.toUInt32 >>> ((6 : Int32) &&& 31).toUInt32).toInt32) &&& (3 : Int32)) % (3 : Int32)), iv ((((x0.toUInt32 >>> ((8 : Int32) &&& 31).toUInt32).toInt32) &&& (3 : Int32)) % (3 : Int32)), rv b_24, rv b_26, rv b27, rv b29, .unset] [(.int ((x0 &&& (3 : Int32)) % (3 : Int32)))])) _
          refine XS.iconst X30.here hx rfl (hb hby at_241) ?_
          by_cases hc242_39 : ((x0 &&& (3 : Int32)) % (3 : Int32)) < (2 : Int32)
          · refine XS.icmpYes X30.here hx rfl (pc0 := 242) (pc' := 252) rfl (hb hby at_242) rfl (tlt hc242_39).1 (by decide) (by decide) ?_
            refine XS.iconst X30.here hx rfl (hb hby at_252) ?_
            refine XS.goto X30.here hx rfl (pc0 := 253) (pc' := 257) rfl (hb hby at_253) (by decide) (by decide) ?_
            have q_v32_0 : v32_0 = (1 : Int32) := by rw [hv32_0, if_pos hc223_34, if_neg hc229_35, if_pos hc236_38, if_pos hc242_39]
            subst q_v32_0
            exact k
          · refine XS.icmpNo X30.here hx rfl (hb hby at_242) rfl (flt hc242_39).1 ?_
            refine XS.iload X30.here hx rfl (hb hby at_245) rfl ?_
            refine XS.iload X30.here hx rfl (hb hby at_247) rfl ?_
            by_cases hc249_40 : ((((x1.toUInt32 >>> ((8 : Int32) &&& 31).toUInt32).toInt32) &&& (255 : Int32)).toUInt32.toUInt16.toUInt32.toInt32) = v17_0
            · refine XS.icmpNo X30.here hx rfl (hb hby at_249) rfl (teq hc249_40).2 ?_
              refine XS.iconst X30.here hx rfl (hb hby at_252) ?_
              refine XS.goto X30.here hx rfl (pc0 := 253) (pc' := 257) rfl (hb hby at_253) (by decide) (by decide) ?_
              have q_v32_0 : v32_0 = (1 : Int32) := by rw [hv32_0, if_pos hc223_34, if_neg hc229_35, if_pos hc236_38, if_neg hc242_39, if_pos hc249_40]
              subst q_v32_0
              exact k
            · refine XS.icmpYes X30.here hx rfl (pc0 := 249) (pc' := 256) rfl (hb hby at_249) rfl (feq hc249_40).2 (by decide) (by decide) ?_
              refine XS.iconst X30.here hx rfl (hb hby at_256) ?_
              have q_v32_0 : v32_0 = (0 : Int32) := by rw [hv32_0, if_pos hc223_34, if_neg hc229_35, if_pos hc236_38, if_neg hc242_39, if_neg hc249_40]
              subst q_v32_0
              exact k
        · refine XS.icmpYes X30.here hx rfl (pc0 := 236) (pc' := 256) rfl (hb hby at_236) rfl (feq hc236_38).2 (by decide) (by decide) ?_
          refine XS.iconst X30.here hx rfl (hb hby at_256) ?_
          show Steps p.tables e below (T30.setTop (mkF m 257 #[iv x0, iv x1, iv x2, iv x3, iv ((x0 &&& (3 : Int32)) % (3 : Int32)), iv ((((x0.toUInt32 >>> ((2 : Int32) &&& 31).toUInt32).toInt32) &&& (3 : Int32)) % (3 : Int32)), iv v2_0, iv v7_0, iv ((x1 &&& (255 : Int32)).toUInt32.toUInt16.toUInt32.toInt32), iv ((((x1.toUInt32 >>> ((8 : Int32) &&& 31).toUInt32).toInt32) &&& (255 : Int32)).toUInt32.toUInt16.toUInt32.toInt32), iv v12_0, iv v17_0, rv b_21, rv b_22, iv ((((x0.toUInt32 >>> ((6 : Int32) &&& 31).toUInt32).toInt32) &&& (3 : Int32)) % (3 : Int32)), iv ((((x0.toUInt32 >>> ((8 : Int32) &&& 31).toUInt32).toInt32) &&& (3 : Int32)) % (3 : Int32)), rv b_24, rv b_26, rv b27, rv b29, .unset] [(.int 0)])) _
          have q_v32_0 : v32_0 = (0 : Int32) := by rw [hv32_0, if_pos hc223_34, if_neg hc229_35, if_neg hc236_38]
          subst q_v32_0
          exact k
    · refine XS.icmpYes X30.here hx rfl (pc0 := 223) (pc' := 256) rfl (hb hby at_223) rfl (feq hc223_34).2 (by decide) (by decide) ?_
      refine XS.iconst X30.here hx rfl (hb hby at_256) ?_
      have q_v32_0 : v32_0 = (0 : Int32) := by rw [hv32_0, if_neg hc223_34]
      subst q_v32_0
      exact k)
  have q43 := (Nat.lt_of_lt_of_le A27.lt K28.1)
  have ne42 : b27 ≠ b29 := Nat.ne_of_lt (Nat.lt_of_lt_of_le q43 (Nat.le_of_eq g29.symm))
  have ni44 := (ninS ne42 nin0)
  have q45 := ((r28_1.ext E29).keep K30 ni44)
  have ne46 : b_21 ≠ b_22 := Nat.ne_of_lt (Nat.lt_of_lt_of_le (own_Str_lt r21_2) r22_1)
  have q47 := (own_Str_keep (own_Str_ext (own_Str_keep (own_Str_ext (own_Str_keep (own_Str_keep (own_Str_keep r21_2 K22 all0) K24 all0) K26 all0) E27) K28 (allS (Or.inl (Nat.le_trans (Nat.le_trans (Nat.le_trans (Nat.le_trans (Nat.le_refl T21.heap.size) K22.1) K24.1) K26.1) (Nat.le_of_eq g27.symm))) all0)) E29) K30 (allS (Or.inl (Nat.le_trans (Nat.le_trans (Nat.le_trans (Nat.le_trans (Nat.le_trans (Nat.le_trans (Nat.le_refl T21.heap.size) K22.1) K24.1) K26.1) E27.1) K28.1) (Nat.le_of_eq g29.symm))) all0))
  have q48 := (own_Str_keep (own_Str_ext (own_Str_keep (own_Str_ext (own_Str_keep (own_Str_keep r22_2 K24 all0) K26 all0) E27) K28 (allS (Or.inl (Nat.le_trans (Nat.le_trans (Nat.le_trans (Nat.le_refl T22.heap.size) K24.1) K26.1) (Nat.le_of_eq g27.symm))) all0)) E29) K30 (allS (Or.inl (Nat.le_trans (Nat.le_trans (Nat.le_trans (Nat.le_trans (Nat.le_trans (Nat.le_refl T22.heap.size) K24.1) K26.1) E27.1) K28.1) (Nat.le_of_eq g29.symm))) all0))
  have q50 := ((r28_0.ext E29).keep K30)
  obtain ⟨cq49, kq49, q49a, q49b, q49c⟩ := isOf hZ26 rfl q50
  obtain ⟨_, _, ⟨T49, L49, k49, n49⟩, -, X49, ⟨Lc49, hQ49, l49, y49, z49⟩, st49⟩ := X30.virtualBack hx (y := (⟨"com/example/wardflow/wardflow/model/Party", "sameParticipant", "(Lcom/example/wardflow/wardflow/model/Party;)Z"⟩ : MethodName)) (z := (⟨"com/example/wardflow/wardflow/model/Party", "sameParticipant", "(Lcom/example/wardflow/wardflow/model/Party;)Z"⟩ : MethodName)) hown26 (mvT hZ26 (hw _ (im 42 rfl))) (mvT hZ26 (hw _ (im 43 rfl))) (notFace_of_selects (args := #[]) (mvT hZ26 (hw _ (im 45 rfl)))) (mvT hZ26 (hw _ (im 45 rfl))) (mvT hZ26 (hw _ (im 44 rfl))) (by decide) (backOf (W := 0) (rm7 l Z a0 hw [] b27 b29 cs b_21 b_22 (own_str ((x0 &&& (3 : Int32)) % (3 : Int32)) ((x1 &&& (255 : Int32)).toUInt32.toUInt16.toUInt32.toInt32) ((((x1.toUInt32 >>> ((8 : Int32) &&& 31).toUInt32).toInt32) &&& (255 : Int32)).toUInt32.toUInt16.toUInt32.toInt32)) (own_str ((((x0.toUInt32 >>> ((2 : Int32) &&& 31).toUInt32).toInt32) &&& (3 : Int32)) % (3 : Int32)) v12_0 v17_0) T21.heap.size T22.heap.size T30.heap n0 Z30_ O30_ pre_S_COMPACT_STRINGS (hcs) q45 r30_1 ne46 q47 q48) hZ26 (hw _ (im 46 rfl)) (hw _ (im 28 rfl)) (by decide) (by decide)) q49a q49c (g := (mkF m 263 #[iv x0, iv x1, iv x2, iv x3, iv ((x0 &&& (3 : Int32)) % (3 : Int32)), iv ((((x0.toUInt32 >>> ((2 : Int32) &&& 31).toUInt32).toInt32) &&& (3 : Int32)) % (3 : Int32)), iv v2_0, iv v7_0, iv ((x1 &&& (255 : Int32)).toUInt32.toUInt16.toUInt32.toInt32), iv ((((x1.toUInt32 >>> ((8 : Int32) &&& 31).toUInt32).toInt32) &&& (255 : Int32)).toUInt32.toUInt16.toUInt32.toInt32), iv v12_0, iv v17_0, rv b_21, rv b_22, iv ((((x0.toUInt32 >>> ((6 : Int32) &&& 31).toUInt32).toInt32) &&& (3 : Int32)) % (3 : Int32)), iv ((((x0.toUInt32 >>> ((8 : Int32) &&& 31).toUInt32).toInt32) &&& (3 : Int32)) % (3 : Int32)), rv b_24, rv b_26, rv b27, rv b29, iv v32_0] [(.ref b29), (.ref b27)])) rfl (by rw [hml]; rfl) (Steps.refl _) (argsL := [(.ref b29)]) (rest := []) (lenOf pd_10 rfl) rfl (by show 2 * 0 + _ ≤ _; exact Nat.le_of_eq rfl) (hb hby at_263) (fun _ _ => ⟨rfl, rfl, (by decide : 26 + 0 ≤ _), (by decide : 52 + 0 ≤ _)⟩)
  dsimp only [Pt.U, Pt.locs, Pt.cells, Pt.slots] at X49 l49 y49 z49 st49 hQ49
  subst l49 y49 z49
  obtain ⟨rfl, N49q, e49⟩ := hQ49
  have N49 := Fr.app N30 N49q
  have hc268_51 : (if (own_str ((x0 &&& (3 : Int32)) % (3 : Int32)) ((x1 &&& (255 : Int32)).toUInt32.toUInt16.toUInt32.toInt32) ((((x1.toUInt32 >>> ((8 : Int32) &&& 31).toUInt32).toInt32) &&& (255 : Int32)).toUInt32.toUInt16.toUInt32.toInt32)) = (own_str ((((x0.toUInt32 >>> ((2 : Int32) &&& 31).toUInt32).toInt32) &&& (3 : Int32)) % (3 : Int32)) v12_0 v17_0) then (1 : Int32) else (0 : Int32)) = v32_0 := own_fin _ _ _ _ _ _ (own_mod3 _) (own_mod3 _) (own_rng x1) (own_rng _) (own_rng2 hv12_0) (own_rng2 hv17_0) hv32_0
  obtain ⟨cq52, kq52, q52a, q52b, q52c⟩ := isOf hZ26 e49 r30_0
  obtain ⟨_, _, ⟨T52, L52, k52, n52⟩, -, X52, ⟨Lc52, hQ52, l52, y52, z52⟩, st52⟩ := X49.virtualBack hx (y := (⟨"com/example/wardflow/wardflow/model/Party", "sameParticipant", "(Lcom/example/wardflow/wardflow/model/Party;)Z"⟩ : MethodName)) (z := (⟨"com/example/wardflow/wardflow/model/Party", "sameParticipant", "(Lcom/example/wardflow/wardflow/model/Party;)Z"⟩ : MethodName)) hown26 (mvT hZ26 (hw _ (im 42 rfl))) (mvT hZ26 (hw _ (im 43 rfl))) (notFace_of_selects (args := #[]) (mvT hZ26 (hw _ (im 45 rfl)))) (mvT hZ26 (hw _ (im 45 rfl))) (mvT hZ26 (hw _ (im 44 rfl))) (by decide) (backOf (W := 0) (rm7 l Z a0 hw [] b29 b27 cs b_22 b_21 (own_str ((((x0.toUInt32 >>> ((2 : Int32) &&& 31).toUInt32).toInt32) &&& (3 : Int32)) % (3 : Int32)) v12_0 v17_0) (own_str ((x0 &&& (3 : Int32)) % (3 : Int32)) ((x1 &&& (255 : Int32)).toUInt32.toUInt16.toUInt32.toInt32) ((((x1.toUInt32 >>> ((8 : Int32) &&& 31).toUInt32).toInt32) &&& (255 : Int32)).toUInt32.toUInt16.toUInt32.toInt32)) T22.heap.size T21.heap.size T30.heap n0 Z30_ O30_ pre_S_COMPACT_STRINGS (hcs) r30_1 q45 (Ne.symm ne46) q48 q47) hZ26 (hw _ (im 46 rfl)) (hw _ (im 28 rfl)) (by decide) (by decide)) q52a q52c (g := (mkF m 275 #[iv x0, iv x1, iv x2, iv x3, iv ((x0 &&& (3 : Int32)) % (3 : Int32)), iv ((((x0.toUInt32 >>> ((2 : Int32) &&& 31).toUInt32).toInt32) &&& (3 : Int32)) % (3 : Int32)), iv v2_0, iv v7_0, iv ((x1 &&& (255 : Int32)).toUInt32.toUInt16.toUInt32.toInt32), iv ((((x1.toUInt32 >>> ((8 : Int32) &&& 31).toUInt32).toInt32) &&& (255 : Int32)).toUInt32.toUInt16.toUInt32.toInt32), iv v12_0, iv v17_0, rv b_21, rv b_22, iv ((((x0.toUInt32 >>> ((6 : Int32) &&& 31).toUInt32).toInt32) &&& (3 : Int32)) % (3 : Int32)), iv ((((x0.toUInt32 >>> ((8 : Int32) &&& 31).toUInt32).toInt32) &&& (3 : Int32)) % (3 : Int32)), rv b_24, rv b_26, rv b27, rv b29, iv v32_0] [(.ref b27), (.ref b29)])) rfl (by rw [hml]; rfl) (Steps.refl _) (argsL := [(.ref b27)]) (rest := []) (lenOf pd_10 rfl) rfl (by show 2 * 0 + _ ≤ _; exact Nat.le_of_eq rfl) (hb hby at_275) (fun _ _ => ⟨rfl, e49, (by decide : 26 + 0 ≤ _), (by decide : 52 + 0 ≤ _)⟩)
  dsimp only [Pt.U, Pt.locs, Pt.cells, Pt.slots] at X52 l52 y52 z52 st52 hQ52
  subst l52 y52 z52
  obtain ⟨rfl, N52q, e52⟩ := hQ52
  have N52 := Fr.app N49 N52q
  have hc280_53 : (if (own_str ((((x0.toUInt32 >>> ((2 : Int32) &&& 31).toUInt32).toInt32) &&& (3 : Int32)) % (3 : Int32)) v12_0 v17_0) = (own_str ((x0 &&& (3 : Int32)) % (3 : Int32)) ((x1 &&& (255 : Int32)).toUInt32.toUInt16.toUInt32.toInt32) ((((x1.toUInt32 >>> ((8 : Int32) &&& 31).toUInt32).toInt32) &&& (255 : Int32)).toUInt32.toUInt16.toUInt32.toInt32)) then (1 : Int32) else (0 : Int32)) = v32_0 := own_fin' _ _ _ _ _ _ (own_mod3 _) (own_mod3 _) (own_rng x1) (own_rng _) (own_rng2 hv12_0) (own_rng2 hv17_0) hv32_0
  have P54 := own_go P41 (S' := T52.setTop (mkF m 288 #[iv x0, iv x1, iv x2, iv x3, iv ((x0 &&& (3 : Int32)) % (3 : Int32)), iv ((((x0.toUInt32 >>> ((2 : Int32) &&& 31).toUInt32).toInt32) &&& (3 : Int32)) % (3 : Int32)), iv v2_0, iv v7_0, iv ((x1 &&& (255 : Int32)).toUInt32.toUInt16.toUInt32.toInt32), iv ((((x1.toUInt32 >>> ((8 : Int32) &&& 31).toUInt32).toInt32) &&& (255 : Int32)).toUInt32.toUInt16.toUInt32.toInt32), iv v12_0, iv v17_0, rv b_21, rv b_22, iv ((((x0.toUInt32 >>> ((6 : Int32) &&& 31).toUInt32).toInt32) &&& (3 : Int32)) % (3 : Int32)), iv ((((x0.toUInt32 >>> ((8 : Int32) &&& 31).toUInt32).toInt32) &&& (3 : Int32)) % (3 : Int32)), rv b_24, rv b_26, rv b27, rv b29, iv v32_0] [(.int 1)])) (by
    intro t k
    refine XS.istore X30.here hx rfl (hb hby at_257) rfl (l' := #[iv x0, iv x1, iv x2, iv x3, iv ((x0 &&& (3 : Int32)) % (3 : Int32)), iv ((((x0.toUInt32 >>> ((2 : Int32) &&& 31).toUInt32).toInt32) &&& (3 : Int32)) % (3 : Int32)), iv v2_0, iv v7_0, iv ((x1 &&& (255 : Int32)).toUInt32.toUInt16.toUInt32.toInt32), iv ((((x1.toUInt32 >>> ((8 : Int32) &&& 31).toUInt32).toInt32) &&& (255 : Int32)).toUInt32.toUInt16.toUInt32.toInt32), iv v12_0, iv v17_0, rv b_21, rv b_22, iv ((((x0.toUInt32 >>> ((6 : Int32) &&& 31).toUInt32).toInt32) &&& (3 : Int32)) % (3 : Int32)), iv ((((x0.toUInt32 >>> ((8 : Int32) &&& 31).toUInt32).toInt32) &&& (3 : Int32)) % (3 : Int32)), rv b_24, rv b_26, rv b27, rv b29, iv v32_0]) rfl ?_
    refine XS.aload X30.here hx rfl (hb hby at_259) rfl rfl ?_
    refine XS.aload X30.here hx rfl (hb hby at_261) rfl rfl ?_
    refine st49.trans ?_
    refine XS.iload X49.here hx rfl (hb hby at_266) rfl ?_
    refine XS.icmpNo X49.here hx rfl (hb hby at_268) rfl (teq hc268_51).2 ?_
    refine XS.aload X49.here hx rfl (hb hby at_271) rfl rfl ?_
    refine XS.aload X49.here hx rfl (hb hby at_273) rfl rfl ?_
    show Steps p.tables e below (T49.setTop (mkF m 275 #[iv x0, iv x1, iv x2, iv x3, iv ((x0 &&& (3 : Int32)) % (3 : Int32)), iv ((((x0.toUInt32 >>> ((2 : Int32) &&& 31).toUInt32).toInt32) &&& (3 : Int32)) % (3 : Int32)), iv v2_0, iv v7_0, iv ((x1 &&& (255 : Int32)).toUInt32.toUInt16.toUInt32.toInt32), iv ((((x1.toUInt32 >>> ((8 : Int32) &&& 31).toUInt32).toInt32) &&& (255 : Int32)).toUInt32.toUInt16.toUInt32.toInt32), iv v12_0, iv v17_0, rv b_21, rv b_22, iv ((((x0.toUInt32 >>> ((6 : Int32) &&& 31).toUInt32).toInt32) &&& (3 : Int32)) % (3 : Int32)), iv ((((x0.toUInt32 >>> ((8 : Int32) &&& 31).toUInt32).toInt32) &&& (3 : Int32)) % (3 : Int32)), rv b_24, rv b_26, rv b27, rv b29, iv v32_0] [(.ref b27), (.ref b29)])) _
    refine st52.trans ?_
    refine XS.iload X52.here hx rfl (hb hby at_278) rfl ?_
    refine XS.icmpNo X52.here hx rfl (hb hby at_280) rfl (teq hc280_53).2 ?_
    refine XS.iconst X52.here hx rfl (hb hby at_283) ?_
    refine XS.goto X52.here hx rfl (pc0 := 284) (pc' := 288) rfl (hb hby at_284) (by decide) (by decide) ?_
    exact k)
  obtain ⟨fs, hr, hrun, hended, hend⟩ := X52.leaveW hS26 (by rw [e52]; exact hk30_) (v := some (.int 1)) (fun h => by rw [Bd.returns] at h; cases h)
  refine ⟨_, _, P54 _ ?_, hrun, hended, _, _, rfl, ?_, ?_, hend.1, hend.2.1, hend.2.2.1, hend.2.2.2.mono (by decide) (by decide)⟩
  · show Steps p.tables e below (T52.setTop (mkF m 288 #[iv x0, iv x1, iv x2, iv x3, iv ((x0 &&& (3 : Int32)) % (3 : Int32)), iv ((((x0.toUInt32 >>> ((2 : Int32) &&& 31).toUInt32).toInt32) &&& (3 : Int32)) % (3 : Int32)), iv v2_0, iv v7_0, iv ((x1 &&& (255 : Int32)).toUInt32.toUInt16.toUInt32.toInt32), iv ((((x1.toUInt32 >>> ((8 : Int32) &&& 31).toUInt32).toInt32) &&& (255 : Int32)).toUInt32.toUInt16.toUInt32.toInt32), iv v12_0, iv v17_0, rv b_21, rv b_22, iv ((((x0.toUInt32 >>> ((6 : Int32) &&& 31).toUInt32).toInt32) &&& (3 : Int32)) % (3 : Int32)), iv ((((x0.toUInt32 >>> ((8 : Int32) &&& 31).toUInt32).toInt32) &&& (3 : Int32)) % (3 : Int32)), rv b_24, rv b_26, rv b27, rv b29, iv v32_0] [(.int 1)])) _
    exact retN X52 hx (t := .boolean) Bd.returns (by simp) (hb hby at_288) hr
  · show Q0 Z x0 x1 x2 x3 cs h0 n0 _ T52.heap _
    rw [e52]
    exact ⟨rfl, N52⟩
  · have q := CR30.trans (CHv.at X52 hZ26 hEW CH30)
    rw [hh]
    show CHr Z own_EL s.vm h0 T52.vm T52.heap
    rw [e52]
    exact q

set_option maxRecDepth 65536 in
set_option maxHeartbeats 40000000 in
theorem comes_1 {Post : Tables → Env → Array Value → State → Outcome → State → Prop} (hpost : ∀ tb e args s v u, (limb_1_1.after args s (.returned v) u = true ∧ limb_1_2.after args s (.returned v) u = true ∧ True) → ReturnedEndW s (.returned v) u (Jvm.fieldLocs frame_1_writes args s ++ Jvm.arrayLocs frame_1_arrays args s ++ Jvm.staticLocs frame_1_statics s) 40 1216 → Post tb e args s (.returned v) u) :
    ArmFor flags0 classFile x code maxLocals ret World_1 tables_1 room_1 Calls_1 rest_1 Pre_1 Post := by
  intro l hfl _ _ p e ha hc hk s m args below hf hA hF happ hP
  obtain ⟨hcalls, hrest, hpre⟩ := hP
  obtain ⟨-, -, -, hnamed, -, -, -, hat⟩ := (Spec.applies_iff hf).mp happ
  obtain ⟨hg, hn⟩ := and_e (Cond.before_iff.mp (show (Jvm.Cond.and given_1 narrow_1).before args s = true from hpre))
  obtain ⟨hcnt, hgs0⟩ := and_e hg
  obtain ⟨hk0, hgs1⟩ := and_e hgs0
  obtain ⟨hk1, hgs2⟩ := and_e hgs1
  obtain ⟨hk2, hgs3⟩ := and_e hgs2
  obtain ⟨w0, w1, w2, w3, rfl⟩ : ∃ w0 w1 w2 w3 : Value, args = #[w0, w1, w2, w3] := by
    have hs : args.size = 4 := by simpa [Cond.value, given_1] using hcnt
    obtain ⟨L⟩ := args
    match L, hs with
    | [w0, w1, w2, w3], _ => exact ⟨w0, w1, w2, w3, rfl⟩
  have hw := fun d (hd : d ∈ tables_1) => atoms_spec (ws := Jvm.Cond.code x code maxLocals ret :: tables_1) hat d (List.mem_cons_of_mem _ hd)
  have hfit : Fit s := fun {y c} hc i hi => by
    obtain ⟨ha, rfl⟩ := Array.getElem?_eq_some_iff.mp hc
    have q := List.all_eq_true.mp ((Array.all_eq_true_iff_forall_mem.mp hF) _ (Array.getElem_mem ha)) i (List.mem_range.mpr hi)
    simpa [Array.getElem?_eq_getElem hi] using q
  obtain ⟨hsets, hown0⟩ := atoms_of _ (rest_1_c_eq ▸ (show rest_1_c.before _ s = true from hrest))
  have hr0 := Cond.before_iff.mp hown0
  obtain ⟨i0, ei0⟩ := is_v hk0
  obtain rfl : w0 = (.int i0) := Option.some.inj ei0
  obtain ⟨i1, ei1⟩ := is_v hk1
  obtain rfl : w1 = (.int i1) := Option.some.inj ei1
  obtain ⟨i2, ei2⟩ := is_v hk2
  obtain rfl : w2 = (.int i2) := Option.some.inj ei2
  obtain ⟨i3, ei3⟩ := is_v hgs3
  obtain rfl : w3 = (.int i3) := Option.some.inj ei3
  have ncs := not_v (Cond.before_iff.mp (hsets _ (List.mem_of_getElem? (i := 2) rfl)))
  obtain ⟨cs, ecs⟩ := is_v (Cond.before_iff.mp (hsets _ (List.mem_of_getElem? (i := 1) rfl)))
  have SCS : Sta s s.heap "java/lang/String" "COMPACT_STRINGS" "Z" (.int cs) := Sta.start ecs (Or.inl (hsets _ (List.mem_of_getElem? (i := 0) rfl)))
  have hcs : ¬ (cs = (0 : Int32)) := gotF (Cond.eq_ints ecs (Term.int_eval (0))) ncs
  obtain ⟨n, o, h1, h2, h3, _, L, rfl, ⟨rfl, N⟩, -, hq⟩ := rm0 l s _ hw tables_1 i0 i1 i2 i3 cs s.heap s.heap.size (Nat.le_refl _) (Old.start s) SCS hcs p e ha hc hk s m _ below hf ((Spec.applies_iff_loose hf).mp happ).1 ⟨rfl, State.Warmed39.refl s, rfl, CHv.start (own_EW hw) (fun p hp => by rcases List.mem_singleton.mp hp with rfl; exact hcalls.1 ("java/lang/String", 7) (List.mem_singleton.mpr rfl)) (hsets _ (List.mem_of_getElem? (i := 2) rfl)) (hw _ (im 19 rfl)) (hw _ (im 5 rfl))⟩ trivial
  refine ⟨n, _, h1, h2, h3, hpost _ _ _ _ _ _ ⟨Cond.after_iff.mpr rfl, Cond.after_iff.mpr (eq_i res_at (Term.int_eval (1)) rfl), trivial⟩ ⟨hq.1, hq.2.1, hq.2.2.1, (hq.2.2.2.sift fun y hy => Or.inr (N y hy)).mono (by decide) (by decide)⟩⟩
theorem main_1_1 : Claimed_1_1 := comes_1 fun _ _ _ _ _ _ h hF => ⟨h.1, hF⟩
theorem main_1_2 : Claimed_1_2 := comes_1 fun _ _ _ _ _ _ h hF => ⟨h.2.1, hF⟩
end Jvm.Pilot.@@N@@
namespace Jvm.Pilot.@@N@@
open Jvm Jvm.ClassFile Sem Op Lib Jvm.Free Jvm.Stand Jvm.Pilot.@@N@@.Jvm.D
/-! MADE BY PROGRAM (witnessworld.py) out of the Statement's table words and the real class files: 21 classes; the members and pool entries that the words name. The judged class is class 1, her method 2. -/
namespace start1
open Jvm.ClassFile
def u (s : String) : CpInfo := .utf8 (stringToUtf16 s)
/-- a pool by its gaps: so many unusable entries, then the entry; so many at the end -/
def gap : Nat → List CpInfo → List CpInfo
  | 0, r => r
  | n + 1, r => .unusable :: gap n r
def poolList (es : List (Nat × CpInfo)) (last : Nat) : List CpInfo := es.foldr (fun e r => gap e.1 (e.2 :: r)) (gap last [])
def pool (es : List (Nat × CpInfo)) (last : Nat) : Array CpInfo := ⟨poolList es last⟩
def fileOf (pool : Array CpInfo) (this : Nat) (attrs : Array Attribute := #[]) (ms : Array MethodInfo := #[]) (fl : Nat := 33) (sup : Nat := 0) (ifs : Array Nat := #[]) (fds : Array FieldInfo := #[]) : ClassFile where
  minorVersion := 0
  majorVersion := 65
  constantPool := pool
  accessFlags := fl
  thisClass := this
  superClass := sup
  interfaces := ifs
  fields := fds
  methods := ms
  attributes := attrs
def plain (name : String) (sup : Option ClassId) : Class where
  name := name
  kind := .ordinary
  loader := none
  accessFlags := 33
  super := sup
  interfaces := #[]
  cf := none
  fields := #[]
  methods := #[]
  instanceTypes := #[]
  staticTypes := #[]
  resolved := #[]
  callSites := []
  init := .initialized
  statics := none
  mirror := none

def pool0 : Array CpInfo := pool [(5, u "<init>"), (0, u "()V"), (1, .class_ 10), (1, u "java/lang/Object")] 113

def k0c0 : Code := { maxStack := 0, maxLocals := 1, code := object_method_1_code, exceptionTable := #[], attributes := #[] }
def k0m0 : Method := { name := "<init>", desc := "()V", sig := { parameters := [], returnType := none }, accessFlags := 1, code := some k0c0 }
/-- java/lang/Object -/
def k0 : Class := { plain "java/lang/Object" none with
  accessFlags := 33
  interfaces := #[]
  cf := some (fileOf pool0 8 #[] #[{ accessFlags := 1, nameIndex := 5, descriptorIndex := 6, attributes := #[] }] 33 0 #[] #[])
  fields := #[]
  methods := #[k0m0]
  instanceTypes := #[]
  staticTypes := #[]
  resolved := Array.replicate 124 none
  statics := none }

def pool1 : Array CpInfo := pool [(2, .class_ 4), (1, u "java/lang/Object"), (0, u "<init>"), (0, u "()V"), (0, .class_ 8), (0, u "java/lang/String"), (0, .methodref 7 10), (0, .nameAndType 5 11), (0, u "([C)V"), (0, .methodref 13 14), (0, .class_ 15), (0, .nameAndType 16 17), (0, u "com/example/wardflow/wardflow/model/PartySameParticipantPinLaw"), (0, u "str"), (0, u "(ICC)Ljava/lang/String;"), (0, .class_ 19), (0, u "com/example/wardflow/wardflow/model/Party"), (0, .methodref 18 21), (0, .nameAndType 5 22), (0, u "(Ljava/lang/String;Ljava/lang/String;)V"), (0, .methodref 18 24), (0, .nameAndType 25 26), (0, u "sameParticipant"), (0, u "(Lcom/example/wardflow/wardflow/model/Party;)Z"), (3, u "law"), (0, u "(IIII)Z")] 2

def k1m0 : Method := { name := "<init>", desc := "()V", sig := { parameters := [], returnType := none }, accessFlags := 1, code := none }
def k1c1 : Code := { maxStack := 6, maxLocals := 3, code := method_2_code, exceptionTable := #[], attributes := #[] }
def k1m1 : Method := { name := "str", desc := "(ICC)Ljava/lang/String;", sig := { parameters := [.int, .char, .char], returnType := some (.object "java/lang/String") }, accessFlags := 10, code := some k1c1 }
def k1c2 : Code := { maxStack := 4, maxLocals := 21, code := code, exceptionTable := #[], attributes := #[] }
def k1m2 : Method := { name := "law", desc := "(IIII)Z", sig := { parameters := [.int, .int, .int, .int], returnType := some .boolean }, accessFlags := 9, code := some k1c2 }
/-- com/example/wardflow/wardflow/model/PartySameParticipantPinLaw -/
def k1 : Class := { plain "com/example/wardflow/wardflow/model/PartySameParticipantPinLaw" (some 0) with
  accessFlags := 49
  interfaces := #[]
  cf := some (fileOf pool1 13 #[] #[{ accessFlags := 1, nameIndex := 5, descriptorIndex := 6, attributes := #[] }, { accessFlags := 10, nameIndex := 16, descriptorIndex := 17, attributes := #[] }, { accessFlags := 9, nameIndex := 30, descriptorIndex := 31, attributes := #[] }] 49 2 #[] #[])
  fields := #[]
  methods := #[k1m0, k1m1, k1m2]
  instanceTypes := #[]
  staticTypes := #[]
  resolved := Array.replicate 34 none
  statics := none }

def pool2 : Array CpInfo := pool [(1, .class_ 2), (0, u "java/io/Serializable"), (0, .class_ 4), (0, u "java/lang/Object")] 2

/-- java/io/Serializable -/
def k2 : Class := { plain "java/io/Serializable" (some 0) with
  accessFlags := 1537
  interfaces := #[]
  cf := some (fileOf pool2 1 #[] #[] 1537 3 #[] #[])
  fields := #[]
  methods := #[]
  instanceTypes := #[]
  staticTypes := #[]
  resolved := Array.replicate 7 none
  statics := none }

def pool3 : Array CpInfo := pool [(1, .class_ 2), (0, u "java/lang/Comparable"), (0, .class_ 4), (0, u "java/lang/Object")] 7

/-- java/lang/Comparable -/
def k3 : Class := { plain "java/lang/Comparable" (some 0) with
  accessFlags := 1537
  interfaces := #[]
  cf := some (fileOf pool3 1 #[] #[] 1537 3 #[] #[])
  fields := #[]
  methods := #[]
  instanceTypes := #[]
  staticTypes := #[]
  resolved := Array.replicate 12 none
  statics := none }

def pool4 : Array CpInfo := pool [(2, .class_ 4), (1, u "java/lang/CharSequence"), (42, .class_ 48), (0, u "java/lang/CharSequence$1CodePointIterator"), (10, .class_ 60), (0, u "java/lang/CharSequence$1CharIterator"), (5, .class_ 67), (0, u "java/lang/Object")] 63

/-- java/lang/CharSequence -/
def k4 : Class := { plain "java/lang/CharSequence" (some 0) with
  accessFlags := 1537
  interfaces := #[]
  cf := some (fileOf pool4 2 #[.nestMembers #[47, 59]] #[] 1537 66 #[] #[])
  fields := #[]
  methods := #[]
  instanceTypes := #[]
  staticTypes := #[]
  resolved := Array.replicate 131 none
  statics := none }

def pool5 : Array CpInfo := pool [(1, .class_ 2), (0, u "java/lang/constant/Constable"), (0, .class_ 4), (0, u "java/lang/Object")] 6

/-- java/lang/constant/Constable -/
def k5 : Class := { plain "java/lang/constant/Constable" (some 0) with
  accessFlags := 1537
  interfaces := #[]
  cf := some (fileOf pool5 1 #[] #[] 1537 3 #[] #[])
  fields := #[]
  methods := #[]
  instanceTypes := #[]
  staticTypes := #[]
  resolved := Array.replicate 11 none
  statics := none }

def pool6 : Array CpInfo := pool [(1, .class_ 2), (0, u "java/lang/constant/ConstantDesc"), (0, .class_ 4), (0, u "java/lang/Object")] 32

/-- java/lang/constant/ConstantDesc -/
def k6 : Class := { plain "java/lang/constant/ConstantDesc" (some 0) with
  accessFlags := 1537
  interfaces := #[]
  cf := some (fileOf pool6 1 #[] #[] 1537 3 #[] #[])
  fields := #[]
  methods := #[]
  instanceTypes := #[]
  staticTypes := #[]
  resolved := Array.replicate 37 none
  statics := none }

def pool7 : Array CpInfo := pool [(1, .methodref 2 3), (0, .class_ 4), (0, .nameAndType 5 6), (0, u "java/lang/Object"), (0, u "<init>"), (0, u "()V"), (0, .string 8), (0, u ""), (0, .fieldref 10 11), (0, .class_ 12), (0, .nameAndType 13 14), (0, u "java/lang/String"), (0, u "value"), (0, u "[B"), (0, .fieldref 10 16), (0, .nameAndType 17 18), (0, u "coder"), (0, u "B"), (2, u "hash"), (0, u "I"), (2, u "hashIsZero"), (0, u "Z"), (0, .methodref 10 28), (0, .nameAndType 5 29), (0, u "([CIILjava/lang/Void;)V"), (8, .fieldref 10 39), (0, .nameAndType 40 26), (0, u "COMPACT_STRINGS"), (1, .class_ 44), (1, u "java/lang/StringUTF16"), (0, u "compress"), (1, .methodref 42 48), (0, .nameAndType 49 50), (0, u "coderFromArrayLen"), (0, u "([BI)B"), (56, .class_ 109), (1, u "java/lang/StringLatin1"), (67, .methodref 42 178), (0, .nameAndType 45 179), (0, u "([CII)[B"), (361, .methodref 107 542), (0, .nameAndType 543 544), (0, u "equals"), (0, u "([B[B)Z"), (28, u "(Ljava/lang/Object;)Z"), (1, .class_ 576), (0, u "java/lang/CharSequence"), (22, u "CASE_INSENSITIVE_ORDER"), (0, u "Ljava/util/Comparator;"), (409, u "([C)V"), (90, u "serialPersistentFields"), (0, u "[Ljava/io/ObjectStreamField;"), (0, .class_ 1104), (0, u "java/lang/String$CaseInsensitiveComparator"), (1, .class_ 1107), (0, u "java/io/Serializable"), (0, .class_ 1109), (0, u "java/lang/Comparable"), (0, .class_ 1111), (0, u "java/lang/constant/Constable"), (0, .class_ 1113), (0, u "java/lang/constant/ConstantDesc"), (2, u "serialVersionUID"), (0, u "J"), (3, u "REPL"), (0, u "C"), (2, u "LATIN1"), (1, u "UTF16")] 323

def k7m0 : Method := { name := "<init>", desc := "()V", sig := { parameters := [], returnType := none }, accessFlags := 1, code := none }
def k7c1 : Code := { maxStack := 5, maxLocals := 2, code := jdk_42_method_3_code, exceptionTable := #[], attributes := #[] }
def k7m1 : Method := { name := "<init>", desc := "([C)V", sig := { parameters := [(.array .char)], returnType := none }, accessFlags := 1, code := some k7c1 }
def k7c2 : Code := { maxStack := 2, maxLocals := 3, code := jdk_42_method_66_code, exceptionTable := #[], attributes := #[] }
def k7m2 : Method := { name := "equals", desc := "(Ljava/lang/Object;)Z", sig := { parameters := [(.object "java/lang/Object")], returnType := some .boolean }, accessFlags := 1, code := some k7c2 }
def k7c3 : Code := { maxStack := 4, maxLocals := 6, code := jdk_42_method_149_code, exceptionTable := #[], attributes := #[] }
def k7m3 : Method := { name := "<init>", desc := "([CIILjava/lang/Void;)V", sig := { parameters := [(.array .char), .int, .int, (.object "java/lang/Void")], returnType := none }, accessFlags := 2, code := some k7c3 }
/-- java/lang/String -/
def k7 : Class := { plain "java/lang/String" (some 0) with
  accessFlags := 49
  interfaces := #[2, 3, 4, 5, 6]
  cf := some (fileOf pool7 10 #[.nestMembers #[1103]] #[{ accessFlags := 1, nameIndex := 5, descriptorIndex := 6, attributes := #[] }, { accessFlags := 1, nameIndex := 5, descriptorIndex := 1010, attributes := #[] }, { accessFlags := 1, nameIndex := 543, descriptorIndex := 573, attributes := #[] }, { accessFlags := 2, nameIndex := 5, descriptorIndex := 29, attributes := #[] }] 49 2 #[1106, 1108, 575, 1110, 1112] #[{ accessFlags := 18, nameIndex := 13, descriptorIndex := 14, attributes := #[] }, { accessFlags := 18, nameIndex := 17, descriptorIndex := 18, attributes := #[] }, { accessFlags := 2, nameIndex := 21, descriptorIndex := 22, attributes := #[] }, { accessFlags := 2, nameIndex := 25, descriptorIndex := 26, attributes := #[] }, { accessFlags := 26, nameIndex := 1116, descriptorIndex := 1117, attributes := #[] }, { accessFlags := 24, nameIndex := 40, descriptorIndex := 26, attributes := #[] }, { accessFlags := 26, nameIndex := 1101, descriptorIndex := 1102, attributes := #[] }, { accessFlags := 26, nameIndex := 1121, descriptorIndex := 1122, attributes := #[] }, { accessFlags := 25, nameIndex := 599, descriptorIndex := 600, attributes := #[] }, { accessFlags := 24, nameIndex := 1125, descriptorIndex := 18, attributes := #[] }, { accessFlags := 24, nameIndex := 1127, descriptorIndex := 18, attributes := #[] }])
  fields := #[{ name := "value", type := (.array .byte), accessFlags := 18, slot := 0, constantValue := 0 }, { name := "coder", type := .byte, accessFlags := 18, slot := 1, constantValue := 0 }, { name := "hash", type := .int, accessFlags := 2, slot := 2, constantValue := 0 }, { name := "hashIsZero", type := .boolean, accessFlags := 2, slot := 3, constantValue := 0 }, { name := "serialVersionUID", type := .long, accessFlags := 26, slot := 0, constantValue := 0 }, { name := "COMPACT_STRINGS", type := .boolean, accessFlags := 24, slot := 1, constantValue := 0 }, { name := "serialPersistentFields", type := (.array (.object "java/io/ObjectStreamField")), accessFlags := 26, slot := 2, constantValue := 0 }, { name := "REPL", type := .char, accessFlags := 26, slot := 3, constantValue := 0 }, { name := "CASE_INSENSITIVE_ORDER", type := (.object "java/util/Comparator"), accessFlags := 25, slot := 4, constantValue := 0 }, { name := "LATIN1", type := .byte, accessFlags := 24, slot := 5, constantValue := 0 }, { name := "UTF16", type := .byte, accessFlags := 24, slot := 6, constantValue := 0 }]
  methods := #[k7m0, k7m1, k7m2, k7m3]
  instanceTypes := #[(.array .byte), .byte, .int, .boolean]
  staticTypes := #[.long, .boolean, (.array (.object "java/io/ObjectStreamField")), .char, (.object "java/util/Comparator"), .byte, .byte]
  resolved := Array.replicate 1451 none
  statics := some 0 }

def pool8 : Array CpInfo := pool [(1, .methodref 2 3), (0, .class_ 4), (0, .nameAndType 5 6), (0, u "java/lang/Object"), (0, u "<init>"), (0, u "()V"), (0, .class_ 8), (0, u "java/lang/Record")] 13

def k8c0 : Code := { maxStack := 1, maxLocals := 1, code := jdk_30_method_1_code, exceptionTable := #[], attributes := #[] }
def k8m0 : Method := { name := "<init>", desc := "()V", sig := { parameters := [], returnType := none }, accessFlags := 4, code := some k8c0 }
/-- java/lang/Record -/
def k8 : Class := { plain "java/lang/Record" (some 0) with
  accessFlags := 1057
  interfaces := #[]
  cf := some (fileOf pool8 7 #[] #[{ accessFlags := 4, nameIndex := 5, descriptorIndex := 6, attributes := #[] }] 1057 2 #[] #[])
  fields := #[]
  methods := #[k8m0]
  instanceTypes := #[]
  staticTypes := #[]
  resolved := Array.replicate 22 none
  statics := none }

def pool9 : Array CpInfo := pool [(1, .methodref 2 3), (0, .class_ 4), (0, .nameAndType 5 6), (0, u "java/lang/Record"), (0, u "<init>"), (0, u "()V"), (0, .fieldref 8 9), (0, .class_ 10), (0, .nameAndType 11 12), (0, u "com/example/wardflow/wardflow/model/Party"), (0, u "participant"), (0, u "Ljava/lang/String;"), (0, .fieldref 8 14), (0, .nameAndType 15 12), (0, u "role"), (4, .methodref 21 22), (0, .class_ 23), (0, .nameAndType 24 25), (0, u "java/lang/String"), (0, u "equals"), (0, u "(Ljava/lang/Object;)Z"), (7, u "(Ljava/lang/String;Ljava/lang/String;)V"), (5, u "sameParticipant"), (0, u "(Lcom/example/wardflow/wardflow/model/Party;)Z")] 30

def k9c0 : Code := { maxStack := 2, maxLocals := 3, code := prog_87_method_1_code, exceptionTable := #[], attributes := #[] }
def k9m0 : Method := { name := "<init>", desc := "(Ljava/lang/String;Ljava/lang/String;)V", sig := { parameters := [(.object "java/lang/String"), (.object "java/lang/String")], returnType := none }, accessFlags := 1, code := some k9c0 }
def k9c1 : Code := { maxStack := 2, maxLocals := 2, code := prog_87_method_3_code, exceptionTable := #[], attributes := #[] }
def k9m1 : Method := { name := "sameParticipant", desc := "(Lcom/example/wardflow/wardflow/model/Party;)Z", sig := { parameters := [(.object "com/example/wardflow/wardflow/model/Party")], returnType := some .boolean }, accessFlags := 1, code := some k9c1 }
/-- com/example/wardflow/wardflow/model/Party -/
def k9 : Class := { plain "com/example/wardflow/wardflow/model/Party" (some 8) with
  accessFlags := 49
  interfaces := #[]
  cf := some (fileOf pool9 8 #[] #[{ accessFlags := 1, nameIndex := 5, descriptorIndex := 33, attributes := #[] }, { accessFlags := 1, nameIndex := 39, descriptorIndex := 40, attributes := #[] }] 49 2 #[] #[{ accessFlags := 18, nameIndex := 11, descriptorIndex := 12, attributes := #[] }, { accessFlags := 18, nameIndex := 15, descriptorIndex := 12, attributes := #[] }])
  fields := #[{ name := "participant", type := (.object "java/lang/String"), accessFlags := 18, slot := 0, constantValue := 0 }, { name := "role", type := (.object "java/lang/String"), accessFlags := 18, slot := 1, constantValue := 0 }]
  methods := #[k9m0, k9m1]
  instanceTypes := #[(.object "java/lang/String"), (.object "java/lang/String")]
  staticTypes := #[]
  resolved := Array.replicate 71 none
  statics := none }

def pool10 : Array CpInfo := pool [(4, .class_ 6), (1, u "java/lang/Object"), (0, u "<init>"), (0, u "()V"), (5, .class_ 16), (1, u "java/lang/StringLatin1"), (104, u "$assertionsDisabled"), (0, u "Z"), (98, .class_ 223), (1, u "java/lang/StringLatin1$LinesSpliterator"), (57, u "equals"), (0, u "([B[B)Z"), (107, .class_ 391), (0, u "java/lang/StringLatin1$CharsSpliterator")] 3

def k10m0 : Method := { name := "<init>", desc := "()V", sig := { parameters := [], returnType := none }, accessFlags := 0, code := none }
def k10c1 : Code := { maxStack := 3, maxLocals := 3, code := jdk_43_method_13_code, exceptionTable := #[], attributes := #[] }
def k10m1 : Method := { name := "equals", desc := "([B[B)Z", sig := { parameters := [(.array .byte), (.array .byte)], returnType := some .boolean }, accessFlags := 9, code := some k10c1 }
/-- java/lang/StringLatin1 -/
def k10 : Class := { plain "java/lang/StringLatin1" (some 0) with
  accessFlags := 48
  interfaces := #[]
  cf := some (fileOf pool10 14 #[.nestMembers #[390, 221]] #[{ accessFlags := 0, nameIndex := 7, descriptorIndex := 8, attributes := #[] }, { accessFlags := 9, nameIndex := 281, descriptorIndex := 282, attributes := #[] }] 48 4 #[] #[{ accessFlags := 4120, nameIndex := 121, descriptorIndex := 122, attributes := #[] }])
  fields := #[{ name := "$assertionsDisabled", type := .boolean, accessFlags := 4120, slot := 0, constantValue := 0 }]
  methods := #[k10m0, k10m1]
  instanceTypes := #[]
  staticTypes := #[.boolean]
  resolved := Array.replicate 395 none
  statics := none }

def pool11 : Array CpInfo := pool [(6, .class_ 8), (1, u "java/lang/Object"), (0, u "<init>"), (0, u "()V"), (1, .class_ 14), (1, u "java/lang/StringUTF16"), (31, u "$assertionsDisabled"), (0, u "Z"), (13, u "HI_BYTE_SHIFT"), (0, u "I"), (2, u "LO_BYTE_SHIFT"), (49, .methodref 12 116), (0, .nameAndType 117 118), (0, u "compress"), (0, u "([CI[BII)I"), (3, u "([CII)[B"), (138, u "coderFromArrayLen"), (0, u "([BI)B"), (106, .class_ 371), (1, u "java/lang/StringUTF16$LinesSpliterator"), (58, u "MAX_LENGTH"), (196, .class_ 628), (0, u "java/lang/StringUTF16$CodePointsSpliterator"), (0, .class_ 630), (0, u "java/lang/StringUTF16$CharsSpliterator")] 4

def k11m0 : Method := { name := "<init>", desc := "()V", sig := { parameters := [], returnType := none }, accessFlags := 0, code := none }
def k11c1 : Code := { maxStack := 2, maxLocals := 2, code := jdk_52_method_15_code, exceptionTable := #[], attributes := #[] }
def k11m1 : Method := { name := "coderFromArrayLen", desc := "([BI)B", sig := { parameters := [(.array .byte), .int], returnType := some .byte }, accessFlags := 8, code := some k11c1 }
def k11c2 : Code := { maxStack := 5, maxLocals := 6, code := jdk_52_method_16_code, exceptionTable := #[], attributes := #[] }
def k11m2 : Method := { name := "compress", desc := "([CII)[B", sig := { parameters := [(.array .char), .int, .int], returnType := some (.array .byte) }, accessFlags := 9, code := some k11c2 }
def k11c3 : Code := { maxStack := 3, maxLocals := 7, code := jdk_52_method_21_code, exceptionTable := #[], attributes := #[] }
def k11m3 : Method := { name := "compress", desc := "([CI[BII)I", sig := { parameters := [(.array .char), .int, (.array .byte), .int, .int], returnType := some .int }, accessFlags := 9, code := some k11c3 }
/-- java/lang/StringUTF16 -/
def k11 : Class := { plain "java/lang/StringUTF16" (some 0) with
  accessFlags := 48
  interfaces := #[]
  cf := some (fileOf pool11 12 #[.nestMembers #[627, 629, 369]] #[{ accessFlags := 0, nameIndex := 9, descriptorIndex := 10, attributes := #[] }, { accessFlags := 8, nameIndex := 261, descriptorIndex := 262, attributes := #[] }, { accessFlags := 9, nameIndex := 117, descriptorIndex := 122, attributes := #[] }, { accessFlags := 9, nameIndex := 117, descriptorIndex := 118, attributes := #[] }] 48 6 #[] #[{ accessFlags := 26, nameIndex := 61, descriptorIndex := 62, attributes := #[] }, { accessFlags := 26, nameIndex := 65, descriptorIndex := 62, attributes := #[] }, { accessFlags := 24, nameIndex := 430, descriptorIndex := 62, attributes := #[] }, { accessFlags := 4120, nameIndex := 46, descriptorIndex := 47, attributes := #[] }])
  fields := #[{ name := "HI_BYTE_SHIFT", type := .int, accessFlags := 26, slot := 0, constantValue := 0 }, { name := "LO_BYTE_SHIFT", type := .int, accessFlags := 26, slot := 1, constantValue := 0 }, { name := "MAX_LENGTH", type := .int, accessFlags := 24, slot := 2, constantValue := 0 }, { name := "$assertionsDisabled", type := .boolean, accessFlags := 4120, slot := 3, constantValue := 0 }]
  methods := #[k11m0, k11m1, k11m2, k11m3]
  instanceTypes := #[]
  staticTypes := #[.int, .int, .int, .boolean]
  resolved := Array.replicate 635 none
  statics := none }

def pool12 : Array CpInfo := pool [(2, .class_ 4), (1, u "java/lang/Object"), (0, u "<init>"), (0, u "()V"), (17, .class_ 26), (1, u "jdk/internal/util/Preconditions"), (28, .class_ 56), (0, u "jdk/internal/util/Preconditions$4"), (57, .class_ 115), (0, u "jdk/internal/util/Preconditions$1"), (7, u "SIOOBE_FORMATTER"), (0, u "Ljava/util/function/BiFunction;"), (0, .class_ 126), (0, u "jdk/internal/util/Preconditions$2"), (3, u "AIOOBE_FORMATTER"), (0, .class_ 132), (0, u "jdk/internal/util/Preconditions$3"), (3, u "IOOBE_FORMATTER")] 57

def k12m0 : Method := { name := "<init>", desc := "()V", sig := { parameters := [], returnType := none }, accessFlags := 1, code := none }
/-- jdk/internal/util/Preconditions -/
def k12 : Class := { plain "jdk/internal/util/Preconditions" (some 0) with
  accessFlags := 33
  interfaces := #[]
  cf := some (fileOf pool12 24 #[.nestMembers #[55, 131, 125, 114]] #[{ accessFlags := 1, nameIndex := 5, descriptorIndex := 6, attributes := #[] }] 33 2 #[] #[{ accessFlags := 25, nameIndex := 123, descriptorIndex := 124, attributes := #[] }, { accessFlags := 25, nameIndex := 130, descriptorIndex := 124, attributes := #[] }, { accessFlags := 25, nameIndex := 136, descriptorIndex := 124, attributes := #[] }])
  fields := #[{ name := "SIOOBE_FORMATTER", type := (.object "java/util/function/BiFunction"), accessFlags := 25, slot := 0, constantValue := 0 }, { name := "AIOOBE_FORMATTER", type := (.object "java/util/function/BiFunction"), accessFlags := 25, slot := 1, constantValue := 0 }, { name := "IOOBE_FORMATTER", type := (.object "java/util/function/BiFunction"), accessFlags := 25, slot := 2, constantValue := 0 }]
  methods := #[k12m0]
  instanceTypes := #[]
  staticTypes := #[(.object "java/util/function/BiFunction"), (.object "java/util/function/BiFunction"), (.object "java/util/function/BiFunction")]
  resolved := Array.replicate 194 none
  statics := some 1 }

def pool13 : Array CpInfo := pool [(9, u "<init>"), (6, .class_ 18), (1, u "java/lang/Object"), (0, u "()V"), (1, .class_ 23), (1, u "jdk/internal/util/ArraysSupport"), (0, u "LOG2_ARRAY_LONG_INDEX_SCALE"), (0, u "I"), (2, u "U"), (0, u "Ljdk/internal/misc/Unsafe;"), (8, u "BIG_ENDIAN"), (0, u "Z"), (8, u "LOG2_BYTE_BIT_SIZE"), (4, u "LOG2_ARRAY_INT_INDEX_SCALE"), (54, u "JLA"), (0, u "Ljdk/internal/access/JavaLangAccess;"), (11, u "LOG2_ARRAY_BOOLEAN_INDEX_SCALE"), (9, u "LOG2_ARRAY_BYTE_INDEX_SCALE"), (5, u "LOG2_ARRAY_CHAR_INDEX_SCALE"), (5, u "LOG2_ARRAY_SHORT_INDEX_SCALE"), (18, u "LOG2_ARRAY_FLOAT_INDEX_SCALE"), (24, u "LOG2_ARRAY_DOUBLE_INDEX_SCALE"), (89, u "T_BOOLEAN"), (2, u "T_CHAR"), (1, u "T_FLOAT"), (1, u "T_DOUBLE"), (1, u "T_BYTE"), (1, u "T_SHORT"), (1, u "T_INT"), (1, u "T_LONG"), (1, u "SOFT_MAX_ARRAY_LENGTH")] 83

def k13m0 : Method := { name := "<init>", desc := "()V", sig := { parameters := [], returnType := none }, accessFlags := 2, code := none }
/-- jdk/internal/util/ArraysSupport -/
def k13 : Class := { plain "jdk/internal/util/ArraysSupport" (some 0) with
  accessFlags := 33
  interfaces := #[]
  cf := some (fileOf pool13 21 #[] #[{ accessFlags := 2, nameIndex := 9, descriptorIndex := 19, attributes := #[] }] 33 16 #[] #[{ accessFlags := 24, nameIndex := 28, descriptorIndex := 29, attributes := #[] }, { accessFlags := 26, nameIndex := 38, descriptorIndex := 39, attributes := #[] }, { accessFlags := 25, nameIndex := 121, descriptorIndex := 25, attributes := #[] }, { accessFlags := 25, nameIndex := 131, descriptorIndex := 25, attributes := #[] }, { accessFlags := 25, nameIndex := 137, descriptorIndex := 25, attributes := #[] }, { accessFlags := 25, nameIndex := 143, descriptorIndex := 25, attributes := #[] }, { accessFlags := 25, nameIndex := 53, descriptorIndex := 25, attributes := #[] }, { accessFlags := 25, nameIndex := 24, descriptorIndex := 25, attributes := #[] }, { accessFlags := 25, nameIndex := 162, descriptorIndex := 25, attributes := #[] }, { accessFlags := 25, nameIndex := 187, descriptorIndex := 25, attributes := #[] }, { accessFlags := 26, nameIndex := 48, descriptorIndex := 25, attributes := #[] }, { accessFlags := 25, nameIndex := 277, descriptorIndex := 25, attributes := #[] }, { accessFlags := 25, nameIndex := 280, descriptorIndex := 25, attributes := #[] }, { accessFlags := 25, nameIndex := 282, descriptorIndex := 25, attributes := #[] }, { accessFlags := 25, nameIndex := 284, descriptorIndex := 25, attributes := #[] }, { accessFlags := 25, nameIndex := 286, descriptorIndex := 25, attributes := #[] }, { accessFlags := 25, nameIndex := 288, descriptorIndex := 25, attributes := #[] }, { accessFlags := 25, nameIndex := 290, descriptorIndex := 25, attributes := #[] }, { accessFlags := 25, nameIndex := 292, descriptorIndex := 25, attributes := #[] }, { accessFlags := 26, nameIndex := 108, descriptorIndex := 109, attributes := #[] }, { accessFlags := 25, nameIndex := 294, descriptorIndex := 25, attributes := #[] }])
  fields := #[{ name := "U", type := (.object "jdk/internal/misc/Unsafe"), accessFlags := 24, slot := 0, constantValue := 0 }, { name := "BIG_ENDIAN", type := .boolean, accessFlags := 26, slot := 1, constantValue := 0 }, { name := "LOG2_ARRAY_BOOLEAN_INDEX_SCALE", type := .int, accessFlags := 25, slot := 2, constantValue := 0 }, { name := "LOG2_ARRAY_BYTE_INDEX_SCALE", type := .int, accessFlags := 25, slot := 3, constantValue := 0 }, { name := "LOG2_ARRAY_CHAR_INDEX_SCALE", type := .int, accessFlags := 25, slot := 4, constantValue := 0 }, { name := "LOG2_ARRAY_SHORT_INDEX_SCALE", type := .int, accessFlags := 25, slot := 5, constantValue := 0 }, { name := "LOG2_ARRAY_INT_INDEX_SCALE", type := .int, accessFlags := 25, slot := 6, constantValue := 0 }, { name := "LOG2_ARRAY_LONG_INDEX_SCALE", type := .int, accessFlags := 25, slot := 7, constantValue := 0 }, { name := "LOG2_ARRAY_FLOAT_INDEX_SCALE", type := .int, accessFlags := 25, slot := 8, constantValue := 0 }, { name := "LOG2_ARRAY_DOUBLE_INDEX_SCALE", type := .int, accessFlags := 25, slot := 9, constantValue := 0 }, { name := "LOG2_BYTE_BIT_SIZE", type := .int, accessFlags := 26, slot := 10, constantValue := 0 }, { name := "T_BOOLEAN", type := .int, accessFlags := 25, slot := 11, constantValue := 0 }, { name := "T_CHAR", type := .int, accessFlags := 25, slot := 12, constantValue := 0 }, { name := "T_FLOAT", type := .int, accessFlags := 25, slot := 13, constantValue := 0 }, { name := "T_DOUBLE", type := .int, accessFlags := 25, slot := 14, constantValue := 0 }, { name := "T_BYTE", type := .int, accessFlags := 25, slot := 15, constantValue := 0 }, { name := "T_SHORT", type := .int, accessFlags := 25, slot := 16, constantValue := 0 }, { name := "T_INT", type := .int, accessFlags := 25, slot := 17, constantValue := 0 }, { name := "T_LONG", type := .int, accessFlags := 25, slot := 18, constantValue := 0 }, { name := "JLA", type := (.object "jdk/internal/access/JavaLangAccess"), accessFlags := 26, slot := 19, constantValue := 0 }, { name := "SOFT_MAX_ARRAY_LENGTH", type := .int, accessFlags := 25, slot := 20, constantValue := 0 }]
  methods := #[k13m0]
  instanceTypes := #[]
  staticTypes := #[(.object "jdk/internal/misc/Unsafe"), .boolean, .int, .int, .int, .int, .int, .int, .int, .int, .int, .int, .int, .int, .int, .int, .int, .int, .int, (.object "jdk/internal/access/JavaLangAccess"), .int]
  resolved := Array.replicate 378 none
  statics := none }

def pool14 : Array CpInfo := pool [(1, u "java/lang/Cloneable"), (0, .class_ 1), (0, u "java/lang/Object"), (0, .class_ 3)] 3

/-- java/lang/Cloneable -/
def k14 : Class := { plain "java/lang/Cloneable" (some 0) with
  accessFlags := 1537
  interfaces := #[]
  cf := some (fileOf pool14 2 #[] #[] 1537 4 #[] #[])
  fields := #[]
  methods := #[]
  instanceTypes := #[]
  staticTypes := #[]
  resolved := Array.replicate 8 none
  statics := none }

/-- the primitive byte -/
def k15 : Class := { plain "byte" none with kind := .primitive 'B', accessFlags := 0x411 }
/-- [B -/
def k16 : Class := { plain "[B" (some 0) with kind := .array 15 .byte, interfaces := #[14, 2], accessFlags := 1041 }

/-- the primitive char -/
def k17 : Class := { plain "char" none with kind := .primitive 'C', accessFlags := 0x411 }
/-- [C -/
def k18 : Class := { plain "[C" (some 0) with kind := .array 17 .char, interfaces := #[14, 2], accessFlags := 1041 }

/-- the primitive int -/
def k19 : Class := { plain "int" none with kind := .primitive 'I', accessFlags := 0x411 }
/-- [I -/
def k20 : Class := { plain "[I" (some 0) with kind := .array 19 .int, interfaces := #[14, 2], accessFlags := 1041 }

def heap : Heap := #[{ cls := 7, slots := #[.long 0, .int 1, .null, .int 0, .null, .int 0, .int 0], vm := .statics 7 },
  { cls := 12, slots := #[.null, .null, .null], vm := .statics 12 }]
def classes : Array Class := #[k0, k1, k2, k3, k4, k5, k6, k7, k8, k9, k10, k11, k12, k13, k14, k15, k16, k17, k18, k19, k20]
def interned : List (Array UInt16 × Addr) := []
def slotsUsed : Nat := 10
def theMethod : MethodId := ⟨1, 2⟩
def args0 : Array Value := #[.int 5, .int 6, .int 7, .int 8]
def aboutOver (below : List Frame) : State where
  vm := { classes := classes, interned := interned.toArray }
  heap := heap
  slotsUsed := slotsUsed
  threads := #[{ frames := .invoking theMethod args0 :: below }]
def below0 : List Frame := [.native { method := ⟨0, 0⟩, args := #[] }]
def about1 : State := aboutOver below0
def p0 : Program := .bare "" "" ""
def e0 : Env := launch0.env 0 0 0
theorem w_frames : about1.frames = Frame.invoking theMethod args0 :: below0 := rfl
set_option maxRecDepth 65536 in
theorem w_args : argsFit about1.vm theMethod args0 = true := by decide +kernel
set_option maxRecDepth 65536 in
theorem w_heap : heapFits about1 = true := by decide +kernel
set_option maxRecDepth 65536 in
theorem w_runnable : about1.curStatus? = some .runnable := by decide +kernel
set_option maxRecDepth 65536 in
theorem w_alone : about1.alone = true := by decide +kernel
set_option maxRecDepth 65536 in
theorem w_named : about1.methodNamed? x = some theMethod := by decide +kernel
set_option maxRecDepth 65536 in
theorem w_hears : about1.hears theMethod below0 = true := by decide +kernel
set_option maxRecDepth 65536 in
theorem w_ripe : about1.ripe theMethod args0 below0 = true := by decide +kernel
theorem w_running : about1.status = .running := rfl
set_option maxRecDepth 65536 in
theorem w_room : about1.hasRoom e0.platform room_1 = true :=
  launch0.hasRoom_least _ room_1 (by decide +kernel) (by decide +kernel) (by decide +kernel) (by decide +kernel) (by decide +kernel) (by decide +kernel)
theorem allAtoms_all (ts : List Jvm.Cond) (a : Array Jvm.Value) (st : Jvm.State) : (allAtoms ts).before a st = ts.all (fun c => c.before a st) := by
  induction ts with
  | nil => rfl
  | cons c t ih =>
    show (Jvm.Cond.and c (allAtoms t)).before a st = _
    rw [Jvm.Cond.before_and, ih, List.all_cons]
def words1 : List Jvm.Cond := Jvm.Cond.code x code maxLocals ret :: tables_1
/-- a 'code' word, met by the world's own term for the bytes: nothing is compared byte by byte -/
theorem code_word {y : MethodName} {bytes : ByteArray} {mx : Nat} {rt : Option FieldType} {a : Array Value} {s : State} {m : MethodId} {meth : Method} {c : Code} (h1 : s.methodNamed? y = some m) (h2 : s.vm.method? m = some meth) (h3 : meth.code = some c) (h4 : c.code = bytes)
    (h5 : (c.maxLocals == mx && c.exceptionTable.isEmpty && decide (c.maxStack ≤ mostOperands) && decide (meth.sig.returnType = rt) && !meth.locks && decide (parseMethodDescriptor y.desc = some meth.sig)) = true) : (Jvm.Cond.code y bytes mx rt).before a s = true := by
  simp only [Bool.and_eq_true, beq_iff_eq, Bool.not_eq_true', decide_eq_true_eq] at h5
  obtain ⟨⟨⟨⟨⟨g1, g2⟩, g3⟩, g4⟩, g5⟩, g6⟩ := h5
  simp [Cond.before, Cond.holds, Cond.value, h1, h2, h3, h4, g1, g2, g3, g4, g5, g6]
def isCode : Jvm.Cond → Bool
  | .code _ _ _ _ => true
  | _ => false
theorem all_split {L : List Jvm.Cond} {P : Jvm.Cond → Bool} (h1 : L.all (fun c => isCode c || P c) = true) (h2 : ∀ c ∈ L.filter isCode, P c = true) : L.all P = true := by
  refine List.all_eq_true.mpr fun c hc => ?_
  have h := List.all_eq_true.mp h1 c hc
  rcases Bool.eq_false_or_eq_true (isCode c) with hi | hi
  · exact h2 c (List.mem_filter.mpr ⟨hc, hi⟩)
  · simpa [hi] using h
set_option maxRecDepth 65536 in
theorem w_c0 : (Jvm.Cond.code x code maxLocals ret).before args0 about1 = true := code_word (m := ⟨1, 2⟩) (meth := k1m2) (c := k1c2) (by decide +kernel) rfl rfl rfl (by decide +kernel)
set_option maxRecDepth 65536 in
theorem w_c1 : (Jvm.Cond.code ({ cls := "com/example/wardflow/wardflow/model/PartySameParticipantPinLaw", name := "str", desc := "(ICC)Ljava/lang/String;" } : Jvm.MethodName) method_2_code (3 : Nat) (Option.some (Jvm.ClassFile.FieldType.object "java/lang/String"))).before args0 about1 = true := code_word (m := ⟨1, 1⟩) (meth := k1m1) (c := k1c1) (by decide +kernel) rfl rfl rfl (by decide +kernel)
set_option maxRecDepth 65536 in
theorem w_c2 : (Jvm.Cond.code ({ cls := "java/lang/String", name := "<init>", desc := "([C)V" } : Jvm.MethodName) jdk_42_method_3_code (2 : Nat) (Option.none : Option Jvm.ClassFile.FieldType)).before args0 about1 = true := code_word (m := ⟨7, 1⟩) (meth := k7m1) (c := k7c1) (by decide +kernel) rfl rfl rfl (by decide +kernel)
set_option maxRecDepth 65536 in
theorem w_c3 : (Jvm.Cond.code ({ cls := "java/lang/String", name := "<init>", desc := "([CIILjava/lang/Void;)V" } : Jvm.MethodName) jdk_42_method_149_code (6 : Nat) (Option.none : Option Jvm.ClassFile.FieldType)).before args0 about1 = true := code_word (m := ⟨7, 3⟩) (meth := k7m3) (c := k7c3) (by decide +kernel) rfl rfl rfl (by decide +kernel)
set_option maxRecDepth 65536 in
theorem w_c4 : (Jvm.Cond.code ({ cls := "java/lang/Object", name := "<init>", desc := "()V" } : Jvm.MethodName) object_method_1_code (1 : Nat) (Option.none : Option Jvm.ClassFile.FieldType)).before args0 about1 = true := code_word (m := ⟨0, 0⟩) (meth := k0m0) (c := k0c0) (by decide +kernel) rfl rfl rfl (by decide +kernel)
set_option maxRecDepth 65536 in
theorem w_c5 : (Jvm.Cond.code ({ cls := "com/example/wardflow/wardflow/model/Party", name := "<init>", desc := "(Ljava/lang/String;Ljava/lang/String;)V" } : Jvm.MethodName) prog_87_method_1_code (3 : Nat) (Option.none : Option Jvm.ClassFile.FieldType)).before args0 about1 = true := code_word (m := ⟨9, 0⟩) (meth := k9m0) (c := k9c0) (by decide +kernel) rfl rfl rfl (by decide +kernel)
set_option maxRecDepth 65536 in
theorem w_c6 : (Jvm.Cond.code ({ cls := "java/lang/Record", name := "<init>", desc := "()V" } : Jvm.MethodName) jdk_30_method_1_code (1 : Nat) (Option.none : Option Jvm.ClassFile.FieldType)).before args0 about1 = true := code_word (m := ⟨8, 0⟩) (meth := k8m0) (c := k8c0) (by decide +kernel) rfl rfl rfl (by decide +kernel)
set_option maxRecDepth 65536 in
theorem w_c7 : (Jvm.Cond.code ({ cls := "com/example/wardflow/wardflow/model/Party", name := "sameParticipant", desc := "(Lcom/example/wardflow/wardflow/model/Party;)Z" } : Jvm.MethodName) prog_87_method_3_code (2 : Nat) (Option.some Jvm.ClassFile.FieldType.boolean)).before args0 about1 = true := code_word (m := ⟨9, 1⟩) (meth := k9m1) (c := k9c1) (by decide +kernel) rfl rfl rfl (by decide +kernel)
set_option maxRecDepth 65536 in
theorem w_c8 : (Jvm.Cond.code ({ cls := "java/lang/String", name := "equals", desc := "(Ljava/lang/Object;)Z" } : Jvm.MethodName) jdk_42_method_66_code (3 : Nat) (Option.some Jvm.ClassFile.FieldType.boolean)).before args0 about1 = true := code_word (m := ⟨7, 2⟩) (meth := k7m2) (c := k7c2) (by decide +kernel) rfl rfl rfl (by decide +kernel)
set_option maxRecDepth 65536 in
theorem w_c9 : (Jvm.Cond.code ({ cls := "java/lang/StringLatin1", name := "equals", desc := "([B[B)Z" } : Jvm.MethodName) jdk_43_method_13_code (3 : Nat) (Option.some Jvm.ClassFile.FieldType.boolean)).before args0 about1 = true := code_word (m := ⟨10, 1⟩) (meth := k10m1) (c := k10c1) (by decide +kernel) rfl rfl rfl (by decide +kernel)
set_option maxRecDepth 65536 in
theorem w_c10 : (Jvm.Cond.code ({ cls := "java/lang/StringUTF16", name := "compress", desc := "([CII)[B" } : Jvm.MethodName) jdk_52_method_16_code (6 : Nat) (Option.some (Jvm.ClassFile.FieldType.array Jvm.ClassFile.FieldType.byte))).before args0 about1 = true := code_word (m := ⟨11, 2⟩) (meth := k11m2) (c := k11c2) (by decide +kernel) rfl rfl rfl (by decide +kernel)
set_option maxRecDepth 65536 in
theorem w_c11 : (Jvm.Cond.code ({ cls := "java/lang/StringUTF16", name := "compress", desc := "([CI[BII)I" } : Jvm.MethodName) jdk_52_method_21_code (7 : Nat) (Option.some Jvm.ClassFile.FieldType.int)).before args0 about1 = true := code_word (m := ⟨11, 3⟩) (meth := k11m3) (c := k11c3) (by decide +kernel) rfl rfl rfl (by decide +kernel)
set_option maxRecDepth 65536 in
theorem w_c12 : (Jvm.Cond.code ({ cls := "java/lang/StringUTF16", name := "coderFromArrayLen", desc := "([BI)B" } : Jvm.MethodName) jdk_52_method_15_code (2 : Nat) (Option.some Jvm.ClassFile.FieldType.byte)).before args0 about1 = true := code_word (m := ⟨11, 1⟩) (meth := k11m1) (c := k11c1) (by decide +kernel) rfl rfl rfl (by decide +kernel)
def codes1 : List Jvm.Cond := [Jvm.Cond.code x code maxLocals ret, Jvm.Cond.code ({ cls := "com/example/wardflow/wardflow/model/PartySameParticipantPinLaw", name := "str", desc := "(ICC)Ljava/lang/String;" } : Jvm.MethodName) method_2_code (3 : Nat) (Option.some (Jvm.ClassFile.FieldType.object "java/lang/String")), Jvm.Cond.code ({ cls := "java/lang/String", name := "<init>", desc := "([C)V" } : Jvm.MethodName) jdk_42_method_3_code (2 : Nat) (Option.none : Option Jvm.ClassFile.FieldType), Jvm.Cond.code ({ cls := "java/lang/String", name := "<init>", desc := "([CIILjava/lang/Void;)V" } : Jvm.MethodName) jdk_42_method_149_code (6 : Nat) (Option.none : Option Jvm.ClassFile.FieldType), Jvm.Cond.code ({ cls := "java/lang/Object", name := "<init>", desc := "()V" } : Jvm.MethodName) object_method_1_code (1 : Nat) (Option.none : Option Jvm.ClassFile.FieldType), Jvm.Cond.code ({ cls := "com/example/wardflow/wardflow/model/Party", name := "<init>", desc := "(Ljava/lang/String;Ljava/lang/String;)V" } : Jvm.MethodName) prog_87_method_1_code (3 : Nat) (Option.none : Option Jvm.ClassFile.FieldType), Jvm.Cond.code ({ cls := "java/lang/Record", name := "<init>", desc := "()V" } : Jvm.MethodName) jdk_30_method_1_code (1 : Nat) (Option.none : Option Jvm.ClassFile.FieldType), Jvm.Cond.code ({ cls := "com/example/wardflow/wardflow/model/Party", name := "sameParticipant", desc := "(Lcom/example/wardflow/wardflow/model/Party;)Z" } : Jvm.MethodName) prog_87_method_3_code (2 : Nat) (Option.some Jvm.ClassFile.FieldType.boolean), Jvm.Cond.code ({ cls := "java/lang/String", name := "equals", desc := "(Ljava/lang/Object;)Z" } : Jvm.MethodName) jdk_42_method_66_code (3 : Nat) (Option.some Jvm.ClassFile.FieldType.boolean), Jvm.Cond.code ({ cls := "java/lang/StringLatin1", name := "equals", desc := "([B[B)Z" } : Jvm.MethodName) jdk_43_method_13_code (3 : Nat) (Option.some Jvm.ClassFile.FieldType.boolean), Jvm.Cond.code ({ cls := "java/lang/StringUTF16", name := "compress", desc := "([CII)[B" } : Jvm.MethodName) jdk_52_method_16_code (6 : Nat) (Option.some (Jvm.ClassFile.FieldType.array Jvm.ClassFile.FieldType.byte)), Jvm.Cond.code ({ cls := "java/lang/StringUTF16", name := "compress", desc := "([CI[BII)I" } : Jvm.MethodName) jdk_52_method_21_code (7 : Nat) (Option.some Jvm.ClassFile.FieldType.int), Jvm.Cond.code ({ cls := "java/lang/StringUTF16", name := "coderFromArrayLen", desc := "([BI)B" } : Jvm.MethodName) jdk_52_method_15_code (2 : Nat) (Option.some Jvm.ClassFile.FieldType.byte)]
set_option maxRecDepth 65536 in
theorem codes_eq : words1.filter isCode = codes1 := rfl
theorem w_codes : ∀ c ∈ words1.filter isCode, c.before args0 about1 = true := by
  rw [codes_eq]
  intro c hc
  simp only [codes1, List.mem_cons, List.not_mem_nil, or_false] at hc
  rcases hc with rfl | rfl | rfl | rfl | rfl | rfl | rfl | rfl | rfl | rfl | rfl | rfl | rfl
  · exact w_c0
  · exact w_c1
  · exact w_c2
  · exact w_c3
  · exact w_c4
  · exact w_c5
  · exact w_c6
  · exact w_c7
  · exact w_c8
  · exact w_c9
  · exact w_c10
  · exact w_c11
  · exact w_c12
set_option maxRecDepth 65536 in
theorem w_t1 : (words1.take 24).all (fun c => isCode c || c.before args0 about1) = true := by decide +kernel
set_option maxRecDepth 65536 in
theorem w_t2 : ((words1.drop 24).take 24).all (fun c => isCode c || c.before args0 about1) = true := by decide +kernel
set_option maxRecDepth 65536 in
theorem w_t3 : ((words1.drop 24).drop 24).all (fun c => isCode c || c.before args0 about1) = true := by decide +kernel
theorem w_tables : (allAtoms (Jvm.Cond.code x code maxLocals ret :: tables_1)).before args0 about1 = true := by
  rw [allAtoms_all]
  show words1.all (fun c => c.before args0 about1) = true
  refine all_split ?_ w_codes
  rw [← List.take_append_drop 24 words1, List.all_append, w_t1, ← List.take_append_drop 24 (words1.drop 24), List.all_append, w_t2, w_t3]
  rfl
set_option maxRecDepth 65536 in
theorem w_rest : rest_1_c.before args0 about1 = true := by decide +kernel
set_option maxRecDepth 65536 in
theorem w_case : (Jvm.Cond.and given_1 narrow_1).before args0 about1 = true := by decide +kernel
set_option maxRecDepth 65536 in
theorem w_consts : constsHeld consts_1 about1 := Jvm.Lit.constsHeldB_iff.mp (by decide +kernel)
theorem w_applies : (headSpec (Jvm.Cond.code x code maxLocals ret :: tables_1) room_1).applies x e0.platform about1 = true :=
  (Spec.applies_iff w_frames).mpr ⟨w_running, w_runnable, w_alone, w_named, w_hears, w_ripe, w_room, w_tables⟩
theorem atStart : AtStart classFile x code maxLocals ret World_1 tables_1 room_1 Calls_1 rest_1 Pre_1 launch0 p0 e0 about1 theMethod args0 below0 :=
  ⟨lists_1, trivial, launch0.admits_env _ _ _, launch0.least_env, fairChoices_fair.cas, fairChoices_fair.clock, w_frames, w_args, w_heap, w_applies, ⟨w_consts, trivial⟩, w_rest, w_case⟩
end start1
theorem witness_1 : WitnessClaimed_1 := ⟨start1.p0, start1.e0, start1.about1, start1.theMethod, start1.args0, start1.below0, start1.atStart⟩
end Jvm.Pilot.@@N@@
