import JvmDerived
import JvmDerived.Pilot.@@N@@Statement
import JvmDerived.Pilot.@@N@@Code
set_option linter.unusedVariables false
set_option linter.unusedSimpArgs false
namespace Jvm.RoadKit
open Sem ClassFile Op Lib Jvm.Stand Jvm.Free Jvm.LawKit
section New
variable {p : Program} {l : Launch} {e : Env} {R : Room} {s : State} {m : MethodId} {args : Array Value} {below : List Frame} {meth : Method} {c : Code} {T : State} {locs : List Loc} {cells slots : Nat}
theorem retI (X : Stand p l e R s m args below meth c T locs cells slots) (hx : p.tables.exec = Jvm.exec) {pc : Nat} {Ls : Array Slot} {z : Int32} {rest : List Value} (hret : meth.sig.returnType = some .int) (hd : decode c.code pc = .ok (.ireturn, 1)) {fs : List Frame}
    (hl : ∀ (f : JFrame) (acts : List Action), f.method = m → f.locked = none → f.entered = [] → (doReturn e (T.setTop f) acts (some (.int z))).1 = T.setFrames fs) : Steps p.tables e below (T.setTop (mkF m pc Ls (.int z :: rest))) (T.setFrames fs) := by
  have hm' : T.vm.method? m = some meth := X.method'
  have hn : narrow .int (.int z) = .int z := rfl
  show Steps p.tables e below (T.setTop { method := m, pc := pc, locals := Ls, stack := _ :: rest, locked := none }) _
  jvm_step X.here [X.here.top, hx, hd, hm', hret, hn]
  first | (intro acts; rw [hl _ acts rfl rfl rfl]) | rw [hl _ _ rfl rfl rfl]
  exact Steps.refl _
end New
end Jvm.RoadKit
namespace Jvm.Pilot.@@N@@
open Jvm Jvm.ClassFile Sem Op Lib Jvm.Free Jvm.Stand Jvm.LawKit Jvm.RoadKit Bundle Jvm.Pilot.@@N@@.Jvm.D
abbrev lv (x : Int64) : Slot := .val (.long x)
theorem im (i : Nat) {d : Jvm.Cond} (h : tables_1[i]? = some d) : d ∈ tables_1 := List.mem_of_getElem? h
theorem own_go {tb : Tables} {e : Env} {below : List Frame} {S S' S0 : State} (P : ∀ t, Steps tb e below S t → Steps tb e below S0 t) (f : ∀ t, Steps tb e below S' t → Steps tb e below S t) : ∀ t, Steps tb e below S' t → Steps tb e below S0 t := fun t k => P t (f t k)
theorem own_sn {Z : State} {a0 : Array Value} {K O n d O' n' d' : String} (L : Laid Z a0 K O n d) (L' : Laid Z a0 K O' n' d') (hn : n ≠ n' := by decide) (ht : (parseFieldDescriptor d).isSome = true := by decide) (ht' : (parseFieldDescriptor d').isSome = true := by decide) : Jvm.RoadKit.slotOf Z O n d ≠ Jvm.RoadKit.slotOf Z O' n' d' := by
  obtain ⟨t, e⟩ := Option.isSome_iff_exists.mp ht
  obtain ⟨t', e'⟩ := Option.isSome_iff_exists.mp ht'
  exact slot_ne L L' hn e e'
theorem pn_0 : plainName "com/example/violarc/violarc/solver/IntVarRestorePinLaw" = true := by first | (simp [plainName, overriddenIn]; done) | decide +kernel
theorem d1_0 : decode jdk_29_method_69_code 0 = .ok (.iload_n 0, 1) := by decide +kernel
theorem d1_1 : decode jdk_29_method_69_code 1 = .ok (.iload_n 1, 1) := by decide +kernel
theorem d1_2 : decode jdk_29_method_69_code 2 = .ok (.if_icmp .gt 7, 3) := by decide +kernel
theorem d1_5 : decode jdk_29_method_69_code 5 = .ok (.iload_n 0, 1) := by decide +kernel
theorem d1_6 : decode jdk_29_method_69_code 6 = .ok (.goto 4, 3) := by decide +kernel
theorem d1_9 : decode jdk_29_method_69_code 9 = .ok (.iload_n 1, 1) := by decide +kernel
theorem d1_10 : decode jdk_29_method_69_code 10 = .ok (.ireturn, 1) := by decide +kernel

theorem d2_0 : decode prog_143_method_1_code 0 = .ok (.aload_n 0, 1) := by decide +kernel
theorem d2_1 : decode prog_143_method_1_code 1 = .ok (.invokespecial 1, 3) := by decide +kernel
theorem d2_4 : decode prog_143_method_1_code 4 = .ok (.aload_n 0, 1) := by decide +kernel
theorem d2_5 : decode prog_143_method_1_code 5 = .ok (.new 7, 3) := by decide +kernel
theorem d2_8 : decode prog_143_method_1_code 8 = .ok (.dup, 1) := by decide +kernel
theorem d2_9 : decode prog_143_method_1_code 9 = .ok (.invokespecial 9, 3) := by decide +kernel
theorem d2_12 : decode prog_143_method_1_code 12 = .ok (.putfield 10, 3) := by decide +kernel
theorem d2_15 : decode prog_143_method_1_code 15 = .ok (.aload_n 0, 1) := by decide +kernel
theorem d2_16 : decode prog_143_method_1_code 16 = .ok (.new 16, 3) := by decide +kernel
theorem d2_19 : decode prog_143_method_1_code 19 = .ok (.dup, 1) := by decide +kernel
theorem d2_20 : decode prog_143_method_1_code 20 = .ok (.invokespecial 18, 3) := by decide +kernel
theorem d2_23 : decode prog_143_method_1_code 23 = .ok (.putfield 19, 3) := by decide +kernel
theorem d2_26 : decode prog_143_method_1_code 26 = .ok (.aload_n 0, 1) := by decide +kernel
theorem d2_27 : decode prog_143_method_1_code 27 = .ok (.new 16, 3) := by decide +kernel
theorem d2_30 : decode prog_143_method_1_code 30 = .ok (.dup, 1) := by decide +kernel
theorem d2_31 : decode prog_143_method_1_code 31 = .ok (.invokespecial 18, 3) := by decide +kernel
theorem d2_34 : decode prog_143_method_1_code 34 = .ok (.putfield 23, 3) := by decide +kernel
theorem d2_37 : decode prog_143_method_1_code 37 = .ok (.aload_n 0, 1) := by decide +kernel
theorem d2_38 : decode prog_143_method_1_code 38 = .ok (.new 16, 3) := by decide +kernel
theorem d2_41 : decode prog_143_method_1_code 41 = .ok (.dup, 1) := by decide +kernel
theorem d2_42 : decode prog_143_method_1_code 42 = .ok (.invokespecial 18, 3) := by decide +kernel
theorem d2_45 : decode prog_143_method_1_code 45 = .ok (.putfield 26, 3) := by decide +kernel
theorem d2_48 : decode prog_143_method_1_code 48 = .ok (.aload_n 0, 1) := by decide +kernel
theorem d2_49 : decode prog_143_method_1_code 49 = .ok (.ldc2_w 31, 3) := by decide +kernel
theorem d2_52 : decode prog_143_method_1_code 52 = .ok (.putfield 33, 3) := by decide +kernel
theorem d2_55 : decode prog_143_method_1_code 55 = .ok (.iconst 0, 1) := by decide +kernel
theorem d2_56 : decode prog_143_method_1_code 56 = .ok (.istore_n 1, 1) := by decide +kernel
theorem d2_57 : decode prog_143_method_1_code 57 = .ok (.iload_n 1, 1) := by decide +kernel
theorem d2_58 : decode prog_143_method_1_code 58 = .ok (.invokestatic 37, 3) := by decide +kernel
theorem d2_61 : decode prog_143_method_1_code 61 = .ok (.arraylength, 1) := by decide +kernel
theorem d2_62 : decode prog_143_method_1_code 62 = .ok (.if_icmp .ge 26, 3) := by decide +kernel
theorem d2_65 : decode prog_143_method_1_code 65 = .ok (.aload_n 0, 1) := by decide +kernel
theorem d2_66 : decode prog_143_method_1_code 66 = .ok (.getfield 26, 3) := by decide +kernel
theorem d2_69 : decode prog_143_method_1_code 69 = .ok (.new 43, 3) := by decide +kernel
theorem d2_72 : decode prog_143_method_1_code 72 = .ok (.dup, 1) := by decide +kernel
theorem d2_73 : decode prog_143_method_1_code 73 = .ok (.invokespecial 45, 3) := by decide +kernel
theorem d2_76 : decode prog_143_method_1_code 76 = .ok (.invokeinterface 46 2, 5) := by decide +kernel
theorem d2_81 : decode prog_143_method_1_code 81 = .ok (.pop, 1) := by decide +kernel
theorem d2_82 : decode prog_143_method_1_code 82 = .ok (.iinc 1 1, 3) := by decide +kernel
theorem d2_85 : decode prog_143_method_1_code 85 = .ok (.goto (-28), 3) := by decide +kernel
theorem d2_88 : decode prog_143_method_1_code 88 = .ok (.return_, 1) := by decide +kernel
theorem pn_2 : plainName "com/example/violarc/violarc/solver/Solver" = true := by first | (simp [plainName, overriddenIn]; done) | decide +kernel
theorem d4_0 : decode prog_146_method_1_code 0 = .ok (.aload_n 0, 1) := by decide +kernel
theorem d4_1 : decode prog_146_method_1_code 1 = .ok (.invokespecial 1, 3) := by decide +kernel
theorem d4_4 : decode prog_146_method_1_code 4 = .ok (.aload_n 0, 1) := by decide +kernel
theorem d4_5 : decode prog_146_method_1_code 5 = .ok (.sipush 256, 3) := by decide +kernel
theorem d4_8 : decode prog_146_method_1_code 8 = .ok (.anewarray 7, 3) := by decide +kernel
theorem d4_11 : decode prog_146_method_1_code 11 = .ok (.putfield 9, 3) := by decide +kernel
theorem d4_14 : decode prog_146_method_1_code 14 = .ok (.aload_n 0, 1) := by decide +kernel
theorem d4_15 : decode prog_146_method_1_code 15 = .ok (.sipush 256, 3) := by decide +kernel
theorem d4_18 : decode prog_146_method_1_code 18 = .ok (.newarray .int, 2) := by decide +kernel
theorem d4_20 : decode prog_146_method_1_code 20 = .ok (.putfield 15, 3) := by decide +kernel
theorem d4_23 : decode prog_146_method_1_code 23 = .ok (.aload_n 0, 1) := by decide +kernel
theorem d4_24 : decode prog_146_method_1_code 24 = .ok (.sipush 256, 3) := by decide +kernel
theorem d4_27 : decode prog_146_method_1_code 27 = .ok (.newarray .long, 2) := by decide +kernel
theorem d4_29 : decode prog_146_method_1_code 29 = .ok (.putfield 19, 3) := by decide +kernel
theorem d4_32 : decode prog_146_method_1_code 32 = .ok (.aload_n 0, 1) := by decide +kernel
theorem d4_33 : decode prog_146_method_1_code 33 = .ok (.sipush 256, 3) := by decide +kernel
theorem d4_36 : decode prog_146_method_1_code 36 = .ok (.newarray .long, 2) := by decide +kernel
theorem d4_38 : decode prog_146_method_1_code 38 = .ok (.putfield 23, 3) := by decide +kernel
theorem d4_41 : decode prog_146_method_1_code 41 = .ok (.aload_n 0, 1) := by decide +kernel
theorem d4_42 : decode prog_146_method_1_code 42 = .ok (.bipush 64, 2) := by decide +kernel
theorem d4_44 : decode prog_146_method_1_code 44 = .ok (.newarray .int, 2) := by decide +kernel
theorem d4_46 : decode prog_146_method_1_code 46 = .ok (.putfield 26, 3) := by decide +kernel
theorem d4_49 : decode prog_146_method_1_code 49 = .ok (.aload_n 0, 1) := by decide +kernel
theorem d4_50 : decode prog_146_method_1_code 50 = .ok (.bipush 64, 2) := by decide +kernel
theorem d4_52 : decode prog_146_method_1_code 52 = .ok (.newarray .long, 2) := by decide +kernel
theorem d4_54 : decode prog_146_method_1_code 54 = .ok (.putfield 29, 3) := by decide +kernel
theorem d4_57 : decode prog_146_method_1_code 57 = .ok (.return_, 1) := by decide +kernel
theorem pn_4 : plainName "com/example/violarc/violarc/solver/Trail" = true := by first | (simp [plainName, overriddenIn]; done) | decide +kernel
theorem d5_0 : decode jdk_38_method_2_code 0 = .ok (.aload_n 0, 1) := by decide +kernel
theorem d5_1 : decode jdk_38_method_2_code 1 = .ok (.invokespecial 1, 3) := by decide +kernel
theorem d5_4 : decode jdk_38_method_2_code 4 = .ok (.aload_n 0, 1) := by decide +kernel
theorem d5_5 : decode jdk_38_method_2_code 5 = .ok (.getstatic 39, 3) := by decide +kernel
theorem d5_8 : decode jdk_38_method_2_code 8 = .ok (.putfield 9, 3) := by decide +kernel
theorem d5_11 : decode jdk_38_method_2_code 11 = .ok (.return_, 1) := by decide +kernel
theorem pn_5 : plainName "java/util/ArrayList" = true := by first | (simp [plainName, overriddenIn]; done) | decide +kernel
theorem d6_0 : decode jdk_39_method_1_code 0 = .ok (.aload_n 0, 1) := by decide +kernel
theorem d6_1 : decode jdk_39_method_1_code 1 = .ok (.invokespecial 1, 3) := by decide +kernel
theorem d6_4 : decode jdk_39_method_1_code 4 = .ok (.aload_n 0, 1) := by decide +kernel
theorem d6_5 : decode jdk_39_method_1_code 5 = .ok (.iconst 0, 1) := by decide +kernel
theorem d6_6 : decode jdk_39_method_1_code 6 = .ok (.putfield 7, 3) := by decide +kernel
theorem d6_9 : decode jdk_39_method_1_code 9 = .ok (.return_, 1) := by decide +kernel
theorem pn_6 : plainName "java/util/AbstractList" = true := by first | (simp [plainName, overriddenIn]; done) | decide +kernel
theorem d7_0 : decode jdk_22_method_1_code 0 = .ok (.aload_n 0, 1) := by decide +kernel
theorem d7_1 : decode jdk_22_method_1_code 1 = .ok (.invokespecial 1, 3) := by decide +kernel
theorem d7_4 : decode jdk_22_method_1_code 4 = .ok (.return_, 1) := by decide +kernel
theorem pn_7 : plainName "java/util/AbstractCollection" = true := by first | (simp [plainName, overriddenIn]; done) | decide +kernel
theorem d8_0 : decode prog_132_method_1_code 0 = .ok (.getstatic 13, 3) := by decide +kernel
theorem d8_3 : decode prog_132_method_1_code 3 = .ok (.invokevirtual 17, 3) := by decide +kernel
theorem d8_6 : decode prog_132_method_1_code 6 = .ok (.checkcast 18, 3) := by decide +kernel
theorem d8_9 : decode prog_132_method_1_code 9 = .ok (.areturn, 1) := by decide +kernel
theorem pn_8 : plainName "com/example/violarc/violarc/solver/Propagator$Priority" = true := by first | (simp [plainName, overriddenIn]; done) | decide +kernel
theorem d9_0 : decode jdk_21_method_3_code 0 = .ok (.aload_n 0, 1) := by decide +kernel
theorem d9_1 : decode jdk_21_method_3_code 1 = .ok (.invokespecial 42, 3) := by decide +kernel
theorem d9_4 : decode jdk_21_method_3_code 4 = .ok (.aload_n 0, 1) := by decide +kernel
theorem d9_5 : decode jdk_21_method_3_code 5 = .ok (.bipush 17, 2) := by decide +kernel
theorem d9_7 : decode jdk_21_method_3_code 7 = .ok (.anewarray 47, 3) := by decide +kernel
theorem d9_10 : decode jdk_21_method_3_code 10 = .ok (.putfield 3, 3) := by decide +kernel
theorem d9_13 : decode jdk_21_method_3_code 13 = .ok (.return_, 1) := by decide +kernel
theorem pn_9 : plainName "java/util/ArrayDeque" = true := by first | (simp [plainName, overriddenIn]; done) | decide +kernel
theorem d10_0 : decode jdk_38_method_25_code 0 = .ok (.aload_n 0, 1) := by decide +kernel
theorem d10_1 : decode jdk_38_method_25_code 1 = .ok (.dup, 1) := by decide +kernel
theorem d10_2 : decode jdk_38_method_25_code 2 = .ok (.getfield 63, 3) := by decide +kernel
theorem d10_5 : decode jdk_38_method_25_code 5 = .ok (.iconst 1, 1) := by decide +kernel
theorem d10_6 : decode jdk_38_method_25_code 6 = .ok (.iadd, 1) := by decide +kernel
theorem d10_7 : decode jdk_38_method_25_code 7 = .ok (.putfield 63, 3) := by decide +kernel
theorem d10_10 : decode jdk_38_method_25_code 10 = .ok (.aload_n 0, 1) := by decide +kernel
theorem d10_11 : decode jdk_38_method_25_code 11 = .ok (.aload_n 1, 1) := by decide +kernel
theorem d10_12 : decode jdk_38_method_25_code 12 = .ok (.aload_n 0, 1) := by decide +kernel
theorem d10_13 : decode jdk_38_method_25_code 13 = .ok (.getfield 9, 3) := by decide +kernel
theorem d10_16 : decode jdk_38_method_25_code 16 = .ok (.aload_n 0, 1) := by decide +kernel
theorem d10_17 : decode jdk_38_method_25_code 17 = .ok (.getfield 48, 3) := by decide +kernel
theorem d10_20 : decode jdk_38_method_25_code 20 = .ok (.invokevirtual 131, 3) := by decide +kernel
theorem d10_23 : decode jdk_38_method_25_code 23 = .ok (.iconst 1, 1) := by decide +kernel
theorem d10_24 : decode jdk_38_method_25_code 24 = .ok (.ireturn, 1) := by decide +kernel
theorem pn_10 : plainName "java/util/ArrayList" = true := by first | (simp [plainName, overriddenIn]; done) | decide +kernel
theorem d11_0 : decode jdk_38_method_24_code 0 = .ok (.iload_n 3, 1) := by decide +kernel
theorem d11_1 : decode jdk_38_method_24_code 1 = .ok (.aload_n 2, 1) := by decide +kernel
theorem d11_2 : decode jdk_38_method_24_code 2 = .ok (.arraylength, 1) := by decide +kernel
theorem d11_3 : decode jdk_38_method_24_code 3 = .ok (.if_icmp .ne 8, 3) := by decide +kernel
theorem d11_6 : decode jdk_38_method_24_code 6 = .ok (.aload_n 0, 1) := by decide +kernel
theorem d11_7 : decode jdk_38_method_24_code 7 = .ok (.invokevirtual 129, 3) := by decide +kernel
theorem d11_10 : decode jdk_38_method_24_code 10 = .ok (.astore_n 2, 1) := by decide +kernel
theorem d11_11 : decode jdk_38_method_24_code 11 = .ok (.aload_n 2, 1) := by decide +kernel
theorem d11_12 : decode jdk_38_method_24_code 12 = .ok (.iload_n 3, 1) := by decide +kernel
theorem d11_13 : decode jdk_38_method_24_code 13 = .ok (.aload_n 1, 1) := by decide +kernel
theorem d11_14 : decode jdk_38_method_24_code 14 = .ok (.aastore, 1) := by decide +kernel
theorem d11_15 : decode jdk_38_method_24_code 15 = .ok (.aload_n 0, 1) := by decide +kernel
theorem d11_16 : decode jdk_38_method_24_code 16 = .ok (.iload_n 3, 1) := by decide +kernel
theorem d11_17 : decode jdk_38_method_24_code 17 = .ok (.iconst 1, 1) := by decide +kernel
theorem d11_18 : decode jdk_38_method_24_code 18 = .ok (.iadd, 1) := by decide +kernel
theorem d11_19 : decode jdk_38_method_24_code 19 = .ok (.putfield 48, 3) := by decide +kernel
theorem d11_22 : decode jdk_38_method_24_code 22 = .ok (.return_, 1) := by decide +kernel
theorem pn_11 : plainName "java/util/ArrayList" = true := by first | (simp [plainName, overriddenIn]; done) | decide +kernel
theorem d12_0 : decode jdk_38_method_7_code 0 = .ok (.aload_n 0, 1) := by decide +kernel
theorem d12_1 : decode jdk_38_method_7_code 1 = .ok (.aload_n 0, 1) := by decide +kernel
theorem d12_2 : decode jdk_38_method_7_code 2 = .ok (.getfield 48, 3) := by decide +kernel
theorem d12_5 : decode jdk_38_method_7_code 5 = .ok (.iconst 1, 1) := by decide +kernel
theorem d12_6 : decode jdk_38_method_7_code 6 = .ok (.iadd, 1) := by decide +kernel
theorem d12_7 : decode jdk_38_method_7_code 7 = .ok (.invokevirtual 69, 3) := by decide +kernel
theorem d12_10 : decode jdk_38_method_7_code 10 = .ok (.areturn, 1) := by decide +kernel
theorem pn_12 : plainName "java/util/ArrayList" = true := by first | (simp [plainName, overriddenIn]; done) | decide +kernel
theorem d13_0 : decode jdk_38_method_6_code 0 = .ok (.aload_n 0, 1) := by decide +kernel
theorem d13_1 : decode jdk_38_method_6_code 1 = .ok (.getfield 9, 3) := by decide +kernel
theorem d13_4 : decode jdk_38_method_6_code 4 = .ok (.arraylength, 1) := by decide +kernel
theorem d13_5 : decode jdk_38_method_6_code 5 = .ok (.istore_n 2, 1) := by decide +kernel
theorem d13_6 : decode jdk_38_method_6_code 6 = .ok (.iload_n 2, 1) := by decide +kernel
theorem d13_7 : decode jdk_38_method_6_code 7 = .ok (.ifCond .gt 13, 3) := by decide +kernel
theorem d13_10 : decode jdk_38_method_6_code 10 = .ok (.aload_n 0, 1) := by decide +kernel
theorem d13_11 : decode jdk_38_method_6_code 11 = .ok (.getfield 9, 3) := by decide +kernel
theorem d13_14 : decode jdk_38_method_6_code 14 = .ok (.getstatic 39, 3) := by decide +kernel
theorem d13_17 : decode jdk_38_method_6_code 17 = .ok (.if_acmp .eq 28, 3) := by decide +kernel
theorem d13_20 : decode jdk_38_method_6_code 20 = .ok (.iload_n 2, 1) := by decide +kernel
theorem d13_21 : decode jdk_38_method_6_code 21 = .ok (.iload_n 1, 1) := by decide +kernel
theorem d13_22 : decode jdk_38_method_6_code 22 = .ok (.iload_n 2, 1) := by decide +kernel
theorem d13_23 : decode jdk_38_method_6_code 23 = .ok (.isub, 1) := by decide +kernel
theorem d13_24 : decode jdk_38_method_6_code 24 = .ok (.iload_n 2, 1) := by decide +kernel
theorem d13_25 : decode jdk_38_method_6_code 25 = .ok (.iconst 1, 1) := by decide +kernel
theorem d13_26 : decode jdk_38_method_6_code 26 = .ok (.ishr, 1) := by decide +kernel
theorem d13_27 : decode jdk_38_method_6_code 27 = .ok (.invokestatic 73, 3) := by decide +kernel
theorem d13_30 : decode jdk_38_method_6_code 30 = .ok (.istore_n 3, 1) := by decide +kernel
theorem d13_31 : decode jdk_38_method_6_code 31 = .ok (.aload_n 0, 1) := by decide +kernel
theorem d13_32 : decode jdk_38_method_6_code 32 = .ok (.aload_n 0, 1) := by decide +kernel
theorem d13_33 : decode jdk_38_method_6_code 33 = .ok (.getfield 9, 3) := by decide +kernel
theorem d13_36 : decode jdk_38_method_6_code 36 = .ok (.iload_n 3, 1) := by decide +kernel
theorem d13_37 : decode jdk_38_method_6_code 37 = .ok (.invokestatic 66, 3) := by decide +kernel
theorem d13_40 : decode jdk_38_method_6_code 40 = .ok (.dup_x1, 1) := by decide +kernel
theorem d13_41 : decode jdk_38_method_6_code 41 = .ok (.putfield 9, 3) := by decide +kernel
theorem d13_44 : decode jdk_38_method_6_code 44 = .ok (.areturn, 1) := by decide +kernel
theorem d13_45 : decode jdk_38_method_6_code 45 = .ok (.aload_n 0, 1) := by decide +kernel
theorem d13_46 : decode jdk_38_method_6_code 46 = .ok (.bipush 10, 2) := by decide +kernel
theorem d13_48 : decode jdk_38_method_6_code 48 = .ok (.iload_n 1, 1) := by decide +kernel
theorem d13_49 : decode jdk_38_method_6_code 49 = .ok (.invokestatic 79, 3) := by decide +kernel
theorem d13_52 : decode jdk_38_method_6_code 52 = .ok (.anewarray 7, 3) := by decide +kernel
theorem d13_55 : decode jdk_38_method_6_code 55 = .ok (.dup_x1, 1) := by decide +kernel
theorem d13_56 : decode jdk_38_method_6_code 56 = .ok (.putfield 9, 3) := by decide +kernel
theorem d13_59 : decode jdk_38_method_6_code 59 = .ok (.areturn, 1) := by decide +kernel
theorem pn_13 : plainName "java/util/ArrayList" = true := by first | (simp [plainName, overriddenIn]; done) | decide +kernel
theorem d14_0 : decode jdk_29_method_65_code 0 = .ok (.iload_n 0, 1) := by decide +kernel
theorem d14_1 : decode jdk_29_method_65_code 1 = .ok (.iload_n 1, 1) := by decide +kernel
theorem d14_2 : decode jdk_29_method_65_code 2 = .ok (.if_icmp .lt 7, 3) := by decide +kernel
theorem d14_5 : decode jdk_29_method_65_code 5 = .ok (.iload_n 0, 1) := by decide +kernel
theorem d14_6 : decode jdk_29_method_65_code 6 = .ok (.goto 4, 3) := by decide +kernel
theorem d14_9 : decode jdk_29_method_65_code 9 = .ok (.iload_n 1, 1) := by decide +kernel
theorem d14_10 : decode jdk_29_method_65_code 10 = .ok (.ireturn, 1) := by decide +kernel

theorem d15_0 : decode prog_128_method_1_code 0 = .ok (.aload_n 0, 1) := by decide +kernel
theorem d15_1 : decode prog_128_method_1_code 1 = .ok (.aload_n 1, 1) := by decide +kernel
theorem d15_2 : decode prog_128_method_1_code 2 = .ok (.aload_n 3, 1) := by decide +kernel
theorem d15_3 : decode prog_128_method_1_code 3 = .ok (.invokespecial 1, 3) := by decide +kernel
theorem d15_6 : decode prog_128_method_1_code 6 = .ok (.iload 4, 2) := by decide +kernel
theorem d15_8 : decode prog_128_method_1_code 8 = .ok (.iload 5, 2) := by decide +kernel
theorem d15_10 : decode prog_128_method_1_code 10 = .ok (.if_icmp .gt 19, 3) := by decide +kernel
theorem d15_13 : decode prog_128_method_1_code 13 = .ok (.iload 5, 2) := by decide +kernel
theorem d15_15 : decode prog_128_method_1_code 15 = .ok (.i2l, 1) := by decide +kernel
theorem d15_16 : decode prog_128_method_1_code 16 = .ok (.iload 4, 2) := by decide +kernel
theorem d15_18 : decode prog_128_method_1_code 18 = .ok (.i2l, 1) := by decide +kernel
theorem d15_19 : decode prog_128_method_1_code 19 = .ok (.lsub, 1) := by decide +kernel
theorem d15_20 : decode prog_128_method_1_code 20 = .ok (.lconst 1, 1) := by decide +kernel
theorem d15_21 : decode prog_128_method_1_code 21 = .ok (.ladd, 1) := by decide +kernel
theorem d15_22 : decode prog_128_method_1_code 22 = .ok (.ldc2_w 9, 3) := by decide +kernel
theorem d15_25 : decode prog_128_method_1_code 25 = .ok (.lcmp, 1) := by decide +kernel
theorem d15_26 : decode prog_128_method_1_code 26 = .ok (.ifCond .le 21, 3) := by decide +kernel
theorem d15_29 : decode prog_128_method_1_code 29 = .ok (.new 11, 3) := by decide +kernel
theorem d15_32 : decode prog_128_method_1_code 32 = .ok (.dup, 1) := by decide +kernel
theorem d15_33 : decode prog_128_method_1_code 33 = .ok (.aload_n 3, 1) := by decide +kernel
theorem d15_34 : decode prog_128_method_1_code 34 = .ok (.iload 4, 2) := by decide +kernel
theorem d15_36 : decode prog_128_method_1_code 36 = .ok (.iload 5, 2) := by decide +kernel
theorem d15_38 : decode prog_128_method_1_code 38 = .ok (.invokedynamic 13, 5) := by decide +kernel
theorem d15_43 : decode prog_128_method_1_code 43 = .ok (.invokespecial 17, 3) := by decide +kernel
theorem d15_46 : decode prog_128_method_1_code 46 = .ok (.athrow, 1) := by decide +kernel
theorem d15_47 : decode prog_128_method_1_code 47 = .ok (.aload_n 0, 1) := by decide +kernel
theorem d15_48 : decode prog_128_method_1_code 48 = .ok (.iload_n 2, 1) := by decide +kernel
theorem d15_49 : decode prog_128_method_1_code 49 = .ok (.putfield 20, 3) := by decide +kernel
theorem d15_52 : decode prog_128_method_1_code 52 = .ok (.aload_n 0, 1) := by decide +kernel
theorem d15_53 : decode prog_128_method_1_code 53 = .ok (.iload 4, 2) := by decide +kernel
theorem d15_55 : decode prog_128_method_1_code 55 = .ok (.putfield 24, 3) := by decide +kernel
theorem d15_58 : decode prog_128_method_1_code 58 = .ok (.aload_n 0, 1) := by decide +kernel
theorem d15_59 : decode prog_128_method_1_code 59 = .ok (.iload 4, 2) := by decide +kernel
theorem d15_61 : decode prog_128_method_1_code 61 = .ok (.putfield 27, 3) := by decide +kernel
theorem d15_64 : decode prog_128_method_1_code 64 = .ok (.aload_n 0, 1) := by decide +kernel
theorem d15_65 : decode prog_128_method_1_code 65 = .ok (.iload 5, 2) := by decide +kernel
theorem d15_67 : decode prog_128_method_1_code 67 = .ok (.putfield 30, 3) := by decide +kernel
theorem d15_70 : decode prog_128_method_1_code 70 = .ok (.aload_n 0, 1) := by decide +kernel
theorem d15_71 : decode prog_128_method_1_code 71 = .ok (.iload 5, 2) := by decide +kernel
theorem d15_73 : decode prog_128_method_1_code 73 = .ok (.iload 4, 2) := by decide +kernel
theorem d15_75 : decode prog_128_method_1_code 75 = .ok (.isub, 1) := by decide +kernel
theorem d15_76 : decode prog_128_method_1_code 76 = .ok (.iconst 1, 1) := by decide +kernel
theorem d15_77 : decode prog_128_method_1_code 77 = .ok (.iadd, 1) := by decide +kernel
theorem d15_78 : decode prog_128_method_1_code 78 = .ok (.putfield 33, 3) := by decide +kernel
theorem d15_81 : decode prog_128_method_1_code 81 = .ok (.aload_n 0, 1) := by decide +kernel
theorem d15_82 : decode prog_128_method_1_code 82 = .ok (.aload_n 0, 1) := by decide +kernel
theorem d15_83 : decode prog_128_method_1_code 83 = .ok (.getfield 33, 3) := by decide +kernel
theorem d15_86 : decode prog_128_method_1_code 86 = .ok (.bipush 63, 2) := by decide +kernel
theorem d15_88 : decode prog_128_method_1_code 88 = .ok (.iadd, 1) := by decide +kernel
theorem d15_89 : decode prog_128_method_1_code 89 = .ok (.bipush 6, 2) := by decide +kernel
theorem d15_91 : decode prog_128_method_1_code 91 = .ok (.iushr, 1) := by decide +kernel
theorem d15_92 : decode prog_128_method_1_code 92 = .ok (.newarray .long, 2) := by decide +kernel
theorem d15_94 : decode prog_128_method_1_code 94 = .ok (.putfield 36, 3) := by decide +kernel
theorem d15_97 : decode prog_128_method_1_code 97 = .ok (.aload_n 0, 1) := by decide +kernel
theorem d15_98 : decode prog_128_method_1_code 98 = .ok (.aload_n 0, 1) := by decide +kernel
theorem d15_99 : decode prog_128_method_1_code 99 = .ok (.getfield 36, 3) := by decide +kernel
theorem d15_102 : decode prog_128_method_1_code 102 = .ok (.arraylength, 1) := by decide +kernel
theorem d15_103 : decode prog_128_method_1_code 103 = .ok (.newarray .long, 2) := by decide +kernel
theorem d15_105 : decode prog_128_method_1_code 105 = .ok (.putfield 40, 3) := by decide +kernel
theorem d15_108 : decode prog_128_method_1_code 108 = .ok (.iconst 0, 1) := by decide +kernel
theorem d15_109 : decode prog_128_method_1_code 109 = .ok (.istore 6, 2) := by decide +kernel
theorem d15_111 : decode prog_128_method_1_code 111 = .ok (.iload 6, 2) := by decide +kernel
theorem d15_113 : decode prog_128_method_1_code 113 = .ok (.aload_n 0, 1) := by decide +kernel
theorem d15_114 : decode prog_128_method_1_code 114 = .ok (.getfield 33, 3) := by decide +kernel
theorem d15_117 : decode prog_128_method_1_code 117 = .ok (.if_icmp .ge 48, 3) := by decide +kernel
theorem d15_120 : decode prog_128_method_1_code 120 = .ok (.aload_n 0, 1) := by decide +kernel
theorem d15_121 : decode prog_128_method_1_code 121 = .ok (.getfield 36, 3) := by decide +kernel
theorem d15_124 : decode prog_128_method_1_code 124 = .ok (.iload 6, 2) := by decide +kernel
theorem d15_126 : decode prog_128_method_1_code 126 = .ok (.bipush 6, 2) := by decide +kernel
theorem d15_128 : decode prog_128_method_1_code 128 = .ok (.iushr, 1) := by decide +kernel
theorem d15_129 : decode prog_128_method_1_code 129 = .ok (.aload_n 0, 1) := by decide +kernel
theorem d15_130 : decode prog_128_method_1_code 130 = .ok (.getfield 33, 3) := by decide +kernel
theorem d15_133 : decode prog_128_method_1_code 133 = .ok (.iload 6, 2) := by decide +kernel
theorem d15_135 : decode prog_128_method_1_code 135 = .ok (.isub, 1) := by decide +kernel
theorem d15_136 : decode prog_128_method_1_code 136 = .ok (.bipush 64, 2) := by decide +kernel
theorem d15_138 : decode prog_128_method_1_code 138 = .ok (.if_icmp .lt 9, 3) := by decide +kernel
theorem d15_141 : decode prog_128_method_1_code 141 = .ok (.ldc2_w 43, 3) := by decide +kernel
theorem d15_144 : decode prog_128_method_1_code 144 = .ok (.goto 14, 3) := by decide +kernel
theorem d15_147 : decode prog_128_method_1_code 147 = .ok (.lconst 1, 1) := by decide +kernel
theorem d15_148 : decode prog_128_method_1_code 148 = .ok (.aload_n 0, 1) := by decide +kernel
theorem d15_149 : decode prog_128_method_1_code 149 = .ok (.getfield 33, 3) := by decide +kernel
theorem d15_152 : decode prog_128_method_1_code 152 = .ok (.iload 6, 2) := by decide +kernel
theorem d15_154 : decode prog_128_method_1_code 154 = .ok (.isub, 1) := by decide +kernel
theorem d15_155 : decode prog_128_method_1_code 155 = .ok (.lshl, 1) := by decide +kernel
theorem d15_156 : decode prog_128_method_1_code 156 = .ok (.lconst 1, 1) := by decide +kernel
theorem d15_157 : decode prog_128_method_1_code 157 = .ok (.lsub, 1) := by decide +kernel
theorem d15_158 : decode prog_128_method_1_code 158 = .ok (.lastore, 1) := by decide +kernel
theorem d15_159 : decode prog_128_method_1_code 159 = .ok (.iinc 6 64, 3) := by decide +kernel
theorem d15_162 : decode prog_128_method_1_code 162 = .ok (.goto (-51), 3) := by decide +kernel
theorem d15_165 : decode prog_128_method_1_code 165 = .ok (.return_, 1) := by decide +kernel
theorem pn_15 : plainName "com/example/violarc/violarc/solver/IntVar" = true := by first | (simp [plainName, overriddenIn]; done) | decide +kernel
theorem d16_0 : decode prog_154_method_1_code 0 = .ok (.aload_n 0, 1) := by decide +kernel
theorem d16_1 : decode prog_154_method_1_code 1 = .ok (.invokespecial 1, 3) := by decide +kernel
theorem d16_4 : decode prog_154_method_1_code 4 = .ok (.aload_n 0, 1) := by decide +kernel
theorem d16_5 : decode prog_154_method_1_code 5 = .ok (.iconst 0, 1) := by decide +kernel
theorem d16_6 : decode prog_154_method_1_code 6 = .ok (.anewarray 7, 3) := by decide +kernel
theorem d16_9 : decode prog_154_method_1_code 9 = .ok (.putfield 9, 3) := by decide +kernel
theorem d16_12 : decode prog_154_method_1_code 12 = .ok (.aload_n 0, 1) := by decide +kernel
theorem d16_13 : decode prog_154_method_1_code 13 = .ok (.iconst 0, 1) := by decide +kernel
theorem d16_14 : decode prog_154_method_1_code 14 = .ok (.newarray .int, 2) := by decide +kernel
theorem d16_16 : decode prog_154_method_1_code 16 = .ok (.putfield 15, 3) := by decide +kernel
theorem d16_19 : decode prog_154_method_1_code 19 = .ok (.aload_n 2, 1) := by decide +kernel
theorem d16_20 : decode prog_154_method_1_code 20 = .ok (.ifnonnull 11, 3) := by decide +kernel
theorem d16_23 : decode prog_154_method_1_code 23 = .ok (.new 19, 3) := by decide +kernel
theorem d16_26 : decode prog_154_method_1_code 26 = .ok (.dup, 1) := by decide +kernel
theorem d16_27 : decode prog_154_method_1_code 27 = .ok (.invokespecial 21, 3) := by decide +kernel
theorem d16_30 : decode prog_154_method_1_code 30 = .ok (.athrow, 1) := by decide +kernel
theorem d16_31 : decode prog_154_method_1_code 31 = .ok (.aload_n 0, 1) := by decide +kernel
theorem d16_32 : decode prog_154_method_1_code 32 = .ok (.aload_n 1, 1) := by decide +kernel
theorem d16_33 : decode prog_154_method_1_code 33 = .ok (.putfield 22, 3) := by decide +kernel
theorem d16_36 : decode prog_154_method_1_code 36 = .ok (.aload_n 0, 1) := by decide +kernel
theorem d16_37 : decode prog_154_method_1_code 37 = .ok (.aload_n 2, 1) := by decide +kernel
theorem d16_38 : decode prog_154_method_1_code 38 = .ok (.putfield 26, 3) := by decide +kernel
theorem d16_41 : decode prog_154_method_1_code 41 = .ok (.return_, 1) := by decide +kernel
theorem pn_16 : plainName "com/example/violarc/violarc/solver/Variable" = true := by first | (simp [plainName, overriddenIn]; done) | decide +kernel
theorem d17_0 : decode prog_147_method_1_code 0 = .ok (.aload_n 0, 1) := by decide +kernel
theorem d17_1 : decode prog_147_method_1_code 1 = .ok (.invokespecial 1, 3) := by decide +kernel
theorem d17_4 : decode prog_147_method_1_code 4 = .ok (.return_, 1) := by decide +kernel
theorem pn_17 : plainName "com/example/violarc/violarc/solver/Trailed" = true := by first | (simp [plainName, overriddenIn]; done) | decide +kernel
theorem d18_0 : decode prog_128_method_16_code 0 = .ok (.iload_n 1, 1) := by decide +kernel
theorem d18_1 : decode prog_128_method_16_code 1 = .ok (.iconst (-1), 1) := by decide +kernel
theorem d18_2 : decode prog_128_method_16_code 2 = .ok (.if_icmp .ne 28, 3) := by decide +kernel
theorem d18_5 : decode prog_128_method_16_code 5 = .ok (.aload_n 0, 1) := by decide +kernel
theorem d18_6 : decode prog_128_method_16_code 6 = .ok (.lload_n 2, 1) := by decide +kernel
theorem d18_7 : decode prog_128_method_16_code 7 = .ok (.bipush 32, 2) := by decide +kernel
theorem d18_9 : decode prog_128_method_16_code 9 = .ok (.lshr, 1) := by decide +kernel
theorem d18_10 : decode prog_128_method_16_code 10 = .ok (.l2i, 1) := by decide +kernel
theorem d18_11 : decode prog_128_method_16_code 11 = .ok (.putfield 27, 3) := by decide +kernel
theorem d18_14 : decode prog_128_method_16_code 14 = .ok (.aload_n 0, 1) := by decide +kernel
theorem d18_15 : decode prog_128_method_16_code 15 = .ok (.lload_n 2, 1) := by decide +kernel
theorem d18_16 : decode prog_128_method_16_code 16 = .ok (.l2i, 1) := by decide +kernel
theorem d18_17 : decode prog_128_method_16_code 17 = .ok (.putfield 30, 3) := by decide +kernel
theorem d18_20 : decode prog_128_method_16_code 20 = .ok (.aload_n 0, 1) := by decide +kernel
theorem d18_21 : decode prog_128_method_16_code 21 = .ok (.lload 4, 2) := by decide +kernel
theorem d18_23 : decode prog_128_method_16_code 23 = .ok (.l2i, 1) := by decide +kernel
theorem d18_24 : decode prog_128_method_16_code 24 = .ok (.putfield 33, 3) := by decide +kernel
theorem d18_27 : decode prog_128_method_16_code 27 = .ok (.goto 10, 3) := by decide +kernel
theorem d18_30 : decode prog_128_method_16_code 30 = .ok (.aload_n 0, 1) := by decide +kernel
theorem d18_31 : decode prog_128_method_16_code 31 = .ok (.getfield 36, 3) := by decide +kernel
theorem d18_34 : decode prog_128_method_16_code 34 = .ok (.iload_n 1, 1) := by decide +kernel
theorem d18_35 : decode prog_128_method_16_code 35 = .ok (.lload_n 2, 1) := by decide +kernel
theorem d18_36 : decode prog_128_method_16_code 36 = .ok (.lastore, 1) := by decide +kernel
theorem d18_37 : decode prog_128_method_16_code 37 = .ok (.return_, 1) := by decide +kernel
theorem pn_18 : plainName "com/example/violarc/violarc/solver/IntVar" = true := by first | (simp [plainName, overriddenIn]; done) | decide +kernel
theorem d19_0 : decode prog_128_method_5_code 0 = .ok (.aload_n 0, 1) := by decide +kernel
theorem d19_1 : decode prog_128_method_5_code 1 = .ok (.getfield 33, 3) := by decide +kernel
theorem d19_4 : decode prog_128_method_5_code 4 = .ok (.ireturn, 1) := by decide +kernel
theorem pn_19 : plainName "com/example/violarc/violarc/solver/IntVar" = true := by first | (simp [plainName, overriddenIn]; done) | decide +kernel
theorem d20_0 : decode prog_128_method_10_code 0 = .ok (.iload_n 1, 1) := by decide +kernel
theorem d20_1 : decode prog_128_method_10_code 1 = .ok (.aload_n 0, 1) := by decide +kernel
theorem d20_2 : decode prog_128_method_10_code 2 = .ok (.getfield 27, 3) := by decide +kernel
theorem d20_5 : decode prog_128_method_10_code 5 = .ok (.if_icmp .lt 11, 3) := by decide +kernel
theorem d20_8 : decode prog_128_method_10_code 8 = .ok (.iload_n 1, 1) := by decide +kernel
theorem d20_9 : decode prog_128_method_10_code 9 = .ok (.aload_n 0, 1) := by decide +kernel
theorem d20_10 : decode prog_128_method_10_code 10 = .ok (.getfield 30, 3) := by decide +kernel
theorem d20_13 : decode prog_128_method_10_code 13 = .ok (.if_icmp .le 5, 3) := by decide +kernel
theorem d20_16 : decode prog_128_method_10_code 16 = .ok (.iconst 0, 1) := by decide +kernel
theorem d20_17 : decode prog_128_method_10_code 17 = .ok (.ireturn, 1) := by decide +kernel
theorem d20_18 : decode prog_128_method_10_code 18 = .ok (.iload_n 1, 1) := by decide +kernel
theorem d20_19 : decode prog_128_method_10_code 19 = .ok (.aload_n 0, 1) := by decide +kernel
theorem d20_20 : decode prog_128_method_10_code 20 = .ok (.getfield 24, 3) := by decide +kernel
theorem d20_23 : decode prog_128_method_10_code 23 = .ok (.isub, 1) := by decide +kernel
theorem d20_24 : decode prog_128_method_10_code 24 = .ok (.istore_n 2, 1) := by decide +kernel
theorem d20_25 : decode prog_128_method_10_code 25 = .ok (.aload_n 0, 1) := by decide +kernel
theorem d20_26 : decode prog_128_method_10_code 26 = .ok (.getfield 36, 3) := by decide +kernel
theorem d20_29 : decode prog_128_method_10_code 29 = .ok (.iload_n 2, 1) := by decide +kernel
theorem d20_30 : decode prog_128_method_10_code 30 = .ok (.bipush 6, 2) := by decide +kernel
theorem d20_32 : decode prog_128_method_10_code 32 = .ok (.iushr, 1) := by decide +kernel
theorem d20_33 : decode prog_128_method_10_code 33 = .ok (.laload, 1) := by decide +kernel
theorem d20_34 : decode prog_128_method_10_code 34 = .ok (.lconst 1, 1) := by decide +kernel
theorem d20_35 : decode prog_128_method_10_code 35 = .ok (.iload_n 2, 1) := by decide +kernel
theorem d20_36 : decode prog_128_method_10_code 36 = .ok (.lshl, 1) := by decide +kernel
theorem d20_37 : decode prog_128_method_10_code 37 = .ok (.land, 1) := by decide +kernel
theorem d20_38 : decode prog_128_method_10_code 38 = .ok (.lconst 0, 1) := by decide +kernel
theorem d20_39 : decode prog_128_method_10_code 39 = .ok (.lcmp, 1) := by decide +kernel
theorem d20_40 : decode prog_128_method_10_code 40 = .ok (.ifCond .eq 7, 3) := by decide +kernel
theorem d20_43 : decode prog_128_method_10_code 43 = .ok (.iconst 1, 1) := by decide +kernel
theorem d20_44 : decode prog_128_method_10_code 44 = .ok (.goto 4, 3) := by decide +kernel
theorem d20_47 : decode prog_128_method_10_code 47 = .ok (.iconst 0, 1) := by decide +kernel
theorem d20_48 : decode prog_128_method_10_code 48 = .ok (.ireturn, 1) := by decide +kernel
theorem pn_20 : plainName "com/example/violarc/violarc/solver/IntVar" = true := by first | (simp [plainName, overriddenIn]; done) | decide +kernel
theorem d21_0 : decode prog_128_method_3_code 0 = .ok (.aload_n 0, 1) := by decide +kernel
theorem d21_1 : decode prog_128_method_3_code 1 = .ok (.getfield 27, 3) := by decide +kernel
theorem d21_4 : decode prog_128_method_3_code 4 = .ok (.ireturn, 1) := by decide +kernel
theorem pn_21 : plainName "com/example/violarc/violarc/solver/IntVar" = true := by first | (simp [plainName, overriddenIn]; done) | decide +kernel
theorem d22_0 : decode prog_128_method_4_code 0 = .ok (.aload_n 0, 1) := by decide +kernel
theorem d22_1 : decode prog_128_method_4_code 1 = .ok (.getfield 30, 3) := by decide +kernel
theorem d22_4 : decode prog_128_method_4_code 4 = .ok (.ireturn, 1) := by decide +kernel
theorem pn_22 : plainName "com/example/violarc/violarc/solver/IntVar" = true := by first | (simp [plainName, overriddenIn]; done) | decide +kernel
theorem pd_0 : parseMethodDescriptor "()V" = some ⟨[], none⟩ := by decide +kernel
theorem la_0 {Z : State} {a0 : Array Value} (hw : ∀ d ∈ tables_1, d.before a0 Z = true) : Laid Z a0 "java/util/ArrayList" "java/util/ArrayList" "elementData" "[Ljava/lang/Object;" := (Or.inl (hw _ (im 62 rfl)))
theorem la_1 {Z : State} {a0 : Array Value} (hw : ∀ d ∈ tables_1, d.before a0 Z = true) : Laid Z a0 "java/util/ArrayList" "java/util/AbstractList" "modCount" "I" := (Or.inl (hw _ (im 59 rfl)))
theorem la_2 {Z : State} {a0 : Array Value} (hw : ∀ d ∈ tables_1, d.before a0 Z = true) : Laid Z a0 "java/util/ArrayList" "java/util/ArrayList" "size" "I" := (Or.inl (hw _ (im 115 rfl)))
theorem la_3 {Z : State} {a0 : Array Value} (hw : ∀ d ∈ tables_1, d.before a0 Z = true) : Laid Z a0 "com/example/violarc/violarc/solver/Trail" "com/example/violarc/violarc/solver/Trail" "slots" "[I" := (Or.inl (hw _ (im 27 rfl)))
theorem la_4 {Z : State} {a0 : Array Value} (hw : ∀ d ∈ tables_1, d.before a0 Z = true) : Laid Z a0 "com/example/violarc/violarc/solver/Trail" "com/example/violarc/violarc/solver/Trail" "owners" "[Lcom/example/violarc/violarc/solver/Trailed;" := (Or.inl (hw _ (im 24 rfl)))
theorem la_5 {Z : State} {a0 : Array Value} (hw : ∀ d ∈ tables_1, d.before a0 Z = true) : Laid Z a0 "com/example/violarc/violarc/solver/Trail" "com/example/violarc/violarc/solver/Trail" "firsts" "[J" := (Or.inl (hw _ (im 30 rfl)))
theorem la_6 {Z : State} {a0 : Array Value} (hw : ∀ d ∈ tables_1, d.before a0 Z = true) : Laid Z a0 "com/example/violarc/violarc/solver/Trail" "com/example/violarc/violarc/solver/Trail" "seconds" "[J" := (Or.inl (hw _ (im 32 rfl)))
theorem la_7 {Z : State} {a0 : Array Value} (hw : ∀ d ∈ tables_1, d.before a0 Z = true) : Laid Z a0 "com/example/violarc/violarc/solver/Trail" "com/example/violarc/violarc/solver/Trail" "marks" "[I" := (Or.inl (hw _ (im 34 rfl)))
theorem la_8 {Z : State} {a0 : Array Value} (hw : ∀ d ∈ tables_1, d.before a0 Z = true) : Laid Z a0 "com/example/violarc/violarc/solver/Trail" "com/example/violarc/violarc/solver/Trail" "stamps" "[J" := (Or.inl (hw _ (im 36 rfl)))
theorem pd_1 : parseMethodDescriptor "(II)I" = some ⟨[.int, .int], some .int⟩ := by decide +kernel
theorem pd_2 : parseMethodDescriptor "(I)[Ljava/lang/Object;" = some ⟨[.int], some (.array (.object "java/lang/Object"))⟩ := by decide +kernel
theorem pd_3 : parseMethodDescriptor "()[Ljava/lang/Object;" = some ⟨[], some (.array (.object "java/lang/Object"))⟩ := by decide +kernel
theorem pd_4 : parseMethodDescriptor "(Ljava/lang/Object;[Ljava/lang/Object;I)V" = some ⟨[(.object "java/lang/Object"), (.array (.object "java/lang/Object")), .int], none⟩ := by decide +kernel
theorem la_9 {Z : State} {a0 : Array Value} (hw : ∀ d ∈ tables_1, d.before a0 Z = true) : Laid Z a0 "com/example/violarc/violarc/solver/Solver" "com/example/violarc/violarc/solver/Solver" "intVars" "Ljava/util/List;" := (Or.inr (hw _ (im 64 rfl)))
theorem la_10 {Z : State} {a0 : Array Value} (hw : ∀ d ∈ tables_1, d.before a0 Z = true) : Laid Z a0 "com/example/violarc/violarc/solver/Solver" "com/example/violarc/violarc/solver/Solver" "trail" "Lcom/example/violarc/violarc/solver/Trail;" := (Or.inr (hw _ (im 38 rfl)))
theorem la_11 {Z : State} {a0 : Array Value} (hw : ∀ d ∈ tables_1, d.before a0 Z = true) : Laid Z a0 "com/example/violarc/violarc/solver/Solver" "com/example/violarc/violarc/solver/Solver" "intervalVars" "Ljava/util/List;" := (Or.inr (hw _ (im 66 rfl)))
theorem la_12 {Z : State} {a0 : Array Value} (hw : ∀ d ∈ tables_1, d.before a0 Z = true) : Laid Z a0 "com/example/violarc/violarc/solver/Solver" "com/example/violarc/violarc/solver/Solver" "queues" "Ljava/util/List;" := (Or.inr (hw _ (im 68 rfl)))
theorem la_13 {Z : State} {a0 : Array Value} (hw : ∀ d ∈ tables_1, d.before a0 Z = true) : Laid Z a0 "com/example/violarc/violarc/solver/Solver" "com/example/violarc/violarc/solver/Solver" "budget" "J" := (Or.inl (hw _ (im 71 rfl)))
theorem pd_5 : parseMethodDescriptor "()[Lcom/example/violarc/violarc/solver/Propagator$Priority;" = some ⟨[], some (.array (.object "com/example/violarc/violarc/solver/Propagator$Priority"))⟩ := by decide +kernel
theorem pd_6 : parseMethodDescriptor "(Ljava/lang/Object;)Z" = some ⟨[(.object "java/lang/Object")], some .boolean⟩ := by decide +kernel
theorem la_14 {Z : State} {a0 : Array Value} (hw : ∀ d ∈ tables_1, d.before a0 Z = true) : Laid Z a0 "com/example/violarc/violarc/solver/IntVar" "com/example/violarc/violarc/solver/Variable" "masks" "[I" := (Or.inl (hw _ (im 166 rfl)))
theorem la_15 {Z : State} {a0 : Array Value} (hw : ∀ d ∈ tables_1, d.before a0 Z = true) : Laid Z a0 "com/example/violarc/violarc/solver/IntVar" "com/example/violarc/violarc/solver/Variable" "watchers" "[Lcom/example/violarc/violarc/solver/Propagator;" := (Or.inl (hw _ (im 164 rfl)))
theorem la_16 {Z : State} {a0 : Array Value} (hw : ∀ d ∈ tables_1, d.before a0 Z = true) : Laid Z a0 "com/example/violarc/violarc/solver/IntVar" "com/example/violarc/violarc/solver/Variable" "solver" "Lcom/example/violarc/violarc/solver/Solver;" := (Or.inr (hw _ (im 168 rfl)))
theorem la_17 {Z : State} {a0 : Array Value} (hw : ∀ d ∈ tables_1, d.before a0 Z = true) : Laid Z a0 "com/example/violarc/violarc/solver/IntVar" "com/example/violarc/violarc/solver/Variable" "name" "Ljava/lang/String;" := (Or.inr (hw _ (im 170 rfl)))
theorem la_18 {Z : State} {a0 : Array Value} (hw : ∀ d ∈ tables_1, d.before a0 Z = true) : Laid Z a0 "com/example/violarc/violarc/solver/IntVar" "com/example/violarc/violarc/solver/IntVar" "index" "I" := (Or.inr (hw _ (im 173 rfl)))
theorem la_19 {Z : State} {a0 : Array Value} (hw : ∀ d ∈ tables_1, d.before a0 Z = true) : Laid Z a0 "com/example/violarc/violarc/solver/IntVar" "com/example/violarc/violarc/solver/IntVar" "offset" "I" := (Or.inr (hw _ (im 175 rfl)))
theorem la_20 {Z : State} {a0 : Array Value} (hw : ∀ d ∈ tables_1, d.before a0 Z = true) : Laid Z a0 "com/example/violarc/violarc/solver/IntVar" "com/example/violarc/violarc/solver/IntVar" "min" "I" := (Or.inl (hw _ (im 177 rfl)))
theorem la_21 {Z : State} {a0 : Array Value} (hw : ∀ d ∈ tables_1, d.before a0 Z = true) : Laid Z a0 "com/example/violarc/violarc/solver/IntVar" "com/example/violarc/violarc/solver/IntVar" "max" "I" := (Or.inl (hw _ (im 179 rfl)))
theorem la_22 {Z : State} {a0 : Array Value} (hw : ∀ d ∈ tables_1, d.before a0 Z = true) : Laid Z a0 "com/example/violarc/violarc/solver/IntVar" "com/example/violarc/violarc/solver/IntVar" "size" "I" := (Or.inl (hw _ (im 181 rfl)))
theorem la_23 {Z : State} {a0 : Array Value} (hw : ∀ d ∈ tables_1, d.before a0 Z = true) : Laid Z a0 "com/example/violarc/violarc/solver/IntVar" "com/example/violarc/violarc/solver/IntVar" "words" "[J" := (Or.inr (hw _ (im 183 rfl)))
theorem la_24 {Z : State} {a0 : Array Value} (hw : ∀ d ∈ tables_1, d.before a0 Z = true) : Laid Z a0 "com/example/violarc/violarc/solver/IntVar" "com/example/violarc/violarc/solver/IntVar" "wordStamps" "[J" := (Or.inr (hw _ (im 185 rfl)))
theorem pd_7 : parseMethodDescriptor "(Lcom/example/violarc/violarc/solver/Solver;Ljava/lang/String;)V" = some ⟨[(.object "com/example/violarc/violarc/solver/Solver"), (.object "java/lang/String")], none⟩ := by decide +kernel
theorem pd_8 : parseMethodDescriptor "(Lcom/example/violarc/violarc/solver/Solver;ILjava/lang/String;II)V" = some ⟨[(.object "com/example/violarc/violarc/solver/Solver"), .int, (.object "java/lang/String"), .int, .int], none⟩ := by decide +kernel
theorem pd_9 : parseMethodDescriptor "(IJJ)V" = some ⟨[.int, .long, .long], none⟩ := by decide +kernel
theorem pd_10 : parseMethodDescriptor "()I" = some ⟨[], some .int⟩ := by decide +kernel
theorem pd_11 : parseMethodDescriptor "(I)Z" = some ⟨[.int], some .boolean⟩ := by decide +kernel
theorem own_atoms {Z : State} {a0 : Array Value} (hw : ∀ d ∈ tables_1, d.before a0 Z = true) : ∀ a ∈ Bundle.stringAtoms, a.before a0 Z = true := fun a ha => hw a ((by decide +kernel : ∀ a ∈ Bundle.stringAtoms, a ∈ tables_1) a ha)
theorem own_hi (a b : Int32) : (((((a.toInt64) <<< ((32 : Int32) &&& 0x3f).toInt64) ||| ((b.toInt64) &&& (4294967295 : Int64))) >>> ((32 : Int32) &&& 0x3f).toInt64).toInt32) = a := by
  apply Int32.toBitVec_inj.mp
  have r : (((((a.toInt64) <<< ((32 : Int32) &&& 0x3f).toInt64) ||| ((b.toInt64) &&& (4294967295 : Int64))) >>> ((32 : Int32) &&& 0x3f).toInt64).toInt32).toBitVec = ((((a.toBitVec.signExtend 64) <<< 32) ||| ((b.toBitVec.signExtend 64) &&& 4294967295#64)).sshiftRight 32).signExtend 32 := rfl
  rw [r]
  generalize a.toBitVec = x
  generalize b.toBitVec = y
  apply BitVec.eq_of_getLsbD_eq
  intro i hi
  have h1 : i < 64 := by omega
  have h2 : ¬ 64 ≤ i := by omega
  have h3 : 32 + i < 64 := by omega
  have h4 : ¬ (32 + i < 32) := by omega
  have h5 : 32 + i - 32 = i := by omega
  have h6 : (4294967295#64).getLsbD (32 + i) = false := by
    have : (4294967295#64) = (4294967295#32).setWidth 64 := by decide
    rw [this, BitVec.getLsbD_setWidth, BitVec.getLsbD_of_ge _ _ (by omega)]; simp
  simp only [BitVec.getLsbD_signExtend, BitVec.getLsbD_sshiftRight, BitVec.getLsbD_or, BitVec.getLsbD_and, BitVec.getLsbD_shiftLeft, h1, h2, h3, h4, h5, h6, hi, decide_true, decide_false, Bool.not_false, Bool.true_and, if_true, Bool.and_false, Bool.or_false, Bool.not_true]
theorem own_low (a b : Int32) : ((((a.toInt64) <<< ((32 : Int32) &&& 0x3f).toInt64) ||| ((b.toInt64) &&& (4294967295 : Int64))).toInt32) = b := by
  apply Int32.toBitVec_inj.mp
  have r : ((((a.toInt64) <<< ((32 : Int32) &&& 0x3f).toInt64) ||| ((b.toInt64) &&& (4294967295 : Int64))).toInt32).toBitVec = (((a.toBitVec.signExtend 64) <<< 32) ||| ((b.toBitVec.signExtend 64) &&& 4294967295#64)).signExtend 32 := rfl
  rw [r]
  generalize a.toBitVec = x
  generalize b.toBitVec = y
  apply BitVec.eq_of_getLsbD_eq
  intro i hi
  have h1 : i < 64 := by omega
  have h6 : (4294967295#64).getLsbD i = true := by
    have : (4294967295#64) = (BitVec.allOnes 32).setWidth 64 := by decide
    rw [this, BitVec.getLsbD_setWidth, BitVec.getLsbD_allOnes]; simp [h1, hi]
  simp only [BitVec.getLsbD_signExtend, BitVec.getLsbD_or, BitVec.getLsbD_and, BitVec.getLsbD_shiftLeft, h1, h6, hi, decide_true, Bool.not_true, Bool.and_false, Bool.false_and, Bool.false_or, Bool.and_true, if_true, Bool.true_and]
theorem own_b1 (w : BitVec 64) (k : Nat) (hk : k < 64) : (w &&& (1#64 <<< k) = 0#64) ↔ w.getLsbD k = false := by
  constructor
  · intro h
    have q := congrArg (fun z => z.getLsbD k) h
    simpa [BitVec.getLsbD_and, BitVec.getLsbD_shiftLeft, hk] using q
  · intro h
    apply BitVec.eq_of_getLsbD_eq
    intro i hi
    simp only [BitVec.getLsbD_and, BitVec.getLsbD_shiftLeft, BitVec.getLsbD_zero]
    by_cases e : i = k
    · subst e; simp [h]
    · by_cases l : i < k
      · simp [l]
      · have : i - k ≠ 0 := by omega
        have q : (1#64).getLsbD (i - k) = false := by
          simp [BitVec.getLsbD_one, this]
        rw [q]; simp
theorem own_b2 (w : BitVec 64) (k : Nat) : ((w >>> k) &&& 1#64 = 0#64) ↔ w.getLsbD k = false := by
  have h := own_b1 (w >>> k) 0 (by decide)
  rw [show (1#64 <<< 0) = 1#64 from by decide] at h
  rw [h]; simp
theorem own_bit (x : Int32) : (x &&& (1 : Int32)) = (0 : Int32) ∨ (x &&& (1 : Int32)) = (1 : Int32) := and_one x
theorem own_lob {p lo : Int32} (hlo : lo = (if (2147483520 : Int32) < p then (2147483520 : Int32) else p)) : lo.toInt ≤ 2147483520 := by
  have k1 : (2147483520 : Int32).toInt = 2147483520 := by decide
  rw [hlo]
  by_cases h : (2147483520 : Int32) < p
  · rw [if_pos h, k1]; omega
  · rw [if_neg h]
    rw [Int32.lt_iff_toInt_lt, k1] at h
    omega
theorem own_lo (lo : Int32) (h : lo.toInt ≤ 2147483520) : ¬ ((lo + (127 : Int32)) < lo) ∧ ¬ ((16777216 : Int64) < ((((lo + (127 : Int32)).toInt64) - (lo.toInt64)) + (1 : Int64))) ∧ (((lo + (127 : Int32)) - lo) + (1 : Int32)) = (128 : Int32) := by
  have k1 : (127 : Int32).toInt = 127 := by decide
  have k2 : (16777216 : Int64).toInt = 16777216 := by decide
  have k3 : (1 : Int64).toInt = 1 := by decide
  have k4 : (1 : Int32).toInt = 1 := by decide
  have k5 : (128 : Int32).toInt = 128 := by decide
  have c1 := c_iadd lo 127
  have c2 := c_lsub ((lo + (127 : Int32)).toInt64) (lo.toInt64)
  have c3 := c_ladd (((lo + (127 : Int32)).toInt64) - (lo.toInt64)) 1
  have c4 := c_isub (lo + 127) lo
  have c5 := c_iadd ((lo + 127) - lo) 1
  have r0 := rng32 lo
  have r1 := rng32 (lo + 127)
  have r2 := rng64 (((lo + (127 : Int32)).toInt64) - (lo.toInt64))
  have r3 := rng64 ((((lo + (127 : Int32)).toInt64) - (lo.toInt64)) + (1 : Int64))
  have r4 := rng32 ((lo + 127) - lo)
  have r5 := rng32 (((lo + 127) - lo) + 1)
  rw [k1] at c1
  rw [c_i2l, c_i2l] at c2
  rw [k3] at c3
  rw [k4] at c5
  have e1 : (lo + 127).toInt = lo.toInt + 127 := by omega
  refine ⟨?_, ?_, ?_⟩
  · rw [Int32.lt_iff_toInt_lt]; omega
  · rw [Int64.lt_iff_toInt_lt, k2]; omega
  · apply Int32.toInt_inj.mp
    rw [k5]; omega
theorem own_k (s : Int32) : 0 ≤ ((((s.toUInt32 >>> ((1 : Int32) &&& 31).toUInt32).toInt32) &&& (63 : Int32))).toInt ∧ ((((s.toUInt32 >>> ((1 : Int32) &&& 31).toUInt32).toInt32) &&& (63 : Int32))).toInt ≤ 63 := by
  have h := c_mask ((s.toUInt32 >>> ((1 : Int32) &&& 31).toUInt32).toInt32) 63 6 (by decide) (by decide)
  rw [h]; omega
theorem own_inc (lo k c : Int32) (d j : Int) (h : lo.toInt ≤ 2147483520) (hk : 0 ≤ k.toInt ∧ k.toInt ≤ 63) (hc : c.toInt = d) (hd : (d = 0 ∧ j = 0) ∨ (d = 64 ∧ j = 1)) {J : Int32} (hJ : J.toInt = j) :
    ¬ (((lo + c) + k) < lo) ∧ ¬ ((lo + (127 : Int32)) < ((lo + c) + k)) ∧ (((((lo + c) + k) - lo).toUInt32 >>> ((6 : Int32) &&& 31).toUInt32).toInt32) = J ∧ ((((lo + c) + k) - lo) &&& 0x3f) = k := by
  have k1 : (127 : Int32).toInt = 127 := by decide
  have c1 := c_iadd lo 127
  have c2 := c_iadd lo c
  have c3 := c_iadd (lo + c) k
  have c4 := c_isub ((lo + c) + k) lo
  have r0 := rng32 lo
  have r1 := rng32 (lo + 127)
  have r2 := rng32 (lo + c)
  have r3 := rng32 ((lo + c) + k)
  have r4 := rng32 (((lo + c) + k) - lo)
  rw [k1] at c1
  have e1 : (lo + 127).toInt = lo.toInt + 127 := by omega
  have e2 : (lo + c).toInt = lo.toInt + d := by omega
  have e3 : ((lo + c) + k).toInt = lo.toInt + d + k.toInt := by omega
  have e4 : (((lo + c) + k) - lo).toInt = d + k.toInt := by omega
  refine ⟨?_, ?_, ?_, ?_⟩
  · rw [Int32.lt_iff_toInt_lt]; omega
  · rw [Int32.lt_iff_toInt_lt]; omega
  · apply Int32.toInt_inj.mp
    rw [c_iushr _ 6 6 (by decide) (by decide), hJ, e4]
    omega
  · apply Int32.toInt_inj.mp
    have q := c_mask (((lo + c) + k) - lo) 63 6 (by decide) (by decide)
    have q' : ((((lo + c) + k) - lo) &&& 0x3f).toInt = (((lo + c) + k) - lo).toInt % ((2 ^ 6 : Nat) : Int) := q
    rw [q', e4]; omega
theorem own_in0 (lo k : Int32) (h : lo.toInt ≤ 2147483520) (hk : 0 ≤ k.toInt ∧ k.toInt ≤ 63) : ¬ (((lo + (0 : Int32)) + k) < lo) ∧ ¬ ((lo + (127 : Int32)) < ((lo + (0 : Int32)) + k)) ∧ (((((lo + (0 : Int32)) + k) - lo).toUInt32 >>> ((6 : Int32) &&& 31).toUInt32).toInt32) = (0 : Int32) ∧ ((((lo + (0 : Int32)) + k) - lo) &&& 0x3f) = k :=
  own_inc lo k 0 0 0 h hk (by decide) (Or.inl ⟨rfl, rfl⟩) (by decide)
theorem own_in1 (lo k : Int32) (h : lo.toInt ≤ 2147483520) (hk : 0 ≤ k.toInt ∧ k.toInt ≤ 63) : ¬ (((lo + (64 : Int32)) + k) < lo) ∧ ¬ ((lo + (127 : Int32)) < ((lo + (64 : Int32)) + k)) ∧ (((((lo + (64 : Int32)) + k) - lo).toUInt32 >>> ((6 : Int32) &&& 31).toUInt32).toInt32) = (1 : Int32) ∧ ((((lo + (64 : Int32)) + k) - lo) &&& 0x3f) = k :=
  own_inc lo k 64 64 1 h hk (by decide) (Or.inr ⟨rfl, rfl⟩) (by decide)
theorem own_sh (k : Int32) (hk : 0 ≤ k.toInt ∧ k.toInt ≤ 63) : ∃ n : Nat, n < 64 ∧ k.toBitVec.toNat = n ∧ k.toInt64.toBitVec = BitVec.ofNat 64 n := by
  refine ⟨k.toInt.toNat, by omega, ?_, ?_⟩
  · have := k.toBitVec.toInt_eq_toNat_bmod
    have e : k.toInt = k.toBitVec.toInt := rfl
    have l := k.toBitVec.isLt
    rw [e] at hk ⊢
    rw [BitVec.toInt_eq_toNat_cond] at hk ⊢
    split at hk <;> omega
  · apply BitVec.eq_of_toInt_eq
    have e : k.toInt64.toBitVec.toInt = k.toInt := Int32.toInt_toInt64 k
    rw [e, BitVec.toInt_eq_toNat_cond, BitVec.toNat_ofNat]
    have w : k.toInt.toNat % 2 ^ 64 = k.toInt.toNat := Nat.mod_eq_of_lt (by omega)
    rw [w]
    split <;> omega
theorem own_and63 (k : Int32) (hk : 0 ≤ k.toInt ∧ k.toInt ≤ 63) : (k &&& 0x3f) = k := by
  apply Int32.toInt_inj.mp
  have q := c_mask k 63 6 (by decide) (by decide)
  have q' : (k &&& 0x3f).toInt = k.toInt % ((2 ^ 6 : Nat) : Int) := q
  rw [q']; omega
theorem own_one (k : Int32) (n : Nat) (hn : n < 64) (e : k.toInt64.toBitVec = BitVec.ofNat 64 n) : ((1 : Int64) <<< k.toInt64).toBitVec = 1#64 <<< n := by
  show (1#64 <<< (k.toInt64.toBitVec.smod 64)) = _
  rw [e, BitVec.shiftLeft_eq', smod64 n hn]
theorem own_wk (w : Int64) (k : Int32) (n : Nat) (hn : n < 64) (e : k.toInt64.toBitVec = BitVec.ofNat 64 n) : ((w.toUInt64 >>> k.toInt64.toUInt64).toInt64).toBitVec = w.toBitVec >>> n := by
  show w.toBitVec >>> (k.toInt64.toBitVec % 64) = _
  have h : (k.toInt64.toBitVec % 64).toNat = n := by
    rw [e]
    show (BitVec.ofNat 64 n % 64#64).toNat = n
    simp; omega
  rw [BitVec.ushiftRight_eq', h]
theorem own_i64z (x : Int64) : x = 0 ↔ x.toBitVec = 0#64 := by
  constructor
  · intro h; rw [h]; rfl
  · intro h; exact Int64.toBitVec_inj.mp h
theorem own_set (w : Int64) (d k : Int32) (hk : 0 ≤ k.toInt ∧ k.toInt ≤ 63) (e : (d &&& 0x3f) = k) {b : Int32} (hv : b = (if (((w.toUInt64 >>> (k &&& 0x3f).toInt64.toUInt64).toInt64) &&& (1 : Int64)) = (0 : Int64) then (0 : Int32) else (1 : Int32))) :
    (if (¬ ((w &&& ((1 : Int64) <<< (d &&& 0x3f).toInt64)) = (0 : Int64))) then (1 : Int32) else (0 : Int32)) = b := by
  obtain ⟨n, hn, -, hb⟩ := own_sh k hk
  rw [hv, e, own_and63 k hk]
  have h1 : ((w &&& ((1 : Int64) <<< k.toInt64)) = (0 : Int64)) ↔ w.toBitVec.getLsbD n = false := by
    rw [own_i64z, Int64.toBitVec_and, own_one k n hn hb, own_b1 _ n hn]
  have h2 : ((((w.toUInt64 >>> k.toInt64.toUInt64).toInt64) &&& (1 : Int64)) = (0 : Int64)) ↔ w.toBitVec.getLsbD n = false := by
    rw [own_i64z, Int64.toBitVec_and, own_wk w k n hn hb]
    exact own_b2 _ n
  by_cases q : w.toBitVec.getLsbD n = false
  · rw [if_neg (fun z => z (h1.mpr q)), if_pos (h2.mpr q)]
  · rw [if_pos (fun z => q (h1.mp z)), if_neg (fun z => q (h2.mp z))]
theorem own_all (d k : Int32) (hk : 0 ≤ k.toInt ∧ k.toInt ≤ 63) (e : (d &&& 0x3f) = k) : (¬ (((-1 : Int64) &&& ((1 : Int64) <<< (d &&& 0x3f).toInt64)) = (0 : Int64))) := by
  obtain ⟨n, hn, -, hb⟩ := own_sh k hk
  rw [e]
  intro h
  rw [own_i64z, Int64.toBitVec_and, own_one k n hn hb, own_b1 _ n hn] at h
  have q : (-1 : Int64).toBitVec = BitVec.allOnes 64 := by decide
  rw [q, BitVec.getLsbD_allOnes] at h
  simp [hn] at h
theorem own_len {args : Array Value} {s : State} {t : Term} {a : Addr} {c : Cell} {z : Int32} (ev : t.eval args s none [] s = some (.ref a)) (ha : s.arrayAt? a = some c) (h : (Term.length t).eval args s none [] s = some (.int z)) : c.slots.size < 2 ^ 31 ∧ c.slots.size.toInt32 = z := by
  by_cases hl : c.slots.size < 2 ^ 31
  · exact ⟨hl, Value.int.inj (Option.some.inj ((len_f ev ha hl).symm.trans h))⟩
  · simp [Term.eval, ev, ha, hl] at h
theorem own_eqr {Z : State} {args : Array Value} {X F : Term} {y : Addr} (hF : F.eval args Z none [] Z = some (.ref y)) (h : (Jvm.Cond.eq X F).value args Z none Z [] = some true) : X.eval args Z none [] Z = some (.ref y) := by
  obtain ⟨x, y', e1, e2, k1, k2⟩ := cmp_v (Or.inl h)
  cases hF.symm.trans e2
  have hr : x.isRef = true := k2.2
  have q := gotT (eq_R e1 hF hr rfl) h
  rw [e1, q]
theorem own_elem {args : Array Value} {s : State} {t : Term} {a : Addr} {c : Cell} {j : Int32} {v : Value} (ev : t.eval args s none [] s = some (.ref a)) (ha : s.arrayAt? a = some c) (hj : ¬ j < 0) (h : (Term.elem t (Term.int j)).eval args s none [] s = some v) : c.slots[j.toNatClampNeg]? = some v := by
  rw [← h, elem_f ev (Term.int_eval j) ha hj]

def Q1 (Z : State) (x0 : Int32) (x1 : Int32) (h0 : Heap) (n0 : Nat) (v : Option Value) (h : Heap) (L : List Loc) : Prop := v = some (.int (if x1 < x0 then x1 else x0)) ∧ Fr n0 L ∧ h = h0
theorem ef_1 (m : MethodId) (x0 : Int32) (x1 : Int32) : entryFrame m #[(.int x0), (.int x1)] 2 = mkF m 0 #[iv x0, iv x1] [] := by first | (simp [entryFrame, mkF, argsToLocals, Value.category]; done) | rfl
set_option maxRecDepth 65536 in
set_option maxHeartbeats 40000000 in
theorem rm1 (l : Launch) (Z : State) (a0 : Array Value) (hw : ∀ d ∈ tables_1, d.before a0 Z = true) (ws : List Jvm.Cond) (x0 : Int32) (x1 : Int32) (h0 : Heap) (n0 : Nat) (Z0 : n0 ≤ h0.size) :
    MetFree l (⟨"java/lang/Math", "min", "(II)I"⟩ : MethodName) (head1 (Jvm.Cond.code (⟨"java/lang/Math", "min", "(II)I"⟩ : MethodName) jdk_29_method_69_code 2 (some .int) :: ws) ({ frames := 0, cells := 0, slots := 0, locals := 0 } : Room)) (fun a U => a = #[(.int x0), (.int x1)] ∧ Z.Warmed39 U.vm ∧ U.heap = h0) (fun _ _ _ _ _ => True) (fun _ U o U' => ∃ v L, o = .returned v ∧ Q1 Z x0 x1 h0 n0 v U'.heap L ∧ FrameEnd U o U' L ({ frames := 0, cells := 0, slots := 0, locals := 0 } : Room).cells ({ frames := 0, cells := 0, slots := 0, locals := 0 } : Room).slots) := by
  refine MetFree.of_bodySF (Jvm.Free.JP.mathPlain rfl (by decide +kernel)) hisR ?_
  intro p e s m args below meth c s₁ Bd hml0 hP hK
  obtain ⟨rfl, hZ, hh⟩ := hP
  have hx := Bd.exec
  have hby := Bd.bytes
  have hml : c.maxLocals = 2 := hml0
  have hown : s.vm.findClass "java/lang/Math" = some m.cls := findClass_of_methodNamed Bd.named
  have hnm := (name_of_methodNamed Bd.named Bd.method).1
  have X0 : Stand p l e ({ frames := 0, cells := 0, slots := 0, locals := 0 } : Room) s m #[(.int x0), (.int x1)] below meth c s₁ [] 0 0 := Stand.of_body Bd
  have e0 : s₁.heap = h0 := by rw [← hh, Bd.state]; rfl
  have N0 := Fr.nil n0
  have Kp0 := Keep.refl h0 []
  have P0 : ∀ t, Steps p.tables e below (s₁.setTop (mkF m 0 #[iv x0, iv x1] [])) t → Steps p.tables e below (s₁.setTop (entryFrame m #[(.int x0), (.int x1)] 2)) t := fun t k => castTop (ef_1 m x0 x1) k
  have P2 := own_go P0 (S' := s₁.setTop (mkF m 2 #[iv x0, iv x1] [(.int x1), (.int x0)])) (by
    intro t k
    refine XS.iloadN X0.here hx rfl (hb hby d1_0) rfl ?_
    refine XS.iloadN X0.here hx rfl (hb hby d1_1) rfl ?_
    exact k)
  by_cases hc2_1 : x1 < x0
  · have P3 := own_go P2 (S' := s₁.setTop (mkF m 10 #[iv x0, iv x1] [(.int x1)])) (by
      intro t k
      refine XS.icmpYes X0.here hx rfl (pc0 := 2) (pc' := 9) rfl (hb hby d1_2) rfl (tlt hc2_1).2.2.1 (by decide) (by decide) ?_
      refine XS.iloadN X0.here hx rfl (hb hby d1_9) rfl ?_
      exact k)
    obtain ⟨fs, hr, hrun, hended, hW, hsame⟩ := X0.leave (v := some (.int x1)) (fun h => by rw [Bd.returns] at h; cases h)
    refine ⟨_, _, P3 _ ?_, hrun, hended, _, _, rfl, ?_, ⟨_, rfl⟩, hW, hsame.mono (by decide) (by decide)⟩
    · show Steps p.tables e below (s₁.setTop (mkF m 10 #[iv x0, iv x1] [(.int x1)])) _
      exact retI X0 hx Bd.returns (hb hby d1_10) hr
    · show Q1 Z x0 x1 h0 n0 _ s₁.heap _
      rw [e0]
      exact ⟨(by first | rfl | rw [if_pos hc2_1] | rw [if_neg hc2_1] | rw [if_neg (not_not_intro hc2_1)] | simp [hc2_1]), N0, rfl⟩
  · have P4 := own_go P2 (S' := s₁.setTop (mkF m 10 #[iv x0, iv x1] [(.int x0)])) (by
      intro t k
      refine XS.icmpNo X0.here hx rfl (hb hby d1_2) rfl (flt hc2_1).2.2.1 ?_
      refine XS.iloadN X0.here hx rfl (hb hby d1_5) rfl ?_
      refine XS.goto X0.here hx rfl (pc0 := 6) (pc' := 10) rfl (hb hby d1_6) (by decide) (by decide) ?_
      exact k)
    obtain ⟨fs, hr, hrun, hended, hW, hsame⟩ := X0.leave (v := some (.int x0)) (fun h => by rw [Bd.returns] at h; cases h)
    refine ⟨_, _, P4 _ ?_, hrun, hended, _, _, rfl, ?_, ⟨_, rfl⟩, hW, hsame.mono (by decide) (by decide)⟩
    · show Steps p.tables e below (s₁.setTop (mkF m 10 #[iv x0, iv x1] [(.int x0)])) _
      exact retI X0 hx Bd.returns (hb hby d1_10) hr
    · show Q1 Z x0 x1 h0 n0 _ s₁.heap _
      rw [e0]
      exact ⟨(by first | rfl | rw [if_pos hc2_1] | rw [if_neg hc2_1] | rw [if_neg (not_not_intro hc2_1)] | simp [hc2_1]), N0, rfl⟩
def Q14 (Z : State)  (h0 : Heap) (n0 : Nat) (v : Option Value) (h : Heap) (L : List Loc) : Prop := v = some (.int 10) ∧ Fr n0 L ∧ h = h0
theorem ef_14 (m : MethodId)  : entryFrame m #[(.int 10), (.int 1)] 2 = mkF m 0 #[iv 10, iv 1] [] := by first | (simp [entryFrame, mkF, argsToLocals, Value.category]; done) | rfl
set_option maxRecDepth 65536 in
set_option maxHeartbeats 40000000 in
theorem rm14 (l : Launch) (Z : State) (a0 : Array Value) (hw : ∀ d ∈ tables_1, d.before a0 Z = true) (ws : List Jvm.Cond)  (h0 : Heap) (n0 : Nat) (Z0 : n0 ≤ h0.size) :
    MetFree l (⟨"java/lang/Math", "max", "(II)I"⟩ : MethodName) (head1 (Jvm.Cond.code (⟨"java/lang/Math", "max", "(II)I"⟩ : MethodName) jdk_29_method_65_code 2 (some .int) :: ws) ({ frames := 0, cells := 0, slots := 0, locals := 0 } : Room)) (fun a U => a = #[(.int 10), (.int 1)] ∧ Z.Warmed39 U.vm ∧ U.heap = h0) (fun _ _ _ _ _ => True) (fun _ U o U' => ∃ v L, o = .returned v ∧ Q14 Z  h0 n0 v U'.heap L ∧ FrameEnd U o U' L ({ frames := 0, cells := 0, slots := 0, locals := 0 } : Room).cells ({ frames := 0, cells := 0, slots := 0, locals := 0 } : Room).slots) := by
  refine MetFree.of_bodySF (Jvm.Free.JP.mathPlain rfl (by decide +kernel)) hisR ?_
  intro p e s m args below meth c s₁ Bd hml0 hP hK
  obtain ⟨rfl, hZ, hh⟩ := hP
  have hx := Bd.exec
  have hby := Bd.bytes
  have hml : c.maxLocals = 2 := hml0
  have hown : s.vm.findClass "java/lang/Math" = some m.cls := findClass_of_methodNamed Bd.named
  have hnm := (name_of_methodNamed Bd.named Bd.method).1
  have X0 : Stand p l e ({ frames := 0, cells := 0, slots := 0, locals := 0 } : Room) s m #[(.int 10), (.int 1)] below meth c s₁ [] 0 0 := Stand.of_body Bd
  have e0 : s₁.heap = h0 := by rw [← hh, Bd.state]; rfl
  have N0 := Fr.nil n0
  have Kp0 := Keep.refl h0 []
  have P0 : ∀ t, Steps p.tables e below (s₁.setTop (mkF m 0 #[iv 10, iv 1] [])) t → Steps p.tables e below (s₁.setTop (entryFrame m #[(.int 10), (.int 1)] 2)) t := fun t k => castTop (ef_14 m ) k
  have P2 := own_go P0 (S' := s₁.setTop (mkF m 10 #[iv 10, iv 1] [(.int 10)])) (by
    intro t k
    refine XS.iloadN X0.here hx rfl (hb hby d14_0) rfl ?_
    refine XS.iloadN X0.here hx rfl (hb hby d14_1) rfl ?_
    refine XS.icmpNo X0.here hx rfl (hb hby d14_2) rfl (flt (by decide)).1 ?_
    refine XS.iloadN X0.here hx rfl (hb hby d14_5) rfl ?_
    refine XS.goto X0.here hx rfl (pc0 := 6) (pc' := 10) rfl (hb hby d14_6) (by decide) (by decide) ?_
    exact k)
  obtain ⟨fs, hr, hrun, hended, hW, hsame⟩ := X0.leave (v := some (.int 10)) (fun h => by rw [Bd.returns] at h; cases h)
  refine ⟨_, _, P2 _ ?_, hrun, hended, _, _, rfl, ?_, ⟨_, rfl⟩, hW, hsame.mono (by decide) (by decide)⟩
  · show Steps p.tables e below (s₁.setTop (mkF m 10 #[iv 10, iv 1] [(.int 10)])) _
    exact retI X0 hx Bd.returns (hb hby d14_10) hr
  · show Q14 Z  h0 n0 _ s₁.heap _
    rw [e0]
    exact ⟨rfl, N0, rfl⟩
def Q7 (Z : State) (x0 : Addr) (h0 : Heap) (n0 : Nat) (v : Option Value) (h : Heap) (L : List Loc) : Prop := v = none ∧ Fr n0 L ∧ h = h0
theorem ef_7 (m : MethodId) (x0 : Addr) : entryFrame m #[(.ref x0)] 1 = mkF m 0 #[rv x0] [] := by first | (simp [entryFrame, mkF, argsToLocals, Value.category]; done) | rfl
set_option maxRecDepth 65536 in
set_option maxHeartbeats 40000000 in
theorem rm7 (l : Launch) (Z : State) (a0 : Array Value) (hw : ∀ d ∈ tables_1, d.before a0 Z = true) (ws : List Jvm.Cond) (x0 : Addr) (h0 : Heap) (n0 : Nat) (Z0 : n0 ≤ h0.size) :
    MetFree l (⟨"java/util/AbstractCollection", "<init>", "()V"⟩ : MethodName) (head1 (Jvm.Cond.code (⟨"java/util/AbstractCollection", "<init>", "()V"⟩ : MethodName) jdk_22_method_1_code 1 none :: ws) ({ frames := 1, cells := 0, slots := 0, locals := 12 } : Room)) (fun a U => a = #[(.ref x0)] ∧ Z.Warmed39 U.vm ∧ U.heap = h0) (fun _ _ _ _ _ => True) (fun _ U o U' => ∃ v L, o = .returned v ∧ Q7 Z x0 h0 n0 v U'.heap L ∧ FrameEnd U o U' L ({ frames := 1, cells := 0, slots := 0, locals := 12 } : Room).cells ({ frames := 1, cells := 0, slots := 0, locals := 12 } : Room).slots) := by
  refine MetFree.of_bodySF (plainFor_of_name pn_7) hisR ?_
  intro p e s m args below meth c s₁ Bd hml0 hP hK
  obtain ⟨rfl, hZ, hh⟩ := hP
  have hx := Bd.exec
  have hby := Bd.bytes
  have hml : c.maxLocals = 1 := hml0
  have hown : s.vm.findClass "java/util/AbstractCollection" = some m.cls := findClass_of_methodNamed Bd.named
  have hnm := (name_of_methodNamed Bd.named Bd.method).1
  have X0 : Stand p l e ({ frames := 1, cells := 0, slots := 0, locals := 12 } : Room) s m #[(.ref x0)] below meth c s₁ [] 0 0 := Stand.of_body Bd
  have e0 : s₁.heap = h0 := by rw [← hh, Bd.state]; rfl
  have N0 := Fr.nil n0
  have Kp0 := Keep.refl h0 []
  have P0 : ∀ t, Steps p.tables e below (s₁.setTop (mkF m 0 #[rv x0] [])) t → Steps p.tables e below (s₁.setTop (entryFrame m #[(.ref x0)] 1)) t := fun t k => castTop (ef_7 m x0) k
  obtain ⟨T1, X1, e1, st1⟩ := initO X0 hx hZ hown (hw _ (im 57 rfl)) (hw _ (im 12 rfl)) (hw _ (im 13 rfl)) e0 (g := (mkF m 1 #[rv x0] [(.ref x0)])) rfl (by rw [hml]; rfl) rfl (hb hby d7_1) (by decide) (W := 0) (by show 2 * 0 + _ ≤ _; exact Nat.le_of_eq rfl) (by decide)
  have P2 := own_go P0 (S' := T1.setTop (mkF m 4 #[rv x0] [])) (by
    intro t k
    refine XS.aloadN X0.here hx rfl (hb hby d7_0) rfl rfl ?_
    refine st1 _ ?_
    exact k)
  obtain ⟨fs, hr, hrun, hended, hW, hsame⟩ := X1.leave (v := none) (fun _ => rfl)
  refine ⟨_, _, P2 _ ?_, hrun, hended, _, _, rfl, ?_, ⟨_, rfl⟩, hW, hsame.mono (by decide) (by decide)⟩
  · show Steps p.tables e below (T1.setTop (mkF m 4 #[rv x0] [])) _
    exact X1.returnOut hx Bd.returns (hb hby d7_4) hr
  · show Q7 Z x0 h0 n0 _ T1.heap _
    rw [e1]
    exact ⟨rfl, N0, rfl⟩
def Q6 (Z : State) (x0 : Addr) (h0 : Heap) (n0 : Nat) (v : Option Value) (h : Heap) (L : List Loc) : Prop := v = none ∧ Fr n0 L ∧ Keep h0 h [x0] ∧ Exa Z h x0 "java/util/ArrayList" ∧ Fld Z h x0 "java/util/AbstractList" "modCount" "I" (.int 0) ∧ Fld Z h x0 "java/util/ArrayList" "elementData" "[Ljava/lang/Object;" .null ∧ Fld Z h x0 "java/util/ArrayList" "size" "I" (.int 0)
theorem ef_6 (m : MethodId) (x0 : Addr) : entryFrame m #[(.ref x0)] 1 = mkF m 0 #[rv x0] [] := by first | (simp [entryFrame, mkF, argsToLocals, Value.category]; done) | rfl
set_option maxRecDepth 65536 in
set_option maxHeartbeats 40000000 in
theorem rm6 (l : Launch) (Z : State) (a0 : Array Value) (hw : ∀ d ∈ tables_1, d.before a0 Z = true) (ws : List Jvm.Cond) (x0 : Addr) (h0 : Heap) (n0 : Nat) (Z0 : n0 ≤ h0.size) (pre_E_x0 : Exa Z h0 x0 "java/util/ArrayList") (pre_F_x0_modCount : Fld Z h0 x0 "java/util/AbstractList" "modCount" "I" (.int 0)) (pre_F_x0_elementData : Fld Z h0 x0 "java/util/ArrayList" "elementData" "[Ljava/lang/Object;" .null) (pre_F_x0_size : Fld Z h0 x0 "java/util/ArrayList" "size" "I" (.int 0)) (g_x0 : n0 ≤ x0) :
    MetFree l (⟨"java/util/AbstractList", "<init>", "()V"⟩ : MethodName) (head1 (Jvm.Cond.code (⟨"java/util/AbstractList", "<init>", "()V"⟩ : MethodName) jdk_39_method_1_code 1 none :: ws) ({ frames := 2, cells := 0, slots := 0, locals := 24 } : Room)) (fun a U => a = #[(.ref x0)] ∧ Z.Warmed39 U.vm ∧ U.heap = h0) (fun _ _ _ _ _ => True) (fun _ U o U' => ∃ v L, o = .returned v ∧ Q6 Z x0 h0 n0 v U'.heap L ∧ FrameEnd U o U' L ({ frames := 2, cells := 0, slots := 0, locals := 24 } : Room).cells ({ frames := 2, cells := 0, slots := 0, locals := 24 } : Room).slots) := by
  refine MetFree.of_bodySF (plainFor_of_name pn_6) hisR ?_
  intro p e s m args below meth c s₁ Bd hml0 hP hK
  obtain ⟨rfl, hZ, hh⟩ := hP
  have hx := Bd.exec
  have hby := Bd.bytes
  have hml : c.maxLocals = 1 := hml0
  have hown : s.vm.findClass "java/util/AbstractList" = some m.cls := findClass_of_methodNamed Bd.named
  have hnm := (name_of_methodNamed Bd.named Bd.method).1
  have X0 : Stand p l e ({ frames := 2, cells := 0, slots := 0, locals := 24 } : Room) s m #[(.ref x0)] below meth c s₁ [] 0 0 := Stand.of_body Bd
  have e0 : s₁.heap = h0 := by rw [← hh, Bd.state]; rfl
  have N0 := Fr.nil n0
  have Kp0 := Keep.refl h0 [x0]
  have P0 : ∀ t, Steps p.tables e below (s₁.setTop (mkF m 0 #[rv x0] [])) t → Steps p.tables e below (s₁.setTop (entryFrame m #[(.ref x0)] 1)) t := fun t k => castTop (ef_6 m x0) k
  obtain ⟨_, _, ⟨T1, L1, k1, n1⟩, -, X1, ⟨Lc1, hQ1, l1, y1, z1⟩, st1⟩ := X0.specialBack hx (y := (⟨"java/util/AbstractCollection", "<init>", "()V"⟩ : MethodName)) rfl hown (mvT hZ (hw _ (im 51 rfl))) (mvT hZ (hw _ (im 52 rfl))) (mvT hZ (hw _ (im 56 rfl))) (by decide) (backOf (W := 0) (rm7 l Z a0 hw [] x0 h0 n0 Z0 ) hZ (hw _ (im 56 rfl)) (hw _ (im 55 rfl)) (by decide) (by decide)) (g := (mkF m 1 #[rv x0] [(.ref x0)])) rfl (by rw [hml]; rfl) (Steps.refl _) (a := x0) (argsL := []) (rest := []) (lenOf pd_0 rfl) rfl (by show 2 * 0 + _ ≤ _; exact Nat.le_of_eq rfl) (hb hby d6_1) (fun _ _ => ⟨rfl, e0, (by decide : 0 + 0 ≤ _), (by decide : 0 + 0 ≤ _)⟩)
  dsimp only [Pt.U, Pt.locs, Pt.cells, Pt.slots] at X1 l1 y1 z1 st1 hQ1
  subst l1 y1 z1
  obtain ⟨rfl, N1q, e1⟩ := hQ1
  have N1 := Fr.app N0 N1q
  obtain ⟨T2, h2, X2, e2, W2, st2⟩ := putF X1 hx hZ hown (host := "") (Or.inl (hw _ (im 58 rfl))) Via.refl e1 pre_F_x0_modCount pre_E_x0 (Or.inl (hw _ (im 59 rfl))) (hw _ (im 40 rfl)) (ty := .int) (by decide) rfl rfl (g := (mkF m 6 #[rv x0] [(.int 0), (.ref x0)])) rfl rfl (hb hby d6_6)
  have Fw2 := pre_F_x0_modCount.same W2
  have Z2_ : n0 ≤ h2.size := Nat.le_trans Z0 (Nat.le_of_eq W2.size.symm)
  have N2 := Fr.snoc X2 N1 g_x0
  have KK2 := Kp0.wr W2 (Or.inl (List.mem_of_getElem? (i := 0) rfl))
  have P3 := own_go P0 (S' := T2.setTop (mkF m 9 #[rv x0] [])) (by
    intro t k
    refine XS.aloadN X0.here hx rfl (hb hby d6_0) rfl rfl ?_
    refine st1.trans ?_
    refine XS.aloadN X1.here hx rfl (hb hby d6_4) rfl rfl ?_
    refine XS.iconst X1.here hx rfl (hb hby d6_5) ?_
    refine st2 _ ?_
    exact k)
  have q4 := (pre_E_x0.wr W2)
  have q5 := (pre_F_x0_elementData.other W2 (Or.inr (own_sn (la_0 hw) (la_1 hw))))
  have q6 := (pre_F_x0_size.other W2 (Or.inr (own_sn (la_2 hw) (la_1 hw))))
  obtain ⟨fs, hr, hrun, hended, hW, hsame⟩ := X2.leave (v := none) (fun _ => rfl)
  refine ⟨_, _, P3 _ ?_, hrun, hended, _, _, rfl, ?_, ⟨_, rfl⟩, hW, hsame.mono (by decide) (by decide)⟩
  · show Steps p.tables e below (T2.setTop (mkF m 9 #[rv x0] [])) _
    exact X2.returnOut hx Bd.returns (hb hby d6_9) hr
  · show Q6 Z x0 h0 n0 _ T2.heap _
    rw [e2]
    exact ⟨rfl, N2, KK2, q4, Fw2, q5, q6⟩
def Q5 (Z : State) (x0 : Addr) (de : Addr) (h0 : Heap) (n0 : Nat) (v : Option Value) (h : Heap) (L : List Loc) : Prop := v = none ∧ Fr n0 L ∧ Keep h0 h [x0] ∧ Exa Z h x0 "java/util/ArrayList" ∧ Fld Z h x0 "java/util/AbstractList" "modCount" "I" (.int 0) ∧ Fld Z h x0 "java/util/ArrayList" "elementData" "[Ljava/lang/Object;" (.ref de) ∧ Fld Z h x0 "java/util/ArrayList" "size" "I" (.int 0)
theorem ef_5 (m : MethodId) (x0 : Addr) : entryFrame m #[(.ref x0)] 1 = mkF m 0 #[rv x0] [] := by first | (simp [entryFrame, mkF, argsToLocals, Value.category]; done) | rfl
set_option maxRecDepth 65536 in
set_option maxHeartbeats 40000000 in
theorem rm5 (l : Launch) (Z : State) (a0 : Array Value) (hw : ∀ d ∈ tables_1, d.before a0 Z = true) (ws : List Jvm.Cond) (x0 : Addr) (de : Addr) (h0 : Heap) (n0 : Nat) (Z0 : n0 ≤ h0.size) (O0 : Old Z n0 h0) (pre_S_TY_EMPTY_ELEMENTDATA : Sta Z Z.heap "java/util/ArrayList" "DEFAULTCAPACITY_EMPTY_ELEMENTDATA" "[Ljava/lang/Object;" (.ref de)) (pre_E_x0 : Exa Z h0 x0 "java/util/ArrayList") (pre_F_x0_modCount : Fld Z h0 x0 "java/util/AbstractList" "modCount" "I" (.int 0)) (pre_F_x0_elementData : Fld Z h0 x0 "java/util/ArrayList" "elementData" "[Ljava/lang/Object;" .null) (pre_F_x0_size : Fld Z h0 x0 "java/util/ArrayList" "size" "I" (.int 0)) (g_x0 : n0 ≤ x0) :
    MetFree l (⟨"java/util/ArrayList", "<init>", "()V"⟩ : MethodName) (head1 (Jvm.Cond.code (⟨"java/util/ArrayList", "<init>", "()V"⟩ : MethodName) jdk_38_method_2_code 1 none :: ws) ({ frames := 3, cells := 0, slots := 0, locals := 36 } : Room)) (fun a U => a = #[(.ref x0)] ∧ Z.Warmed39 U.vm ∧ U.heap = h0) (fun _ _ _ _ _ => True) (fun _ U o U' => ∃ v L, o = .returned v ∧ Q5 Z x0 de h0 n0 v U'.heap L ∧ FrameEnd U o U' L ({ frames := 3, cells := 0, slots := 0, locals := 36 } : Room).cells ({ frames := 3, cells := 0, slots := 0, locals := 36 } : Room).slots) := by
  refine MetFree.of_bodySF (plainFor_of_name pn_5) hisR ?_
  intro p e s m args below meth c s₁ Bd hml0 hP hK
  obtain ⟨rfl, hZ, hh⟩ := hP
  have hx := Bd.exec
  have hby := Bd.bytes
  have hml : c.maxLocals = 1 := hml0
  have hown : s.vm.findClass "java/util/ArrayList" = some m.cls := findClass_of_methodNamed Bd.named
  have hnm := (name_of_methodNamed Bd.named Bd.method).1
  have X0 : Stand p l e ({ frames := 3, cells := 0, slots := 0, locals := 36 } : Room) s m #[(.ref x0)] below meth c s₁ [] 0 0 := Stand.of_body Bd
  have e0 : s₁.heap = h0 := by rw [← hh, Bd.state]; rfl
  have N0 := Fr.nil n0
  have Kp0 := Keep.refl h0 [x0]
  have P0 : ∀ t, Steps p.tables e below (s₁.setTop (mkF m 0 #[rv x0] [])) t → Steps p.tables e below (s₁.setTop (entryFrame m #[(.ref x0)] 1)) t := fun t k => castTop (ef_5 m x0) k
  obtain ⟨_, _, ⟨T1, L1, k1, n1⟩, -, X1, ⟨Lc1, hQ1, l1, y1, z1⟩, st1⟩ := X0.specialBack hx (y := (⟨"java/util/AbstractList", "<init>", "()V"⟩ : MethodName)) rfl hown (mvT hZ (hw _ (im 45 rfl))) (mvT hZ (hw _ (im 46 rfl))) (mvT hZ (hw _ (im 50 rfl))) (by decide) (backOf (W := 0) (rm6 l Z a0 hw [] x0 h0 n0 Z0 pre_E_x0 pre_F_x0_modCount pre_F_x0_elementData pre_F_x0_size g_x0) hZ (hw _ (im 50 rfl)) (hw _ (im 49 rfl)) (by decide) (by decide)) (g := (mkF m 1 #[rv x0] [(.ref x0)])) rfl (by rw [hml]; rfl) (Steps.refl _) (a := x0) (argsL := []) (rest := []) (lenOf pd_0 rfl) rfl (by show 2 * 0 + _ ≤ _; exact Nat.le_of_eq rfl) (hb hby d5_1) (fun _ _ => ⟨rfl, e0, (by decide : 0 + 0 ≤ _), (by decide : 0 + 0 ≤ _)⟩)
  dsimp only [Pt.U, Pt.locs, Pt.cells, Pt.slots] at X1 l1 y1 z1 st1 hQ1
  subst l1 y1 z1
  obtain ⟨rfl, N1q, K1, r1_0, r1_1, r1_2, r1_3⟩ := hQ1
  have N1 := Fr.app N0 N1q
  have Z1_ : n0 ≤ T1.heap.size := Nat.le_trans Z0 K1.1
  have O1_ := O0.keep K1 (allS g_x0 all0)
  have KK1 := Kp0.trans K1 (allS (Or.inl (List.mem_of_getElem? (i := 0) rfl)) all0)
  obtain ⟨T2, X2, e2, st2⟩ := getS2 X1 hx hZ hown (host := "") (Or.inl (hw _ (im 60 rfl))) Via.refl rfl (pre_S_TY_EMPTY_ELEMENTDATA.ext O1_.2) (g := (mkF m 5 #[rv x0] [(.ref x0)])) rfl (hb hby d5_5)
  obtain ⟨T3, h3, X3, e3, W3, st3⟩ := putF X2 hx hZ hown (host := "") (Or.inl (hw _ (im 61 rfl))) Via.refl e2 r1_2 r1_0 (Or.inl (hw _ (im 62 rfl))) (hw _ (im 40 rfl)) (ty := (.array (.object "java/lang/Object"))) (by decide) rfl rfl (g := (mkF m 8 #[rv x0] [(.ref de), (.ref x0)])) rfl rfl (hb hby d5_8)
  have Fw3 := r1_2.same W3
  have Z3_ : n0 ≤ h3.size := Nat.le_trans Z1_ (Nat.le_of_eq W3.size.symm)
  have O3_ := O1_.wr W3 g_x0
  have N3 := Fr.snoc X3 N1 g_x0
  have KK3 := KK1.wr W3 (Or.inl (List.mem_of_getElem? (i := 0) rfl))
  have P4 := own_go P0 (S' := T3.setTop (mkF m 11 #[rv x0] [])) (by
    intro t k
    refine XS.aloadN X0.here hx rfl (hb hby d5_0) rfl rfl ?_
    refine st1.trans ?_
    refine XS.aloadN X1.here hx rfl (hb hby d5_4) rfl rfl ?_
    refine st2 _ ?_
    refine st3 _ ?_
    exact k)
  have q5 := (r1_0.wr W3)
  have q6 := (r1_1.other W3 (Or.inr (own_sn (la_1 hw) (la_0 hw))))
  have q7 := (r1_3.other W3 (Or.inr (own_sn (la_2 hw) (la_0 hw))))
  obtain ⟨fs, hr, hrun, hended, hW, hsame⟩ := X3.leave (v := none) (fun _ => rfl)
  refine ⟨_, _, P4 _ ?_, hrun, hended, _, _, rfl, ?_, ⟨_, rfl⟩, hW, hsame.mono (by decide) (by decide)⟩
  · show Steps p.tables e below (T3.setTop (mkF m 11 #[rv x0] [])) _
    exact X3.returnOut hx Bd.returns (hb hby d5_11) hr
  · show Q5 Z x0 de h0 n0 _ T3.heap _
    rw [e3]
    exact ⟨rfl, N3, KK3, q5, q6, Fw3, q7⟩
def Q4 (Z : State) (x0 : Addr) (h0 : Heap) (n0 : Nat) (v : Option Value) (h : Heap) (L : List Loc) : Prop := v = none ∧ Fr n0 L ∧ Keep h0 h [x0]
theorem ef_4 (m : MethodId) (x0 : Addr) : entryFrame m #[(.ref x0)] 1 = mkF m 0 #[rv x0] [] := by first | (simp [entryFrame, mkF, argsToLocals, Value.category]; done) | rfl
set_option maxRecDepth 65536 in
set_option maxHeartbeats 40000000 in
theorem rm4 (l : Launch) (Z : State) (a0 : Array Value) (hw : ∀ d ∈ tables_1, d.before a0 Z = true) (ws : List Jvm.Cond) (x0 : Addr) (h0 : Heap) (n0 : Nat) (Z0 : n0 ≤ h0.size) (pre_E_x0 : Exa Z h0 x0 "com/example/violarc/violarc/solver/Trail") (pre_F_x0_owners : Fld Z h0 x0 "com/example/violarc/violarc/solver/Trail" "owners" "[Lcom/example/violarc/violarc/solver/Trailed;" .null) (pre_F_x0_slots : Fld Z h0 x0 "com/example/violarc/violarc/solver/Trail" "slots" "[I" .null) (pre_F_x0_firsts : Fld Z h0 x0 "com/example/violarc/violarc/solver/Trail" "firsts" "[J" .null) (pre_F_x0_seconds : Fld Z h0 x0 "com/example/violarc/violarc/solver/Trail" "seconds" "[J" .null) (pre_F_x0_marks : Fld Z h0 x0 "com/example/violarc/violarc/solver/Trail" "marks" "[I" .null) (pre_F_x0_stamps : Fld Z h0 x0 "com/example/violarc/violarc/solver/Trail" "stamps" "[J" .null) (g_x0 : n0 ≤ x0) :
    MetFree l (⟨"com/example/violarc/violarc/solver/Trail", "<init>", "()V"⟩ : MethodName) (head1 (Jvm.Cond.code (⟨"com/example/violarc/violarc/solver/Trail", "<init>", "()V"⟩ : MethodName) prog_146_method_1_code 1 none :: ws) ({ frames := 1, cells := 6, slots := 1152, locals := 12 } : Room)) (fun a U => a = #[(.ref x0)] ∧ Z.Warmed39 U.vm ∧ U.heap = h0) (fun _ _ _ _ _ => True) (fun _ U o U' => ∃ v L, o = .returned v ∧ Q4 Z x0 h0 n0 v U'.heap L ∧ FrameEnd U o U' L ({ frames := 1, cells := 6, slots := 1152, locals := 12 } : Room).cells ({ frames := 1, cells := 6, slots := 1152, locals := 12 } : Room).slots) := by
  refine MetFree.of_bodySF (plainFor_of_name pn_4) hisR ?_
  intro p e s m args below meth c s₁ Bd hml0 hP hK
  obtain ⟨rfl, hZ, hh⟩ := hP
  have hx := Bd.exec
  have hby := Bd.bytes
  have hml : c.maxLocals = 1 := hml0
  have hown : s.vm.findClass "com/example/violarc/violarc/solver/Trail" = some m.cls := findClass_of_methodNamed Bd.named
  have hnm := (name_of_methodNamed Bd.named Bd.method).1
  have X0 : Stand p l e ({ frames := 1, cells := 6, slots := 1152, locals := 12 } : Room) s m #[(.ref x0)] below meth c s₁ [] 0 0 := Stand.of_body Bd
  have e0 : s₁.heap = h0 := by rw [← hh, Bd.state]; rfl
  have N0 := Fr.nil n0
  have Kp0 := Keep.refl h0 [x0]
  have P0 : ∀ t, Steps p.tables e below (s₁.setTop (mkF m 0 #[rv x0] [])) t → Steps p.tables e below (s₁.setTop (entryFrame m #[(.ref x0)] 1)) t := fun t k => castTop (ef_4 m x0) k
  obtain ⟨T1, X1, e1, st1⟩ := initO X0 hx hZ hown (hw _ (im 20 rfl)) (hw _ (im 12 rfl)) (hw _ (im 13 rfl)) e0 (g := (mkF m 1 #[rv x0] [(.ref x0)])) rfl (by rw [hml]; rfl) rfl (hb hby d4_1) (by decide) (W := 0) (by show 2 * 0 + _ ≤ _; exact Nat.le_of_eq rfl) (by decide)
  obtain ⟨T2, h2, k2, X2, e2, E2, A2, O2v, st2⟩ := newR X1 hx hZ hown (hw _ (im 21 rfl)) (hw _ (im 22 rfl)) e1 (g := (mkF m 8 #[rv x0] [(.int 256), (.ref x0)])) rfl (hb hby d4_8) rfl (by decide) (cap := 256) (by decide) (by decide) (by decide) (by decide)
  obtain ⟨b2, g2⟩ : ∃ z, z = h0.size := ⟨_, rfl⟩
  rw [← g2] at A2 st2
  have ge_b2 : n0 ≤ b2 := Nat.le_trans Z0 (Nat.le_of_eq g2.symm)
  have sz_b2 : h0.size ≤ b2 := Nat.le_trans Kp0.1 (Nat.le_of_eq g2.symm)
  have Z2_ : n0 ≤ h2.size := Nat.le_trans Z0 E2.1
  have KK2 := Kp0.ext E2
  have q3 := (pre_F_x0_owners.ext E2)
  have q4 := (pre_E_x0.ext E2)
  obtain ⟨T5, h5, X5, e5, W5, st5⟩ := putF X2 hx hZ hown (host := "") (Or.inl (hw _ (im 23 rfl))) Via.refl e2 q3 q4 (Or.inl (hw _ (im 24 rfl))) (hw _ (im 15 rfl)) (ty := (.array (.object "com/example/violarc/violarc/solver/Trailed"))) (by decide) rfl rfl (g := (mkF m 11 #[rv x0] [(.ref b2), (.ref x0)])) rfl rfl (hb hby d4_11)
  have Fw5 := q3.same W5
  have Z5_ : n0 ≤ h5.size := Nat.le_trans Z2_ (Nat.le_of_eq W5.size.symm)
  have N5 := Fr.snoc X5 N0 g_x0
  have KK5 := KK2.wr W5 (Or.inl (List.mem_of_getElem? (i := 0) rfl))
  obtain ⟨T6, h6, k6, X6, e6, E6, A6, st6⟩ := newP X5 hx hZ (hw _ (im 25 rfl)) e5 (g := (mkF m 18 #[rv x0] [(.int 256), (.ref x0)])) rfl (hb hby d4_18) rfl (by decide) (cap := 256) (by decide) (by decide) (by decide) (by decide)
  obtain ⟨b6, g6⟩ : ∃ z, z = h5.size := ⟨_, rfl⟩
  rw [← g6] at A6 st6
  have ge_b6 : n0 ≤ b6 := Nat.le_trans Z5_ (Nat.le_of_eq g6.symm)
  have sz_b6 : h0.size ≤ b6 := Nat.le_trans KK5.1 (Nat.le_of_eq g6.symm)
  have Z6_ : n0 ≤ h6.size := Nat.le_trans Z5_ E6.1
  have KK6 := KK5.ext E6
  have q7 := (((pre_F_x0_slots.ext E2).other W5 (Or.inr (own_sn (la_3 hw) (la_4 hw)))).ext E6)
  have q8 := ((q4.wr W5).ext E6)
  obtain ⟨T9, h9, X9, e9, W9, st9⟩ := putF X6 hx hZ hown (host := "") (Or.inl (hw _ (im 26 rfl))) Via.refl e6 q7 q8 (Or.inl (hw _ (im 27 rfl))) (hw _ (im 15 rfl)) (ty := (.array .int)) (by decide) rfl rfl (g := (mkF m 20 #[rv x0] [(.ref b6), (.ref x0)])) rfl rfl (hb hby d4_20)
  have Fw9 := q7.same W9
  have Z9_ : n0 ≤ h9.size := Nat.le_trans Z6_ (Nat.le_of_eq W9.size.symm)
  have N9 := Fr.snoc X9 N5 g_x0
  have KK9 := KK6.wr W9 (Or.inl (List.mem_of_getElem? (i := 0) rfl))
  obtain ⟨T10, h10, k10, X10, e10, E10, A10, st10⟩ := newP X9 hx hZ (hw _ (im 28 rfl)) e9 (g := (mkF m 27 #[rv x0] [(.int 256), (.ref x0)])) rfl (hb hby d4_27) rfl (by decide) (cap := 256) (by decide) (by decide) (by decide) (by decide)
  obtain ⟨b10, g10⟩ : ∃ z, z = h9.size := ⟨_, rfl⟩
  rw [← g10] at A10 st10
  have ge_b10 : n0 ≤ b10 := Nat.le_trans Z9_ (Nat.le_of_eq g10.symm)
  have sz_b10 : h0.size ≤ b10 := Nat.le_trans KK9.1 (Nat.le_of_eq g10.symm)
  have Z10_ : n0 ≤ h10.size := Nat.le_trans Z9_ E10.1
  have KK10 := KK9.ext E10
  have q11 := (((((pre_F_x0_firsts.ext E2).other W5 (Or.inr (own_sn (la_5 hw) (la_4 hw)))).ext E6).other W9 (Or.inr (own_sn (la_5 hw) (la_3 hw)))).ext E10)
  have q12 := ((q8.wr W9).ext E10)
  obtain ⟨T13, h13, X13, e13, W13, st13⟩ := putF X10 hx hZ hown (host := "") (Or.inl (hw _ (im 29 rfl))) Via.refl e10 q11 q12 (Or.inl (hw _ (im 30 rfl))) (hw _ (im 15 rfl)) (ty := (.array .long)) (by decide) rfl rfl (g := (mkF m 29 #[rv x0] [(.ref b10), (.ref x0)])) rfl rfl (hb hby d4_29)
  have Fw13 := q11.same W13
  have Z13_ : n0 ≤ h13.size := Nat.le_trans Z10_ (Nat.le_of_eq W13.size.symm)
  have N13 := Fr.snoc X13 N9 g_x0
  have KK13 := KK10.wr W13 (Or.inl (List.mem_of_getElem? (i := 0) rfl))
  obtain ⟨T14, h14, k14, X14, e14, E14, A14, st14⟩ := newP X13 hx hZ (hw _ (im 28 rfl)) e13 (g := (mkF m 36 #[rv x0] [(.int 256), (.ref x0)])) rfl (hb hby d4_36) rfl (by decide) (cap := 256) (by decide) (by decide) (by decide) (by decide)
  obtain ⟨b14, g14⟩ : ∃ z, z = h13.size := ⟨_, rfl⟩
  rw [← g14] at A14 st14
  have ge_b14 : n0 ≤ b14 := Nat.le_trans Z13_ (Nat.le_of_eq g14.symm)
  have sz_b14 : h0.size ≤ b14 := Nat.le_trans KK13.1 (Nat.le_of_eq g14.symm)
  have Z14_ : n0 ≤ h14.size := Nat.le_trans Z13_ E14.1
  have KK14 := KK13.ext E14
  have q15 := (((((((pre_F_x0_seconds.ext E2).other W5 (Or.inr (own_sn (la_6 hw) (la_4 hw)))).ext E6).other W9 (Or.inr (own_sn (la_6 hw) (la_3 hw)))).ext E10).other W13 (Or.inr (own_sn (la_6 hw) (la_5 hw)))).ext E14)
  have q16 := ((q12.wr W13).ext E14)
  obtain ⟨T17, h17, X17, e17, W17, st17⟩ := putF X14 hx hZ hown (host := "") (Or.inl (hw _ (im 31 rfl))) Via.refl e14 q15 q16 (Or.inl (hw _ (im 32 rfl))) (hw _ (im 15 rfl)) (ty := (.array .long)) (by decide) rfl rfl (g := (mkF m 38 #[rv x0] [(.ref b14), (.ref x0)])) rfl rfl (hb hby d4_38)
  have Fw17 := q15.same W17
  have Z17_ : n0 ≤ h17.size := Nat.le_trans Z14_ (Nat.le_of_eq W17.size.symm)
  have N17 := Fr.snoc X17 N13 g_x0
  have KK17 := KK14.wr W17 (Or.inl (List.mem_of_getElem? (i := 0) rfl))
  obtain ⟨T18, h18, k18, X18, e18, E18, A18, st18⟩ := newP X17 hx hZ (hw _ (im 25 rfl)) e17 (g := (mkF m 44 #[rv x0] [(.int 64), (.ref x0)])) rfl (hb hby d4_44) rfl (by decide) (cap := 64) (by decide) (by decide) (by decide) (by decide)
  obtain ⟨b18, g18⟩ : ∃ z, z = h17.size := ⟨_, rfl⟩
  rw [← g18] at A18 st18
  have ge_b18 : n0 ≤ b18 := Nat.le_trans Z17_ (Nat.le_of_eq g18.symm)
  have sz_b18 : h0.size ≤ b18 := Nat.le_trans KK17.1 (Nat.le_of_eq g18.symm)
  have Z18_ : n0 ≤ h18.size := Nat.le_trans Z17_ E18.1
  have KK18 := KK17.ext E18
  have q19 := (((((((((pre_F_x0_marks.ext E2).other W5 (Or.inr (own_sn (la_7 hw) (la_4 hw)))).ext E6).other W9 (Or.inr (own_sn (la_7 hw) (la_3 hw)))).ext E10).other W13 (Or.inr (own_sn (la_7 hw) (la_5 hw)))).ext E14).other W17 (Or.inr (own_sn (la_7 hw) (la_6 hw)))).ext E18)
  have q20 := ((q16.wr W17).ext E18)
  obtain ⟨T21, h21, X21, e21, W21, st21⟩ := putF X18 hx hZ hown (host := "") (Or.inl (hw _ (im 33 rfl))) Via.refl e18 q19 q20 (Or.inl (hw _ (im 34 rfl))) (hw _ (im 15 rfl)) (ty := (.array .int)) (by decide) rfl rfl (g := (mkF m 46 #[rv x0] [(.ref b18), (.ref x0)])) rfl rfl (hb hby d4_46)
  have Fw21 := q19.same W21
  have Z21_ : n0 ≤ h21.size := Nat.le_trans Z18_ (Nat.le_of_eq W21.size.symm)
  have N21 := Fr.snoc X21 N17 g_x0
  have KK21 := KK18.wr W21 (Or.inl (List.mem_of_getElem? (i := 0) rfl))
  obtain ⟨T22, h22, k22, X22, e22, E22, A22, st22⟩ := newP X21 hx hZ (hw _ (im 28 rfl)) e21 (g := (mkF m 52 #[rv x0] [(.int 64), (.ref x0)])) rfl (hb hby d4_52) rfl (by decide) (cap := 64) (by decide) (by decide) (by decide) (by decide)
  obtain ⟨b22, g22⟩ : ∃ z, z = h21.size := ⟨_, rfl⟩
  rw [← g22] at A22 st22
  have ge_b22 : n0 ≤ b22 := Nat.le_trans Z21_ (Nat.le_of_eq g22.symm)
  have sz_b22 : h0.size ≤ b22 := Nat.le_trans KK21.1 (Nat.le_of_eq g22.symm)
  have Z22_ : n0 ≤ h22.size := Nat.le_trans Z21_ E22.1
  have KK22 := KK21.ext E22
  have P23 := own_go P0 (S' := T22.setTop (mkF m 54 #[rv x0] [(.ref b22), (.ref x0)])) (by
    intro t k
    refine XS.aloadN X0.here hx rfl (hb hby d4_0) rfl rfl ?_
    refine st1 _ ?_
    refine XS.aloadN X1.here hx rfl (hb hby d4_4) rfl rfl ?_
    refine XS.sipush X1.here hx rfl (hb hby d4_5) ?_
    refine st2 _ ?_
    refine st5 _ ?_
    refine XS.aloadN X5.here hx rfl (hb hby d4_14) rfl rfl ?_
    refine XS.sipush X5.here hx rfl (hb hby d4_15) ?_
    show Steps p.tables e below (T5.setTop (mkF m 18 #[rv x0] [(.int 256), (.ref x0)])) _
    refine st6 _ ?_
    refine st9 _ ?_
    refine XS.aloadN X9.here hx rfl (hb hby d4_23) rfl rfl ?_
    refine XS.sipush X9.here hx rfl (hb hby d4_24) ?_
    refine st10 _ ?_
    refine st13 _ ?_
    refine XS.aloadN X13.here hx rfl (hb hby d4_32) rfl rfl ?_
    refine XS.sipush X13.here hx rfl (hb hby d4_33) ?_
    show Steps p.tables e below (T13.setTop (mkF m 36 #[rv x0] [(.int 256), (.ref x0)])) _
    refine st14 _ ?_
    refine st17 _ ?_
    refine XS.aloadN X17.here hx rfl (hb hby d4_41) rfl rfl ?_
    refine XS.bipush X17.here hx rfl (hb hby d4_42) ?_
    refine st18 _ ?_
    refine st21 _ ?_
    refine XS.aloadN X21.here hx rfl (hb hby d4_49) rfl rfl ?_
    refine XS.bipush X21.here hx rfl (hb hby d4_50) ?_
    show Steps p.tables e below (T21.setTop (mkF m 52 #[rv x0] [(.int 64), (.ref x0)])) _
    refine st22 _ ?_
    exact k)
  have q24 := (((((((((((pre_F_x0_stamps.ext E2).other W5 (Or.inr (own_sn (la_8 hw) (la_4 hw)))).ext E6).other W9 (Or.inr (own_sn (la_8 hw) (la_3 hw)))).ext E10).other W13 (Or.inr (own_sn (la_8 hw) (la_5 hw)))).ext E14).other W17 (Or.inr (own_sn (la_8 hw) (la_6 hw)))).ext E18).other W21 (Or.inr (own_sn (la_8 hw) (la_7 hw)))).ext E22)
  have q25 := ((q20.wr W21).ext E22)
  obtain ⟨T26, h26, X26, e26, W26, st26⟩ := putF X22 hx hZ hown (host := "") (Or.inl (hw _ (im 35 rfl))) Via.refl e22 q24 q25 (Or.inl (hw _ (im 36 rfl))) (hw _ (im 15 rfl)) (ty := (.array .long)) (by decide) rfl rfl (g := (mkF m 54 #[rv x0] [(.ref b22), (.ref x0)])) rfl rfl (hb hby d4_54)
  have Fw26 := q24.same W26
  have Z26_ : n0 ≤ h26.size := Nat.le_trans Z22_ (Nat.le_of_eq W26.size.symm)
  have N26 := Fr.snoc X26 N21 g_x0
  have KK26 := KK22.wr W26 (Or.inl (List.mem_of_getElem? (i := 0) rfl))
  have P27 := own_go P23 (S' := T26.setTop (mkF m 57 #[rv x0] [])) (by
    intro t k
    refine st26 _ ?_
    exact k)
  obtain ⟨fs, hr, hrun, hended, hW, hsame⟩ := X26.leave (v := none) (fun _ => rfl)
  refine ⟨_, _, P27 _ ?_, hrun, hended, _, _, rfl, ?_, ⟨_, rfl⟩, hW, hsame.mono (by decide) (by decide)⟩
  · show Steps p.tables e below (T26.setTop (mkF m 57 #[rv x0] [])) _
    exact X26.returnOut hx Bd.returns (hb hby d4_57) hr
  · show Q4 Z x0 h0 n0 _ T26.heap _
    rw [e26]
    exact ⟨rfl, N26, KK26⟩
def Q9 (Z : State) (x0 : Addr) (h0 : Heap) (n0 : Nat) (v : Option Value) (h : Heap) (L : List Loc) : Prop := v = none ∧ Fr n0 L ∧ Keep h0 h [x0] ∧ Exa Z h x0 "java/util/ArrayDeque"
theorem ef_9 (m : MethodId) (x0 : Addr) : entryFrame m #[(.ref x0)] 1 = mkF m 0 #[rv x0] [] := by first | (simp [entryFrame, mkF, argsToLocals, Value.category]; done) | rfl
set_option maxRecDepth 65536 in
set_option maxHeartbeats 40000000 in
theorem rm9 (l : Launch) (Z : State) (a0 : Array Value) (hw : ∀ d ∈ tables_1, d.before a0 Z = true) (ws : List Jvm.Cond) (x0 : Addr) (h0 : Heap) (n0 : Nat) (Z0 : n0 ≤ h0.size) (pre_E_x0 : Exa Z h0 x0 "java/util/ArrayDeque") (pre_F_x0_elements : Fld Z h0 x0 "java/util/ArrayDeque" "elements" "[Ljava/lang/Object;" .null) (g_x0 : n0 ≤ x0) :
    MetFree l (⟨"java/util/ArrayDeque", "<init>", "()V"⟩ : MethodName) (head1 (Jvm.Cond.code (⟨"java/util/ArrayDeque", "<init>", "()V"⟩ : MethodName) jdk_21_method_3_code 1 none :: ws) ({ frames := 2, cells := 1, slots := 17, locals := 24 } : Room)) (fun a U => a = #[(.ref x0)] ∧ Z.Warmed39 U.vm ∧ U.heap = h0) (fun _ _ _ _ _ => True) (fun _ U o U' => ∃ v L, o = .returned v ∧ Q9 Z x0 h0 n0 v U'.heap L ∧ FrameEnd U o U' L ({ frames := 2, cells := 1, slots := 17, locals := 24 } : Room).cells ({ frames := 2, cells := 1, slots := 17, locals := 24 } : Room).slots) := by
  refine MetFree.of_bodySF (plainFor_of_name pn_9) hisR ?_
  intro p e s m args below meth c s₁ Bd hml0 hP hK
  obtain ⟨rfl, hZ, hh⟩ := hP
  have hx := Bd.exec
  have hby := Bd.bytes
  have hml : c.maxLocals = 1 := hml0
  have hown : s.vm.findClass "java/util/ArrayDeque" = some m.cls := findClass_of_methodNamed Bd.named
  have hnm := (name_of_methodNamed Bd.named Bd.method).1
  have X0 : Stand p l e ({ frames := 2, cells := 1, slots := 17, locals := 24 } : Room) s m #[(.ref x0)] below meth c s₁ [] 0 0 := Stand.of_body Bd
  have e0 : s₁.heap = h0 := by rw [← hh, Bd.state]; rfl
  have N0 := Fr.nil n0
  have Kp0 := Keep.refl h0 [x0]
  have P0 : ∀ t, Steps p.tables e below (s₁.setTop (mkF m 0 #[rv x0] [])) t → Steps p.tables e below (s₁.setTop (entryFrame m #[(.ref x0)] 1)) t := fun t k => castTop (ef_9 m x0) k
  obtain ⟨_, _, ⟨T1, L1, k1, n1⟩, -, X1, ⟨Lc1, hQ1, l1, y1, z1⟩, st1⟩ := X0.specialBack hx (y := (⟨"java/util/AbstractCollection", "<init>", "()V"⟩ : MethodName)) rfl hown (mvT hZ (hw _ (im 97 rfl))) (mvT hZ (hw _ (im 52 rfl))) (mvT hZ (hw _ (im 56 rfl))) (by decide) (backOf (W := 0) (rm7 l Z a0 hw [] x0 h0 n0 Z0 ) hZ (hw _ (im 56 rfl)) (hw _ (im 55 rfl)) (by decide) (by decide)) (g := (mkF m 1 #[rv x0] [(.ref x0)])) rfl (by rw [hml]; rfl) (Steps.refl _) (a := x0) (argsL := []) (rest := []) (lenOf pd_0 rfl) rfl (by show 2 * 0 + _ ≤ _; exact Nat.le_of_eq rfl) (hb hby d9_1) (fun _ _ => ⟨rfl, e0, (by decide : 0 + 0 ≤ _), (by decide : 0 + 0 ≤ _)⟩)
  dsimp only [Pt.U, Pt.locs, Pt.cells, Pt.slots] at X1 l1 y1 z1 st1 hQ1
  subst l1 y1 z1
  obtain ⟨rfl, N1q, e1⟩ := hQ1
  have N1 := Fr.app N0 N1q
  obtain ⟨T2, h2, k2, X2, e2, E2, A2, O2v, st2⟩ := newR X1 hx hZ hown (hw _ (im 99 rfl)) (hw _ (im 100 rfl)) e1 (g := (mkF m 7 #[rv x0] [(.int 17), (.ref x0)])) rfl (hb hby d9_7) rfl (by decide) (cap := 17) (by decide) (by decide) (by decide) (by decide)
  obtain ⟨b2, g2⟩ : ∃ z, z = h0.size := ⟨_, rfl⟩
  rw [← g2] at A2 st2
  have ge_b2 : n0 ≤ b2 := Nat.le_trans Z0 (Nat.le_of_eq g2.symm)
  have sz_b2 : h0.size ≤ b2 := Nat.le_trans Kp0.1 (Nat.le_of_eq g2.symm)
  have Z2_ : n0 ≤ h2.size := Nat.le_trans Z0 E2.1
  have KK2 := Kp0.ext E2
  have V2 : Arv Z h2 b2 k2 (.object "java/lang/Object") (17 : Int32) [.null, .null, .null, .null, .null, .null, .null, .null, .null, .null, .null, .null, .null, .null, .null, .null, .null] .null := (Arv.new A2 (by decide)).pad (pad_rep [] .null 17)
  have q3 := (pre_F_x0_elements.ext E2)
  have q4 := (pre_E_x0.ext E2)
  obtain ⟨T5, h5, X5, e5, W5, st5⟩ := putF X2 hx hZ hown (host := "") (Or.inl (hw _ (im 101 rfl))) Via.refl e2 q3 q4 (Or.inl (hw _ (im 102 rfl))) (hw _ (im 92 rfl)) (ty := (.array (.object "java/lang/Object"))) (by decide) rfl rfl (g := (mkF m 10 #[rv x0] [(.ref b2), (.ref x0)])) rfl rfl (hb hby d9_10)
  have Fw5 := q3.same W5
  have Z5_ : n0 ≤ h5.size := Nat.le_trans Z2_ (Nat.le_of_eq W5.size.symm)
  have N5 := Fr.snoc X5 N1 g_x0
  have KK5 := KK2.wr W5 (Or.inl (List.mem_of_getElem? (i := 0) rfl))
  have P6 := own_go P0 (S' := T5.setTop (mkF m 13 #[rv x0] [])) (by
    intro t k
    refine XS.aloadN X0.here hx rfl (hb hby d9_0) rfl rfl ?_
    refine st1.trans ?_
    refine XS.aloadN X1.here hx rfl (hb hby d9_4) rfl rfl ?_
    refine XS.bipush X1.here hx rfl (hb hby d9_5) ?_
    refine st2 _ ?_
    refine st5 _ ?_
    exact k)
  have q7 := (q4.wr W5)
  obtain ⟨fs, hr, hrun, hended, hW, hsame⟩ := X5.leave (v := none) (fun _ => rfl)
  refine ⟨_, _, P6 _ ?_, hrun, hended, _, _, rfl, ?_, ⟨_, rfl⟩, hW, hsame.mono (by decide) (by decide)⟩
  · show Steps p.tables e below (T5.setTop (mkF m 13 #[rv x0] [])) _
    exact X5.returnOut hx Bd.returns (hb hby d9_13) hr
  · show Q9 Z x0 h0 n0 _ T5.heap _
    rw [e5]
    exact ⟨rfl, N5, KK5, q7⟩
def Q8 (Z : State) (va : Addr) (kv : ClassId) (hi : Addr) (me : Addr) (lw : Addr) (h0 : Heap) (n0 : Nat) (v : Option Value) (h : Heap) (L : List Loc) : Prop := ∃ (b : Addr), v = some (.ref b) ∧ Fr n0 L ∧ Keep h0 h [] ∧ h0.size ≤ b ∧ n0 ≤ b ∧ Arv Z h b kv (.object "com/example/violarc/violarc/solver/Propagator$Priority") (3 : Int32) [(.ref hi), (.ref me), (.ref lw)] .null
theorem ef_8 (m : MethodId)  : entryFrame m #[] 0 = mkF m 0 #[] [] := by first | (simp [entryFrame, mkF, argsToLocals, Value.category]; done) | rfl
set_option maxRecDepth 65536 in
set_option maxHeartbeats 40000000 in
theorem rm8 (l : Launch) (Z : State) (a0 : Array Value) (hw : ∀ d ∈ tables_1, d.before a0 Z = true) (ws : List Jvm.Cond) (va : Addr) (kv : ClassId) (hi : Addr) (me : Addr) (lw : Addr) (h0 : Heap) (n0 : Nat) (Z0 : n0 ≤ h0.size) (O0 : Old Z n0 h0) (pre_S__VALUES : Sta Z Z.heap "com/example/violarc/violarc/solver/Propagator$Priority" "$VALUES" "[Lcom/example/violarc/violarc/solver/Propagator$Priority;" (.ref va)) (pre_E_va : Exa Z Z.heap va "[Lcom/example/violarc/violarc/solver/Propagator$Priority;") (pre_A_va : Arv Z Z.heap va kv (.object "com/example/violarc/violarc/solver/Propagator$Priority") (3 : Int32) [(.ref hi), (.ref me), (.ref lw)] .null) :
    MetFree l (⟨"com/example/violarc/violarc/solver/Propagator$Priority", "values", "()[Lcom/example/violarc/violarc/solver/Propagator$Priority;"⟩ : MethodName) (head1 (Jvm.Cond.code (⟨"com/example/violarc/violarc/solver/Propagator$Priority", "values", "()[Lcom/example/violarc/violarc/solver/Propagator$Priority;"⟩ : MethodName) prog_132_method_1_code 0 (some (.array (.object "com/example/violarc/violarc/solver/Propagator$Priority"))) :: ws) ({ frames := 1, cells := 1, slots := 3, locals := 14 } : Room)) (fun a U => a = #[] ∧ Z.Warmed39 U.vm ∧ U.heap = h0) (fun _ _ _ _ _ => True) (fun _ U o U' => ∃ v L, o = .returned v ∧ Q8 Z va kv hi me lw h0 n0 v U'.heap L ∧ FrameEnd U o U' L ({ frames := 1, cells := 1, slots := 3, locals := 14 } : Room).cells ({ frames := 1, cells := 1, slots := 3, locals := 14 } : Room).slots) := by
  refine MetFree.of_bodySF (plainFor_of_name pn_8) hisR ?_
  intro p e s m args below meth c s₁ Bd hml0 hP hK
  obtain ⟨rfl, hZ, hh⟩ := hP
  have hx := Bd.exec
  have hby := Bd.bytes
  have hml : c.maxLocals = 0 := hml0
  have hown : s.vm.findClass "com/example/violarc/violarc/solver/Propagator$Priority" = some m.cls := findClass_of_methodNamed Bd.named
  have hnm := (name_of_methodNamed Bd.named Bd.method).1
  have X0 : Stand p l e ({ frames := 1, cells := 1, slots := 3, locals := 14 } : Room) s m #[] below meth c s₁ [] 0 0 := Stand.of_body Bd
  have e0 : s₁.heap = h0 := by rw [← hh, Bd.state]; rfl
  have N0 := Fr.nil n0
  have Kp0 := Keep.refl h0 []
  have P0 : ∀ t, Steps p.tables e below (s₁.setTop (mkF m 0 #[] [])) t → Steps p.tables e below (s₁.setTop (entryFrame m #[] 0)) t := fun t k => castTop (ef_8 m ) k
  obtain ⟨T1, X1, e1, st1⟩ := getS2 X0 hx hZ hown (host := "") (Or.inl (hw _ (im 76 rfl))) Via.refl e0 (pre_S__VALUES.ext O0.2) (g := (mkF m 0 #[] [])) rfl (hb hby d8_0)
  obtain ⟨T2, h2, X2, e2, E2, A2, Ex2, st2⟩ := cloneH X1 hx hZ hown (hw _ (im 78 rfl)) (hw _ (im 79 rfl)) (hw _ (im 83 rfl)) (hw _ (im 81 rfl)) (hw _ (im 82 rfl)) (hw _ (im 84 rfl)) e1 (Arv.arh (pre_A_va.ext O0.2)) (pre_E_va.ext O0.2) (g := (mkF m 3 #[] [(.ref va)])) rfl (by rw [hml]; rfl) rfl (hb hby d8_3) (by decide) (W := 0) (cap := 3) (by show 2 * 0 + _ ≤ _; exact Nat.le_of_eq rfl) (by decide) (by decide) (by decide) (by decide)
  obtain ⟨b2, g2⟩ : ∃ z, z = h0.size := ⟨_, rfl⟩
  rw [← g2] at A2 Ex2 st2
  have ge_b2 : n0 ≤ b2 := Nat.le_trans Z0 (Nat.le_of_eq g2.symm)
  have sz_b2 : h0.size ≤ b2 := Nat.le_trans Kp0.1 (Nat.le_of_eq g2.symm)
  have Z2_ : n0 ≤ h2.size := Nat.le_trans Z0 E2.1
  have O2_ := O0.ext E2
  have KK2 := Kp0.ext E2
  have V2 : Arv Z h2 b2 kv (.object "com/example/violarc/violarc/solver/Propagator$Priority") (3 : Int32) [(.ref hi), (.ref me), (.ref lw)] .null := A2
  obtain ⟨T3, X3, e3, st3⟩ := castY X2 hx hZ hown (hw _ (im 89 rfl)) e2 (Ins.self Ex2) (g := (mkF m 6 #[] [(.ref b2)])) rfl rfl (hb hby d8_6)
  have P4 := own_go P0 (S' := T3.setTop (mkF m 9 #[] [(.ref b2)])) (by
    intro t k
    refine st1 _ ?_
    refine st2 _ ?_
    refine st3 _ ?_
    exact k)
  obtain ⟨fs, hr, hrun, hended, hW, hsame⟩ := X3.leave (v := some (.ref b2)) (fun h => by rw [Bd.returns] at h; cases h)
  refine ⟨_, _, P4 _ ?_, hrun, hended, _, _, rfl, ?_, ⟨_, rfl⟩, hW, hsame.mono (by decide) (by decide)⟩
  · show Steps p.tables e below (T3.setTop (mkF m 9 #[] [(.ref b2)])) _
    exact retOut X3 hx (t := (.array (.object "com/example/violarc/violarc/solver/Propagator$Priority"))) Bd.returns rfl (Or.inr (Or.inr (Or.inr (Or.inr ⟨rfl, rfl, rfl⟩)))) (hb hby d8_9) hr
  · show Q8 Z va kv hi me lw h0 n0 _ T3.heap _
    rw [e3]
    exact ⟨b2, rfl, N0, KK2, sz_b2, ge_b2, V2⟩
def Q13 (Z : State) (x0 : Addr) (de : Addr) (kd : ClassId) (mm : Int32) (h0 : Heap) (n0 : Nat) (v : Option Value) (h : Heap) (L : List Loc) : Prop := ∃ (b : Addr), ∃ (kb : ClassId), v = some (.ref b) ∧ Fr n0 L ∧ Keep h0 h [x0] ∧ Exa Z h x0 "java/util/ArrayList" ∧ Fld Z h x0 "java/util/AbstractList" "modCount" "I" (.int mm) ∧ Fld Z h x0 "java/util/ArrayList" "elementData" "[Ljava/lang/Object;" (.ref b) ∧ Fld Z h x0 "java/util/ArrayList" "size" "I" (.int 0) ∧ Arv Z h b kb (.object "java/lang/Object") (10 : Int32) [.null, .null, .null, .null, .null, .null, .null, .null, .null, .null] .null ∧ Ovr Z kb "java/lang/Object" ∧ n0 ≤ b ∧ h0.size ≤ b
theorem ef_13 (m : MethodId) (x0 : Addr) : entryFrame m #[(.ref x0), (.int 1)] 4 = mkF m 0 #[rv x0, iv 1, .unset, .unset] [] := by first | (simp [entryFrame, mkF, argsToLocals, Value.category]; done) | rfl
set_option maxRecDepth 65536 in
set_option maxHeartbeats 40000000 in
theorem rm13 (l : Launch) (Z : State) (a0 : Array Value) (hw : ∀ d ∈ tables_1, d.before a0 Z = true) (ws : List Jvm.Cond) (x0 : Addr) (de : Addr) (kd : ClassId) (mm : Int32) (h0 : Heap) (n0 : Nat) (Z0 : n0 ≤ h0.size) (O0 : Old Z n0 h0) (pre_S_TY_EMPTY_ELEMENTDATA : Sta Z Z.heap "java/util/ArrayList" "DEFAULTCAPACITY_EMPTY_ELEMENTDATA" "[Ljava/lang/Object;" (.ref de)) (pre_A_de : Arv Z Z.heap de kd (.object "java/lang/Object") (0 : Int32) [] .null) (pre_E_x0 : Exa Z h0 x0 "java/util/ArrayList") (pre_F_x0_modCount : Fld Z h0 x0 "java/util/AbstractList" "modCount" "I" (.int mm)) (pre_F_x0_elementData : Fld Z h0 x0 "java/util/ArrayList" "elementData" "[Ljava/lang/Object;" (.ref de)) (pre_F_x0_size : Fld Z h0 x0 "java/util/ArrayList" "size" "I" (.int 0)) (g_x0 : n0 ≤ x0) :
    MetFree l (⟨"java/util/ArrayList", "grow", "(I)[Ljava/lang/Object;"⟩ : MethodName) (head1 (Jvm.Cond.code (⟨"java/util/ArrayList", "grow", "(I)[Ljava/lang/Object;"⟩ : MethodName) jdk_38_method_6_code 4 (some (.array (.object "java/lang/Object"))) :: ws) ({ frames := 1, cells := 1, slots := 10, locals := 14 } : Room)) (fun a U => a = #[(.ref x0), (.int 1)] ∧ Z.Warmed39 U.vm ∧ U.heap = h0) (fun _ _ _ _ _ => True) (fun _ U o U' => ∃ v L, o = .returned v ∧ Q13 Z x0 de kd mm h0 n0 v U'.heap L ∧ FrameEnd U o U' L ({ frames := 1, cells := 1, slots := 10, locals := 14 } : Room).cells ({ frames := 1, cells := 1, slots := 10, locals := 14 } : Room).slots) := by
  refine MetFree.of_bodySF (plainFor_of_name pn_13) hisR ?_
  intro p e s m args below meth c s₁ Bd hml0 hP hK
  obtain ⟨rfl, hZ, hh⟩ := hP
  have hx := Bd.exec
  have hby := Bd.bytes
  have hml : c.maxLocals = 4 := hml0
  have hown : s.vm.findClass "java/util/ArrayList" = some m.cls := findClass_of_methodNamed Bd.named
  have hnm := (name_of_methodNamed Bd.named Bd.method).1
  have X0 : Stand p l e ({ frames := 1, cells := 1, slots := 10, locals := 14 } : Room) s m #[(.ref x0), (.int 1)] below meth c s₁ [] 0 0 := Stand.of_body Bd
  have e0 : s₁.heap = h0 := by rw [← hh, Bd.state]; rfl
  have N0 := Fr.nil n0
  have Kp0 := Keep.refl h0 [x0]
  have P0 : ∀ t, Steps p.tables e below (s₁.setTop (mkF m 0 #[rv x0, iv 1, .unset, .unset] [])) t → Steps p.tables e below (s₁.setTop (entryFrame m #[(.ref x0), (.int 1)] 4)) t := fun t k => castTop (ef_13 m x0) k
  obtain ⟨T1, X1, e1, st1⟩ := getF X0 hx hZ hown (host := "") (Or.inl (hw _ (im 61 rfl))) Via.refl e0 pre_F_x0_elementData (g := (mkF m 1 #[rv x0, iv 1, .unset, .unset] [(.ref x0)])) rfl rfl (hb hby d13_1)
  obtain ⟨cl2, Ar2, qa2, S2, Nn2, H2, G2⟩ := id (pre_A_de.ext O0.2)
  obtain ⟨T4, X4, e4, st4⟩ := getF X1 hx hZ hown (host := "") (Or.inl (hw _ (im 61 rfl))) Via.refl e1 pre_F_x0_elementData (g := (mkF m 11 #[rv x0, iv 1, iv 0, .unset] [(.ref x0)])) rfl rfl (hb hby d13_11)
  obtain ⟨T5, X5, e5, st5⟩ := getS2 X4 hx hZ hown (host := "") (Or.inl (hw _ (im 60 rfl))) Via.refl e4 (pre_S_TY_EMPTY_ELEMENTDATA.ext O0.2) (g := (mkF m 14 #[rv x0, iv 1, iv 0, .unset] [(.ref de)])) rfl (hb hby d13_14)
  obtain ⟨_, _, ⟨T6, L6, k6, n6⟩, -, X6, ⟨Lc6, hQ6, l6, y6, z6⟩, st6⟩ := Jvm.LawKit.callS X5 hx (y := (⟨"java/lang/Math", "max", "(II)I"⟩ : MethodName)) hown (mvT hZ (hw _ (im 131 rfl))) (mvT hZ (hw _ (im 132 rfl))) (mvT hZ (hw _ (im 3 rfl))) (mvT hZ (hw _ (im 133 rfl))) (by decide) (backOf (W := 1) (rm14 l Z a0 hw []  h0 n0 Z0 ) hZ (hw _ (im 133 rfl)) (hw _ (im 3 rfl)) (by decide) (by decide)) (g := (mkF m 49 #[rv x0, iv 1, iv 0, .unset] [(.int 1), (.int 10), (.ref x0)])) rfl (by rw [hml]; rfl) (argsL := [(.int 10), (.int 1)]) (rest := [(.ref x0)]) (lenOf pd_1 rfl) rfl (by show 2 * 0 + _ ≤ _; exact Nat.le_of_eq rfl) (hb hby d13_49) (fun _ _ => ⟨rfl, e5, (by decide : 0 + 0 ≤ _), (by decide : 0 + 0 ≤ _)⟩)
  dsimp only [Pt.U, Pt.locs, Pt.cells, Pt.slots] at X6 l6 y6 z6 st6 hQ6
  subst l6 y6 z6
  obtain ⟨rfl, N6q, e6⟩ := hQ6
  have N6 := Fr.app N0 N6q
  obtain ⟨T7, h7, k7, X7, e7, E7, A7, O7v, st7⟩ := newR X6 hx hZ hown (hw _ (im 134 rfl)) (hw _ (im 100 rfl)) e6 (g := (mkF m 52 #[rv x0, iv 1, iv 0, .unset] [(.int 10), (.ref x0)])) rfl (hb hby d13_52) rfl (by decide) (cap := 10) (by decide) (by decide) (by decide) (by decide)
  obtain ⟨b7, g7⟩ : ∃ z, z = h0.size := ⟨_, rfl⟩
  rw [← g7] at A7 st7
  have ge_b7 : n0 ≤ b7 := Nat.le_trans Z0 (Nat.le_of_eq g7.symm)
  have sz_b7 : h0.size ≤ b7 := Nat.le_trans Kp0.1 (Nat.le_of_eq g7.symm)
  have Z7_ : n0 ≤ h7.size := Nat.le_trans Z0 E7.1
  have O7_ := O0.ext E7
  have KK7 := Kp0.ext E7
  have V7 : Arv Z h7 b7 k7 (.object "java/lang/Object") (10 : Int32) [.null, .null, .null, .null, .null, .null, .null, .null, .null, .null] .null := (Arv.new A7 (by decide)).pad (pad_rep [] .null 10)
  have q8 := (pre_F_x0_elementData.ext E7)
  have q9 := (pre_E_x0.ext E7)
  obtain ⟨T10, h10, X10, e10, W10, st10⟩ := putF X7 hx hZ hown (host := "") (Or.inl (hw _ (im 61 rfl))) Via.refl e7 q8 q9 (Or.inl (hw _ (im 62 rfl))) (hw _ (im 40 rfl)) (ty := (.array (.object "java/lang/Object"))) (by decide) rfl rfl (g := (mkF m 56 #[rv x0, iv 1, iv 0, .unset] [(.ref b7), (.ref x0), (.ref b7)])) rfl rfl (hb hby d13_56)
  have Fw10 := q8.same W10
  have Z10_ : n0 ≤ h10.size := Nat.le_trans Z7_ (Nat.le_of_eq W10.size.symm)
  have O10_ := O7_.wr W10 g_x0
  have N10 := Fr.snoc X10 N6 g_x0
  have KK10 := KK7.wr W10 (Or.inl (List.mem_of_getElem? (i := 0) rfl))
  have P11 := own_go P0 (S' := T10.setTop (mkF m 59 #[rv x0, iv 1, iv 0, .unset] [(.ref b7)])) (by
    intro t k
    refine XS.aloadN X0.here hx rfl (hb hby d13_0) rfl rfl ?_
    refine st1 _ ?_
    refine X1.arraylength hx (by rw [e1]; exact Ar2.1) (State.isArrayOf_alike hZ.alike Ar2.2.1) (g := (mkF m 4 #[rv x0, iv 1, .unset, .unset] [(.ref de)])) rfl rfl (hb hby d13_4) _ ?_
    rw [len_of S2 Nn2]
    refine XS.istoreN X1.here hx rfl (hb hby d13_5) rfl (l' := #[rv x0, iv 1, iv 0, .unset]) rfl ?_
    refine XS.iloadN X1.here hx rfl (hb hby d13_6) rfl ?_
    refine XS.ifNo X1.here hx rfl (hb hby d13_7) rfl ((if0 _ _).trans (flt (by decide)).2.2.1) ?_
    refine XS.aloadN X1.here hx rfl (hb hby d13_10) rfl rfl ?_
    refine st4 _ ?_
    show Steps p.tables e below (T4.setTop (mkF m 14 #[rv x0, iv 1, iv 0, .unset] [(.ref de)])) _
    refine st5 _ ?_
    refine Jvm.RoadKit.acmp (g := (mkF m 17 #[rv x0, iv 1, iv 0, .unset] [(.ref de), (.ref de)])) X5 hx rfl rfl rfl (pc0 := 17) (pc' := 45) (same := true) rfl (hb hby d13_17) rfl (decide_eq_true rfl) (by decide) (by decide) ?_
    refine XS.aloadN X5.here hx rfl (hb hby d13_45) rfl rfl ?_
    refine XS.bipush X5.here hx rfl (hb hby d13_46) ?_
    refine XS.iloadN X5.here hx rfl (hb hby d13_48) rfl ?_
    refine st6 _ ?_
    refine st7 _ ?_
    refine XS.dupX1 X7.here hx rfl (hb hby d13_55) rfl rfl rfl ?_
    show Steps p.tables e below (T7.setTop (mkF m 56 #[rv x0, iv 1, iv 0, .unset] [(.ref b7), (.ref x0), (.ref b7)])) _
    refine st10 _ ?_
    exact k)
  have q12 := (q9.wr W10)
  have q13 := ((pre_F_x0_modCount.ext E7).other W10 (Or.inr (own_sn (la_1 hw) (la_0 hw))))
  have q14 := ((pre_F_x0_size.ext E7).other W10 (Or.inr (own_sn (la_2 hw) (la_0 hw))))
  have ne15 : x0 ≠ b7 := Nat.ne_of_lt (Nat.lt_of_lt_of_le pre_E_x0.lt (Nat.le_of_eq g7.symm))
  have q16 := (V7.other W10 (Ne.symm ne15))
  obtain ⟨fs, hr, hrun, hended, hW, hsame⟩ := X10.leave (v := some (.ref b7)) (fun h => by rw [Bd.returns] at h; cases h)
  refine ⟨_, _, P11 _ ?_, hrun, hended, _, _, rfl, ?_, ⟨_, rfl⟩, hW, hsame.mono (by decide) (by decide)⟩
  · show Steps p.tables e below (T10.setTop (mkF m 59 #[rv x0, iv 1, iv 0, .unset] [(.ref b7)])) _
    exact retOut X10 hx (t := (.array (.object "java/lang/Object"))) Bd.returns rfl (Or.inr (Or.inr (Or.inr (Or.inr ⟨rfl, rfl, rfl⟩)))) (hb hby d13_59) hr
  · show Q13 Z x0 de kd mm h0 n0 _ T10.heap _
    rw [e10]
    exact ⟨b7, k7, rfl, N10, KK10, q12, q13, Fw10, q14, q16, O7v, ge_b7, sz_b7⟩
def Q12 (Z : State) (x0 : Addr) (de : Addr) (kd : ClassId) (mm : Int32) (h0 : Heap) (n0 : Nat) (v : Option Value) (h : Heap) (L : List Loc) : Prop := ∃ (b : Addr), ∃ (kb : ClassId), v = some (.ref b) ∧ Fr n0 L ∧ Keep h0 h [x0] ∧ Exa Z h x0 "java/util/ArrayList" ∧ Fld Z h x0 "java/util/AbstractList" "modCount" "I" (.int mm) ∧ Fld Z h x0 "java/util/ArrayList" "elementData" "[Ljava/lang/Object;" (.ref b) ∧ Fld Z h x0 "java/util/ArrayList" "size" "I" (.int 0) ∧ Arv Z h b kb (.object "java/lang/Object") (10 : Int32) [.null, .null, .null, .null, .null, .null, .null, .null, .null, .null] .null ∧ Ovr Z kb "java/lang/Object" ∧ n0 ≤ b ∧ h0.size ≤ b
theorem ef_12 (m : MethodId) (x0 : Addr) : entryFrame m #[(.ref x0)] 1 = mkF m 0 #[rv x0] [] := by first | (simp [entryFrame, mkF, argsToLocals, Value.category]; done) | rfl
set_option maxRecDepth 65536 in
set_option maxHeartbeats 40000000 in
theorem rm12 (l : Launch) (Z : State) (a0 : Array Value) (hw : ∀ d ∈ tables_1, d.before a0 Z = true) (ws : List Jvm.Cond) (x0 : Addr) (de : Addr) (kd : ClassId) (mm : Int32) (h0 : Heap) (n0 : Nat) (Z0 : n0 ≤ h0.size) (O0 : Old Z n0 h0) (pre_S_TY_EMPTY_ELEMENTDATA : Sta Z Z.heap "java/util/ArrayList" "DEFAULTCAPACITY_EMPTY_ELEMENTDATA" "[Ljava/lang/Object;" (.ref de)) (pre_A_de : Arv Z Z.heap de kd (.object "java/lang/Object") (0 : Int32) [] .null) (pre_E_x0 : Exa Z h0 x0 "java/util/ArrayList") (pre_F_x0_modCount : Fld Z h0 x0 "java/util/AbstractList" "modCount" "I" (.int mm)) (pre_F_x0_elementData : Fld Z h0 x0 "java/util/ArrayList" "elementData" "[Ljava/lang/Object;" (.ref de)) (pre_F_x0_size : Fld Z h0 x0 "java/util/ArrayList" "size" "I" (.int 0)) (g_x0 : n0 ≤ x0) :
    MetFree l (⟨"java/util/ArrayList", "grow", "()[Ljava/lang/Object;"⟩ : MethodName) (head1 (Jvm.Cond.code (⟨"java/util/ArrayList", "grow", "()[Ljava/lang/Object;"⟩ : MethodName) jdk_38_method_7_code 1 (some (.array (.object "java/lang/Object"))) :: ws) ({ frames := 2, cells := 1, slots := 10, locals := 29 } : Room)) (fun a U => a = #[(.ref x0)] ∧ Z.Warmed39 U.vm ∧ U.heap = h0) (fun _ _ _ _ _ => True) (fun _ U o U' => ∃ v L, o = .returned v ∧ Q12 Z x0 de kd mm h0 n0 v U'.heap L ∧ FrameEnd U o U' L ({ frames := 2, cells := 1, slots := 10, locals := 29 } : Room).cells ({ frames := 2, cells := 1, slots := 10, locals := 29 } : Room).slots) := by
  refine MetFree.of_bodySF (plainFor_of_name pn_12) hisR ?_
  intro p e s m args below meth c s₁ Bd hml0 hP hK
  obtain ⟨rfl, hZ, hh⟩ := hP
  have hx := Bd.exec
  have hby := Bd.bytes
  have hml : c.maxLocals = 1 := hml0
  have hown : s.vm.findClass "java/util/ArrayList" = some m.cls := findClass_of_methodNamed Bd.named
  have hnm := (name_of_methodNamed Bd.named Bd.method).1
  have X0 : Stand p l e ({ frames := 2, cells := 1, slots := 10, locals := 29 } : Room) s m #[(.ref x0)] below meth c s₁ [] 0 0 := Stand.of_body Bd
  have e0 : s₁.heap = h0 := by rw [← hh, Bd.state]; rfl
  have N0 := Fr.nil n0
  have Kp0 := Keep.refl h0 [x0]
  have P0 : ∀ t, Steps p.tables e below (s₁.setTop (mkF m 0 #[rv x0] [])) t → Steps p.tables e below (s₁.setTop (entryFrame m #[(.ref x0)] 1)) t := fun t k => castTop (ef_12 m x0) k
  obtain ⟨T1, X1, e1, st1⟩ := getF X0 hx hZ hown (host := "") (Or.inl (hw _ (im 114 rfl))) Via.refl e0 pre_F_x0_size (g := (mkF m 2 #[rv x0] [(.ref x0), (.ref x0)])) rfl rfl (hb hby d12_2)
  obtain ⟨cq2, q2x, q2x'⟩ := pre_E_x0.cell
  obtain ⟨_, _, ⟨T2, L2, k2, n2⟩, -, X2, ⟨Lc2, hQ2, l2, y2, z2⟩, st2⟩ := X1.privateBack hx (y := (⟨"java/util/ArrayList", "grow", "(I)[Ljava/lang/Object;"⟩ : MethodName)) hown (mvT hZ (hw _ (im 126 rfl))) (mvT hZ (hw _ (im 127 rfl))) (mvT hZ (hw _ (im 129 rfl))) (Cond.privateMethod_at (mvP hZ (hw _ (im 128 rfl)) (args := #[]))) (mvT hZ (hw _ (im 130 rfl))) (by decide) (backOf (W := 0) (rm13 l Z a0 hw [] x0 de kd mm h0 n0 Z0 O0 pre_S_TY_EMPTY_ELEMENTDATA pre_A_de pre_E_x0 pre_F_x0_modCount pre_F_x0_elementData pre_F_x0_size g_x0) hZ (hw _ (im 130 rfl)) (hw _ (im 41 rfl)) (by decide) (by decide)) (g := (mkF m 7 #[rv x0] [(.int 1), (.ref x0)])) rfl (by rw [hml]; rfl) (Steps.refl _) (a := x0) (by rw [e1]; exact q2x) q2x' (argsL := [(.int 1)]) (rest := []) (lenOf pd_2 rfl) rfl (by show 2 * 0 + _ ≤ _; exact Nat.le_of_eq rfl) (hb hby d12_7) (fun _ _ => ⟨rfl, e1, (by decide : 0 + 1 ≤ _), (by decide : 0 + 10 ≤ _)⟩)
  dsimp only [Pt.U, Pt.locs, Pt.cells, Pt.slots] at X2 l2 y2 z2 st2 hQ2
  subst l2 y2 z2
  obtain ⟨b_2, kb_2, rfl, N2q, K2, r2_0, r2_1, r2_2, r2_3, r2_4, r2_5, r2_6, r2_7⟩ := hQ2
  have N2 := Fr.app N0 N2q
  have Z2_ : n0 ≤ T2.heap.size := Nat.le_trans Z0 K2.1
  have O2_ := O0.keep K2 (allS g_x0 all0)
  have KK2 := Kp0.trans K2 (allS (Or.inl (List.mem_of_getElem? (i := 0) rfl)) all0)
  have szz_b_2 : h0.size ≤ b_2 := Nat.le_trans Kp0.1 r2_7
  have P3 := own_go P0 (S' := T2.setTop (mkF m 10 #[rv x0] [(.ref b_2)])) (by
    intro t k
    refine XS.aloadN X0.here hx rfl (hb hby d12_0) rfl rfl ?_
    refine XS.aloadN X0.here hx rfl (hb hby d12_1) rfl rfl ?_
    refine st1 _ ?_
    refine XS.iconst X1.here hx rfl (hb hby d12_5) ?_
    refine XS.iadd X1.here hx rfl (hb hby d12_6) rfl ?_
    refine st2.trans ?_
    exact k)
  obtain ⟨fs, hr, hrun, hended, hW, hsame⟩ := X2.leave (v := some (.ref b_2)) (fun h => by rw [Bd.returns] at h; cases h)
  refine ⟨_, _, P3 _ ?_, hrun, hended, _, _, rfl, ?_, ⟨_, rfl⟩, hW, hsame.mono (by decide) (by decide)⟩
  · show Steps p.tables e below (T2.setTop (mkF m 10 #[rv x0] [(.ref b_2)])) _
    exact retOut X2 hx (t := (.array (.object "java/lang/Object"))) Bd.returns rfl (Or.inr (Or.inr (Or.inr (Or.inr ⟨rfl, rfl, rfl⟩)))) (hb hby d12_10) hr
  · show Q12 Z x0 de kd mm h0 n0 _ T2.heap _
    exact ⟨b_2, kb_2, rfl, N2, KK2, r2_0, r2_1, r2_2, r2_3, r2_4, r2_5, r2_6, szz_b_2⟩
def Qadd3_0 (Z : State) (x0 : Addr) (x1 : Addr) (de : Addr) (kd : ClassId) (mm : Int32) (h0 : Heap) (n0 : Nat) (v : Option Value) (h : Heap) (L : List Loc) : Prop := ∃ (b : Addr), ∃ (kb : ClassId), v = none ∧ Fr n0 L ∧ Keep h0 h [x0] ∧ Exa Z h x0 "java/util/ArrayList" ∧ Fld Z h x0 "java/util/AbstractList" "modCount" "I" (.int mm) ∧ Fld Z h x0 "java/util/ArrayList" "elementData" "[Ljava/lang/Object;" (.ref b) ∧ Fld Z h x0 "java/util/ArrayList" "size" "I" (.int 1) ∧ Arv Z h b kb (.object "java/lang/Object") (10 : Int32) [(.ref x1), .null, .null, .null, .null, .null, .null, .null, .null, .null] .null ∧ Ovr Z kb "java/lang/Object" ∧ n0 ≤ b ∧ h0.size ≤ b
theorem ef_add3_0 (m : MethodId) (x0 : Addr) (x1 : Addr) : entryFrame m #[(.ref x0), (.ref x1), (.ref de), (.int 0)] 4 = mkF m 0 #[rv x0, rv x1, rv de, iv 0] [] := by first | (simp [entryFrame, mkF, argsToLocals, Value.category]; done) | rfl
set_option maxRecDepth 65536 in
set_option maxHeartbeats 40000000 in
theorem rmadd3_0 (l : Launch) (Z : State) (a0 : Array Value) (hw : ∀ d ∈ tables_1, d.before a0 Z = true) (ws : List Jvm.Cond) (x0 : Addr) (x1 : Addr) (de : Addr) (kd : ClassId) (mm : Int32) (h0 : Heap) (n0 : Nat) (Z0 : n0 ≤ h0.size) (O0 : Old Z n0 h0) (pre_S_TY_EMPTY_ELEMENTDATA : Sta Z Z.heap "java/util/ArrayList" "DEFAULTCAPACITY_EMPTY_ELEMENTDATA" "[Ljava/lang/Object;" (.ref de)) (pre_A_de : Arv Z Z.heap de kd (.object "java/lang/Object") (0 : Int32) [] .null) (pre_E_x0 : Exa Z h0 x0 "java/util/ArrayList") (pre_F_x0_modCount : Fld Z h0 x0 "java/util/AbstractList" "modCount" "I" (.int mm)) (pre_F_x0_elementData : Fld Z h0 x0 "java/util/ArrayList" "elementData" "[Ljava/lang/Object;" (.ref de)) (pre_F_x0_size : Fld Z h0 x0 "java/util/ArrayList" "size" "I" (.int 0)) (g_x0 : n0 ≤ x0) (pre_E_x1 : Exa Z h0 x1 "java/util/ArrayDeque") :
    MetFree l (⟨"java/util/ArrayList", "add", "(Ljava/lang/Object;[Ljava/lang/Object;I)V"⟩ : MethodName) (head1 (Jvm.Cond.code (⟨"java/util/ArrayList", "add", "(Ljava/lang/Object;[Ljava/lang/Object;I)V"⟩ : MethodName) jdk_38_method_24_code 4 none :: ws) ({ frames := 3, cells := 1, slots := 10, locals := 41 } : Room)) (fun a U => a = #[(.ref x0), (.ref x1), (.ref de), (.int 0)] ∧ Z.Warmed39 U.vm ∧ U.heap = h0) (fun _ _ _ _ _ => True) (fun _ U o U' => ∃ v L, o = .returned v ∧ Qadd3_0 Z x0 x1 de kd mm h0 n0 v U'.heap L ∧ FrameEnd U o U' L ({ frames := 3, cells := 1, slots := 10, locals := 41 } : Room).cells ({ frames := 3, cells := 1, slots := 10, locals := 41 } : Room).slots) := by
  refine MetFree.of_bodySF (plainFor_of_name pn_11) hisR ?_
  intro p e s m args below meth c s₁ Bd hml0 hP hK
  obtain ⟨rfl, hZ, hh⟩ := hP
  have hx := Bd.exec
  have hby := Bd.bytes
  have hml : c.maxLocals = 4 := hml0
  have hown : s.vm.findClass "java/util/ArrayList" = some m.cls := findClass_of_methodNamed Bd.named
  have hnm := (name_of_methodNamed Bd.named Bd.method).1
  have X0 : Stand p l e ({ frames := 3, cells := 1, slots := 10, locals := 41 } : Room) s m #[(.ref x0), (.ref x1), (.ref de), (.int 0)] below meth c s₁ [] 0 0 := Stand.of_body Bd
  have e0 : s₁.heap = h0 := by rw [← hh, Bd.state]; rfl
  have N0 := Fr.nil n0
  have Kp0 := Keep.refl h0 [x0]
  have P0 : ∀ t, Steps p.tables e below (s₁.setTop (mkF m 0 #[rv x0, rv x1, rv de, iv 0] [])) t → Steps p.tables e below (s₁.setTop (entryFrame m #[(.ref x0), (.ref x1), (.ref de), (.int 0)] 4)) t := fun t k => castTop (ef_add3_0 m x0 x1) k
  obtain ⟨cl1, Ar1, qa1, S1, Nn1, H1, G1⟩ := id (pre_A_de.ext O0.2)
  obtain ⟨cq3, q3x, q3x'⟩ := pre_E_x0.cell
  obtain ⟨_, _, ⟨T3, L3, k3, n3⟩, -, X3, ⟨Lc3, hQ3, l3, y3, z3⟩, st3⟩ := X0.privateBack hx (y := (⟨"java/util/ArrayList", "grow", "()[Ljava/lang/Object;"⟩ : MethodName)) hown (mvT hZ (hw _ (im 121 rfl))) (mvT hZ (hw _ (im 122 rfl))) (mvT hZ (hw _ (im 124 rfl))) (Cond.privateMethod_at (mvP hZ (hw _ (im 123 rfl)) (args := #[]))) (mvT hZ (hw _ (im 125 rfl))) (by decide) (backOf (W := 0) (rm12 l Z a0 hw [] x0 de kd mm h0 n0 Z0 O0 pre_S_TY_EMPTY_ELEMENTDATA pre_A_de pre_E_x0 pre_F_x0_modCount pre_F_x0_elementData pre_F_x0_size g_x0) hZ (hw _ (im 125 rfl)) (hw _ (im 41 rfl)) (by decide) (by decide)) (g := (mkF m 7 #[rv x0, rv x1, rv de, iv 0] [(.ref x0)])) rfl (by rw [hml]; rfl) (Steps.refl _) (a := x0) (by rw [e0]; exact q3x) q3x' (argsL := []) (rest := []) (lenOf pd_3 rfl) rfl (by show 2 * 0 + _ ≤ _; exact Nat.le_of_eq rfl) (hb hby d11_7) (fun _ _ => ⟨rfl, e0, (by decide : 0 + 1 ≤ _), (by decide : 0 + 10 ≤ _)⟩)
  dsimp only [Pt.U, Pt.locs, Pt.cells, Pt.slots] at X3 l3 y3 z3 st3 hQ3
  subst l3 y3 z3
  obtain ⟨b_3, kb_3, rfl, N3q, K3, r3_0, r3_1, r3_2, r3_3, r3_4, r3_5, r3_6, r3_7⟩ := hQ3
  have N3 := Fr.app N0 N3q
  have Z3_ : n0 ≤ T3.heap.size := Nat.le_trans Z0 K3.1
  have O3_ := O0.keep K3 (allS g_x0 all0)
  have KK3 := Kp0.trans K3 (allS (Or.inl (List.mem_of_getElem? (i := 0) rfl)) all0)
  have szz_b_3 : h0.size ≤ b_3 := Nat.le_trans Kp0.1 r3_7
  have q5 := (pre_E_x1.keep K3)
  obtain ⟨cl4, Ar4, qa4, S4, Nn4, H4, G4⟩ := id r3_4
  have hin4 : ¬ ((0 : Int32) < 0 ∨ cl4.slots.size ≤ ((0 : Int32)).toNatClampNeg) := inb_of S4 ⟨by decide, by decide⟩
  obtain ⟨T6, h6, X6, e6, W6, st6⟩ := stR X3 hx hZ rfl Ar4 (j := (0 : Int32)) hin4 rfl (Sto.ofV Ar4 qa4 r3_5 (Ins.of_exa q5 (hw _ (im 135 rfl)))) (g := (mkF m 14 #[rv x0, rv x1, rv b_3, iv 0] [(.ref x1), (.int 0), (.ref b_3)])) rfl rfl (hb hby d11_14)
  have Z6_ : n0 ≤ h6.size := Nat.le_trans Z3_ (Nat.le_of_eq W6.size.symm)
  have O6_ := O3_.wr W6 r3_6
  have N6 := Fr.snoc X6 N3 r3_6
  have KK6 := KK3.wr W6 (Or.inr szz_b_3)
  have V6 : Arv Z h6 b_3 kb_3 (.object "java/lang/Object") (10 : Int32) [(.ref x1), .null, .null, .null, .null, .null, .null, .null, .null, .null] .null := Arv.set Ar4 qa4 S4 Nn4 H4 G4 rfl W6 0 rfl (Nat.le_of_ble_eq_true rfl)
  have ne7 : x0 ≠ b_3 := Nat.ne_of_lt (Nat.lt_of_lt_of_le pre_E_x0.lt r3_7)
  have q8 := (r3_3.other W6 (Or.inl ne7))
  have q9 := (r3_0.wr W6)
  obtain ⟨T10, h10, X10, e10, W10, st10⟩ := putF X6 hx hZ hown (host := "") (Or.inl (hw _ (im 114 rfl))) Via.refl e6 q8 q9 (Or.inl (hw _ (im 115 rfl))) (hw _ (im 40 rfl)) (ty := .int) (by decide) rfl rfl (g := (mkF m 19 #[rv x0, rv x1, rv b_3, iv 0] [(.int 1), (.ref x0)])) rfl rfl (hb hby d11_19)
  have Fw10 := q8.same W10
  have Z10_ : n0 ≤ h10.size := Nat.le_trans Z6_ (Nat.le_of_eq W10.size.symm)
  have O10_ := O6_.wr W10 g_x0
  have N10 := Fr.snoc X10 N6 g_x0
  have KK10 := KK6.wr W10 (Or.inl (List.mem_of_getElem? (i := 0) rfl))
  have P11 := own_go P0 (S' := T10.setTop (mkF m 22 #[rv x0, rv x1, rv b_3, iv 0] [])) (by
    intro t k
    refine XS.iloadN X0.here hx rfl (hb hby d11_0) rfl ?_
    refine XS.aloadN X0.here hx rfl (hb hby d11_1) rfl rfl ?_
    refine X0.arraylength hx (by rw [e0]; exact Ar1.1) (State.isArrayOf_alike hZ.alike Ar1.2.1) (g := (mkF m 2 #[rv x0, rv x1, rv de, iv 0] [(.ref de), (.int 0)])) rfl rfl (hb hby d11_2) _ ?_
    rw [len_of S1 Nn1]
    refine XS.icmpNo X0.here hx rfl (hb hby d11_3) rfl (teq (by decide)).2 ?_
    refine XS.aloadN X0.here hx rfl (hb hby d11_6) rfl rfl ?_
    refine st3.trans ?_
    refine XS.astoreN X3.here hx rfl (hb hby d11_10) rfl rfl (l' := #[rv x0, rv x1, rv b_3, iv 0]) rfl ?_
    refine XS.aloadN X3.here hx rfl (hb hby d11_11) rfl rfl ?_
    show Steps p.tables e below (T3.setTop (mkF m 12 #[rv x0, rv x1, rv b_3, iv 0] [(.ref b_3)])) _
    refine XS.iloadN X3.here hx rfl (hb hby d11_12) rfl ?_
    refine XS.aloadN X3.here hx rfl (hb hby d11_13) rfl rfl ?_
    refine st6 _ ?_
    refine XS.aloadN X6.here hx rfl (hb hby d11_15) rfl rfl ?_
    refine XS.iloadN X6.here hx rfl (hb hby d11_16) rfl ?_
    refine XS.iconst X6.here hx rfl (hb hby d11_17) ?_
    refine XS.iadd X6.here hx rfl (hb hby d11_18) rfl ?_
    refine st10 _ ?_
    show Steps p.tables e below (T10.setTop (mkF m 22 #[rv x0, rv x1, rv b_3, iv 0] [])) _
    exact k)
  have q12 := (q9.wr W10)
  have q13 := ((r3_1.other W6 (Or.inl ne7)).other W10 (Or.inr (own_sn (la_1 hw) (la_2 hw))))
  have q14 := ((r3_2.other W6 (Or.inl ne7)).other W10 (Or.inr (own_sn (la_0 hw) (la_2 hw))))
  have q15 := (V6.other W10 (Ne.symm ne7))
  obtain ⟨fs, hr, hrun, hended, hW, hsame⟩ := X10.leave (v := none) (fun _ => rfl)
  refine ⟨_, _, P11 _ ?_, hrun, hended, _, _, rfl, ?_, ⟨_, rfl⟩, hW, hsame.mono (by decide) (by decide)⟩
  · show Steps p.tables e below (T10.setTop (mkF m 22 #[rv x0, rv x1, rv b_3, iv 0] [])) _
    exact X10.returnOut hx Bd.returns (hb hby d11_22) hr
  · show Qadd3_0 Z x0 x1 de kd mm h0 n0 _ T10.heap _
    rw [e10]
    exact ⟨b_3, kb_3, rfl, N10, KK10, q12, q13, q14, Fw10, q15, r3_5, r3_6, szz_b_3⟩
def Qadd3_1 (Z : State) (x0 : Addr) (x1 : Addr) (x2 : Addr) (kb : ClassId) (mm : Int32) (y0 : Addr) (h0 : Heap) (n0 : Nat) (v : Option Value) (h : Heap) (L : List Loc) : Prop := v = none ∧ Fr n0 L ∧ Keep h0 h [x0, x2] ∧ Exa Z h x0 "java/util/ArrayList" ∧ Fld Z h x0 "java/util/AbstractList" "modCount" "I" (.int mm) ∧ Fld Z h x0 "java/util/ArrayList" "elementData" "[Ljava/lang/Object;" (.ref x2) ∧ Fld Z h x0 "java/util/ArrayList" "size" "I" (.int 2) ∧ Arv Z h x2 kb (.object "java/lang/Object") (10 : Int32) [(.ref y0), (.ref x1), .null, .null, .null, .null, .null, .null, .null, .null] .null
theorem ef_add3_1 (m : MethodId) (x0 : Addr) (x1 : Addr) (x2 : Addr) : entryFrame m #[(.ref x0), (.ref x1), (.ref x2), (.int 1)] 4 = mkF m 0 #[rv x0, rv x1, rv x2, iv 1] [] := by first | (simp [entryFrame, mkF, argsToLocals, Value.category]; done) | rfl
set_option maxRecDepth 65536 in
set_option maxHeartbeats 40000000 in
theorem rmadd3_1 (l : Launch) (Z : State) (a0 : Array Value) (hw : ∀ d ∈ tables_1, d.before a0 Z = true) (ws : List Jvm.Cond) (x0 : Addr) (x1 : Addr) (x2 : Addr) (kb : ClassId) (mm : Int32) (y0 : Addr) (h0 : Heap) (n0 : Nat) (Z0 : n0 ≤ h0.size) (pre_E_x0 : Exa Z h0 x0 "java/util/ArrayList") (pre_F_x0_modCount : Fld Z h0 x0 "java/util/AbstractList" "modCount" "I" (.int mm)) (pre_F_x0_elementData : Fld Z h0 x0 "java/util/ArrayList" "elementData" "[Ljava/lang/Object;" (.ref x2)) (pre_F_x0_size : Fld Z h0 x0 "java/util/ArrayList" "size" "I" (.int 1)) (g_x0 : n0 ≤ x0) (pre_E_x1 : Exa Z h0 x1 "java/util/ArrayDeque") (pre_A_x2 : Arv Z h0 x2 kb (.object "java/lang/Object") (10 : Int32) [(.ref y0), .null, .null, .null, .null, .null, .null, .null, .null, .null] .null) (ovb : Ovr Z kb "java/lang/Object") (g_x2 : n0 ≤ x2) (ne_x0_x2 : x0 ≠ x2) :
    MetFree l (⟨"java/util/ArrayList", "add", "(Ljava/lang/Object;[Ljava/lang/Object;I)V"⟩ : MethodName) (head1 (Jvm.Cond.code (⟨"java/util/ArrayList", "add", "(Ljava/lang/Object;[Ljava/lang/Object;I)V"⟩ : MethodName) jdk_38_method_24_code 4 none :: ws) ({ frames := 0, cells := 0, slots := 0, locals := 0 } : Room)) (fun a U => a = #[(.ref x0), (.ref x1), (.ref x2), (.int 1)] ∧ Z.Warmed39 U.vm ∧ U.heap = h0) (fun _ _ _ _ _ => True) (fun _ U o U' => ∃ v L, o = .returned v ∧ Qadd3_1 Z x0 x1 x2 kb mm y0 h0 n0 v U'.heap L ∧ FrameEnd U o U' L ({ frames := 0, cells := 0, slots := 0, locals := 0 } : Room).cells ({ frames := 0, cells := 0, slots := 0, locals := 0 } : Room).slots) := by
  refine MetFree.of_bodySF (plainFor_of_name pn_11) hisR ?_
  intro p e s m args below meth c s₁ Bd hml0 hP hK
  obtain ⟨rfl, hZ, hh⟩ := hP
  have hx := Bd.exec
  have hby := Bd.bytes
  have hml : c.maxLocals = 4 := hml0
  have hown : s.vm.findClass "java/util/ArrayList" = some m.cls := findClass_of_methodNamed Bd.named
  have hnm := (name_of_methodNamed Bd.named Bd.method).1
  have X0 : Stand p l e ({ frames := 0, cells := 0, slots := 0, locals := 0 } : Room) s m #[(.ref x0), (.ref x1), (.ref x2), (.int 1)] below meth c s₁ [] 0 0 := Stand.of_body Bd
  have e0 : s₁.heap = h0 := by rw [← hh, Bd.state]; rfl
  have N0 := Fr.nil n0
  have Kp0 := Keep.refl h0 [x0, x2]
  have P0 : ∀ t, Steps p.tables e below (s₁.setTop (mkF m 0 #[rv x0, rv x1, rv x2, iv 1] [])) t → Steps p.tables e below (s₁.setTop (entryFrame m #[(.ref x0), (.ref x1), (.ref x2), (.int 1)] 4)) t := fun t k => castTop (ef_add3_1 m x0 x1 x2) k
  obtain ⟨cl1, Ar1, qa1, S1, Nn1, H1, G1⟩ := id pre_A_x2
  obtain ⟨cl3, Ar3, qa3, S3, Nn3, H3, G3⟩ := id pre_A_x2
  have hin3 : ¬ ((1 : Int32) < 0 ∨ cl3.slots.size ≤ ((1 : Int32)).toNatClampNeg) := inb_of S3 ⟨by decide, by decide⟩
  obtain ⟨T4, h4, X4, e4, W4, st4⟩ := stR X0 hx hZ e0 Ar3 (j := (1 : Int32)) hin3 rfl (Sto.ofV Ar3 qa3 ovb (Ins.of_exa pre_E_x1 (hw _ (im 135 rfl)))) (g := (mkF m 14 #[rv x0, rv x1, rv x2, iv 1] [(.ref x1), (.int 1), (.ref x2)])) rfl rfl (hb hby d11_14)
  have Z4_ : n0 ≤ h4.size := Nat.le_trans Z0 (Nat.le_of_eq W4.size.symm)
  have N4 := Fr.snoc X4 N0 g_x2
  have KK4 := Kp0.wr W4 (Or.inl (List.mem_of_getElem? (i := 1) rfl))
  have V4 : Arv Z h4 x2 kb (.object "java/lang/Object") (10 : Int32) [(.ref y0), (.ref x1), .null, .null, .null, .null, .null, .null, .null, .null] .null := Arv.set Ar3 qa3 S3 Nn3 H3 G3 rfl W4 1 rfl (Nat.le_of_ble_eq_true rfl)
  have q5 := (pre_F_x0_size.other W4 (Or.inl ne_x0_x2))
  have q6 := (pre_E_x0.wr W4)
  obtain ⟨T7, h7, X7, e7, W7, st7⟩ := putF X4 hx hZ hown (host := "") (Or.inl (hw _ (im 114 rfl))) Via.refl e4 q5 q6 (Or.inl (hw _ (im 115 rfl))) (hw _ (im 40 rfl)) (ty := .int) (by decide) rfl rfl (g := (mkF m 19 #[rv x0, rv x1, rv x2, iv 1] [(.int 2), (.ref x0)])) rfl rfl (hb hby d11_19)
  have Fw7 := q5.same W7
  have Z7_ : n0 ≤ h7.size := Nat.le_trans Z4_ (Nat.le_of_eq W7.size.symm)
  have N7 := Fr.snoc X7 N4 g_x0
  have KK7 := KK4.wr W7 (Or.inl (List.mem_of_getElem? (i := 0) rfl))
  have P8 := own_go P0 (S' := T7.setTop (mkF m 22 #[rv x0, rv x1, rv x2, iv 1] [])) (by
    intro t k
    refine XS.iloadN X0.here hx rfl (hb hby d11_0) rfl ?_
    refine XS.aloadN X0.here hx rfl (hb hby d11_1) rfl rfl ?_
    refine X0.arraylength hx (by rw [e0]; exact Ar1.1) (State.isArrayOf_alike hZ.alike Ar1.2.1) (g := (mkF m 2 #[rv x0, rv x1, rv x2, iv 1] [(.ref x2), (.int 1)])) rfl rfl (hb hby d11_2) _ ?_
    rw [len_of S1 Nn1]
    refine XS.icmpYes X0.here hx rfl (pc0 := 3) (pc' := 11) rfl (hb hby d11_3) rfl (feq (by decide)).2 (by decide) (by decide) ?_
    refine XS.aloadN X0.here hx rfl (hb hby d11_11) rfl rfl ?_
    refine XS.iloadN X0.here hx rfl (hb hby d11_12) rfl ?_
    refine XS.aloadN X0.here hx rfl (hb hby d11_13) rfl rfl ?_
    refine st4 _ ?_
    show Steps p.tables e below (T4.setTop (mkF m 15 #[rv x0, rv x1, rv x2, iv 1] [])) _
    refine XS.aloadN X4.here hx rfl (hb hby d11_15) rfl rfl ?_
    refine XS.iloadN X4.here hx rfl (hb hby d11_16) rfl ?_
    refine XS.iconst X4.here hx rfl (hb hby d11_17) ?_
    refine XS.iadd X4.here hx rfl (hb hby d11_18) rfl ?_
    refine st7 _ ?_
    exact k)
  have q9 := (q6.wr W7)
  have q10 := ((pre_F_x0_modCount.other W4 (Or.inl ne_x0_x2)).other W7 (Or.inr (own_sn (la_1 hw) (la_2 hw))))
  have q11 := ((pre_F_x0_elementData.other W4 (Or.inl ne_x0_x2)).other W7 (Or.inr (own_sn (la_0 hw) (la_2 hw))))
  have q12 := (V4.other W7 (Ne.symm ne_x0_x2))
  obtain ⟨fs, hr, hrun, hended, hW, hsame⟩ := X7.leave (v := none) (fun _ => rfl)
  refine ⟨_, _, P8 _ ?_, hrun, hended, _, _, rfl, ?_, ⟨_, rfl⟩, hW, hsame.mono (by decide) (by decide)⟩
  · show Steps p.tables e below (T7.setTop (mkF m 22 #[rv x0, rv x1, rv x2, iv 1] [])) _
    exact X7.returnOut hx Bd.returns (hb hby d11_22) hr
  · show Qadd3_1 Z x0 x1 x2 kb mm y0 h0 n0 _ T7.heap _
    rw [e7]
    exact ⟨rfl, N7, KK7, q9, q10, q11, Fw7, q12⟩
def Qadd3_2 (Z : State) (x0 : Addr) (x1 : Addr) (x2 : Addr) (kb : ClassId) (mm : Int32) (y0 : Addr) (y1 : Addr) (h0 : Heap) (n0 : Nat) (v : Option Value) (h : Heap) (L : List Loc) : Prop := v = none ∧ Fr n0 L ∧ Keep h0 h [x0, x2] ∧ Exa Z h x0 "java/util/ArrayList" ∧ Fld Z h x0 "java/util/AbstractList" "modCount" "I" (.int mm) ∧ Fld Z h x0 "java/util/ArrayList" "elementData" "[Ljava/lang/Object;" (.ref x2) ∧ Fld Z h x0 "java/util/ArrayList" "size" "I" (.int 3) ∧ Arv Z h x2 kb (.object "java/lang/Object") (10 : Int32) [(.ref y0), (.ref y1), (.ref x1), .null, .null, .null, .null, .null, .null, .null] .null
theorem ef_add3_2 (m : MethodId) (x0 : Addr) (x1 : Addr) (x2 : Addr) : entryFrame m #[(.ref x0), (.ref x1), (.ref x2), (.int 2)] 4 = mkF m 0 #[rv x0, rv x1, rv x2, iv 2] [] := by first | (simp [entryFrame, mkF, argsToLocals, Value.category]; done) | rfl
set_option maxRecDepth 65536 in
set_option maxHeartbeats 40000000 in
theorem rmadd3_2 (l : Launch) (Z : State) (a0 : Array Value) (hw : ∀ d ∈ tables_1, d.before a0 Z = true) (ws : List Jvm.Cond) (x0 : Addr) (x1 : Addr) (x2 : Addr) (kb : ClassId) (mm : Int32) (y0 : Addr) (y1 : Addr) (h0 : Heap) (n0 : Nat) (Z0 : n0 ≤ h0.size) (pre_E_x0 : Exa Z h0 x0 "java/util/ArrayList") (pre_F_x0_modCount : Fld Z h0 x0 "java/util/AbstractList" "modCount" "I" (.int mm)) (pre_F_x0_elementData : Fld Z h0 x0 "java/util/ArrayList" "elementData" "[Ljava/lang/Object;" (.ref x2)) (pre_F_x0_size : Fld Z h0 x0 "java/util/ArrayList" "size" "I" (.int 2)) (g_x0 : n0 ≤ x0) (pre_E_x1 : Exa Z h0 x1 "java/util/ArrayDeque") (pre_A_x2 : Arv Z h0 x2 kb (.object "java/lang/Object") (10 : Int32) [(.ref y0), (.ref y1), .null, .null, .null, .null, .null, .null, .null, .null] .null) (ovb : Ovr Z kb "java/lang/Object") (g_x2 : n0 ≤ x2) (ne_x0_x2 : x0 ≠ x2) :
    MetFree l (⟨"java/util/ArrayList", "add", "(Ljava/lang/Object;[Ljava/lang/Object;I)V"⟩ : MethodName) (head1 (Jvm.Cond.code (⟨"java/util/ArrayList", "add", "(Ljava/lang/Object;[Ljava/lang/Object;I)V"⟩ : MethodName) jdk_38_method_24_code 4 none :: ws) ({ frames := 0, cells := 0, slots := 0, locals := 0 } : Room)) (fun a U => a = #[(.ref x0), (.ref x1), (.ref x2), (.int 2)] ∧ Z.Warmed39 U.vm ∧ U.heap = h0) (fun _ _ _ _ _ => True) (fun _ U o U' => ∃ v L, o = .returned v ∧ Qadd3_2 Z x0 x1 x2 kb mm y0 y1 h0 n0 v U'.heap L ∧ FrameEnd U o U' L ({ frames := 0, cells := 0, slots := 0, locals := 0 } : Room).cells ({ frames := 0, cells := 0, slots := 0, locals := 0 } : Room).slots) := by
  refine MetFree.of_bodySF (plainFor_of_name pn_11) hisR ?_
  intro p e s m args below meth c s₁ Bd hml0 hP hK
  obtain ⟨rfl, hZ, hh⟩ := hP
  have hx := Bd.exec
  have hby := Bd.bytes
  have hml : c.maxLocals = 4 := hml0
  have hown : s.vm.findClass "java/util/ArrayList" = some m.cls := findClass_of_methodNamed Bd.named
  have hnm := (name_of_methodNamed Bd.named Bd.method).1
  have X0 : Stand p l e ({ frames := 0, cells := 0, slots := 0, locals := 0 } : Room) s m #[(.ref x0), (.ref x1), (.ref x2), (.int 2)] below meth c s₁ [] 0 0 := Stand.of_body Bd
  have e0 : s₁.heap = h0 := by rw [← hh, Bd.state]; rfl
  have N0 := Fr.nil n0
  have Kp0 := Keep.refl h0 [x0, x2]
  have P0 : ∀ t, Steps p.tables e below (s₁.setTop (mkF m 0 #[rv x0, rv x1, rv x2, iv 2] [])) t → Steps p.tables e below (s₁.setTop (entryFrame m #[(.ref x0), (.ref x1), (.ref x2), (.int 2)] 4)) t := fun t k => castTop (ef_add3_2 m x0 x1 x2) k
  obtain ⟨cl1, Ar1, qa1, S1, Nn1, H1, G1⟩ := id pre_A_x2
  obtain ⟨cl3, Ar3, qa3, S3, Nn3, H3, G3⟩ := id pre_A_x2
  have hin3 : ¬ ((2 : Int32) < 0 ∨ cl3.slots.size ≤ ((2 : Int32)).toNatClampNeg) := inb_of S3 ⟨by decide, by decide⟩
  obtain ⟨T4, h4, X4, e4, W4, st4⟩ := stR X0 hx hZ e0 Ar3 (j := (2 : Int32)) hin3 rfl (Sto.ofV Ar3 qa3 ovb (Ins.of_exa pre_E_x1 (hw _ (im 135 rfl)))) (g := (mkF m 14 #[rv x0, rv x1, rv x2, iv 2] [(.ref x1), (.int 2), (.ref x2)])) rfl rfl (hb hby d11_14)
  have Z4_ : n0 ≤ h4.size := Nat.le_trans Z0 (Nat.le_of_eq W4.size.symm)
  have N4 := Fr.snoc X4 N0 g_x2
  have KK4 := Kp0.wr W4 (Or.inl (List.mem_of_getElem? (i := 1) rfl))
  have V4 : Arv Z h4 x2 kb (.object "java/lang/Object") (10 : Int32) [(.ref y0), (.ref y1), (.ref x1), .null, .null, .null, .null, .null, .null, .null] .null := Arv.set Ar3 qa3 S3 Nn3 H3 G3 rfl W4 2 rfl (Nat.le_of_ble_eq_true rfl)
  have q5 := (pre_F_x0_size.other W4 (Or.inl ne_x0_x2))
  have q6 := (pre_E_x0.wr W4)
  obtain ⟨T7, h7, X7, e7, W7, st7⟩ := putF X4 hx hZ hown (host := "") (Or.inl (hw _ (im 114 rfl))) Via.refl e4 q5 q6 (Or.inl (hw _ (im 115 rfl))) (hw _ (im 40 rfl)) (ty := .int) (by decide) rfl rfl (g := (mkF m 19 #[rv x0, rv x1, rv x2, iv 2] [(.int 3), (.ref x0)])) rfl rfl (hb hby d11_19)
  have Fw7 := q5.same W7
  have Z7_ : n0 ≤ h7.size := Nat.le_trans Z4_ (Nat.le_of_eq W7.size.symm)
  have N7 := Fr.snoc X7 N4 g_x0
  have KK7 := KK4.wr W7 (Or.inl (List.mem_of_getElem? (i := 0) rfl))
  have P8 := own_go P0 (S' := T7.setTop (mkF m 22 #[rv x0, rv x1, rv x2, iv 2] [])) (by
    intro t k
    refine XS.iloadN X0.here hx rfl (hb hby d11_0) rfl ?_
    refine XS.aloadN X0.here hx rfl (hb hby d11_1) rfl rfl ?_
    refine X0.arraylength hx (by rw [e0]; exact Ar1.1) (State.isArrayOf_alike hZ.alike Ar1.2.1) (g := (mkF m 2 #[rv x0, rv x1, rv x2, iv 2] [(.ref x2), (.int 2)])) rfl rfl (hb hby d11_2) _ ?_
    rw [len_of S1 Nn1]
    refine XS.icmpYes X0.here hx rfl (pc0 := 3) (pc' := 11) rfl (hb hby d11_3) rfl (feq (by decide)).2 (by decide) (by decide) ?_
    refine XS.aloadN X0.here hx rfl (hb hby d11_11) rfl rfl ?_
    refine XS.iloadN X0.here hx rfl (hb hby d11_12) rfl ?_
    refine XS.aloadN X0.here hx rfl (hb hby d11_13) rfl rfl ?_
    refine st4 _ ?_
    show Steps p.tables e below (T4.setTop (mkF m 15 #[rv x0, rv x1, rv x2, iv 2] [])) _
    refine XS.aloadN X4.here hx rfl (hb hby d11_15) rfl rfl ?_
    refine XS.iloadN X4.here hx rfl (hb hby d11_16) rfl ?_
    refine XS.iconst X4.here hx rfl (hb hby d11_17) ?_
    refine XS.iadd X4.here hx rfl (hb hby d11_18) rfl ?_
    refine st7 _ ?_
    exact k)
  have q9 := (q6.wr W7)
  have q10 := ((pre_F_x0_modCount.other W4 (Or.inl ne_x0_x2)).other W7 (Or.inr (own_sn (la_1 hw) (la_2 hw))))
  have q11 := ((pre_F_x0_elementData.other W4 (Or.inl ne_x0_x2)).other W7 (Or.inr (own_sn (la_0 hw) (la_2 hw))))
  have q12 := (V4.other W7 (Ne.symm ne_x0_x2))
  obtain ⟨fs, hr, hrun, hended, hW, hsame⟩ := X7.leave (v := none) (fun _ => rfl)
  refine ⟨_, _, P8 _ ?_, hrun, hended, _, _, rfl, ?_, ⟨_, rfl⟩, hW, hsame.mono (by decide) (by decide)⟩
  · show Steps p.tables e below (T7.setTop (mkF m 22 #[rv x0, rv x1, rv x2, iv 2] [])) _
    exact X7.returnOut hx Bd.returns (hb hby d11_22) hr
  · show Qadd3_2 Z x0 x1 x2 kb mm y0 y1 h0 n0 _ T7.heap _
    rw [e7]
    exact ⟨rfl, N7, KK7, q9, q10, q11, Fw7, q12⟩
def Qadd1_0 (Z : State) (x0 : Addr) (x1 : Addr) (de : Addr) (kd : ClassId) (h0 : Heap) (n0 : Nat) (v : Option Value) (h : Heap) (L : List Loc) : Prop := ∃ (b : Addr), ∃ (kb : ClassId), v = some (.int 1) ∧ Fr n0 L ∧ Keep h0 h [x0] ∧ Exa Z h x0 "java/util/ArrayList" ∧ Fld Z h x0 "java/util/AbstractList" "modCount" "I" (.int 1) ∧ Fld Z h x0 "java/util/ArrayList" "elementData" "[Ljava/lang/Object;" (.ref b) ∧ Fld Z h x0 "java/util/ArrayList" "size" "I" (.int 1) ∧ Arv Z h b kb (.object "java/lang/Object") (10 : Int32) [(.ref x1), .null, .null, .null, .null, .null, .null, .null, .null, .null] .null ∧ Ovr Z kb "java/lang/Object" ∧ n0 ≤ b ∧ h0.size ≤ b
theorem ef_add1_0 (m : MethodId) (x0 : Addr) (x1 : Addr) : entryFrame m #[(.ref x0), (.ref x1)] 2 = mkF m 0 #[rv x0, rv x1] [] := by first | (simp [entryFrame, mkF, argsToLocals, Value.category]; done) | rfl
set_option maxRecDepth 65536 in
set_option maxHeartbeats 40000000 in
theorem rmadd1_0 (l : Launch) (Z : State) (a0 : Array Value) (hw : ∀ d ∈ tables_1, d.before a0 Z = true) (ws : List Jvm.Cond) (x0 : Addr) (x1 : Addr) (de : Addr) (kd : ClassId) (h0 : Heap) (n0 : Nat) (Z0 : n0 ≤ h0.size) (O0 : Old Z n0 h0) (pre_S_TY_EMPTY_ELEMENTDATA : Sta Z Z.heap "java/util/ArrayList" "DEFAULTCAPACITY_EMPTY_ELEMENTDATA" "[Ljava/lang/Object;" (.ref de)) (pre_A_de : Arv Z Z.heap de kd (.object "java/lang/Object") (0 : Int32) [] .null) (pre_E_x0 : Exa Z h0 x0 "java/util/ArrayList") (pre_F_x0_modCount : Fld Z h0 x0 "java/util/AbstractList" "modCount" "I" (.int 0)) (pre_F_x0_elementData : Fld Z h0 x0 "java/util/ArrayList" "elementData" "[Ljava/lang/Object;" (.ref de)) (pre_F_x0_size : Fld Z h0 x0 "java/util/ArrayList" "size" "I" (.int 0)) (g_x0 : n0 ≤ x0) (pre_E_x1 : Exa Z h0 x1 "java/util/ArrayDeque") :
    MetFree l (⟨"java/util/ArrayList", "add", "(Ljava/lang/Object;)Z"⟩ : MethodName) (head1 (Jvm.Cond.code (⟨"java/util/ArrayList", "add", "(Ljava/lang/Object;)Z"⟩ : MethodName) jdk_38_method_25_code 2 (some .boolean) :: ws) ({ frames := 4, cells := 1, slots := 10, locals := 56 } : Room)) (fun a U => a = #[(.ref x0), (.ref x1)] ∧ Z.Warmed39 U.vm ∧ U.heap = h0) (fun _ _ _ _ _ => True) (fun _ U o U' => ∃ v L, o = .returned v ∧ Qadd1_0 Z x0 x1 de kd h0 n0 v U'.heap L ∧ FrameEnd U o U' L ({ frames := 4, cells := 1, slots := 10, locals := 56 } : Room).cells ({ frames := 4, cells := 1, slots := 10, locals := 56 } : Room).slots) := by
  refine MetFree.of_bodySF (plainFor_of_name pn_10) hisR ?_
  intro p e s m args below meth c s₁ Bd hml0 hP hK
  obtain ⟨rfl, hZ, hh⟩ := hP
  have hx := Bd.exec
  have hby := Bd.bytes
  have hml : c.maxLocals = 2 := hml0
  have hown : s.vm.findClass "java/util/ArrayList" = some m.cls := findClass_of_methodNamed Bd.named
  have hnm := (name_of_methodNamed Bd.named Bd.method).1
  have X0 : Stand p l e ({ frames := 4, cells := 1, slots := 10, locals := 56 } : Room) s m #[(.ref x0), (.ref x1)] below meth c s₁ [] 0 0 := Stand.of_body Bd
  have e0 : s₁.heap = h0 := by rw [← hh, Bd.state]; rfl
  have N0 := Fr.nil n0
  have Kp0 := Keep.refl h0 [x0]
  have P0 : ∀ t, Steps p.tables e below (s₁.setTop (mkF m 0 #[rv x0, rv x1] [])) t → Steps p.tables e below (s₁.setTop (entryFrame m #[(.ref x0), (.ref x1)] 2)) t := fun t k => castTop (ef_add1_0 m x0 x1) k
  obtain ⟨T1, X1, e1, st1⟩ := getF X0 hx hZ hown (host := "") (Or.inl (hw _ (im 112 rfl))) (Via.of (hw _ (im 113 rfl))) e0 pre_F_x0_modCount (g := (mkF m 2 #[rv x0, rv x1] [(.ref x0), (.ref x0)])) rfl rfl (hb hby d10_2)
  obtain ⟨T2, h2, X2, e2, W2, st2⟩ := putF X1 hx hZ hown (host := "") (Or.inl (hw _ (im 112 rfl))) (Via.of (hw _ (im 113 rfl))) e1 pre_F_x0_modCount pre_E_x0 (Or.inl (hw _ (im 59 rfl))) (hw _ (im 40 rfl)) (ty := .int) (by decide) rfl rfl (g := (mkF m 7 #[rv x0, rv x1] [(.int 1), (.ref x0)])) rfl rfl (hb hby d10_7)
  have Fw2 := pre_F_x0_modCount.same W2
  have Z2_ : n0 ≤ h2.size := Nat.le_trans Z0 (Nat.le_of_eq W2.size.symm)
  have O2_ := O0.wr W2 g_x0
  have N2 := Fr.snoc X2 N0 g_x0
  have KK2 := Kp0.wr W2 (Or.inl (List.mem_of_getElem? (i := 0) rfl))
  have q3 := (pre_F_x0_elementData.other W2 (Or.inr (own_sn (la_0 hw) (la_1 hw))))
  obtain ⟨T4, X4, e4, st4⟩ := getF X2 hx hZ hown (host := "") (Or.inl (hw _ (im 61 rfl))) Via.refl e2 q3 (g := (mkF m 13 #[rv x0, rv x1] [(.ref x0), (.ref x1), (.ref x0)])) rfl rfl (hb hby d10_13)
  have q5 := (pre_F_x0_size.other W2 (Or.inr (own_sn (la_2 hw) (la_1 hw))))
  obtain ⟨T6, X6, e6, st6⟩ := getF X4 hx hZ hown (host := "") (Or.inl (hw _ (im 114 rfl))) Via.refl e4 q5 (g := (mkF m 17 #[rv x0, rv x1] [(.ref x0), (.ref de), (.ref x1), (.ref x0)])) rfl rfl (hb hby d10_17)
  have q7 := (pre_E_x0.wr W2)
  have q8 := (pre_E_x1.wr W2)
  obtain ⟨cq9, q9x, q9x'⟩ := q7.cell
  obtain ⟨_, _, ⟨T9, L9, k9, n9⟩, -, X9, ⟨Lc9, hQ9, l9, y9, z9⟩, st9⟩ := X6.privateBack hx (y := (⟨"java/util/ArrayList", "add", "(Ljava/lang/Object;[Ljava/lang/Object;I)V"⟩ : MethodName)) hown (mvT hZ (hw _ (im 116 rfl))) (mvT hZ (hw _ (im 117 rfl))) (mvT hZ (hw _ (im 119 rfl))) (Cond.privateMethod_at (mvP hZ (hw _ (im 118 rfl)) (args := #[]))) (mvT hZ (hw _ (im 120 rfl))) (by decide) (backOf (W := 0) (rmadd3_0 l Z a0 hw [] x0 x1 de kd (1 : Int32) h2 n0 Z2_ O2_ pre_S_TY_EMPTY_ELEMENTDATA pre_A_de q7 Fw2 q3 q5 g_x0 q8) hZ (hw _ (im 120 rfl)) (hw _ (im 41 rfl)) (by decide) (by decide)) (g := (mkF m 20 #[rv x0, rv x1] [(.int 0), (.ref de), (.ref x1), (.ref x0)])) rfl (by rw [hml]; rfl) (Steps.refl _) (a := x0) (by rw [e6]; exact q9x) q9x' (argsL := [(.ref x1), (.ref de), (.int 0)]) (rest := []) (lenOf pd_4 rfl) rfl (by show 2 * 0 + _ ≤ _; exact Nat.le_of_eq rfl) (hb hby d10_20) (fun _ _ => ⟨rfl, e6, (by decide : 0 + 1 ≤ _), (by decide : 0 + 10 ≤ _)⟩)
  dsimp only [Pt.U, Pt.locs, Pt.cells, Pt.slots] at X9 l9 y9 z9 st9 hQ9
  subst l9 y9 z9
  obtain ⟨b_9, kb_9, rfl, N9q, K9, r9_0, r9_1, r9_2, r9_3, r9_4, r9_5, r9_6, r9_7⟩ := hQ9
  have N9 := Fr.app N2 N9q
  have Z9_ : n0 ≤ T9.heap.size := Nat.le_trans Z2_ K9.1
  have O9_ := O2_.keep K9 (allS g_x0 all0)
  have KK9 := KK2.trans K9 (allS (Or.inl (List.mem_of_getElem? (i := 0) rfl)) all0)
  have szz_b_9 : h0.size ≤ b_9 := Nat.le_trans KK2.1 r9_7
  have P10 := own_go P0 (S' := T9.setTop (mkF m 24 #[rv x0, rv x1] [(.int 1)])) (by
    intro t k
    refine XS.aloadN X0.here hx rfl (hb hby d10_0) rfl rfl ?_
    refine XS.dup X0.here hx rfl (hb hby d10_1) rfl rfl ?_
    refine st1 _ ?_
    refine XS.iconst X1.here hx rfl (hb hby d10_5) ?_
    refine XS.iadd X1.here hx rfl (hb hby d10_6) rfl ?_
    refine st2 _ ?_
    refine XS.aloadN X2.here hx rfl (hb hby d10_10) rfl rfl ?_
    refine XS.aloadN X2.here hx rfl (hb hby d10_11) rfl rfl ?_
    show Steps p.tables e below (T2.setTop (mkF m 12 #[rv x0, rv x1] [(.ref x1), (.ref x0)])) _
    refine XS.aloadN X2.here hx rfl (hb hby d10_12) rfl rfl ?_
    refine st4 _ ?_
    refine XS.aloadN X4.here hx rfl (hb hby d10_16) rfl rfl ?_
    refine st6 _ ?_
    refine st9.trans ?_
    refine XS.iconst X9.here hx rfl (hb hby d10_23) ?_
    exact k)
  obtain ⟨fs, hr, hrun, hended, hW, hsame⟩ := X9.leave (v := some (.int 1)) (fun h => by rw [Bd.returns] at h; cases h)
  refine ⟨_, _, P10 _ ?_, hrun, hended, _, _, rfl, ?_, ⟨_, rfl⟩, hW, hsame.mono (by decide) (by decide)⟩
  · show Steps p.tables e below (T9.setTop (mkF m 24 #[rv x0, rv x1] [(.int 1)])) _
    exact retN X9 hx (t := .boolean) Bd.returns (by simp) (hb hby d10_24) hr
  · show Qadd1_0 Z x0 x1 de kd h0 n0 _ T9.heap _
    exact ⟨b_9, kb_9, rfl, N9, KK9, r9_0, r9_1, r9_2, r9_3, r9_4, r9_5, r9_6, szz_b_9⟩
def Qadd1_1 (Z : State) (x0 : Addr) (x1 : Addr) (b : Addr) (kb : ClassId) (y0 : Addr) (h0 : Heap) (n0 : Nat) (v : Option Value) (h : Heap) (L : List Loc) : Prop := v = some (.int 1) ∧ Fr n0 L ∧ Keep h0 h [x0, b] ∧ Exa Z h x0 "java/util/ArrayList" ∧ Fld Z h x0 "java/util/AbstractList" "modCount" "I" (.int 2) ∧ Fld Z h x0 "java/util/ArrayList" "elementData" "[Ljava/lang/Object;" (.ref b) ∧ Fld Z h x0 "java/util/ArrayList" "size" "I" (.int 2) ∧ Arv Z h b kb (.object "java/lang/Object") (10 : Int32) [(.ref y0), (.ref x1), .null, .null, .null, .null, .null, .null, .null, .null] .null
theorem ef_add1_1 (m : MethodId) (x0 : Addr) (x1 : Addr) : entryFrame m #[(.ref x0), (.ref x1)] 2 = mkF m 0 #[rv x0, rv x1] [] := by first | (simp [entryFrame, mkF, argsToLocals, Value.category]; done) | rfl
set_option maxRecDepth 65536 in
set_option maxHeartbeats 40000000 in
theorem rmadd1_1 (l : Launch) (Z : State) (a0 : Array Value) (hw : ∀ d ∈ tables_1, d.before a0 Z = true) (ws : List Jvm.Cond) (x0 : Addr) (x1 : Addr) (b : Addr) (kb : ClassId) (y0 : Addr) (h0 : Heap) (n0 : Nat) (Z0 : n0 ≤ h0.size) (pre_E_x0 : Exa Z h0 x0 "java/util/ArrayList") (pre_F_x0_modCount : Fld Z h0 x0 "java/util/AbstractList" "modCount" "I" (.int 1)) (pre_F_x0_elementData : Fld Z h0 x0 "java/util/ArrayList" "elementData" "[Ljava/lang/Object;" (.ref b)) (pre_F_x0_size : Fld Z h0 x0 "java/util/ArrayList" "size" "I" (.int 1)) (g_x0 : n0 ≤ x0) (pre_E_x1 : Exa Z h0 x1 "java/util/ArrayDeque") (pre_A_b : Arv Z h0 b kb (.object "java/lang/Object") (10 : Int32) [(.ref y0), .null, .null, .null, .null, .null, .null, .null, .null, .null] .null) (ovb : Ovr Z kb "java/lang/Object") (g_b : n0 ≤ b) (ne_x0_b : x0 ≠ b) :
    MetFree l (⟨"java/util/ArrayList", "add", "(Ljava/lang/Object;)Z"⟩ : MethodName) (head1 (Jvm.Cond.code (⟨"java/util/ArrayList", "add", "(Ljava/lang/Object;)Z"⟩ : MethodName) jdk_38_method_25_code 2 (some .boolean) :: ws) ({ frames := 1, cells := 0, slots := 0, locals := 15 } : Room)) (fun a U => a = #[(.ref x0), (.ref x1)] ∧ Z.Warmed39 U.vm ∧ U.heap = h0) (fun _ _ _ _ _ => True) (fun _ U o U' => ∃ v L, o = .returned v ∧ Qadd1_1 Z x0 x1 b kb y0 h0 n0 v U'.heap L ∧ FrameEnd U o U' L ({ frames := 1, cells := 0, slots := 0, locals := 15 } : Room).cells ({ frames := 1, cells := 0, slots := 0, locals := 15 } : Room).slots) := by
  refine MetFree.of_bodySF (plainFor_of_name pn_10) hisR ?_
  intro p e s m args below meth c s₁ Bd hml0 hP hK
  obtain ⟨rfl, hZ, hh⟩ := hP
  have hx := Bd.exec
  have hby := Bd.bytes
  have hml : c.maxLocals = 2 := hml0
  have hown : s.vm.findClass "java/util/ArrayList" = some m.cls := findClass_of_methodNamed Bd.named
  have hnm := (name_of_methodNamed Bd.named Bd.method).1
  have X0 : Stand p l e ({ frames := 1, cells := 0, slots := 0, locals := 15 } : Room) s m #[(.ref x0), (.ref x1)] below meth c s₁ [] 0 0 := Stand.of_body Bd
  have e0 : s₁.heap = h0 := by rw [← hh, Bd.state]; rfl
  have N0 := Fr.nil n0
  have Kp0 := Keep.refl h0 [x0, b]
  have P0 : ∀ t, Steps p.tables e below (s₁.setTop (mkF m 0 #[rv x0, rv x1] [])) t → Steps p.tables e below (s₁.setTop (entryFrame m #[(.ref x0), (.ref x1)] 2)) t := fun t k => castTop (ef_add1_1 m x0 x1) k
  obtain ⟨T1, X1, e1, st1⟩ := getF X0 hx hZ hown (host := "") (Or.inl (hw _ (im 112 rfl))) (Via.of (hw _ (im 113 rfl))) e0 pre_F_x0_modCount (g := (mkF m 2 #[rv x0, rv x1] [(.ref x0), (.ref x0)])) rfl rfl (hb hby d10_2)
  obtain ⟨T2, h2, X2, e2, W2, st2⟩ := putF X1 hx hZ hown (host := "") (Or.inl (hw _ (im 112 rfl))) (Via.of (hw _ (im 113 rfl))) e1 pre_F_x0_modCount pre_E_x0 (Or.inl (hw _ (im 59 rfl))) (hw _ (im 40 rfl)) (ty := .int) (by decide) rfl rfl (g := (mkF m 7 #[rv x0, rv x1] [(.int 2), (.ref x0)])) rfl rfl (hb hby d10_7)
  have Fw2 := pre_F_x0_modCount.same W2
  have Z2_ : n0 ≤ h2.size := Nat.le_trans Z0 (Nat.le_of_eq W2.size.symm)
  have N2 := Fr.snoc X2 N0 g_x0
  have KK2 := Kp0.wr W2 (Or.inl (List.mem_of_getElem? (i := 0) rfl))
  have q3 := (pre_F_x0_elementData.other W2 (Or.inr (own_sn (la_0 hw) (la_1 hw))))
  obtain ⟨T4, X4, e4, st4⟩ := getF X2 hx hZ hown (host := "") (Or.inl (hw _ (im 61 rfl))) Via.refl e2 q3 (g := (mkF m 13 #[rv x0, rv x1] [(.ref x0), (.ref x1), (.ref x0)])) rfl rfl (hb hby d10_13)
  have q5 := (pre_F_x0_size.other W2 (Or.inr (own_sn (la_2 hw) (la_1 hw))))
  obtain ⟨T6, X6, e6, st6⟩ := getF X4 hx hZ hown (host := "") (Or.inl (hw _ (im 114 rfl))) Via.refl e4 q5 (g := (mkF m 17 #[rv x0, rv x1] [(.ref x0), (.ref b), (.ref x1), (.ref x0)])) rfl rfl (hb hby d10_17)
  have q7 := (pre_E_x0.wr W2)
  have q8 := (pre_E_x1.wr W2)
  have q9 := (pre_A_b.other W2 (Ne.symm ne_x0_b))
  obtain ⟨cq10, q10x, q10x'⟩ := q7.cell
  obtain ⟨_, _, ⟨T10, L10, k10, n10⟩, -, X10, ⟨Lc10, hQ10, l10, y10, z10⟩, st10⟩ := X6.privateBack hx (y := (⟨"java/util/ArrayList", "add", "(Ljava/lang/Object;[Ljava/lang/Object;I)V"⟩ : MethodName)) hown (mvT hZ (hw _ (im 116 rfl))) (mvT hZ (hw _ (im 117 rfl))) (mvT hZ (hw _ (im 119 rfl))) (Cond.privateMethod_at (mvP hZ (hw _ (im 118 rfl)) (args := #[]))) (mvT hZ (hw _ (im 120 rfl))) (by decide) (backOf (W := 0) (rmadd3_1 l Z a0 hw [] x0 x1 b kb (2 : Int32) y0 h2 n0 Z2_ q7 Fw2 q3 q5 g_x0 q8 q9 ovb g_b ne_x0_b) hZ (hw _ (im 120 rfl)) (hw _ (im 41 rfl)) (by decide) (by decide)) (g := (mkF m 20 #[rv x0, rv x1] [(.int 1), (.ref b), (.ref x1), (.ref x0)])) rfl (by rw [hml]; rfl) (Steps.refl _) (a := x0) (by rw [e6]; exact q10x) q10x' (argsL := [(.ref x1), (.ref b), (.int 1)]) (rest := []) (lenOf pd_4 rfl) rfl (by show 2 * 0 + _ ≤ _; exact Nat.le_of_eq rfl) (hb hby d10_20) (fun _ _ => ⟨rfl, e6, (by decide : 0 + 0 ≤ _), (by decide : 0 + 0 ≤ _)⟩)
  dsimp only [Pt.U, Pt.locs, Pt.cells, Pt.slots] at X10 l10 y10 z10 st10 hQ10
  subst l10 y10 z10
  obtain ⟨rfl, N10q, K10, r10_0, r10_1, r10_2, r10_3, r10_4⟩ := hQ10
  have N10 := Fr.app N2 N10q
  have Z10_ : n0 ≤ T10.heap.size := Nat.le_trans Z2_ K10.1
  have KK10 := KK2.trans K10 (allS (Or.inl (List.mem_of_getElem? (i := 0) rfl)) (allS (Or.inl (List.mem_of_getElem? (i := 1) rfl)) all0))
  have P11 := own_go P0 (S' := T10.setTop (mkF m 24 #[rv x0, rv x1] [(.int 1)])) (by
    intro t k
    refine XS.aloadN X0.here hx rfl (hb hby d10_0) rfl rfl ?_
    refine XS.dup X0.here hx rfl (hb hby d10_1) rfl rfl ?_
    refine st1 _ ?_
    refine XS.iconst X1.here hx rfl (hb hby d10_5) ?_
    refine XS.iadd X1.here hx rfl (hb hby d10_6) rfl ?_
    refine st2 _ ?_
    refine XS.aloadN X2.here hx rfl (hb hby d10_10) rfl rfl ?_
    refine XS.aloadN X2.here hx rfl (hb hby d10_11) rfl rfl ?_
    show Steps p.tables e below (T2.setTop (mkF m 12 #[rv x0, rv x1] [(.ref x1), (.ref x0)])) _
    refine XS.aloadN X2.here hx rfl (hb hby d10_12) rfl rfl ?_
    refine st4 _ ?_
    refine XS.aloadN X4.here hx rfl (hb hby d10_16) rfl rfl ?_
    refine st6 _ ?_
    refine st10.trans ?_
    refine XS.iconst X10.here hx rfl (hb hby d10_23) ?_
    exact k)
  obtain ⟨fs, hr, hrun, hended, hW, hsame⟩ := X10.leave (v := some (.int 1)) (fun h => by rw [Bd.returns] at h; cases h)
  refine ⟨_, _, P11 _ ?_, hrun, hended, _, _, rfl, ?_, ⟨_, rfl⟩, hW, hsame.mono (by decide) (by decide)⟩
  · show Steps p.tables e below (T10.setTop (mkF m 24 #[rv x0, rv x1] [(.int 1)])) _
    exact retN X10 hx (t := .boolean) Bd.returns (by simp) (hb hby d10_24) hr
  · show Qadd1_1 Z x0 x1 b kb y0 h0 n0 _ T10.heap _
    exact ⟨rfl, N10, KK10, r10_0, r10_1, r10_2, r10_3, r10_4⟩
def Qadd1_2 (Z : State) (x0 : Addr) (x1 : Addr) (b : Addr) (kb : ClassId) (y0 : Addr) (y1 : Addr) (h0 : Heap) (n0 : Nat) (v : Option Value) (h : Heap) (L : List Loc) : Prop := v = some (.int 1) ∧ Fr n0 L ∧ Keep h0 h [x0, b] ∧ Exa Z h x0 "java/util/ArrayList" ∧ Fld Z h x0 "java/util/AbstractList" "modCount" "I" (.int 3) ∧ Fld Z h x0 "java/util/ArrayList" "elementData" "[Ljava/lang/Object;" (.ref b) ∧ Fld Z h x0 "java/util/ArrayList" "size" "I" (.int 3) ∧ Arv Z h b kb (.object "java/lang/Object") (10 : Int32) [(.ref y0), (.ref y1), (.ref x1), .null, .null, .null, .null, .null, .null, .null] .null
theorem ef_add1_2 (m : MethodId) (x0 : Addr) (x1 : Addr) : entryFrame m #[(.ref x0), (.ref x1)] 2 = mkF m 0 #[rv x0, rv x1] [] := by first | (simp [entryFrame, mkF, argsToLocals, Value.category]; done) | rfl
set_option maxRecDepth 65536 in
set_option maxHeartbeats 40000000 in
theorem rmadd1_2 (l : Launch) (Z : State) (a0 : Array Value) (hw : ∀ d ∈ tables_1, d.before a0 Z = true) (ws : List Jvm.Cond) (x0 : Addr) (x1 : Addr) (b : Addr) (kb : ClassId) (y0 : Addr) (y1 : Addr) (h0 : Heap) (n0 : Nat) (Z0 : n0 ≤ h0.size) (pre_E_x0 : Exa Z h0 x0 "java/util/ArrayList") (pre_F_x0_modCount : Fld Z h0 x0 "java/util/AbstractList" "modCount" "I" (.int 2)) (pre_F_x0_elementData : Fld Z h0 x0 "java/util/ArrayList" "elementData" "[Ljava/lang/Object;" (.ref b)) (pre_F_x0_size : Fld Z h0 x0 "java/util/ArrayList" "size" "I" (.int 2)) (g_x0 : n0 ≤ x0) (pre_E_x1 : Exa Z h0 x1 "java/util/ArrayDeque") (pre_A_b : Arv Z h0 b kb (.object "java/lang/Object") (10 : Int32) [(.ref y0), (.ref y1), .null, .null, .null, .null, .null, .null, .null, .null] .null) (ovb : Ovr Z kb "java/lang/Object") (g_b : n0 ≤ b) (ne_x0_b : x0 ≠ b) :
    MetFree l (⟨"java/util/ArrayList", "add", "(Ljava/lang/Object;)Z"⟩ : MethodName) (head1 (Jvm.Cond.code (⟨"java/util/ArrayList", "add", "(Ljava/lang/Object;)Z"⟩ : MethodName) jdk_38_method_25_code 2 (some .boolean) :: ws) ({ frames := 1, cells := 0, slots := 0, locals := 15 } : Room)) (fun a U => a = #[(.ref x0), (.ref x1)] ∧ Z.Warmed39 U.vm ∧ U.heap = h0) (fun _ _ _ _ _ => True) (fun _ U o U' => ∃ v L, o = .returned v ∧ Qadd1_2 Z x0 x1 b kb y0 y1 h0 n0 v U'.heap L ∧ FrameEnd U o U' L ({ frames := 1, cells := 0, slots := 0, locals := 15 } : Room).cells ({ frames := 1, cells := 0, slots := 0, locals := 15 } : Room).slots) := by
  refine MetFree.of_bodySF (plainFor_of_name pn_10) hisR ?_
  intro p e s m args below meth c s₁ Bd hml0 hP hK
  obtain ⟨rfl, hZ, hh⟩ := hP
  have hx := Bd.exec
  have hby := Bd.bytes
  have hml : c.maxLocals = 2 := hml0
  have hown : s.vm.findClass "java/util/ArrayList" = some m.cls := findClass_of_methodNamed Bd.named
  have hnm := (name_of_methodNamed Bd.named Bd.method).1
  have X0 : Stand p l e ({ frames := 1, cells := 0, slots := 0, locals := 15 } : Room) s m #[(.ref x0), (.ref x1)] below meth c s₁ [] 0 0 := Stand.of_body Bd
  have e0 : s₁.heap = h0 := by rw [← hh, Bd.state]; rfl
  have N0 := Fr.nil n0
  have Kp0 := Keep.refl h0 [x0, b]
  have P0 : ∀ t, Steps p.tables e below (s₁.setTop (mkF m 0 #[rv x0, rv x1] [])) t → Steps p.tables e below (s₁.setTop (entryFrame m #[(.ref x0), (.ref x1)] 2)) t := fun t k => castTop (ef_add1_2 m x0 x1) k
  obtain ⟨T1, X1, e1, st1⟩ := getF X0 hx hZ hown (host := "") (Or.inl (hw _ (im 112 rfl))) (Via.of (hw _ (im 113 rfl))) e0 pre_F_x0_modCount (g := (mkF m 2 #[rv x0, rv x1] [(.ref x0), (.ref x0)])) rfl rfl (hb hby d10_2)
  obtain ⟨T2, h2, X2, e2, W2, st2⟩ := putF X1 hx hZ hown (host := "") (Or.inl (hw _ (im 112 rfl))) (Via.of (hw _ (im 113 rfl))) e1 pre_F_x0_modCount pre_E_x0 (Or.inl (hw _ (im 59 rfl))) (hw _ (im 40 rfl)) (ty := .int) (by decide) rfl rfl (g := (mkF m 7 #[rv x0, rv x1] [(.int 3), (.ref x0)])) rfl rfl (hb hby d10_7)
  have Fw2 := pre_F_x0_modCount.same W2
  have Z2_ : n0 ≤ h2.size := Nat.le_trans Z0 (Nat.le_of_eq W2.size.symm)
  have N2 := Fr.snoc X2 N0 g_x0
  have KK2 := Kp0.wr W2 (Or.inl (List.mem_of_getElem? (i := 0) rfl))
  have q3 := (pre_F_x0_elementData.other W2 (Or.inr (own_sn (la_0 hw) (la_1 hw))))
  obtain ⟨T4, X4, e4, st4⟩ := getF X2 hx hZ hown (host := "") (Or.inl (hw _ (im 61 rfl))) Via.refl e2 q3 (g := (mkF m 13 #[rv x0, rv x1] [(.ref x0), (.ref x1), (.ref x0)])) rfl rfl (hb hby d10_13)
  have q5 := (pre_F_x0_size.other W2 (Or.inr (own_sn (la_2 hw) (la_1 hw))))
  obtain ⟨T6, X6, e6, st6⟩ := getF X4 hx hZ hown (host := "") (Or.inl (hw _ (im 114 rfl))) Via.refl e4 q5 (g := (mkF m 17 #[rv x0, rv x1] [(.ref x0), (.ref b), (.ref x1), (.ref x0)])) rfl rfl (hb hby d10_17)
  have q7 := (pre_E_x0.wr W2)
  have q8 := (pre_E_x1.wr W2)
  have q9 := (pre_A_b.other W2 (Ne.symm ne_x0_b))
  obtain ⟨cq10, q10x, q10x'⟩ := q7.cell
  obtain ⟨_, _, ⟨T10, L10, k10, n10⟩, -, X10, ⟨Lc10, hQ10, l10, y10, z10⟩, st10⟩ := X6.privateBack hx (y := (⟨"java/util/ArrayList", "add", "(Ljava/lang/Object;[Ljava/lang/Object;I)V"⟩ : MethodName)) hown (mvT hZ (hw _ (im 116 rfl))) (mvT hZ (hw _ (im 117 rfl))) (mvT hZ (hw _ (im 119 rfl))) (Cond.privateMethod_at (mvP hZ (hw _ (im 118 rfl)) (args := #[]))) (mvT hZ (hw _ (im 120 rfl))) (by decide) (backOf (W := 0) (rmadd3_2 l Z a0 hw [] x0 x1 b kb (3 : Int32) y0 y1 h2 n0 Z2_ q7 Fw2 q3 q5 g_x0 q8 q9 ovb g_b ne_x0_b) hZ (hw _ (im 120 rfl)) (hw _ (im 41 rfl)) (by decide) (by decide)) (g := (mkF m 20 #[rv x0, rv x1] [(.int 2), (.ref b), (.ref x1), (.ref x0)])) rfl (by rw [hml]; rfl) (Steps.refl _) (a := x0) (by rw [e6]; exact q10x) q10x' (argsL := [(.ref x1), (.ref b), (.int 2)]) (rest := []) (lenOf pd_4 rfl) rfl (by show 2 * 0 + _ ≤ _; exact Nat.le_of_eq rfl) (hb hby d10_20) (fun _ _ => ⟨rfl, e6, (by decide : 0 + 0 ≤ _), (by decide : 0 + 0 ≤ _)⟩)
  dsimp only [Pt.U, Pt.locs, Pt.cells, Pt.slots] at X10 l10 y10 z10 st10 hQ10
  subst l10 y10 z10
  obtain ⟨rfl, N10q, K10, r10_0, r10_1, r10_2, r10_3, r10_4⟩ := hQ10
  have N10 := Fr.app N2 N10q
  have Z10_ : n0 ≤ T10.heap.size := Nat.le_trans Z2_ K10.1
  have KK10 := KK2.trans K10 (allS (Or.inl (List.mem_of_getElem? (i := 0) rfl)) (allS (Or.inl (List.mem_of_getElem? (i := 1) rfl)) all0))
  have P11 := own_go P0 (S' := T10.setTop (mkF m 24 #[rv x0, rv x1] [(.int 1)])) (by
    intro t k
    refine XS.aloadN X0.here hx rfl (hb hby d10_0) rfl rfl ?_
    refine XS.dup X0.here hx rfl (hb hby d10_1) rfl rfl ?_
    refine st1 _ ?_
    refine XS.iconst X1.here hx rfl (hb hby d10_5) ?_
    refine XS.iadd X1.here hx rfl (hb hby d10_6) rfl ?_
    refine st2 _ ?_
    refine XS.aloadN X2.here hx rfl (hb hby d10_10) rfl rfl ?_
    refine XS.aloadN X2.here hx rfl (hb hby d10_11) rfl rfl ?_
    show Steps p.tables e below (T2.setTop (mkF m 12 #[rv x0, rv x1] [(.ref x1), (.ref x0)])) _
    refine XS.aloadN X2.here hx rfl (hb hby d10_12) rfl rfl ?_
    refine st4 _ ?_
    refine XS.aloadN X4.here hx rfl (hb hby d10_16) rfl rfl ?_
    refine st6 _ ?_
    refine st10.trans ?_
    refine XS.iconst X10.here hx rfl (hb hby d10_23) ?_
    exact k)
  obtain ⟨fs, hr, hrun, hended, hW, hsame⟩ := X10.leave (v := some (.int 1)) (fun h => by rw [Bd.returns] at h; cases h)
  refine ⟨_, _, P11 _ ?_, hrun, hended, _, _, rfl, ?_, ⟨_, rfl⟩, hW, hsame.mono (by decide) (by decide)⟩
  · show Steps p.tables e below (T10.setTop (mkF m 24 #[rv x0, rv x1] [(.int 1)])) _
    exact retN X10 hx (t := .boolean) Bd.returns (by simp) (hb hby d10_24) hr
  · show Qadd1_2 Z x0 x1 b kb y0 y1 h0 n0 _ T10.heap _
    exact ⟨rfl, N10, KK10, r10_0, r10_1, r10_2, r10_3, r10_4⟩
def Q2 (Z : State) (x0 : Addr) (va : Addr) (kv : ClassId) (hi : Addr) (me : Addr) (lw : Addr) (de : Addr) (kd : ClassId) (h0 : Heap) (n0 : Nat) (v : Option Value) (h : Heap) (L : List Loc) : Prop := v = none ∧ Fr n0 L ∧ Keep h0 h [x0]
theorem ef_2 (m : MethodId) (x0 : Addr) : entryFrame m #[(.ref x0)] 2 = mkF m 0 #[rv x0, .unset] [] := by first | (simp [entryFrame, mkF, argsToLocals, Value.category]; done) | rfl
set_option maxRecDepth 65536 in
set_option maxHeartbeats 40000000 in
theorem rm2 (l : Launch) (Z : State) (a0 : Array Value) (hw : ∀ d ∈ tables_1, d.before a0 Z = true) (ws : List Jvm.Cond) (x0 : Addr) (va : Addr) (kv : ClassId) (hi : Addr) (me : Addr) (lw : Addr) (de : Addr) (kd : ClassId) (h0 : Heap) (n0 : Nat) (Z0 : n0 ≤ h0.size) (O0 : Old Z n0 h0) (pre_S__VALUES : Sta Z Z.heap "com/example/violarc/violarc/solver/Propagator$Priority" "$VALUES" "[Lcom/example/violarc/violarc/solver/Propagator$Priority;" (.ref va)) (pre_E_va : Exa Z Z.heap va "[Lcom/example/violarc/violarc/solver/Propagator$Priority;") (pre_A_va : Arv Z Z.heap va kv (.object "com/example/violarc/violarc/solver/Propagator$Priority") (3 : Int32) [(.ref hi), (.ref me), (.ref lw)] .null) (pre_S_TY_EMPTY_ELEMENTDATA : Sta Z Z.heap "java/util/ArrayList" "DEFAULTCAPACITY_EMPTY_ELEMENTDATA" "[Ljava/lang/Object;" (.ref de)) (pre_A_de : Arv Z Z.heap de kd (.object "java/lang/Object") (0 : Int32) [] .null) (pre_E_x0 : Exa Z h0 x0 "com/example/violarc/violarc/solver/Solver") (pre_F_x0_trail : Fld Z h0 x0 "com/example/violarc/violarc/solver/Solver" "trail" "Lcom/example/violarc/violarc/solver/Trail;" .null) (pre_F_x0_intVars : Fld Z h0 x0 "com/example/violarc/violarc/solver/Solver" "intVars" "Ljava/util/List;" .null) (pre_F_x0_intervalVars : Fld Z h0 x0 "com/example/violarc/violarc/solver/Solver" "intervalVars" "Ljava/util/List;" .null) (pre_F_x0_queues : Fld Z h0 x0 "com/example/violarc/violarc/solver/Solver" "queues" "Ljava/util/List;" .null) (pre_F_x0_budget : Fld Z h0 x0 "com/example/violarc/violarc/solver/Solver" "budget" "J" (.long 0)) (g_x0 : n0 ≤ x0) :
    MetFree l (⟨"com/example/violarc/violarc/solver/Solver", "<init>", "()V"⟩ : MethodName) (head1 (Jvm.Cond.code (⟨"com/example/violarc/violarc/solver/Solver", "<init>", "()V"⟩ : MethodName) prog_143_method_1_code 2 none :: ws) ({ frames := 5, cells := 21, slots := 1252, locals := 69 } : Room)) (fun a U => a = #[(.ref x0)] ∧ Z.Warmed39 U.vm ∧ U.heap = h0) (fun _ _ _ _ _ => True) (fun _ U o U' => ∃ v L, o = .returned v ∧ Q2 Z x0 va kv hi me lw de kd h0 n0 v U'.heap L ∧ FrameEnd U o U' L ({ frames := 5, cells := 21, slots := 1252, locals := 69 } : Room).cells ({ frames := 5, cells := 21, slots := 1252, locals := 69 } : Room).slots) := by
  refine MetFree.of_bodySF (plainFor_of_name pn_2) hisR ?_
  intro p e s m args below meth c s₁ Bd hml0 hP hK
  obtain ⟨rfl, hZ, hh⟩ := hP
  have hx := Bd.exec
  have hby := Bd.bytes
  have hml : c.maxLocals = 2 := hml0
  have hown : s.vm.findClass "com/example/violarc/violarc/solver/Solver" = some m.cls := findClass_of_methodNamed Bd.named
  have hnm := (name_of_methodNamed Bd.named Bd.method).1
  have X0 : Stand p l e ({ frames := 5, cells := 21, slots := 1252, locals := 69 } : Room) s m #[(.ref x0)] below meth c s₁ [] 0 0 := Stand.of_body Bd
  have e0 : s₁.heap = h0 := by rw [← hh, Bd.state]; rfl
  have N0 := Fr.nil n0
  have Kp0 := Keep.refl h0 [x0]
  have P0 : ∀ t, Steps p.tables e below (s₁.setTop (mkF m 0 #[rv x0, .unset] [])) t → Steps p.tables e below (s₁.setTop (entryFrame m #[(.ref x0)] 2)) t := fun t k => castTop (ef_2 m x0) k
  obtain ⟨T1, X1, e1, st1⟩ := initO X0 hx hZ hown (hw _ (im 11 rfl)) (hw _ (im 12 rfl)) (hw _ (im 13 rfl)) e0 (g := (mkF m 1 #[rv x0, .unset] [(.ref x0)])) rfl (by rw [hml]; rfl) rfl (hb hby d2_1) (by decide) (W := 0) (by show 2 * 0 + _ ≤ _; exact Nat.le_of_eq rfl) (by decide)
  obtain ⟨T2, h2, X2, e2, E2, A2, D2, -, st2⟩ := newO X1 hx hZ hown (hw _ (im 14 rfl)) (hw _ (im 15 rfl)) (hw _ (im 16 rfl)) e1 (g := (mkF m 5 #[rv x0, .unset] [(.ref x0)])) rfl (hb hby d2_5) (by decide) (by decide)
  obtain ⟨b2, g2⟩ : ∃ z, z = h0.size := ⟨_, rfl⟩
  rw [← g2] at A2 D2 st2
  have ge_b2 : n0 ≤ b2 := Nat.le_trans Z0 (Nat.le_of_eq g2.symm)
  have sz_b2 : h0.size ≤ b2 := Nat.le_trans Kp0.1 (Nat.le_of_eq g2.symm)
  have Z2_ : n0 ≤ h2.size := Nat.le_trans Z0 E2.1
  have O2_ := O0.ext E2
  have KK2 := Kp0.ext E2
  have F2_owners : Fld Z h2 b2 "com/example/violarc/violarc/solver/Trail" "owners" "[Lcom/example/violarc/violarc/solver/Trailed;" .null := D2 (Or.inl (hw _ (im 24 rfl))) (ty := (.array (.object "com/example/violarc/violarc/solver/Trailed"))) (by decide)
  have F2_slots : Fld Z h2 b2 "com/example/violarc/violarc/solver/Trail" "slots" "[I" .null := D2 (Or.inl (hw _ (im 27 rfl))) (ty := (.array .int)) (by decide)
  have F2_firsts : Fld Z h2 b2 "com/example/violarc/violarc/solver/Trail" "firsts" "[J" .null := D2 (Or.inl (hw _ (im 30 rfl))) (ty := (.array .long)) (by decide)
  have F2_seconds : Fld Z h2 b2 "com/example/violarc/violarc/solver/Trail" "seconds" "[J" .null := D2 (Or.inl (hw _ (im 32 rfl))) (ty := (.array .long)) (by decide)
  have F2_marks : Fld Z h2 b2 "com/example/violarc/violarc/solver/Trail" "marks" "[I" .null := D2 (Or.inl (hw _ (im 34 rfl))) (ty := (.array .int)) (by decide)
  have F2_stamps : Fld Z h2 b2 "com/example/violarc/violarc/solver/Trail" "stamps" "[J" .null := D2 (Or.inl (hw _ (im 36 rfl))) (ty := (.array .long)) (by decide)
  obtain ⟨_, _, ⟨T3, L3, k3, n3⟩, -, X3, ⟨Lc3, hQ3, l3, y3, z3⟩, st3⟩ := X2.specialBack hx (y := (⟨"com/example/violarc/violarc/solver/Trail", "<init>", "()V"⟩ : MethodName)) rfl hown (mvT hZ (hw _ (im 17 rfl))) (mvT hZ (hw _ (im 18 rfl))) (mvT hZ (hw _ (im 19 rfl))) (by decide) (backOf (W := 2) (rm4 l Z a0 hw [] b2 h2 n0 Z2_ A2 F2_owners F2_slots F2_firsts F2_seconds F2_marks F2_stamps ge_b2) hZ (hw _ (im 19 rfl)) (hw _ (im 16 rfl)) (by decide) (by decide)) (g := (mkF m 9 #[rv x0, .unset] [(.ref b2), (.ref b2), (.ref x0)])) rfl (by rw [hml]; rfl) (Steps.refl _) (a := b2) (argsL := []) (rest := [(.ref b2), (.ref x0)]) (lenOf pd_0 rfl) rfl (by show 2 * 0 + _ ≤ _; exact Nat.le_of_eq rfl) (hb hby d2_9) (fun _ _ => ⟨rfl, e2, (by decide : 1 + 6 ≤ _), (by decide : 9 + 1152 ≤ _)⟩)
  dsimp only [Pt.U, Pt.locs, Pt.cells, Pt.slots] at X3 l3 y3 z3 st3 hQ3
  subst l3 y3 z3
  obtain ⟨rfl, N3q, K3⟩ := hQ3
  have N3 := Fr.app N0 N3q
  have Z3_ : n0 ≤ T3.heap.size := Nat.le_trans Z2_ K3.1
  have O3_ := O2_.keep K3 (allS ge_b2 all0)
  have KK3 := KK2.trans K3 (allS (Or.inr sz_b2) all0)
  have ne4 : x0 ≠ b2 := Nat.ne_of_lt (Nat.lt_of_lt_of_le pre_E_x0.lt (Nat.le_of_eq g2.symm))
  have ni5 := (ninS ne4 nin0)
  have q6 := ((pre_F_x0_trail.ext E2).keep K3 ni5)
  have q7 := ((pre_E_x0.ext E2).keep K3)
  obtain ⟨T8, h8, X8, e8, W8, st8⟩ := putF X3 hx hZ hown (host := "") (Or.inl (hw _ (im 37 rfl))) Via.refl rfl q6 q7 (Or.inr ⟨(hw _ (im 38 rfl)), rfl, hnm⟩) (hw _ (im 6 rfl)) (ty := (.object "com/example/violarc/violarc/solver/Trail")) (by decide) rfl rfl (g := (mkF m 12 #[rv x0, .unset] [(.ref b2), (.ref x0)])) rfl rfl (hb hby d2_12)
  have Fw8 := q6.same W8
  have Z8_ : n0 ≤ h8.size := Nat.le_trans Z3_ (Nat.le_of_eq W8.size.symm)
  have O8_ := O3_.wr W8 g_x0
  have N8 := Fr.snoc X8 N3 g_x0
  have KK8 := KK3.wr W8 (Or.inl (List.mem_of_getElem? (i := 0) rfl))
  obtain ⟨T9, h9, X9, e9, E9, A9, D9, -, st9⟩ := newO X8 hx hZ hown (hw _ (im 39 rfl)) (hw _ (im 40 rfl)) (hw _ (im 41 rfl)) e8 (g := (mkF m 16 #[rv x0, .unset] [(.ref x0)])) rfl (hb hby d2_16) (by decide) (by decide)
  obtain ⟨b9, g9⟩ : ∃ z, z = h8.size := ⟨_, rfl⟩
  rw [← g9] at A9 D9 st9
  have ge_b9 : n0 ≤ b9 := Nat.le_trans Z8_ (Nat.le_of_eq g9.symm)
  have sz_b9 : h0.size ≤ b9 := Nat.le_trans KK8.1 (Nat.le_of_eq g9.symm)
  have Z9_ : n0 ≤ h9.size := Nat.le_trans Z8_ E9.1
  have O9_ := O8_.ext E9
  have KK9 := KK8.ext E9
  have F9_modCount : Fld Z h9 b9 "java/util/AbstractList" "modCount" "I" (.int 0) := D9 (Or.inl (hw _ (im 59 rfl))) (ty := .int) (by decide)
  have F9_elementData : Fld Z h9 b9 "java/util/ArrayList" "elementData" "[Ljava/lang/Object;" .null := D9 (Or.inl (hw _ (im 62 rfl))) (ty := (.array (.object "java/lang/Object"))) (by decide)
  have F9_size : Fld Z h9 b9 "java/util/ArrayList" "size" "I" (.int 0) := D9 (Or.inl (hw _ (im 115 rfl))) (ty := .int) (by decide)
  obtain ⟨_, _, ⟨T10, L10, k10, n10⟩, -, X10, ⟨Lc10, hQ10, l10, y10, z10⟩, st10⟩ := X9.specialBack hx (y := (⟨"java/util/ArrayList", "<init>", "()V"⟩ : MethodName)) rfl hown (mvT hZ (hw _ (im 42 rfl))) (mvT hZ (hw _ (im 43 rfl))) (mvT hZ (hw _ (im 44 rfl))) (by decide) (backOf (W := 2) (rm5 l Z a0 hw [] b9 de h9 n0 Z9_ O9_ pre_S_TY_EMPTY_ELEMENTDATA A9 F9_modCount F9_elementData F9_size ge_b9) hZ (hw _ (im 44 rfl)) (hw _ (im 41 rfl)) (by decide) (by decide)) (g := (mkF m 20 #[rv x0, .unset] [(.ref b9), (.ref b9), (.ref x0)])) rfl (by rw [hml]; rfl) (Steps.refl _) (a := b9) (argsL := []) (rest := [(.ref b9), (.ref x0)]) (lenOf pd_0 rfl) rfl (by show 2 * 0 + _ ≤ _; exact Nat.le_of_eq rfl) (hb hby d2_20) (fun _ _ => ⟨rfl, e9, (by decide : 8 + 0 ≤ _), (by decide : 1164 + 0 ≤ _)⟩)
  dsimp only [Pt.U, Pt.locs, Pt.cells, Pt.slots] at X10 l10 y10 z10 st10 hQ10
  subst l10 y10 z10
  obtain ⟨rfl, N10q, K10, r10_0, r10_1, r10_2, r10_3⟩ := hQ10
  have N10 := Fr.app N8 N10q
  have Z10_ : n0 ≤ T10.heap.size := Nat.le_trans Z9_ K10.1
  have O10_ := O9_.keep K10 (allS ge_b9 all0)
  have KK10 := KK9.trans K10 (allS (Or.inr sz_b9) all0)
  have q12 := (Nat.lt_of_lt_of_le (Nat.lt_of_lt_of_le (Nat.lt_of_lt_of_le pre_E_x0.lt E2.1) K3.1) (Nat.le_of_eq W8.size.symm))
  have ne11 : x0 ≠ b9 := Nat.ne_of_lt (Nat.lt_of_lt_of_le q12 (Nat.le_of_eq g9.symm))
  have ni13 := (ninS ne11 nin0)
  have q14 := (((((pre_F_x0_intVars.ext E2).keep K3 ni5).other W8 (Or.inr (own_sn (la_9 hw) (la_10 hw)))).ext E9).keep K10 ni13)
  have q15 := (((q7.wr W8).ext E9).keep K10)
  obtain ⟨T16, h16, X16, e16, W16, st16⟩ := putF X10 hx hZ hown (host := "") (Or.inl (hw _ (im 63 rfl))) Via.refl rfl q14 q15 (Or.inr ⟨(hw _ (im 64 rfl)), rfl, hnm⟩) (hw _ (im 6 rfl)) (ty := (.object "java/util/List")) (by decide) rfl rfl (g := (mkF m 23 #[rv x0, .unset] [(.ref b9), (.ref x0)])) rfl rfl (hb hby d2_23)
  have Fw16 := q14.same W16
  have Z16_ : n0 ≤ h16.size := Nat.le_trans Z10_ (Nat.le_of_eq W16.size.symm)
  have O16_ := O10_.wr W16 g_x0
  have N16 := Fr.snoc X16 N10 g_x0
  have KK16 := KK10.wr W16 (Or.inl (List.mem_of_getElem? (i := 0) rfl))
  obtain ⟨T17, h17, X17, e17, E17, A17, D17, -, st17⟩ := newO X16 hx hZ hown (hw _ (im 39 rfl)) (hw _ (im 40 rfl)) (hw _ (im 41 rfl)) e16 (g := (mkF m 27 #[rv x0, .unset] [(.ref x0)])) rfl (hb hby d2_27) (by decide) (by decide)
  obtain ⟨b17, g17⟩ : ∃ z, z = h16.size := ⟨_, rfl⟩
  rw [← g17] at A17 D17 st17
  have ge_b17 : n0 ≤ b17 := Nat.le_trans Z16_ (Nat.le_of_eq g17.symm)
  have sz_b17 : h0.size ≤ b17 := Nat.le_trans KK16.1 (Nat.le_of_eq g17.symm)
  have Z17_ : n0 ≤ h17.size := Nat.le_trans Z16_ E17.1
  have O17_ := O16_.ext E17
  have KK17 := KK16.ext E17
  have F17_modCount : Fld Z h17 b17 "java/util/AbstractList" "modCount" "I" (.int 0) := D17 (Or.inl (hw _ (im 59 rfl))) (ty := .int) (by decide)
  have F17_elementData : Fld Z h17 b17 "java/util/ArrayList" "elementData" "[Ljava/lang/Object;" .null := D17 (Or.inl (hw _ (im 62 rfl))) (ty := (.array (.object "java/lang/Object"))) (by decide)
  have F17_size : Fld Z h17 b17 "java/util/ArrayList" "size" "I" (.int 0) := D17 (Or.inl (hw _ (im 115 rfl))) (ty := .int) (by decide)
  obtain ⟨_, _, ⟨T18, L18, k18, n18⟩, -, X18, ⟨Lc18, hQ18, l18, y18, z18⟩, st18⟩ := X17.specialBack hx (y := (⟨"java/util/ArrayList", "<init>", "()V"⟩ : MethodName)) rfl hown (mvT hZ (hw _ (im 42 rfl))) (mvT hZ (hw _ (im 43 rfl))) (mvT hZ (hw _ (im 44 rfl))) (by decide) (backOf (W := 2) (rm5 l Z a0 hw [] b17 de h17 n0 Z17_ O17_ pre_S_TY_EMPTY_ELEMENTDATA A17 F17_modCount F17_elementData F17_size ge_b17) hZ (hw _ (im 44 rfl)) (hw _ (im 41 rfl)) (by decide) (by decide)) (g := (mkF m 31 #[rv x0, .unset] [(.ref b17), (.ref b17), (.ref x0)])) rfl (by rw [hml]; rfl) (Steps.refl _) (a := b17) (argsL := []) (rest := [(.ref b17), (.ref x0)]) (lenOf pd_0 rfl) rfl (by show 2 * 0 + _ ≤ _; exact Nat.le_of_eq rfl) (hb hby d2_31) (fun _ _ => ⟨rfl, e17, (by decide : 9 + 0 ≤ _), (by decide : 1167 + 0 ≤ _)⟩)
  dsimp only [Pt.U, Pt.locs, Pt.cells, Pt.slots] at X18 l18 y18 z18 st18 hQ18
  subst l18 y18 z18
  obtain ⟨rfl, N18q, K18, r18_0, r18_1, r18_2, r18_3⟩ := hQ18
  have N18 := Fr.app N16 N18q
  have Z18_ : n0 ≤ T18.heap.size := Nat.le_trans Z17_ K18.1
  have O18_ := O17_.keep K18 (allS ge_b17 all0)
  have KK18 := KK17.trans K18 (allS (Or.inr sz_b17) all0)
  have q20 := (Nat.lt_of_lt_of_le (Nat.lt_of_lt_of_le (Nat.lt_of_lt_of_le q12 E9.1) K10.1) (Nat.le_of_eq W16.size.symm))
  have ne19 : x0 ≠ b17 := Nat.ne_of_lt (Nat.lt_of_lt_of_le q20 (Nat.le_of_eq g17.symm))
  have ni21 := (ninS ne19 nin0)
  have q22 := ((((((((pre_F_x0_intervalVars.ext E2).keep K3 ni5).other W8 (Or.inr (own_sn (la_11 hw) (la_10 hw)))).ext E9).keep K10 ni13).other W16 (Or.inr (own_sn (la_11 hw) (la_9 hw)))).ext E17).keep K18 ni21)
  have q23 := (((q15.wr W16).ext E17).keep K18)
  obtain ⟨T24, h24, X24, e24, W24, st24⟩ := putF X18 hx hZ hown (host := "") (Or.inl (hw _ (im 65 rfl))) Via.refl rfl q22 q23 (Or.inr ⟨(hw _ (im 66 rfl)), rfl, hnm⟩) (hw _ (im 6 rfl)) (ty := (.object "java/util/List")) (by decide) rfl rfl (g := (mkF m 34 #[rv x0, .unset] [(.ref b17), (.ref x0)])) rfl rfl (hb hby d2_34)
  have Fw24 := q22.same W24
  have Z24_ : n0 ≤ h24.size := Nat.le_trans Z18_ (Nat.le_of_eq W24.size.symm)
  have O24_ := O18_.wr W24 g_x0
  have N24 := Fr.snoc X24 N18 g_x0
  have KK24 := KK18.wr W24 (Or.inl (List.mem_of_getElem? (i := 0) rfl))
  obtain ⟨T25, h25, X25, e25, E25, A25, D25, -, st25⟩ := newO X24 hx hZ hown (hw _ (im 39 rfl)) (hw _ (im 40 rfl)) (hw _ (im 41 rfl)) e24 (g := (mkF m 38 #[rv x0, .unset] [(.ref x0)])) rfl (hb hby d2_38) (by decide) (by decide)
  obtain ⟨b25, g25⟩ : ∃ z, z = h24.size := ⟨_, rfl⟩
  rw [← g25] at A25 D25 st25
  have ge_b25 : n0 ≤ b25 := Nat.le_trans Z24_ (Nat.le_of_eq g25.symm)
  have sz_b25 : h0.size ≤ b25 := Nat.le_trans KK24.1 (Nat.le_of_eq g25.symm)
  have Z25_ : n0 ≤ h25.size := Nat.le_trans Z24_ E25.1
  have O25_ := O24_.ext E25
  have KK25 := KK24.ext E25
  have F25_modCount : Fld Z h25 b25 "java/util/AbstractList" "modCount" "I" (.int 0) := D25 (Or.inl (hw _ (im 59 rfl))) (ty := .int) (by decide)
  have F25_elementData : Fld Z h25 b25 "java/util/ArrayList" "elementData" "[Ljava/lang/Object;" .null := D25 (Or.inl (hw _ (im 62 rfl))) (ty := (.array (.object "java/lang/Object"))) (by decide)
  have F25_size : Fld Z h25 b25 "java/util/ArrayList" "size" "I" (.int 0) := D25 (Or.inl (hw _ (im 115 rfl))) (ty := .int) (by decide)
  obtain ⟨_, _, ⟨T26, L26, k26, n26⟩, -, X26, ⟨Lc26, hQ26, l26, y26, z26⟩, st26⟩ := X25.specialBack hx (y := (⟨"java/util/ArrayList", "<init>", "()V"⟩ : MethodName)) rfl hown (mvT hZ (hw _ (im 42 rfl))) (mvT hZ (hw _ (im 43 rfl))) (mvT hZ (hw _ (im 44 rfl))) (by decide) (backOf (W := 2) (rm5 l Z a0 hw [] b25 de h25 n0 Z25_ O25_ pre_S_TY_EMPTY_ELEMENTDATA A25 F25_modCount F25_elementData F25_size ge_b25) hZ (hw _ (im 44 rfl)) (hw _ (im 41 rfl)) (by decide) (by decide)) (g := (mkF m 42 #[rv x0, .unset] [(.ref b25), (.ref b25), (.ref x0)])) rfl (by rw [hml]; rfl) (Steps.refl _) (a := b25) (argsL := []) (rest := [(.ref b25), (.ref x0)]) (lenOf pd_0 rfl) rfl (by show 2 * 0 + _ ≤ _; exact Nat.le_of_eq rfl) (hb hby d2_42) (fun _ _ => ⟨rfl, e25, (by decide : 10 + 0 ≤ _), (by decide : 1170 + 0 ≤ _)⟩)
  dsimp only [Pt.U, Pt.locs, Pt.cells, Pt.slots] at X26 l26 y26 z26 st26 hQ26
  subst l26 y26 z26
  obtain ⟨rfl, N26q, K26, r26_0, r26_1, r26_2, r26_3⟩ := hQ26
  have N26 := Fr.app N24 N26q
  have Z26_ : n0 ≤ T26.heap.size := Nat.le_trans Z25_ K26.1
  have O26_ := O25_.keep K26 (allS ge_b25 all0)
  have KK26 := KK25.trans K26 (allS (Or.inr sz_b25) all0)
  have q28 := (Nat.lt_of_lt_of_le (Nat.lt_of_lt_of_le (Nat.lt_of_lt_of_le q20 E17.1) K18.1) (Nat.le_of_eq W24.size.symm))
  have ne27 : x0 ≠ b25 := Nat.ne_of_lt (Nat.lt_of_lt_of_le q28 (Nat.le_of_eq g25.symm))
  have ni29 := (ninS ne27 nin0)
  have q30 := (((((((((((pre_F_x0_queues.ext E2).keep K3 ni5).other W8 (Or.inr (own_sn (la_12 hw) (la_10 hw)))).ext E9).keep K10 ni13).other W16 (Or.inr (own_sn (la_12 hw) (la_9 hw)))).ext E17).keep K18 ni21).other W24 (Or.inr (own_sn (la_12 hw) (la_11 hw)))).ext E25).keep K26 ni29)
  have q31 := (((q23.wr W24).ext E25).keep K26)
  obtain ⟨T32, h32, X32, e32, W32, st32⟩ := putF X26 hx hZ hown (host := "") (Or.inl (hw _ (im 67 rfl))) Via.refl rfl q30 q31 (Or.inr ⟨(hw _ (im 68 rfl)), rfl, hnm⟩) (hw _ (im 6 rfl)) (ty := (.object "java/util/List")) (by decide) rfl rfl (g := (mkF m 45 #[rv x0, .unset] [(.ref b25), (.ref x0)])) rfl rfl (hb hby d2_45)
  have Fw32 := q30.same W32
  have Z32_ : n0 ≤ h32.size := Nat.le_trans Z26_ (Nat.le_of_eq W32.size.symm)
  have O32_ := O26_.wr W32 g_x0
  have N32 := Fr.snoc X32 N26 g_x0
  have KK32 := KK26.wr W32 (Or.inl (List.mem_of_getElem? (i := 0) rfl))
  have q33 := ((((((((((((pre_F_x0_budget.ext E2).keep K3 ni5).other W8 (Or.inr (own_sn (la_13 hw) (la_10 hw)))).ext E9).keep K10 ni13).other W16 (Or.inr (own_sn (la_13 hw) (la_9 hw)))).ext E17).keep K18 ni21).other W24 (Or.inr (own_sn (la_13 hw) (la_11 hw)))).ext E25).keep K26 ni29).other W32 (Or.inr (own_sn (la_13 hw) (la_12 hw))))
  have q34 := (q31.wr W32)
  obtain ⟨T35, h35, X35, e35, W35, st35⟩ := putF X32 hx hZ hown (host := "") (Or.inl (hw _ (im 70 rfl))) Via.refl e32 q33 q34 (Or.inl (hw _ (im 71 rfl))) (hw _ (im 6 rfl)) (ty := .long) (by decide) rfl rfl (g := (mkF m 52 #[rv x0, .unset] [(.long 9223372036854775807), (.ref x0)])) rfl rfl (hb hby d2_52)
  have Fw35 := q33.same W35
  have Z35_ : n0 ≤ h35.size := Nat.le_trans Z32_ (Nat.le_of_eq W35.size.symm)
  have O35_ := O32_.wr W35 g_x0
  have N35 := Fr.snoc X35 N32 g_x0
  have KK35 := KK32.wr W35 (Or.inl (List.mem_of_getElem? (i := 0) rfl))
  have P36 := own_go P0 (S' := T35.setTop (mkF m 55 #[rv x0, .unset] [])) (by
    intro t k
    refine XS.aloadN X0.here hx rfl (hb hby d2_0) rfl rfl ?_
    refine st1 _ ?_
    refine XS.aloadN X1.here hx rfl (hb hby d2_4) rfl rfl ?_
    refine st2 _ ?_
    refine XS.dup X2.here hx rfl (hb hby d2_8) rfl rfl ?_
    refine st3.trans ?_
    refine st8 _ ?_
    refine XS.aloadN X8.here hx rfl (hb hby d2_15) rfl rfl ?_
    show Steps p.tables e below (T8.setTop (mkF m 16 #[rv x0, .unset] [(.ref x0)])) _
    refine st9 _ ?_
    refine XS.dup X9.here hx rfl (hb hby d2_19) rfl rfl ?_
    refine st10.trans ?_
    refine st16 _ ?_
    refine XS.aloadN X16.here hx rfl (hb hby d2_26) rfl rfl ?_
    refine st17 _ ?_
    refine XS.dup X17.here hx rfl (hb hby d2_30) rfl rfl ?_
    refine st18.trans ?_
    show Steps p.tables e below (T18.setTop (mkF m 34 #[rv x0, .unset] [(.ref b17), (.ref x0)])) _
    refine st24 _ ?_
    refine XS.aloadN X24.here hx rfl (hb hby d2_37) rfl rfl ?_
    refine st25 _ ?_
    refine XS.dup X25.here hx rfl (hb hby d2_41) rfl rfl ?_
    refine st26.trans ?_
    refine st32 _ ?_
    refine XS.aloadN X32.here hx rfl (hb hby d2_48) rfl rfl ?_
    refine X32.ldc2Long hx hown (mvT hZ (hw _ (im 69 rfl))) (g := (mkF m 49 #[rv x0, .unset] [(.ref x0)])) rfl (hb hby d2_49) _ ?_
    show Steps p.tables e below (T32.setTop (mkF m 52 #[rv x0, .unset] [(.long 9223372036854775807), (.ref x0)])) _
    refine st35 _ ?_
    exact k)
  obtain ⟨_, _, ⟨T37, L37, k37, n37⟩, -, X37, ⟨Lc37, hQ37, l37, y37, z37⟩, st37⟩ := Jvm.LawKit.callS X35 hx (y := (⟨"com/example/violarc/violarc/solver/Propagator$Priority", "values", "()[Lcom/example/violarc/violarc/solver/Propagator$Priority;"⟩ : MethodName)) hown (mvT hZ (hw _ (im 72 rfl))) (mvT hZ (hw _ (im 73 rfl))) (mvT hZ (hw _ (im 74 rfl))) (mvT hZ (hw _ (im 75 rfl))) (by decide) (backOf (W := 1) (rm8 l Z a0 hw [] va kv hi me lw h35 n0 Z35_ O35_ pre_S__VALUES pre_E_va pre_A_va) hZ (hw _ (im 75 rfl)) (hw _ (im 74 rfl)) (by decide) (by decide)) (g := (mkF m 58 #[rv x0, iv 0] [(.int 0)])) rfl (by rw [hml]; rfl) (argsL := []) (rest := [(.int 0)]) (lenOf pd_5 rfl) rfl (by show 2 * 0 + _ ≤ _; exact Nat.le_of_eq rfl) (hb hby d2_58) (fun _ _ => ⟨rfl, e35, (by decide : 10 + 1 ≤ _), (by decide : 1170 + 3 ≤ _)⟩)
  dsimp only [Pt.U, Pt.locs, Pt.cells, Pt.slots] at X37 l37 y37 z37 st37 hQ37
  subst l37 y37 z37
  obtain ⟨b_37, rfl, N37q, K37, r37_0, r37_1, r37_2⟩ := hQ37
  have N37 := Fr.app N35 N37q
  have Z37_ : n0 ≤ T37.heap.size := Nat.le_trans Z35_ K37.1
  have O37_ := O35_.keep K37 all0
  have KK37 := KK35.trans K37 all0
  have szz_b_37 : h0.size ≤ b_37 := Nat.le_trans KK35.1 r37_0
  obtain ⟨cl38, Ar38, qa38, S38, Nn38, H38, G38⟩ := id r37_2
  have q40 := ((Fw32.other W35 (Or.inr (own_sn (la_12 hw) (la_13 hw)))).keep K37 nin0)
  obtain ⟨T41, X41, e41, st41⟩ := getF X37 hx hZ hown (host := "") (Or.inl (hw _ (im 67 rfl))) Via.refl rfl q40 (g := (mkF m 66 #[rv x0, iv 0] [(.ref x0)])) rfl rfl (hb hby d2_66)
  obtain ⟨T42, h42, X42, e42, E42, A42, D42, -, st42⟩ := newO X41 hx hZ hown (hw _ (im 91 rfl)) (hw _ (im 92 rfl)) (hw _ (im 93 rfl)) e41 (g := (mkF m 69 #[rv x0, iv 0] [(.ref b25)])) rfl (hb hby d2_69) (by decide) (by decide)
  obtain ⟨b42, g42⟩ : ∃ z, z = T37.heap.size := ⟨_, rfl⟩
  rw [← g42] at A42 D42 st42
  have ge_b42 : n0 ≤ b42 := Nat.le_trans Z37_ (Nat.le_of_eq g42.symm)
  have sz_b42 : h0.size ≤ b42 := Nat.le_trans KK37.1 (Nat.le_of_eq g42.symm)
  have Z42_ : n0 ≤ h42.size := Nat.le_trans Z37_ E42.1
  have O42_ := O37_.ext E42
  have KK42 := KK37.ext E42
  have F42_elements : Fld Z h42 b42 "java/util/ArrayDeque" "elements" "[Ljava/lang/Object;" .null := D42 (Or.inl (hw _ (im 102 rfl))) (ty := (.array (.object "java/lang/Object"))) (by decide)
  obtain ⟨_, _, ⟨T43, L43, k43, n43⟩, -, X43, ⟨Lc43, hQ43, l43, y43, z43⟩, st43⟩ := X42.specialBack hx (y := (⟨"java/util/ArrayDeque", "<init>", "()V"⟩ : MethodName)) rfl hown (mvT hZ (hw _ (im 94 rfl))) (mvT hZ (hw _ (im 95 rfl))) (mvT hZ (hw _ (im 96 rfl))) (by decide) (backOf (W := 2) (rm9 l Z a0 hw [] b42 h42 n0 Z42_ A42 F42_elements ge_b42) hZ (hw _ (im 96 rfl)) (hw _ (im 93 rfl)) (by decide) (by decide)) (g := (mkF m 73 #[rv x0, iv 0] [(.ref b42), (.ref b42), (.ref b25)])) rfl (by rw [hml]; rfl) (Steps.refl _) (a := b42) (argsL := []) (rest := [(.ref b42), (.ref b25)]) (lenOf pd_0 rfl) rfl (by show 2 * 0 + _ ≤ _; exact Nat.le_of_eq rfl) (hb hby d2_73) (fun _ _ => ⟨rfl, e42, (by decide : 12 + 1 ≤ _), (by decide : 1176 + 17 ≤ _)⟩)
  dsimp only [Pt.U, Pt.locs, Pt.cells, Pt.slots] at X43 l43 y43 z43 st43 hQ43
  subst l43 y43 z43
  obtain ⟨rfl, N43q, K43, r43_0⟩ := hQ43
  have N43 := Fr.app N37 N43q
  have Z43_ : n0 ≤ T43.heap.size := Nat.le_trans Z42_ K43.1
  have O43_ := O42_.keep K43 (allS ge_b42 all0)
  have KK43 := KK42.trans K43 (allS (Or.inr sz_b42) all0)
  have q44 := (((((r26_0.wr W32).wr W35).keep K37).ext E42).keep K43)
  have q46 := (Nat.lt_of_lt_of_le (Nat.lt_of_lt_of_le (Nat.lt_of_lt_of_le (Nat.lt_of_lt_of_le A25.lt K26.1) (Nat.le_of_eq W32.size.symm)) (Nat.le_of_eq W35.size.symm)) K37.1)
  have ne45 : b25 ≠ b42 := Nat.ne_of_lt (Nat.lt_of_lt_of_le q46 (Nat.le_of_eq g42.symm))
  have ni47 := (ninS ne45 nin0)
  have q48 := (((((r26_1.other W32 (Or.inl (Ne.symm ne27))).other W35 (Or.inl (Ne.symm ne27))).keep K37 nin0).ext E42).keep K43 ni47)
  have q49 := (((((r26_2.other W32 (Or.inl (Ne.symm ne27))).other W35 (Or.inl (Ne.symm ne27))).keep K37 nin0).ext E42).keep K43 ni47)
  have q50 := (((((r26_3.other W32 (Or.inl (Ne.symm ne27))).other W35 (Or.inl (Ne.symm ne27))).keep K37 nin0).ext E42).keep K43 ni47)
  obtain ⟨cq51, kq51, q51a, q51b, q51c⟩ := isOf hZ rfl q44
  obtain ⟨_, _, ⟨T51, L51, k51, n51⟩, -, X51, ⟨Lc51, hQ51, l51, y51, z51⟩, st51⟩ := X43.interfaceBack hx (xi := (⟨"java/util/List", "add", "(Ljava/lang/Object;)Z"⟩ : MethodName)) (y := (⟨"java/util/ArrayList", "add", "(Ljava/lang/Object;)Z"⟩ : MethodName)) hown (mvT hZ (hw _ (im 103 rfl))) (mvT hZ (hw _ (im 104 rfl))) (mvT hZ (hw _ (im 105 rfl))) (mvT hZ (hw _ (im 106 rfl))) (mvT hZ (hw _ (im 107 rfl))) (mvT hZ (hw _ (im 108 rfl))) (mvT hZ (hw _ (im 109 rfl))) (mvT hZ (hw _ (im 110 rfl))) (by decide) (backOf (W := 0) (rmadd1_0 l Z a0 hw [] b25 b42 de kd T43.heap n0 Z43_ O43_ pre_S_TY_EMPTY_ELEMENTDATA pre_A_de q44 q48 q49 q50 ge_b25 r43_0) hZ (hw _ (im 111 rfl)) (hw _ (im 41 rfl)) (by decide) (by decide)) q51a q51b q51c (g := (mkF m 76 #[rv x0, iv 0] [(.ref b42), (.ref b25)])) rfl (by rw [hml]; rfl) (Steps.refl _) (argsL := [(.ref b42)]) (rest := []) (lenOf pd_6 rfl) rfl (by show 2 * 0 + _ ≤ _; exact Nat.le_of_eq rfl) (hb hby d2_76) (fun _ _ => ⟨rfl, rfl, (by decide : 13 + 1 ≤ _), (by decide : 1193 + 10 ≤ _)⟩)
  dsimp only [Pt.U, Pt.locs, Pt.cells, Pt.slots] at X51 l51 y51 z51 st51 hQ51
  subst l51 y51 z51
  obtain ⟨b_51, kb_51, rfl, N51q, K51, r51_0, r51_1, r51_2, r51_3, r51_4, r51_5, r51_6, r51_7⟩ := hQ51
  have N51 := Fr.app N43 N51q
  have Z51_ : n0 ≤ T51.heap.size := Nat.le_trans Z43_ K51.1
  have O51_ := O43_.keep K51 (allS ge_b25 all0)
  have KK51 := KK43.trans K51 (allS (Or.inr sz_b25) all0)
  have szz_b_51 : h0.size ≤ b_51 := Nat.le_trans KK43.1 r51_7
  obtain ⟨_, _, ⟨T52, L52, k52, n52⟩, -, X52, ⟨Lc52, hQ52, l52, y52, z52⟩, st52⟩ := Jvm.LawKit.callS X51 hx (y := (⟨"com/example/violarc/violarc/solver/Propagator$Priority", "values", "()[Lcom/example/violarc/violarc/solver/Propagator$Priority;"⟩ : MethodName)) hown (mvT hZ (hw _ (im 72 rfl))) (mvT hZ (hw _ (im 73 rfl))) (mvT hZ (hw _ (im 74 rfl))) (mvT hZ (hw _ (im 75 rfl))) (by decide) (backOf (W := 1) (rm8 l Z a0 hw [] va kv hi me lw T51.heap n0 Z51_ O51_ pre_S__VALUES pre_E_va pre_A_va) hZ (hw _ (im 75 rfl)) (hw _ (im 74 rfl)) (by decide) (by decide)) (g := (mkF m 58 #[rv x0, iv 1] [(.int 1)])) rfl (by rw [hml]; rfl) (argsL := []) (rest := [(.int 1)]) (lenOf pd_5 rfl) rfl (by show 2 * 0 + _ ≤ _; exact Nat.le_of_eq rfl) (hb hby d2_58) (fun _ _ => ⟨rfl, rfl, (by decide : 14 + 1 ≤ _), (by decide : 1203 + 3 ≤ _)⟩)
  dsimp only [Pt.U, Pt.locs, Pt.cells, Pt.slots] at X52 l52 y52 z52 st52 hQ52
  subst l52 y52 z52
  obtain ⟨b_52, rfl, N52q, K52, r52_0, r52_1, r52_2⟩ := hQ52
  have N52 := Fr.app N51 N52q
  have Z52_ : n0 ≤ T52.heap.size := Nat.le_trans Z51_ K52.1
  have O52_ := O51_.keep K52 all0
  have KK52 := KK51.trans K52 all0
  have szz_b_52 : h0.size ≤ b_52 := Nat.le_trans KK51.1 r52_0
  obtain ⟨cl53, Ar53, qa53, S53, Nn53, H53, G53⟩ := id r52_2
  have q56 := (Nat.lt_of_lt_of_le (Nat.lt_of_lt_of_le (Nat.lt_of_lt_of_le (Nat.lt_of_lt_of_le (Nat.lt_of_lt_of_le q28 E25.1) K26.1) (Nat.le_of_eq W32.size.symm)) (Nat.le_of_eq W35.size.symm)) K37.1)
  have ne55 : x0 ≠ b42 := Nat.ne_of_lt (Nat.lt_of_lt_of_le q56 (Nat.le_of_eq g42.symm))
  have ni57 := (ninS ne55 nin0)
  have q58 := ((((q40.ext E42).keep K43 ni57).keep K51 ni29).keep K52 nin0)
  obtain ⟨T59, X59, e59, st59⟩ := getF X52 hx hZ hown (host := "") (Or.inl (hw _ (im 67 rfl))) Via.refl rfl q58 (g := (mkF m 66 #[rv x0, iv 1] [(.ref x0)])) rfl rfl (hb hby d2_66)
  obtain ⟨T60, h60, X60, e60, E60, A60, D60, -, st60⟩ := newO X59 hx hZ hown (hw _ (im 91 rfl)) (hw _ (im 92 rfl)) (hw _ (im 93 rfl)) e59 (g := (mkF m 69 #[rv x0, iv 1] [(.ref b25)])) rfl (hb hby d2_69) (by decide) (by decide)
  obtain ⟨b60, g60⟩ : ∃ z, z = T52.heap.size := ⟨_, rfl⟩
  rw [← g60] at A60 D60 st60
  have ge_b60 : n0 ≤ b60 := Nat.le_trans Z52_ (Nat.le_of_eq g60.symm)
  have sz_b60 : h0.size ≤ b60 := Nat.le_trans KK52.1 (Nat.le_of_eq g60.symm)
  have Z60_ : n0 ≤ h60.size := Nat.le_trans Z52_ E60.1
  have O60_ := O52_.ext E60
  have KK60 := KK52.ext E60
  have F60_elements : Fld Z h60 b60 "java/util/ArrayDeque" "elements" "[Ljava/lang/Object;" .null := D60 (Or.inl (hw _ (im 102 rfl))) (ty := (.array (.object "java/lang/Object"))) (by decide)
  obtain ⟨_, _, ⟨T61, L61, k61, n61⟩, -, X61, ⟨Lc61, hQ61, l61, y61, z61⟩, st61⟩ := X60.specialBack hx (y := (⟨"java/util/ArrayDeque", "<init>", "()V"⟩ : MethodName)) rfl hown (mvT hZ (hw _ (im 94 rfl))) (mvT hZ (hw _ (im 95 rfl))) (mvT hZ (hw _ (im 96 rfl))) (by decide) (backOf (W := 2) (rm9 l Z a0 hw [] b60 h60 n0 Z60_ A60 F60_elements ge_b60) hZ (hw _ (im 96 rfl)) (hw _ (im 93 rfl)) (by decide) (by decide)) (g := (mkF m 73 #[rv x0, iv 1] [(.ref b60), (.ref b60), (.ref b25)])) rfl (by rw [hml]; rfl) (Steps.refl _) (a := b60) (argsL := []) (rest := [(.ref b60), (.ref b25)]) (lenOf pd_0 rfl) rfl (by show 2 * 0 + _ ≤ _; exact Nat.le_of_eq rfl) (hb hby d2_73) (fun _ _ => ⟨rfl, e60, (by decide : 16 + 1 ≤ _), (by decide : 1209 + 17 ≤ _)⟩)
  dsimp only [Pt.U, Pt.locs, Pt.cells, Pt.slots] at X61 l61 y61 z61 st61 hQ61
  subst l61 y61 z61
  obtain ⟨rfl, N61q, K61, r61_0⟩ := hQ61
  have N61 := Fr.app N52 N61q
  have Z61_ : n0 ≤ T61.heap.size := Nat.le_trans Z60_ K61.1
  have O61_ := O60_.keep K61 (allS ge_b60 all0)
  have KK61 := KK60.trans K61 (allS (Or.inr sz_b60) all0)
  have q62 := (((r51_0.keep K52).ext E60).keep K61)
  have q64 := (Nat.lt_of_lt_of_le (Nat.lt_of_lt_of_le (Nat.lt_of_lt_of_le (Nat.lt_of_lt_of_le q46 E42.1) K43.1) K51.1) K52.1)
  have ne63 : b25 ≠ b60 := Nat.ne_of_lt (Nat.lt_of_lt_of_le q64 (Nat.le_of_eq g60.symm))
  have ni65 := (ninS ne63 nin0)
  have q66 := (((r51_1.keep K52 nin0).ext E60).keep K61 ni65)
  have q67 := (((r51_2.keep K52 nin0).ext E60).keep K61 ni65)
  have q68 := (((r51_3.keep K52 nin0).ext E60).keep K61 ni65)
  have q70 := (Nat.lt_of_lt_of_le r51_4.lt K52.1)
  have ne69 : b_51 ≠ b60 := Nat.ne_of_lt (Nat.lt_of_lt_of_le q70 (Nat.le_of_eq g60.symm))
  have ni71 := (ninS ne69 nin0)
  have q72 := (((r51_4.keep K52 nin0).ext E60).keep K61 ni71)
  have q74 := (Nat.lt_of_lt_of_le (Nat.lt_of_lt_of_le q46 E42.1) K43.1)
  have ne73 : b25 ≠ b_51 := Nat.ne_of_lt (Nat.lt_of_lt_of_le q74 r51_7)
  obtain ⟨cq75, kq75, q75a, q75b, q75c⟩ := isOf hZ rfl q62
  obtain ⟨_, _, ⟨T75, L75, k75, n75⟩, -, X75, ⟨Lc75, hQ75, l75, y75, z75⟩, st75⟩ := X61.interfaceBack hx (xi := (⟨"java/util/List", "add", "(Ljava/lang/Object;)Z"⟩ : MethodName)) (y := (⟨"java/util/ArrayList", "add", "(Ljava/lang/Object;)Z"⟩ : MethodName)) hown (mvT hZ (hw _ (im 103 rfl))) (mvT hZ (hw _ (im 104 rfl))) (mvT hZ (hw _ (im 105 rfl))) (mvT hZ (hw _ (im 106 rfl))) (mvT hZ (hw _ (im 107 rfl))) (mvT hZ (hw _ (im 108 rfl))) (mvT hZ (hw _ (im 109 rfl))) (mvT hZ (hw _ (im 110 rfl))) (by decide) (backOf (W := 0) (rmadd1_1 l Z a0 hw [] b25 b60 b_51 kb_51 b42 T61.heap n0 Z61_ q62 q66 q67 q68 ge_b25 r61_0 q72 r51_5 r51_6 ne73) hZ (hw _ (im 111 rfl)) (hw _ (im 41 rfl)) (by decide) (by decide)) q75a q75b q75c (g := (mkF m 76 #[rv x0, iv 1] [(.ref b60), (.ref b25)])) rfl (by rw [hml]; rfl) (Steps.refl _) (argsL := [(.ref b60)]) (rest := []) (lenOf pd_6 rfl) rfl (by show 2 * 0 + _ ≤ _; exact Nat.le_of_eq rfl) (hb hby d2_76) (fun _ _ => ⟨rfl, rfl, (by decide : 17 + 0 ≤ _), (by decide : 1226 + 0 ≤ _)⟩)
  dsimp only [Pt.U, Pt.locs, Pt.cells, Pt.slots] at X75 l75 y75 z75 st75 hQ75
  subst l75 y75 z75
  obtain ⟨rfl, N75q, K75, r75_0, r75_1, r75_2, r75_3, r75_4⟩ := hQ75
  have N75 := Fr.app N61 N75q
  have Z75_ : n0 ≤ T75.heap.size := Nat.le_trans Z61_ K75.1
  have O75_ := O61_.keep K75 (allS ge_b25 (allS r51_6 all0))
  have KK75 := KK61.trans K75 (allS (Or.inr sz_b25) (allS (Or.inr szz_b_51) all0))
  have P76 := own_go P36 (S' := T75.setTop (mkF m 85 #[rv x0, iv 2] [])) (by
    intro t k
    refine XS.iconst X35.here hx rfl (hb hby d2_55) ?_
    refine XS.istoreN X35.here hx rfl (hb hby d2_56) rfl (l' := #[rv x0, iv 0]) rfl ?_
    refine XS.iloadN X35.here hx rfl (hb hby d2_57) rfl ?_
    refine st37 _ ?_
    refine X37.arraylength hx Ar38.1 (State.isArrayOf_alike hZ.alike Ar38.2.1) (g := (mkF m 61 #[rv x0, iv 0] [(.ref b_37), (.int 0)])) rfl rfl (hb hby d2_61) _ ?_
    rw [len_of S38 Nn38]
    refine XS.icmpNo X37.here hx rfl (hb hby d2_62) rfl (tlt (by decide)).2.1 ?_
    refine XS.aloadN X37.here hx rfl (hb hby d2_65) rfl rfl ?_
    refine st41 _ ?_
    show Steps p.tables e below (T41.setTop (mkF m 69 #[rv x0, iv 0] [(.ref b25)])) _
    refine st42 _ ?_
    refine XS.dup X42.here hx rfl (hb hby d2_72) rfl rfl ?_
    refine st43.trans ?_
    refine st51.trans ?_
    refine XS.pop X51.here hx rfl (hb hby d2_81) rfl rfl ?_
    refine XS.iinc X51.here hx rfl (hb hby d2_82) rfl (l' := #[rv x0, iv 1]) rfl ?_
    refine XS.goto X51.here hx rfl (pc0 := 85) (pc' := 57) rfl (hb hby d2_85) (by decide) (by decide) ?_
    refine XS.iloadN X51.here hx rfl (hb hby d2_57) rfl ?_
    show Steps p.tables e below (T51.setTop (mkF m 58 #[rv x0, iv 1] [(.int 1)])) _
    refine st52 _ ?_
    refine X52.arraylength hx Ar53.1 (State.isArrayOf_alike hZ.alike Ar53.2.1) (g := (mkF m 61 #[rv x0, iv 1] [(.ref b_52), (.int 1)])) rfl rfl (hb hby d2_61) _ ?_
    rw [len_of S53 Nn53]
    refine XS.icmpNo X52.here hx rfl (hb hby d2_62) rfl (tlt (by decide)).2.1 ?_
    refine XS.aloadN X52.here hx rfl (hb hby d2_65) rfl rfl ?_
    refine st59 _ ?_
    refine st60 _ ?_
    refine XS.dup X60.here hx rfl (hb hby d2_72) rfl rfl ?_
    refine st61.trans ?_
    show Steps p.tables e below (T61.setTop (mkF m 76 #[rv x0, iv 1] [(.ref b60), (.ref b25)])) _
    refine st75.trans ?_
    refine XS.pop X75.here hx rfl (hb hby d2_81) rfl rfl ?_
    refine XS.iinc X75.here hx rfl (hb hby d2_82) rfl (l' := #[rv x0, iv 2]) rfl ?_
    exact k)
  obtain ⟨_, _, ⟨T77, L77, k77, n77⟩, -, X77, ⟨Lc77, hQ77, l77, y77, z77⟩, st77⟩ := Jvm.LawKit.callS X75 hx (y := (⟨"com/example/violarc/violarc/solver/Propagator$Priority", "values", "()[Lcom/example/violarc/violarc/solver/Propagator$Priority;"⟩ : MethodName)) hown (mvT hZ (hw _ (im 72 rfl))) (mvT hZ (hw _ (im 73 rfl))) (mvT hZ (hw _ (im 74 rfl))) (mvT hZ (hw _ (im 75 rfl))) (by decide) (backOf (W := 1) (rm8 l Z a0 hw [] va kv hi me lw T75.heap n0 Z75_ O75_ pre_S__VALUES pre_E_va pre_A_va) hZ (hw _ (im 75 rfl)) (hw _ (im 74 rfl)) (by decide) (by decide)) (g := (mkF m 58 #[rv x0, iv 2] [(.int 2)])) rfl (by rw [hml]; rfl) (argsL := []) (rest := [(.int 2)]) (lenOf pd_5 rfl) rfl (by show 2 * 0 + _ ≤ _; exact Nat.le_of_eq rfl) (hb hby d2_58) (fun _ _ => ⟨rfl, rfl, (by decide : 17 + 1 ≤ _), (by decide : 1226 + 3 ≤ _)⟩)
  dsimp only [Pt.U, Pt.locs, Pt.cells, Pt.slots] at X77 l77 y77 z77 st77 hQ77
  subst l77 y77 z77
  obtain ⟨b_77, rfl, N77q, K77, r77_0, r77_1, r77_2⟩ := hQ77
  have N77 := Fr.app N75 N77q
  have Z77_ : n0 ≤ T77.heap.size := Nat.le_trans Z75_ K77.1
  have O77_ := O75_.keep K77 all0
  have KK77 := KK75.trans K77 all0
  have szz_b_77 : h0.size ≤ b_77 := Nat.le_trans KK75.1 r77_0
  obtain ⟨cl78, Ar78, qa78, S78, Nn78, H78, G78⟩ := id r77_2
  have q81 := (Nat.lt_of_lt_of_le (Nat.lt_of_lt_of_le (Nat.lt_of_lt_of_le (Nat.lt_of_lt_of_le q56 E42.1) K43.1) K51.1) K52.1)
  have ne80 : x0 ≠ b60 := Nat.ne_of_lt (Nat.lt_of_lt_of_le q81 (Nat.le_of_eq g60.symm))
  have ni82 := (ninS ne80 nin0)
  have q84 := (Nat.lt_of_lt_of_le (Nat.lt_of_lt_of_le q56 E42.1) K43.1)
  have ne83 : x0 ≠ b_51 := Nat.ne_of_lt (Nat.lt_of_lt_of_le q84 r51_7)
  have ni85 := (ninS ne27 (ninS ne83 nin0))
  have q86 := ((((q58.ext E60).keep K61 ni82).keep K75 ni85).keep K77 nin0)
  obtain ⟨T87, X87, e87, st87⟩ := getF X77 hx hZ hown (host := "") (Or.inl (hw _ (im 67 rfl))) Via.refl rfl q86 (g := (mkF m 66 #[rv x0, iv 2] [(.ref x0)])) rfl rfl (hb hby d2_66)
  obtain ⟨T88, h88, X88, e88, E88, A88, D88, -, st88⟩ := newO X87 hx hZ hown (hw _ (im 91 rfl)) (hw _ (im 92 rfl)) (hw _ (im 93 rfl)) e87 (g := (mkF m 69 #[rv x0, iv 2] [(.ref b25)])) rfl (hb hby d2_69) (by decide) (by decide)
  obtain ⟨b88, g88⟩ : ∃ z, z = T77.heap.size := ⟨_, rfl⟩
  rw [← g88] at A88 D88 st88
  have ge_b88 : n0 ≤ b88 := Nat.le_trans Z77_ (Nat.le_of_eq g88.symm)
  have sz_b88 : h0.size ≤ b88 := Nat.le_trans KK77.1 (Nat.le_of_eq g88.symm)
  have Z88_ : n0 ≤ h88.size := Nat.le_trans Z77_ E88.1
  have O88_ := O77_.ext E88
  have KK88 := KK77.ext E88
  have F88_elements : Fld Z h88 b88 "java/util/ArrayDeque" "elements" "[Ljava/lang/Object;" .null := D88 (Or.inl (hw _ (im 102 rfl))) (ty := (.array (.object "java/lang/Object"))) (by decide)
  obtain ⟨_, _, ⟨T89, L89, k89, n89⟩, -, X89, ⟨Lc89, hQ89, l89, y89, z89⟩, st89⟩ := X88.specialBack hx (y := (⟨"java/util/ArrayDeque", "<init>", "()V"⟩ : MethodName)) rfl hown (mvT hZ (hw _ (im 94 rfl))) (mvT hZ (hw _ (im 95 rfl))) (mvT hZ (hw _ (im 96 rfl))) (by decide) (backOf (W := 2) (rm9 l Z a0 hw [] b88 h88 n0 Z88_ A88 F88_elements ge_b88) hZ (hw _ (im 96 rfl)) (hw _ (im 93 rfl)) (by decide) (by decide)) (g := (mkF m 73 #[rv x0, iv 2] [(.ref b88), (.ref b88), (.ref b25)])) rfl (by rw [hml]; rfl) (Steps.refl _) (a := b88) (argsL := []) (rest := [(.ref b88), (.ref b25)]) (lenOf pd_0 rfl) rfl (by show 2 * 0 + _ ≤ _; exact Nat.le_of_eq rfl) (hb hby d2_73) (fun _ _ => ⟨rfl, e88, (by decide : 19 + 1 ≤ _), (by decide : 1232 + 17 ≤ _)⟩)
  dsimp only [Pt.U, Pt.locs, Pt.cells, Pt.slots] at X89 l89 y89 z89 st89 hQ89
  subst l89 y89 z89
  obtain ⟨rfl, N89q, K89, r89_0⟩ := hQ89
  have N89 := Fr.app N77 N89q
  have Z89_ : n0 ≤ T89.heap.size := Nat.le_trans Z88_ K89.1
  have O89_ := O88_.keep K89 (allS ge_b88 all0)
  have KK89 := KK88.trans K89 (allS (Or.inr sz_b88) all0)
  have q90 := (((r75_0.keep K77).ext E88).keep K89)
  have q92 := (Nat.lt_of_lt_of_le (Nat.lt_of_lt_of_le (Nat.lt_of_lt_of_le (Nat.lt_of_lt_of_le q64 E60.1) K61.1) K75.1) K77.1)
  have ne91 : b25 ≠ b88 := Nat.ne_of_lt (Nat.lt_of_lt_of_le q92 (Nat.le_of_eq g88.symm))
  have ni93 := (ninS ne91 nin0)
  have q94 := (((r75_1.keep K77 nin0).ext E88).keep K89 ni93)
  have q95 := (((r75_2.keep K77 nin0).ext E88).keep K89 ni93)
  have q96 := (((r75_3.keep K77 nin0).ext E88).keep K89 ni93)
  have q98 := (Nat.lt_of_lt_of_le (Nat.lt_of_lt_of_le (Nat.lt_of_lt_of_le (Nat.lt_of_lt_of_le q70 E60.1) K61.1) K75.1) K77.1)
  have ne97 : b_51 ≠ b88 := Nat.ne_of_lt (Nat.lt_of_lt_of_le q98 (Nat.le_of_eq g88.symm))
  have ni99 := (ninS ne97 nin0)
  have q100 := (((r75_4.keep K77 nin0).ext E88).keep K89 ni99)
  obtain ⟨cq101, kq101, q101a, q101b, q101c⟩ := isOf hZ rfl q90
  obtain ⟨_, _, ⟨T101, L101, k101, n101⟩, -, X101, ⟨Lc101, hQ101, l101, y101, z101⟩, st101⟩ := X89.interfaceBack hx (xi := (⟨"java/util/List", "add", "(Ljava/lang/Object;)Z"⟩ : MethodName)) (y := (⟨"java/util/ArrayList", "add", "(Ljava/lang/Object;)Z"⟩ : MethodName)) hown (mvT hZ (hw _ (im 103 rfl))) (mvT hZ (hw _ (im 104 rfl))) (mvT hZ (hw _ (im 105 rfl))) (mvT hZ (hw _ (im 106 rfl))) (mvT hZ (hw _ (im 107 rfl))) (mvT hZ (hw _ (im 108 rfl))) (mvT hZ (hw _ (im 109 rfl))) (mvT hZ (hw _ (im 110 rfl))) (by decide) (backOf (W := 0) (rmadd1_2 l Z a0 hw [] b25 b88 b_51 kb_51 b42 b60 T89.heap n0 Z89_ q90 q94 q95 q96 ge_b25 r89_0 q100 r51_5 r51_6 ne73) hZ (hw _ (im 111 rfl)) (hw _ (im 41 rfl)) (by decide) (by decide)) q101a q101b q101c (g := (mkF m 76 #[rv x0, iv 2] [(.ref b88), (.ref b25)])) rfl (by rw [hml]; rfl) (Steps.refl _) (argsL := [(.ref b88)]) (rest := []) (lenOf pd_6 rfl) rfl (by show 2 * 0 + _ ≤ _; exact Nat.le_of_eq rfl) (hb hby d2_76) (fun _ _ => ⟨rfl, rfl, (by decide : 20 + 0 ≤ _), (by decide : 1249 + 0 ≤ _)⟩)
  dsimp only [Pt.U, Pt.locs, Pt.cells, Pt.slots] at X101 l101 y101 z101 st101 hQ101
  subst l101 y101 z101
  obtain ⟨rfl, N101q, K101, r101_0, r101_1, r101_2, r101_3, r101_4⟩ := hQ101
  have N101 := Fr.app N89 N101q
  have Z101_ : n0 ≤ T101.heap.size := Nat.le_trans Z89_ K101.1
  have O101_ := O89_.keep K101 (allS ge_b25 (allS r51_6 all0))
  have KK101 := KK89.trans K101 (allS (Or.inr sz_b25) (allS (Or.inr szz_b_51) all0))
  obtain ⟨_, _, ⟨T102, L102, k102, n102⟩, -, X102, ⟨Lc102, hQ102, l102, y102, z102⟩, st102⟩ := Jvm.LawKit.callS X101 hx (y := (⟨"com/example/violarc/violarc/solver/Propagator$Priority", "values", "()[Lcom/example/violarc/violarc/solver/Propagator$Priority;"⟩ : MethodName)) hown (mvT hZ (hw _ (im 72 rfl))) (mvT hZ (hw _ (im 73 rfl))) (mvT hZ (hw _ (im 74 rfl))) (mvT hZ (hw _ (im 75 rfl))) (by decide) (backOf (W := 1) (rm8 l Z a0 hw [] va kv hi me lw T101.heap n0 Z101_ O101_ pre_S__VALUES pre_E_va pre_A_va) hZ (hw _ (im 75 rfl)) (hw _ (im 74 rfl)) (by decide) (by decide)) (g := (mkF m 58 #[rv x0, iv 3] [(.int 3)])) rfl (by rw [hml]; rfl) (argsL := []) (rest := [(.int 3)]) (lenOf pd_5 rfl) rfl (by show 2 * 0 + _ ≤ _; exact Nat.le_of_eq rfl) (hb hby d2_58) (fun _ _ => ⟨rfl, rfl, (by decide : 20 + 1 ≤ _), (by decide : 1249 + 3 ≤ _)⟩)
  dsimp only [Pt.U, Pt.locs, Pt.cells, Pt.slots] at X102 l102 y102 z102 st102 hQ102
  subst l102 y102 z102
  obtain ⟨b_102, rfl, N102q, K102, r102_0, r102_1, r102_2⟩ := hQ102
  have N102 := Fr.app N101 N102q
  have Z102_ : n0 ≤ T102.heap.size := Nat.le_trans Z101_ K102.1
  have O102_ := O101_.keep K102 all0
  have KK102 := KK101.trans K102 all0
  have szz_b_102 : h0.size ≤ b_102 := Nat.le_trans KK101.1 r102_0
  obtain ⟨cl103, Ar103, qa103, S103, Nn103, H103, G103⟩ := id r102_2
  have P105 := own_go P76 (S' := T102.setTop (mkF m 88 #[rv x0, iv 3] [])) (by
    intro t k
    refine XS.goto X75.here hx rfl (pc0 := 85) (pc' := 57) rfl (hb hby d2_85) (by decide) (by decide) ?_
    refine XS.iloadN X75.here hx rfl (hb hby d2_57) rfl ?_
    refine st77 _ ?_
    refine X77.arraylength hx Ar78.1 (State.isArrayOf_alike hZ.alike Ar78.2.1) (g := (mkF m 61 #[rv x0, iv 2] [(.ref b_77), (.int 2)])) rfl rfl (hb hby d2_61) _ ?_
    rw [len_of S78 Nn78]
    refine XS.icmpNo X77.here hx rfl (hb hby d2_62) rfl (tlt (by decide)).2.1 ?_
    refine XS.aloadN X77.here hx rfl (hb hby d2_65) rfl rfl ?_
    refine st87 _ ?_
    refine st88 _ ?_
    show Steps p.tables e below (T88.setTop (mkF m 72 #[rv x0, iv 2] [(.ref b88), (.ref b25)])) _
    refine XS.dup X88.here hx rfl (hb hby d2_72) rfl rfl ?_
    refine st89.trans ?_
    refine st101.trans ?_
    refine XS.pop X101.here hx rfl (hb hby d2_81) rfl rfl ?_
    refine XS.iinc X101.here hx rfl (hb hby d2_82) rfl (l' := #[rv x0, iv 3]) rfl ?_
    refine XS.goto X101.here hx rfl (pc0 := 85) (pc' := 57) rfl (hb hby d2_85) (by decide) (by decide) ?_
    refine XS.iloadN X101.here hx rfl (hb hby d2_57) rfl ?_
    refine st102 _ ?_
    show Steps p.tables e below (T102.setTop (mkF m 61 #[rv x0, iv 3] [(.ref b_102), (.int 3)])) _
    refine X102.arraylength hx Ar103.1 (State.isArrayOf_alike hZ.alike Ar103.2.1) (g := (mkF m 61 #[rv x0, iv 3] [(.ref b_102), (.int 3)])) rfl rfl (hb hby d2_61) _ ?_
    rw [len_of S103 Nn103]
    refine XS.icmpYes X102.here hx rfl (pc0 := 62) (pc' := 88) rfl (hb hby d2_62) rfl (flt (by decide)).2.1 (by decide) (by decide) ?_
    exact k)
  obtain ⟨fs, hr, hrun, hended, hW, hsame⟩ := X102.leave (v := none) (fun _ => rfl)
  refine ⟨_, _, P105 _ ?_, hrun, hended, _, _, rfl, ?_, ⟨_, rfl⟩, hW, hsame.mono (by decide) (by decide)⟩
  · show Steps p.tables e below (T102.setTop (mkF m 88 #[rv x0, iv 3] [])) _
    exact X102.returnOut hx Bd.returns (hb hby d2_88) hr
  · show Q2 Z x0 va kv hi me lw de kd h0 n0 _ T102.heap _
    exact ⟨rfl, N102, KK102⟩
def Q17 (Z : State) (x0 : Addr) (h0 : Heap) (n0 : Nat) (v : Option Value) (h : Heap) (L : List Loc) : Prop := v = none ∧ Fr n0 L ∧ h = h0
theorem ef_17 (m : MethodId) (x0 : Addr) : entryFrame m #[(.ref x0)] 1 = mkF m 0 #[rv x0] [] := by first | (simp [entryFrame, mkF, argsToLocals, Value.category]; done) | rfl
set_option maxRecDepth 65536 in
set_option maxHeartbeats 40000000 in
theorem rm17 (l : Launch) (Z : State) (a0 : Array Value) (hw : ∀ d ∈ tables_1, d.before a0 Z = true) (ws : List Jvm.Cond) (x0 : Addr) (h0 : Heap) (n0 : Nat) (Z0 : n0 ≤ h0.size) :
    MetFree l (⟨"com/example/violarc/violarc/solver/Trailed", "<init>", "()V"⟩ : MethodName) (head1 (Jvm.Cond.code (⟨"com/example/violarc/violarc/solver/Trailed", "<init>", "()V"⟩ : MethodName) prog_147_method_1_code 1 none :: ws) ({ frames := 1, cells := 0, slots := 0, locals := 12 } : Room)) (fun a U => a = #[(.ref x0)] ∧ Z.Warmed39 U.vm ∧ U.heap = h0) (fun _ _ _ _ _ => True) (fun _ U o U' => ∃ v L, o = .returned v ∧ Q17 Z x0 h0 n0 v U'.heap L ∧ FrameEnd U o U' L ({ frames := 1, cells := 0, slots := 0, locals := 12 } : Room).cells ({ frames := 1, cells := 0, slots := 0, locals := 12 } : Room).slots) := by
  refine MetFree.of_bodySF (plainFor_of_name pn_17) hisR ?_
  intro p e s m args below meth c s₁ Bd hml0 hP hK
  obtain ⟨rfl, hZ, hh⟩ := hP
  have hx := Bd.exec
  have hby := Bd.bytes
  have hml : c.maxLocals = 1 := hml0
  have hown : s.vm.findClass "com/example/violarc/violarc/solver/Trailed" = some m.cls := findClass_of_methodNamed Bd.named
  have hnm := (name_of_methodNamed Bd.named Bd.method).1
  have X0 : Stand p l e ({ frames := 1, cells := 0, slots := 0, locals := 12 } : Room) s m #[(.ref x0)] below meth c s₁ [] 0 0 := Stand.of_body Bd
  have e0 : s₁.heap = h0 := by rw [← hh, Bd.state]; rfl
  have N0 := Fr.nil n0
  have Kp0 := Keep.refl h0 []
  have P0 : ∀ t, Steps p.tables e below (s₁.setTop (mkF m 0 #[rv x0] [])) t → Steps p.tables e below (s₁.setTop (entryFrame m #[(.ref x0)] 1)) t := fun t k => castTop (ef_17 m x0) k
  obtain ⟨T1, X1, e1, st1⟩ := initO X0 hx hZ hown (hw _ (im 160 rfl)) (hw _ (im 12 rfl)) (hw _ (im 13 rfl)) e0 (g := (mkF m 1 #[rv x0] [(.ref x0)])) rfl (by rw [hml]; rfl) rfl (hb hby d17_1) (by decide) (W := 0) (by show 2 * 0 + _ ≤ _; exact Nat.le_of_eq rfl) (by decide)
  have P2 := own_go P0 (S' := T1.setTop (mkF m 4 #[rv x0] [])) (by
    intro t k
    refine XS.aloadN X0.here hx rfl (hb hby d17_0) rfl rfl ?_
    refine st1 _ ?_
    exact k)
  obtain ⟨fs, hr, hrun, hended, hW, hsame⟩ := X1.leave (v := none) (fun _ => rfl)
  refine ⟨_, _, P2 _ ?_, hrun, hended, _, _, rfl, ?_, ⟨_, rfl⟩, hW, hsame.mono (by decide) (by decide)⟩
  · show Steps p.tables e below (T1.setTop (mkF m 4 #[rv x0] [])) _
    exact X1.returnOut hx Bd.returns (hb hby d17_4) hr
  · show Q17 Z x0 h0 n0 _ T1.heap _
    rw [e1]
    exact ⟨rfl, N0, rfl⟩
def Q16 (Z : State) (x0 : Addr) (x1 : Addr) (x2 : Addr) (h0 : Heap) (n0 : Nat) (v : Option Value) (h : Heap) (L : List Loc) : Prop := v = none ∧ Fr n0 L ∧ Keep h0 h [x0] ∧ Exa Z h x0 "com/example/violarc/violarc/solver/IntVar" ∧ Fld Z h x0 "com/example/violarc/violarc/solver/IntVar" "index" "I" (.int 0) ∧ Fld Z h x0 "com/example/violarc/violarc/solver/IntVar" "offset" "I" (.int 0) ∧ Fld Z h x0 "com/example/violarc/violarc/solver/IntVar" "min" "I" (.int 0) ∧ Fld Z h x0 "com/example/violarc/violarc/solver/IntVar" "max" "I" (.int 0) ∧ Fld Z h x0 "com/example/violarc/violarc/solver/IntVar" "size" "I" (.int 0) ∧ Fld Z h x0 "com/example/violarc/violarc/solver/IntVar" "words" "[J" .null ∧ Fld Z h x0 "com/example/violarc/violarc/solver/IntVar" "wordStamps" "[J" .null
theorem ef_16 (m : MethodId) (x0 : Addr) (x1 : Addr) (x2 : Addr) : entryFrame m #[(.ref x0), (.ref x1), (.ref x2)] 3 = mkF m 0 #[rv x0, rv x1, rv x2] [] := by first | (simp [entryFrame, mkF, argsToLocals, Value.category]; done) | rfl
set_option maxRecDepth 65536 in
set_option maxHeartbeats 40000000 in
theorem rm16 (l : Launch) (Z : State) (a0 : Array Value) (hw : ∀ d ∈ tables_1, d.before a0 Z = true) (ws : List Jvm.Cond) (x0 : Addr) (x1 : Addr) (x2 : Addr) (h0 : Heap) (n0 : Nat) (Z0 : n0 ≤ h0.size) (pre_E_x0 : Exa Z h0 x0 "com/example/violarc/violarc/solver/IntVar") (pre_F_x0_watchers : Fld Z h0 x0 "com/example/violarc/violarc/solver/Variable" "watchers" "[Lcom/example/violarc/violarc/solver/Propagator;" .null) (pre_F_x0_masks : Fld Z h0 x0 "com/example/violarc/violarc/solver/Variable" "masks" "[I" .null) (pre_F_x0_solver : Fld Z h0 x0 "com/example/violarc/violarc/solver/Variable" "solver" "Lcom/example/violarc/violarc/solver/Solver;" .null) (pre_F_x0_name : Fld Z h0 x0 "com/example/violarc/violarc/solver/Variable" "name" "Ljava/lang/String;" .null) (pre_F_x0_index : Fld Z h0 x0 "com/example/violarc/violarc/solver/IntVar" "index" "I" (.int 0)) (pre_F_x0_offset : Fld Z h0 x0 "com/example/violarc/violarc/solver/IntVar" "offset" "I" (.int 0)) (pre_F_x0_min : Fld Z h0 x0 "com/example/violarc/violarc/solver/IntVar" "min" "I" (.int 0)) (pre_F_x0_max : Fld Z h0 x0 "com/example/violarc/violarc/solver/IntVar" "max" "I" (.int 0)) (pre_F_x0_size : Fld Z h0 x0 "com/example/violarc/violarc/solver/IntVar" "size" "I" (.int 0)) (pre_F_x0_words : Fld Z h0 x0 "com/example/violarc/violarc/solver/IntVar" "words" "[J" .null) (pre_F_x0_wordStamps : Fld Z h0 x0 "com/example/violarc/violarc/solver/IntVar" "wordStamps" "[J" .null) (g_x0 : n0 ≤ x0) :
    MetFree l (⟨"com/example/violarc/violarc/solver/Variable", "<init>", "(Lcom/example/violarc/violarc/solver/Solver;Ljava/lang/String;)V"⟩ : MethodName) (head1 (Jvm.Cond.code (⟨"com/example/violarc/violarc/solver/Variable", "<init>", "(Lcom/example/violarc/violarc/solver/Solver;Ljava/lang/String;)V"⟩ : MethodName) prog_154_method_1_code 3 none :: ws) ({ frames := 2, cells := 2, slots := 0, locals := 24 } : Room)) (fun a U => a = #[(.ref x0), (.ref x1), (.ref x2)] ∧ Z.Warmed39 U.vm ∧ U.heap = h0) (fun _ _ _ _ _ => True) (fun _ U o U' => ∃ v L, o = .returned v ∧ Q16 Z x0 x1 x2 h0 n0 v U'.heap L ∧ FrameEnd U o U' L ({ frames := 2, cells := 2, slots := 0, locals := 24 } : Room).cells ({ frames := 2, cells := 2, slots := 0, locals := 24 } : Room).slots) := by
  refine MetFree.of_bodySF (plainFor_of_name pn_16) hisR ?_
  intro p e s m args below meth c s₁ Bd hml0 hP hK
  obtain ⟨rfl, hZ, hh⟩ := hP
  have hx := Bd.exec
  have hby := Bd.bytes
  have hml : c.maxLocals = 3 := hml0
  have hown : s.vm.findClass "com/example/violarc/violarc/solver/Variable" = some m.cls := findClass_of_methodNamed Bd.named
  have hnm := (name_of_methodNamed Bd.named Bd.method).1
  have X0 : Stand p l e ({ frames := 2, cells := 2, slots := 0, locals := 24 } : Room) s m #[(.ref x0), (.ref x1), (.ref x2)] below meth c s₁ [] 0 0 := Stand.of_body Bd
  have e0 : s₁.heap = h0 := by rw [← hh, Bd.state]; rfl
  have N0 := Fr.nil n0
  have Kp0 := Keep.refl h0 [x0]
  have P0 : ∀ t, Steps p.tables e below (s₁.setTop (mkF m 0 #[rv x0, rv x1, rv x2] [])) t → Steps p.tables e below (s₁.setTop (entryFrame m #[(.ref x0), (.ref x1), (.ref x2)] 3)) t := fun t k => castTop (ef_16 m x0 x1 x2) k
  obtain ⟨_, _, ⟨T1, L1, k1, n1⟩, -, X1, ⟨Lc1, hQ1, l1, y1, z1⟩, st1⟩ := X0.specialBack hx (y := (⟨"com/example/violarc/violarc/solver/Trailed", "<init>", "()V"⟩ : MethodName)) rfl hown (mvT hZ (hw _ (im 155 rfl))) (mvT hZ (hw _ (im 156 rfl))) (mvT hZ (hw _ (im 159 rfl))) (by decide) (backOf (W := 0) (rm17 l Z a0 hw [] x0 h0 n0 Z0 ) hZ (hw _ (im 159 rfl)) (hw _ (im 158 rfl)) (by decide) (by decide)) (g := (mkF m 1 #[rv x0, rv x1, rv x2] [(.ref x0)])) rfl (by rw [hml]; rfl) (Steps.refl _) (a := x0) (argsL := []) (rest := []) (lenOf pd_0 rfl) rfl (by show 2 * 0 + _ ≤ _; exact Nat.le_of_eq rfl) (hb hby d16_1) (fun _ _ => ⟨rfl, e0, (by decide : 0 + 0 ≤ _), (by decide : 0 + 0 ≤ _)⟩)
  dsimp only [Pt.U, Pt.locs, Pt.cells, Pt.slots] at X1 l1 y1 z1 st1 hQ1
  subst l1 y1 z1
  obtain ⟨rfl, N1q, e1⟩ := hQ1
  have N1 := Fr.app N0 N1q
  obtain ⟨T2, h2, k2, X2, e2, E2, A2, O2v, st2⟩ := newR X1 hx hZ hown (hw _ (im 161 rfl)) (hw _ (im 162 rfl)) e1 (g := (mkF m 6 #[rv x0, rv x1, rv x2] [(.int 0), (.ref x0)])) rfl (hb hby d16_6) rfl (by decide) (cap := 0) (by decide) (by decide) (by decide) (by decide)
  obtain ⟨b2, g2⟩ : ∃ z, z = h0.size := ⟨_, rfl⟩
  rw [← g2] at A2 st2
  have ge_b2 : n0 ≤ b2 := Nat.le_trans Z0 (Nat.le_of_eq g2.symm)
  have sz_b2 : h0.size ≤ b2 := Nat.le_trans Kp0.1 (Nat.le_of_eq g2.symm)
  have Z2_ : n0 ≤ h2.size := Nat.le_trans Z0 E2.1
  have KK2 := Kp0.ext E2
  have V2 : Arv Z h2 b2 k2 (.object "com/example/violarc/violarc/solver/Propagator") (0 : Int32) [] .null := (Arv.new A2 (by decide)).pad (pad_rep [] .null 0)
  have q3 := (pre_F_x0_watchers.ext E2)
  have q4 := (pre_E_x0.ext E2)
  obtain ⟨T5, h5, X5, e5, W5, st5⟩ := putF X2 hx hZ hown (host := "") (Or.inl (hw _ (im 163 rfl))) Via.refl e2 q3 q4 (Or.inl (hw _ (im 164 rfl))) (hw _ (im 137 rfl)) (ty := (.array (.object "com/example/violarc/violarc/solver/Propagator"))) (by decide) rfl rfl (g := (mkF m 9 #[rv x0, rv x1, rv x2] [(.ref b2), (.ref x0)])) rfl rfl (hb hby d16_9)
  have Fw5 := q3.same W5
  have Z5_ : n0 ≤ h5.size := Nat.le_trans Z2_ (Nat.le_of_eq W5.size.symm)
  have N5 := Fr.snoc X5 N1 g_x0
  have KK5 := KK2.wr W5 (Or.inl (List.mem_of_getElem? (i := 0) rfl))
  obtain ⟨T6, h6, k6, X6, e6, E6, A6, st6⟩ := newP X5 hx hZ (hw _ (im 25 rfl)) e5 (g := (mkF m 14 #[rv x0, rv x1, rv x2] [(.int 0), (.ref x0)])) rfl (hb hby d16_14) rfl (by decide) (cap := 0) (by decide) (by decide) (by decide) (by decide)
  obtain ⟨b6, g6⟩ : ∃ z, z = h5.size := ⟨_, rfl⟩
  rw [← g6] at A6 st6
  have ge_b6 : n0 ≤ b6 := Nat.le_trans Z5_ (Nat.le_of_eq g6.symm)
  have sz_b6 : h0.size ≤ b6 := Nat.le_trans KK5.1 (Nat.le_of_eq g6.symm)
  have Z6_ : n0 ≤ h6.size := Nat.le_trans Z5_ E6.1
  have KK6 := KK5.ext E6
  have V6 : Arv Z h6 b6 k6 .int (0 : Int32) [] (.int 0) := (Arv.new A6 (by decide)).pad (pad_rep [] (.int 0) 0)
  have q7 := (((pre_F_x0_masks.ext E2).other W5 (Or.inr (own_sn (la_14 hw) (la_15 hw)))).ext E6)
  have q8 := ((q4.wr W5).ext E6)
  obtain ⟨T9, h9, X9, e9, W9, st9⟩ := putF X6 hx hZ hown (host := "") (Or.inl (hw _ (im 165 rfl))) Via.refl e6 q7 q8 (Or.inl (hw _ (im 166 rfl))) (hw _ (im 137 rfl)) (ty := (.array .int)) (by decide) rfl rfl (g := (mkF m 16 #[rv x0, rv x1, rv x2] [(.ref b6), (.ref x0)])) rfl rfl (hb hby d16_16)
  have Fw9 := q7.same W9
  have Z9_ : n0 ≤ h9.size := Nat.le_trans Z6_ (Nat.le_of_eq W9.size.symm)
  have N9 := Fr.snoc X9 N5 g_x0
  have KK9 := KK6.wr W9 (Or.inl (List.mem_of_getElem? (i := 0) rfl))
  have q10 := ((((pre_F_x0_solver.ext E2).other W5 (Or.inr (own_sn (la_16 hw) (la_15 hw)))).ext E6).other W9 (Or.inr (own_sn (la_16 hw) (la_14 hw))))
  have q11 := (q8.wr W9)
  obtain ⟨T12, h12, X12, e12, W12, st12⟩ := putF X9 hx hZ hown (host := "") (Or.inl (hw _ (im 167 rfl))) Via.refl e9 q10 q11 (Or.inr ⟨(hw _ (im 168 rfl)), rfl, hnm⟩) (hw _ (im 137 rfl)) (ty := (.object "com/example/violarc/violarc/solver/Solver")) (by decide) rfl rfl (g := (mkF m 33 #[rv x0, rv x1, rv x2] [(.ref x1), (.ref x0)])) rfl rfl (hb hby d16_33)
  have Fw12 := q10.same W12
  have Z12_ : n0 ≤ h12.size := Nat.le_trans Z9_ (Nat.le_of_eq W12.size.symm)
  have N12 := Fr.snoc X12 N9 g_x0
  have KK12 := KK9.wr W12 (Or.inl (List.mem_of_getElem? (i := 0) rfl))
  have q13 := (((((pre_F_x0_name.ext E2).other W5 (Or.inr (own_sn (la_17 hw) (la_15 hw)))).ext E6).other W9 (Or.inr (own_sn (la_17 hw) (la_14 hw)))).other W12 (Or.inr (own_sn (la_17 hw) (la_16 hw))))
  have q14 := (q11.wr W12)
  obtain ⟨T15, h15, X15, e15, W15, st15⟩ := putF X12 hx hZ hown (host := "") (Or.inl (hw _ (im 169 rfl))) Via.refl e12 q13 q14 (Or.inr ⟨(hw _ (im 170 rfl)), rfl, hnm⟩) (hw _ (im 137 rfl)) (ty := (.object "java/lang/String")) (by decide) rfl rfl (g := (mkF m 38 #[rv x0, rv x1, rv x2] [(.ref x2), (.ref x0)])) rfl rfl (hb hby d16_38)
  have Fw15 := q13.same W15
  have Z15_ : n0 ≤ h15.size := Nat.le_trans Z12_ (Nat.le_of_eq W15.size.symm)
  have N15 := Fr.snoc X15 N12 g_x0
  have KK15 := KK12.wr W15 (Or.inl (List.mem_of_getElem? (i := 0) rfl))
  have P16 := own_go P0 (S' := T15.setTop (mkF m 41 #[rv x0, rv x1, rv x2] [])) (by
    intro t k
    refine XS.aloadN X0.here hx rfl (hb hby d16_0) rfl rfl ?_
    refine st1.trans ?_
    refine XS.aloadN X1.here hx rfl (hb hby d16_4) rfl rfl ?_
    refine XS.iconst X1.here hx rfl (hb hby d16_5) ?_
    refine st2 _ ?_
    refine st5 _ ?_
    refine XS.aloadN X5.here hx rfl (hb hby d16_12) rfl rfl ?_
    refine XS.iconst X5.here hx rfl (hb hby d16_13) ?_
    show Steps p.tables e below (T5.setTop (mkF m 14 #[rv x0, rv x1, rv x2] [(.int 0), (.ref x0)])) _
    refine st6 _ ?_
    refine st9 _ ?_
    refine XS.aloadN X9.here hx rfl (hb hby d16_19) rfl rfl ?_
    refine XS.ifnonnullYes X9.here hx rfl (pc0 := 20) (pc' := 31) rfl (hb hby d16_20) rfl (by decide) (by decide) ?_
    refine XS.aloadN X9.here hx rfl (hb hby d16_31) rfl rfl ?_
    refine XS.aloadN X9.here hx rfl (hb hby d16_32) rfl rfl ?_
    refine st12 _ ?_
    refine XS.aloadN X12.here hx rfl (hb hby d16_36) rfl rfl ?_
    show Steps p.tables e below (T12.setTop (mkF m 37 #[rv x0, rv x1, rv x2] [(.ref x0)])) _
    refine XS.aloadN X12.here hx rfl (hb hby d16_37) rfl rfl ?_
    refine st15 _ ?_
    exact k)
  have q17 := (q14.wr W15)
  have q18 := ((((((pre_F_x0_index.ext E2).other W5 (Or.inr (own_sn (la_18 hw) (la_15 hw)))).ext E6).other W9 (Or.inr (own_sn (la_18 hw) (la_14 hw)))).other W12 (Or.inr (own_sn (la_18 hw) (la_16 hw)))).other W15 (Or.inr (own_sn (la_18 hw) (la_17 hw))))
  have q19 := ((((((pre_F_x0_offset.ext E2).other W5 (Or.inr (own_sn (la_19 hw) (la_15 hw)))).ext E6).other W9 (Or.inr (own_sn (la_19 hw) (la_14 hw)))).other W12 (Or.inr (own_sn (la_19 hw) (la_16 hw)))).other W15 (Or.inr (own_sn (la_19 hw) (la_17 hw))))
  have q20 := ((((((pre_F_x0_min.ext E2).other W5 (Or.inr (own_sn (la_20 hw) (la_15 hw)))).ext E6).other W9 (Or.inr (own_sn (la_20 hw) (la_14 hw)))).other W12 (Or.inr (own_sn (la_20 hw) (la_16 hw)))).other W15 (Or.inr (own_sn (la_20 hw) (la_17 hw))))
  have q21 := ((((((pre_F_x0_max.ext E2).other W5 (Or.inr (own_sn (la_21 hw) (la_15 hw)))).ext E6).other W9 (Or.inr (own_sn (la_21 hw) (la_14 hw)))).other W12 (Or.inr (own_sn (la_21 hw) (la_16 hw)))).other W15 (Or.inr (own_sn (la_21 hw) (la_17 hw))))
  have q22 := ((((((pre_F_x0_size.ext E2).other W5 (Or.inr (own_sn (la_22 hw) (la_15 hw)))).ext E6).other W9 (Or.inr (own_sn (la_22 hw) (la_14 hw)))).other W12 (Or.inr (own_sn (la_22 hw) (la_16 hw)))).other W15 (Or.inr (own_sn (la_22 hw) (la_17 hw))))
  have q23 := ((((((pre_F_x0_words.ext E2).other W5 (Or.inr (own_sn (la_23 hw) (la_15 hw)))).ext E6).other W9 (Or.inr (own_sn (la_23 hw) (la_14 hw)))).other W12 (Or.inr (own_sn (la_23 hw) (la_16 hw)))).other W15 (Or.inr (own_sn (la_23 hw) (la_17 hw))))
  have q24 := ((((((pre_F_x0_wordStamps.ext E2).other W5 (Or.inr (own_sn (la_24 hw) (la_15 hw)))).ext E6).other W9 (Or.inr (own_sn (la_24 hw) (la_14 hw)))).other W12 (Or.inr (own_sn (la_24 hw) (la_16 hw)))).other W15 (Or.inr (own_sn (la_24 hw) (la_17 hw))))
  obtain ⟨fs, hr, hrun, hended, hW, hsame⟩ := X15.leave (v := none) (fun _ => rfl)
  refine ⟨_, _, P16 _ ?_, hrun, hended, _, _, rfl, ?_, ⟨_, rfl⟩, hW, hsame.mono (by decide) (by decide)⟩
  · show Steps p.tables e below (T15.setTop (mkF m 41 #[rv x0, rv x1, rv x2] [])) _
    exact X15.returnOut hx Bd.returns (hb hby d16_41) hr
  · show Q16 Z x0 x1 x2 h0 n0 _ T15.heap _
    rw [e15]
    exact ⟨rfl, N15, KK15, q17, q18, q19, q20, q21, q22, q23, q24⟩
def Q15 (Z : State) (x0 : Addr) (x1 : Addr) (x2 : Int32) (x3 : Addr) (x4 : Int32) (x5 : Int32) (h0 : Heap) (n0 : Nat) (v : Option Value) (h : Heap) (L : List Loc) : Prop := ∃ (wa : Addr), ∃ (kw : ClassId), v = none ∧ Fr n0 L ∧ Keep h0 h [x0] ∧ Exa Z h x0 "com/example/violarc/violarc/solver/IntVar" ∧ Fld Z h x0 "com/example/violarc/violarc/solver/IntVar" "offset" "I" (.int x4) ∧ Fld Z h x0 "com/example/violarc/violarc/solver/IntVar" "min" "I" (.int x4) ∧ Fld Z h x0 "com/example/violarc/violarc/solver/IntVar" "max" "I" (.int x5) ∧ Fld Z h x0 "com/example/violarc/violarc/solver/IntVar" "size" "I" (.int 128) ∧ Fld Z h x0 "com/example/violarc/violarc/solver/IntVar" "words" "[J" (.ref wa) ∧ Arv Z h wa kw .long (2 : Int32) [(.long (-1)), (.long (-1))] (.long 0) ∧ n0 ≤ wa ∧ h0.size ≤ wa
theorem ef_15 (m : MethodId) (x0 : Addr) (x1 : Addr) (x2 : Int32) (x3 : Addr) (x4 : Int32) (x5 : Int32) : entryFrame m #[(.ref x0), (.ref x1), (.int x2), (.ref x3), (.int x4), (.int x5)] 7 = mkF m 0 #[rv x0, rv x1, iv x2, rv x3, iv x4, iv x5, .unset] [] := by first | (simp [entryFrame, mkF, argsToLocals, Value.category]; done) | rfl
set_option maxRecDepth 65536 in
set_option maxHeartbeats 40000000 in
theorem rm15 (l : Launch) (Z : State) (a0 : Array Value) (hw : ∀ d ∈ tables_1, d.before a0 Z = true) (ws : List Jvm.Cond) (x0 : Addr) (x1 : Addr) (x2 : Int32) (x3 : Addr) (x4 : Int32) (x5 : Int32) (h0 : Heap) (n0 : Nat) (Z0 : n0 ≤ h0.size) (pre_E_x0 : Exa Z h0 x0 "com/example/violarc/violarc/solver/IntVar") (pre_F_x0_watchers : Fld Z h0 x0 "com/example/violarc/violarc/solver/Variable" "watchers" "[Lcom/example/violarc/violarc/solver/Propagator;" .null) (pre_F_x0_masks : Fld Z h0 x0 "com/example/violarc/violarc/solver/Variable" "masks" "[I" .null) (pre_F_x0_solver : Fld Z h0 x0 "com/example/violarc/violarc/solver/Variable" "solver" "Lcom/example/violarc/violarc/solver/Solver;" .null) (pre_F_x0_name : Fld Z h0 x0 "com/example/violarc/violarc/solver/Variable" "name" "Ljava/lang/String;" .null) (pre_F_x0_index : Fld Z h0 x0 "com/example/violarc/violarc/solver/IntVar" "index" "I" (.int 0)) (pre_F_x0_offset : Fld Z h0 x0 "com/example/violarc/violarc/solver/IntVar" "offset" "I" (.int 0)) (pre_F_x0_min : Fld Z h0 x0 "com/example/violarc/violarc/solver/IntVar" "min" "I" (.int 0)) (pre_F_x0_max : Fld Z h0 x0 "com/example/violarc/violarc/solver/IntVar" "max" "I" (.int 0)) (pre_F_x0_size : Fld Z h0 x0 "com/example/violarc/violarc/solver/IntVar" "size" "I" (.int 0)) (pre_F_x0_words : Fld Z h0 x0 "com/example/violarc/violarc/solver/IntVar" "words" "[J" .null) (pre_F_x0_wordStamps : Fld Z h0 x0 "com/example/violarc/violarc/solver/IntVar" "wordStamps" "[J" .null) (g_x0 : n0 ≤ x0) (h10 : ¬ (x5 < x4)) (h26 : ¬ ((16777216 : Int64) < (((x5.toInt64) - (x4.toInt64)) + (1 : Int64)))) (hsz : ((x5 - x4) + (1 : Int32)) = (128 : Int32)) :
    MetFree l (⟨"com/example/violarc/violarc/solver/IntVar", "<init>", "(Lcom/example/violarc/violarc/solver/Solver;ILjava/lang/String;II)V"⟩ : MethodName) (head1 (Jvm.Cond.code (⟨"com/example/violarc/violarc/solver/IntVar", "<init>", "(Lcom/example/violarc/violarc/solver/Solver;ILjava/lang/String;II)V"⟩ : MethodName) prog_128_method_1_code 7 none :: ws) ({ frames := 3, cells := 4, slots := 4, locals := 38 } : Room)) (fun a U => a = #[(.ref x0), (.ref x1), (.int x2), (.ref x3), (.int x4), (.int x5)] ∧ Z.Warmed39 U.vm ∧ U.heap = h0) (fun _ _ _ _ _ => True) (fun _ U o U' => ∃ v L, o = .returned v ∧ Q15 Z x0 x1 x2 x3 x4 x5 h0 n0 v U'.heap L ∧ FrameEnd U o U' L ({ frames := 3, cells := 4, slots := 4, locals := 38 } : Room).cells ({ frames := 3, cells := 4, slots := 4, locals := 38 } : Room).slots) := by
  refine MetFree.of_bodySF (plainFor_of_name pn_15) hisR ?_
  intro p e s m args below meth c s₁ Bd hml0 hP hK
  obtain ⟨rfl, hZ, hh⟩ := hP
  have hx := Bd.exec
  have hby := Bd.bytes
  have hml : c.maxLocals = 7 := hml0
  have hown : s.vm.findClass "com/example/violarc/violarc/solver/IntVar" = some m.cls := findClass_of_methodNamed Bd.named
  have hnm := (name_of_methodNamed Bd.named Bd.method).1
  have X0 : Stand p l e ({ frames := 3, cells := 4, slots := 4, locals := 38 } : Room) s m #[(.ref x0), (.ref x1), (.int x2), (.ref x3), (.int x4), (.int x5)] below meth c s₁ [] 0 0 := Stand.of_body Bd
  have e0 : s₁.heap = h0 := by rw [← hh, Bd.state]; rfl
  have N0 := Fr.nil n0
  have Kp0 := Keep.refl h0 [x0]
  have P0 : ∀ t, Steps p.tables e below (s₁.setTop (mkF m 0 #[rv x0, rv x1, iv x2, rv x3, iv x4, iv x5, .unset] [])) t → Steps p.tables e below (s₁.setTop (entryFrame m #[(.ref x0), (.ref x1), (.int x2), (.ref x3), (.int x4), (.int x5)] 7)) t := fun t k => castTop (ef_15 m x0 x1 x2 x3 x4 x5) k
  obtain ⟨_, _, ⟨T1, L1, k1, n1⟩, -, X1, ⟨Lc1, hQ1, l1, y1, z1⟩, st1⟩ := X0.specialBack hx (y := (⟨"com/example/violarc/violarc/solver/Variable", "<init>", "(Lcom/example/violarc/violarc/solver/Solver;Ljava/lang/String;)V"⟩ : MethodName)) rfl hown (mvT hZ (hw _ (im 150 rfl))) (mvT hZ (hw _ (im 151 rfl))) (mvT hZ (hw _ (im 154 rfl))) (by decide) (backOf (W := 0) (rm16 l Z a0 hw [] x0 x1 x3 h0 n0 Z0 pre_E_x0 pre_F_x0_watchers pre_F_x0_masks pre_F_x0_solver pre_F_x0_name pre_F_x0_index pre_F_x0_offset pre_F_x0_min pre_F_x0_max pre_F_x0_size pre_F_x0_words pre_F_x0_wordStamps g_x0) hZ (hw _ (im 154 rfl)) (hw _ (im 153 rfl)) (by decide) (by decide)) (g := (mkF m 3 #[rv x0, rv x1, iv x2, rv x3, iv x4, iv x5, .unset] [(.ref x3), (.ref x1), (.ref x0)])) rfl (by rw [hml]; rfl) (Steps.refl _) (a := x0) (argsL := [(.ref x1), (.ref x3)]) (rest := []) (lenOf pd_7 rfl) rfl (by show 2 * 0 + _ ≤ _; exact Nat.le_of_eq rfl) (hb hby d15_3) (fun _ _ => ⟨rfl, e0, (by decide : 0 + 2 ≤ _), (by decide : 0 + 0 ≤ _)⟩)
  dsimp only [Pt.U, Pt.locs, Pt.cells, Pt.slots] at X1 l1 y1 z1 st1 hQ1
  subst l1 y1 z1
  obtain ⟨rfl, N1q, K1, r1_0, r1_1, r1_2, r1_3, r1_4, r1_5, r1_6, r1_7⟩ := hQ1
  have N1 := Fr.app N0 N1q
  have Z1_ : n0 ≤ T1.heap.size := Nat.le_trans Z0 K1.1
  have KK1 := Kp0.trans K1 (allS (Or.inl (List.mem_of_getElem? (i := 0) rfl)) all0)
  have hc10_2 : ¬ (x5 < x4) := h10
  have hc26_3 : ¬ ((16777216 : Int64) < (((x5.toInt64) - (x4.toInt64)) + (1 : Int64))) := h26
  obtain ⟨T4, h4, X4, e4, W4, st4⟩ := putF X1 hx hZ hown (host := "") (Or.inl (hw _ (im 172 rfl))) Via.refl rfl r1_1 r1_0 (Or.inr ⟨(hw _ (im 173 rfl)), rfl, hnm⟩) (hw _ (im 137 rfl)) (ty := .int) (by decide) rfl rfl (g := (mkF m 49 #[rv x0, rv x1, iv x2, rv x3, iv x4, iv x5, .unset] [(.int x2), (.ref x0)])) rfl rfl (hb hby d15_49)
  have Fw4 := r1_1.same W4
  have Z4_ : n0 ≤ h4.size := Nat.le_trans Z1_ (Nat.le_of_eq W4.size.symm)
  have N4 := Fr.snoc X4 N1 g_x0
  have KK4 := KK1.wr W4 (Or.inl (List.mem_of_getElem? (i := 0) rfl))
  have q5 := (r1_2.other W4 (Or.inr (own_sn (la_19 hw) (la_18 hw))))
  have q6 := (r1_0.wr W4)
  obtain ⟨T7, h7, X7, e7, W7, st7⟩ := putF X4 hx hZ hown (host := "") (Or.inl (hw _ (im 174 rfl))) Via.refl e4 q5 q6 (Or.inr ⟨(hw _ (im 175 rfl)), rfl, hnm⟩) (hw _ (im 137 rfl)) (ty := .int) (by decide) rfl rfl (g := (mkF m 55 #[rv x0, rv x1, iv x2, rv x3, iv x4, iv x5, .unset] [(.int x4), (.ref x0)])) rfl rfl (hb hby d15_55)
  have Fw7 := q5.same W7
  have Z7_ : n0 ≤ h7.size := Nat.le_trans Z4_ (Nat.le_of_eq W7.size.symm)
  have N7 := Fr.snoc X7 N4 g_x0
  have KK7 := KK4.wr W7 (Or.inl (List.mem_of_getElem? (i := 0) rfl))
  have q8 := ((r1_3.other W4 (Or.inr (own_sn (la_20 hw) (la_18 hw)))).other W7 (Or.inr (own_sn (la_20 hw) (la_19 hw))))
  have q9 := (q6.wr W7)
  obtain ⟨T10, h10, X10, e10, W10, st10⟩ := putF X7 hx hZ hown (host := "") (Or.inl (hw _ (im 176 rfl))) Via.refl e7 q8 q9 (Or.inl (hw _ (im 177 rfl))) (hw _ (im 137 rfl)) (ty := .int) (by decide) rfl rfl (g := (mkF m 61 #[rv x0, rv x1, iv x2, rv x3, iv x4, iv x5, .unset] [(.int x4), (.ref x0)])) rfl rfl (hb hby d15_61)
  have Fw10 := q8.same W10
  have Z10_ : n0 ≤ h10.size := Nat.le_trans Z7_ (Nat.le_of_eq W10.size.symm)
  have N10 := Fr.snoc X10 N7 g_x0
  have KK10 := KK7.wr W10 (Or.inl (List.mem_of_getElem? (i := 0) rfl))
  have P11 := own_go P0 (S' := T10.setTop (mkF m 65 #[rv x0, rv x1, iv x2, rv x3, iv x4, iv x5, .unset] [(.ref x0)])) (by
    intro t k
    refine XS.aloadN X0.here hx rfl (hb hby d15_0) rfl rfl ?_
    refine XS.aloadN X0.here hx rfl (hb hby d15_1) rfl rfl ?_
    refine XS.aloadN X0.here hx rfl (hb hby d15_2) rfl rfl ?_
    refine st1.trans ?_
    refine XS.iload X1.here hx rfl (hb hby d15_6) rfl ?_
    refine XS.iload X1.here hx rfl (hb hby d15_8) rfl ?_
    refine XS.icmpNo X1.here hx rfl (hb hby d15_10) rfl (flt hc10_2).2.2.1 ?_
    refine XS.iload X1.here hx rfl (hb hby d15_13) rfl ?_
    show Steps p.tables e below (T1.setTop (mkF m 15 #[rv x0, rv x1, iv x2, rv x3, iv x4, iv x5, .unset] [(.int x5)])) _
    refine XS.i2l X1.here hx rfl (hb hby d15_15) rfl ?_
    refine XS.iload X1.here hx rfl (hb hby d15_16) rfl ?_
    refine XS.i2l X1.here hx rfl (hb hby d15_18) rfl ?_
    refine XS.lsub X1.here hx rfl (hb hby d15_19) rfl ?_
    refine XS.lconst X1.here hx rfl (hb hby d15_20) ?_
    refine XS.ladd X1.here hx rfl (hb hby d15_21) rfl ?_
    refine X1.ldc2Long hx hown (mvT hZ (hw _ (im 171 rfl))) (g := (mkF m 22 #[rv x0, rv x1, iv x2, rv x3, iv x4, iv x5, .unset] [(.long (((x5.toInt64) - (x4.toInt64)) + (1 : Int64)))])) rfl (hb hby d15_22) _ ?_
    refine XS.lcmp X1.here hx rfl (hb hby d15_25) rfl ?_
    show Steps p.tables e below (T1.setTop (mkF m 26 #[rv x0, rv x1, iv x2, rv x3, iv x4, iv x5, .unset] [(.int (lcmpW (((x5.toInt64) - (x4.toInt64)) + (1 : Int64)) (16777216 : Int64)))])) _
    refine XS.ifYes X1.here hx rfl (pc0 := 26) (pc' := 47) rfl (hb hby d15_26) rfl ((if0 _ _).trans (flt (fun q => hc26_3 ((lw_gt (((x5.toInt64) - (x4.toInt64)) + (1 : Int64)) (16777216 : Int64)).mp q))).2.2.2) (by decide) (by decide) ?_
    refine XS.aloadN X1.here hx rfl (hb hby d15_47) rfl rfl ?_
    refine XS.iloadN X1.here hx rfl (hb hby d15_48) rfl ?_
    refine st4 _ ?_
    refine XS.aloadN X4.here hx rfl (hb hby d15_52) rfl rfl ?_
    refine XS.iload X4.here hx rfl (hb hby d15_53) rfl ?_
    refine st7 _ ?_
    refine XS.aloadN X7.here hx rfl (hb hby d15_58) rfl rfl ?_
    show Steps p.tables e below (T7.setTop (mkF m 59 #[rv x0, rv x1, iv x2, rv x3, iv x4, iv x5, .unset] [(.ref x0)])) _
    refine XS.iload X7.here hx rfl (hb hby d15_59) rfl ?_
    refine st10 _ ?_
    refine XS.aloadN X10.here hx rfl (hb hby d15_64) rfl rfl ?_
    exact k)
  have q12 := (((r1_4.other W4 (Or.inr (own_sn (la_21 hw) (la_18 hw)))).other W7 (Or.inr (own_sn (la_21 hw) (la_19 hw)))).other W10 (Or.inr (own_sn (la_21 hw) (la_20 hw))))
  have q13 := (q9.wr W10)
  obtain ⟨T14, h14, X14, e14, W14, st14⟩ := putF X10 hx hZ hown (host := "") (Or.inl (hw _ (im 178 rfl))) Via.refl e10 q12 q13 (Or.inl (hw _ (im 179 rfl))) (hw _ (im 137 rfl)) (ty := .int) (by decide) rfl rfl (g := (mkF m 67 #[rv x0, rv x1, iv x2, rv x3, iv x4, iv x5, .unset] [(.int x5), (.ref x0)])) rfl rfl (hb hby d15_67)
  have Fw14 := q12.same W14
  have Z14_ : n0 ≤ h14.size := Nat.le_trans Z10_ (Nat.le_of_eq W14.size.symm)
  have N14 := Fr.snoc X14 N10 g_x0
  have KK14 := KK10.wr W14 (Or.inl (List.mem_of_getElem? (i := 0) rfl))
  have P15 := own_go P11 (S' := T14.setTop (mkF m 78 #[rv x0, rv x1, iv x2, rv x3, iv x4, iv x5, .unset] [(.int ((x5 - x4) + (1 : Int32))), (.ref x0)])) (by
    intro t k
    refine XS.iload X10.here hx rfl (hb hby d15_65) rfl ?_
    refine st14 _ ?_
    refine XS.aloadN X14.here hx rfl (hb hby d15_70) rfl rfl ?_
    refine XS.iload X14.here hx rfl (hb hby d15_71) rfl ?_
    refine XS.iload X14.here hx rfl (hb hby d15_73) rfl ?_
    refine XS.isub X14.here hx rfl (hb hby d15_75) rfl ?_
    refine XS.iconst X14.here hx rfl (hb hby d15_76) ?_
    refine XS.iadd X14.here hx rfl (hb hby d15_77) rfl ?_
    show Steps p.tables e below (T14.setTop (mkF m 78 #[rv x0, rv x1, iv x2, rv x3, iv x4, iv x5, .unset] [(.int ((x5 - x4) + (1 : Int32))), (.ref x0)])) _
    exact k)
  have hv16 : ((x5 - x4) + (1 : Int32)) = (128 : Int32) := hsz
  have P16 := own_go P15 (S' := T14.setTop (mkF m 78 #[rv x0, rv x1, iv x2, rv x3, iv x4, iv x5, .unset] [(.int 128), (.ref x0)])) (by
    intro t k
    rw [hv16]
    exact k)
  have q17 := ((((r1_5.other W4 (Or.inr (own_sn (la_22 hw) (la_18 hw)))).other W7 (Or.inr (own_sn (la_22 hw) (la_19 hw)))).other W10 (Or.inr (own_sn (la_22 hw) (la_20 hw)))).other W14 (Or.inr (own_sn (la_22 hw) (la_21 hw))))
  have q18 := (q13.wr W14)
  obtain ⟨T19, h19, X19, e19, W19, st19⟩ := putF X14 hx hZ hown (host := "") (Or.inl (hw _ (im 180 rfl))) Via.refl e14 q17 q18 (Or.inl (hw _ (im 181 rfl))) (hw _ (im 137 rfl)) (ty := .int) (by decide) rfl rfl (g := (mkF m 78 #[rv x0, rv x1, iv x2, rv x3, iv x4, iv x5, .unset] [(.int 128), (.ref x0)])) rfl rfl (hb hby d15_78)
  have Fw19 := q17.same W19
  have Z19_ : n0 ≤ h19.size := Nat.le_trans Z14_ (Nat.le_of_eq W19.size.symm)
  have N19 := Fr.snoc X19 N14 g_x0
  have KK19 := KK14.wr W19 (Or.inl (List.mem_of_getElem? (i := 0) rfl))
  obtain ⟨T20, X20, e20, st20⟩ := getF X19 hx hZ hown (host := "") (Or.inl (hw _ (im 180 rfl))) Via.refl e19 Fw19 (g := (mkF m 83 #[rv x0, rv x1, iv x2, rv x3, iv x4, iv x5, .unset] [(.ref x0), (.ref x0)])) rfl rfl (hb hby d15_83)
  obtain ⟨T21, h21, k21, X21, e21, E21, A21, st21⟩ := newP X20 hx hZ (hw _ (im 28 rfl)) e20 (g := (mkF m 92 #[rv x0, rv x1, iv x2, rv x3, iv x4, iv x5, .unset] [(.int 2), (.ref x0)])) rfl (hb hby d15_92) rfl (by decide) (cap := 2) (by decide) (by decide) (by decide) (by decide)
  obtain ⟨b21, g21⟩ : ∃ z, z = h19.size := ⟨_, rfl⟩
  rw [← g21] at A21 st21
  have ge_b21 : n0 ≤ b21 := Nat.le_trans Z19_ (Nat.le_of_eq g21.symm)
  have sz_b21 : h0.size ≤ b21 := Nat.le_trans KK19.1 (Nat.le_of_eq g21.symm)
  have Z21_ : n0 ≤ h21.size := Nat.le_trans Z19_ E21.1
  have KK21 := KK19.ext E21
  have V21 : Arv Z h21 b21 k21 .long (2 : Int32) [(.long 0), (.long 0)] (.long 0) := (Arv.new A21 (by decide)).pad (pad_rep [] (.long 0) 2)
  have q22 := ((((((r1_6.other W4 (Or.inr (own_sn (la_23 hw) (la_18 hw)))).other W7 (Or.inr (own_sn (la_23 hw) (la_19 hw)))).other W10 (Or.inr (own_sn (la_23 hw) (la_20 hw)))).other W14 (Or.inr (own_sn (la_23 hw) (la_21 hw)))).other W19 (Or.inr (own_sn (la_23 hw) (la_22 hw)))).ext E21)
  have q23 := ((q18.wr W19).ext E21)
  obtain ⟨T24, h24, X24, e24, W24, st24⟩ := putF X21 hx hZ hown (host := "") (Or.inl (hw _ (im 182 rfl))) Via.refl e21 q22 q23 (Or.inr ⟨(hw _ (im 183 rfl)), rfl, hnm⟩) (hw _ (im 137 rfl)) (ty := (.array .long)) (by decide) rfl rfl (g := (mkF m 94 #[rv x0, rv x1, iv x2, rv x3, iv x4, iv x5, .unset] [(.ref b21), (.ref x0)])) rfl rfl (hb hby d15_94)
  have Fw24 := q22.same W24
  have Z24_ : n0 ≤ h24.size := Nat.le_trans Z21_ (Nat.le_of_eq W24.size.symm)
  have N24 := Fr.snoc X24 N19 g_x0
  have KK24 := KK21.wr W24 (Or.inl (List.mem_of_getElem? (i := 0) rfl))
  obtain ⟨T25, X25, e25, st25⟩ := getF X24 hx hZ hown (host := "") (Or.inl (hw _ (im 182 rfl))) Via.refl e24 Fw24 (g := (mkF m 99 #[rv x0, rv x1, iv x2, rv x3, iv x4, iv x5, .unset] [(.ref x0), (.ref x0)])) rfl rfl (hb hby d15_99)
  have q27 := (Nat.lt_of_lt_of_le (Nat.lt_of_lt_of_le (Nat.lt_of_lt_of_le (Nat.lt_of_lt_of_le (Nat.lt_of_lt_of_le (Nat.lt_of_lt_of_le pre_E_x0.lt K1.1) (Nat.le_of_eq W4.size.symm)) (Nat.le_of_eq W7.size.symm)) (Nat.le_of_eq W10.size.symm)) (Nat.le_of_eq W14.size.symm)) (Nat.le_of_eq W19.size.symm))
  have ne26 : x0 ≠ b21 := Nat.ne_of_lt (Nat.lt_of_lt_of_le q27 (Nat.le_of_eq g21.symm))
  have q28 := (V21.other W24 (Ne.symm ne26))
  obtain ⟨cl29, Ar29, qa29, S29, Nn29, H29, G29⟩ := id q28
  obtain ⟨T30, h30, k30, X30, e30, E30, A30, st30⟩ := newP X25 hx hZ (hw _ (im 28 rfl)) e25 (g := (mkF m 103 #[rv x0, rv x1, iv x2, rv x3, iv x4, iv x5, .unset] [(.int 2), (.ref x0)])) rfl (hb hby d15_103) rfl (by decide) (cap := 2) (by decide) (by decide) (by decide) (by decide)
  obtain ⟨b30, g30⟩ : ∃ z, z = h24.size := ⟨_, rfl⟩
  rw [← g30] at A30 st30
  have ge_b30 : n0 ≤ b30 := Nat.le_trans Z24_ (Nat.le_of_eq g30.symm)
  have sz_b30 : h0.size ≤ b30 := Nat.le_trans KK24.1 (Nat.le_of_eq g30.symm)
  have Z30_ : n0 ≤ h30.size := Nat.le_trans Z24_ E30.1
  have KK30 := KK24.ext E30
  have V30 : Arv Z h30 b30 k30 .long (2 : Int32) [(.long 0), (.long 0)] (.long 0) := (Arv.new A30 (by decide)).pad (pad_rep [] (.long 0) 2)
  have q31 := ((((((((r1_7.other W4 (Or.inr (own_sn (la_24 hw) (la_18 hw)))).other W7 (Or.inr (own_sn (la_24 hw) (la_19 hw)))).other W10 (Or.inr (own_sn (la_24 hw) (la_20 hw)))).other W14 (Or.inr (own_sn (la_24 hw) (la_21 hw)))).other W19 (Or.inr (own_sn (la_24 hw) (la_22 hw)))).ext E21).other W24 (Or.inr (own_sn (la_24 hw) (la_23 hw)))).ext E30)
  have q32 := ((q23.wr W24).ext E30)
  obtain ⟨T33, h33, X33, e33, W33, st33⟩ := putF X30 hx hZ hown (host := "") (Or.inl (hw _ (im 184 rfl))) Via.refl e30 q31 q32 (Or.inr ⟨(hw _ (im 185 rfl)), rfl, hnm⟩) (hw _ (im 137 rfl)) (ty := (.array .long)) (by decide) rfl rfl (g := (mkF m 105 #[rv x0, rv x1, iv x2, rv x3, iv x4, iv x5, .unset] [(.ref b30), (.ref x0)])) rfl rfl (hb hby d15_105)
  have Fw33 := q31.same W33
  have Z33_ : n0 ≤ h33.size := Nat.le_trans Z30_ (Nat.le_of_eq W33.size.symm)
  have N33 := Fr.snoc X33 N24 g_x0
  have KK33 := KK30.wr W33 (Or.inl (List.mem_of_getElem? (i := 0) rfl))
  have q34 := ((((Fw19.ext E21).other W24 (Or.inr (own_sn (la_22 hw) (la_23 hw)))).ext E30).other W33 (Or.inr (own_sn (la_22 hw) (la_24 hw))))
  obtain ⟨T35, X35, e35, st35⟩ := getF X33 hx hZ hown (host := "") (Or.inl (hw _ (im 180 rfl))) Via.refl e33 q34 (g := (mkF m 114 #[rv x0, rv x1, iv x2, rv x3, iv x4, iv x5, iv 0] [(.ref x0), (.int 0)])) rfl rfl (hb hby d15_114)
  have q37 := ((Fw24.ext E30).other W33 (Or.inr (own_sn (la_23 hw) (la_24 hw))))
  obtain ⟨T38, X38, e38, st38⟩ := getF X35 hx hZ hown (host := "") (Or.inl (hw _ (im 182 rfl))) Via.refl e35 q37 (g := (mkF m 121 #[rv x0, rv x1, iv x2, rv x3, iv x4, iv x5, iv 0] [(.ref x0)])) rfl rfl (hb hby d15_121)
  have P39 := own_go P16 (S' := T38.setTop (mkF m 128 #[rv x0, rv x1, iv x2, rv x3, iv x4, iv x5, iv 0] [(.int 6), (.int 0), (.ref b21)])) (by
    intro t k
    refine st19 _ ?_
    refine XS.aloadN X19.here hx rfl (hb hby d15_81) rfl rfl ?_
    refine XS.aloadN X19.here hx rfl (hb hby d15_82) rfl rfl ?_
    refine st20 _ ?_
    refine XS.bipush X20.here hx rfl (hb hby d15_86) ?_
    refine XS.iadd X20.here hx rfl (hb hby d15_88) rfl ?_
    refine XS.bipush X20.here hx rfl (hb hby d15_89) ?_
    refine XS.iushr X20.here hx rfl (hb hby d15_91) rfl ?_
    show Steps p.tables e below (T20.setTop (mkF m 92 #[rv x0, rv x1, iv x2, rv x3, iv x4, iv x5, .unset] [(.int 2), (.ref x0)])) _
    refine st21 _ ?_
    refine st24 _ ?_
    refine XS.aloadN X24.here hx rfl (hb hby d15_97) rfl rfl ?_
    refine XS.aloadN X24.here hx rfl (hb hby d15_98) rfl rfl ?_
    refine st25 _ ?_
    refine X25.arraylength hx (by rw [e25]; exact Ar29.1) (State.isArrayOf_alike hZ.alike Ar29.2.1) (g := (mkF m 102 #[rv x0, rv x1, iv x2, rv x3, iv x4, iv x5, .unset] [(.ref b21), (.ref x0)])) rfl rfl (hb hby d15_102) _ ?_
    rw [len_of S29 Nn29]
    refine st30 _ ?_
    refine st33 _ ?_
    show Steps p.tables e below (T33.setTop (mkF m 108 #[rv x0, rv x1, iv x2, rv x3, iv x4, iv x5, .unset] [])) _
    refine XS.iconst X33.here hx rfl (hb hby d15_108) ?_
    refine XS.istore X33.here hx rfl (hb hby d15_109) rfl (l' := #[rv x0, rv x1, iv x2, rv x3, iv x4, iv x5, iv 0]) rfl ?_
    refine XS.iload X33.here hx rfl (hb hby d15_111) rfl ?_
    refine XS.aloadN X33.here hx rfl (hb hby d15_113) rfl rfl ?_
    refine st35 _ ?_
    refine XS.icmpNo X35.here hx rfl (hb hby d15_117) rfl (tlt (by decide)).2.1 ?_
    refine XS.aloadN X35.here hx rfl (hb hby d15_120) rfl rfl ?_
    refine st38 _ ?_
    show Steps p.tables e below (T38.setTop (mkF m 124 #[rv x0, rv x1, iv x2, rv x3, iv x4, iv x5, iv 0] [(.ref b21)])) _
    refine XS.iload X38.here hx rfl (hb hby d15_124) rfl ?_
    refine XS.bipush X38.here hx rfl (hb hby d15_126) ?_
    exact k)
  obtain ⟨T40, X40, e40, st40⟩ := getF X38 hx hZ hown (host := "") (Or.inl (hw _ (im 180 rfl))) Via.refl e38 q34 (g := (mkF m 130 #[rv x0, rv x1, iv x2, rv x3, iv x4, iv x5, iv 0] [(.ref x0), (.int 0), (.ref b21)])) rfl rfl (hb hby d15_130)
  have q42 := ((q28.ext E30).other W33 (Ne.symm ne26))
  obtain ⟨cl43, Ar43, qa43, S43, Nn43, H43, G43⟩ := id q42
  have hin43 : ¬ ((0 : Int32) < 0 ∨ cl43.slots.size ≤ ((0 : Int32)).toNatClampNeg) := inb_of S43 ⟨by decide, by decide⟩
  obtain ⟨T44, h44, X44, e44, W44, st44⟩ := stJ X40 hx hZ e40 Ar43 (j := (0 : Int32)) hin43 (g := (mkF m 158 #[rv x0, rv x1, iv x2, rv x3, iv x4, iv x5, iv 0] [(.long (-1)), (.int 0), (.ref b21)])) rfl rfl (hb hby d15_158)
  have Z44_ : n0 ≤ h44.size := Nat.le_trans Z33_ (Nat.le_of_eq W44.size.symm)
  have N44 := Fr.snoc X44 N33 ge_b21
  have KK44 := KK33.wr W44 (Or.inr sz_b21)
  have V44 : Arv Z h44 b21 k21 .long (2 : Int32) [(.long (-1)), (.long 0)] (.long 0) := Arv.set Ar43 qa43 S43 Nn43 H43 G43 rfl W44 0 rfl (Nat.le_of_ble_eq_true rfl)
  have q45 := (q34.other W44 (Or.inl ne26))
  obtain ⟨T46, X46, e46, st46⟩ := getF X44 hx hZ hown (host := "") (Or.inl (hw _ (im 180 rfl))) Via.refl e44 q45 (g := (mkF m 114 #[rv x0, rv x1, iv x2, rv x3, iv x4, iv x5, iv 64] [(.ref x0), (.int 64)])) rfl rfl (hb hby d15_114)
  have q48 := (q37.other W44 (Or.inl ne26))
  obtain ⟨T49, X49, e49, st49⟩ := getF X46 hx hZ hown (host := "") (Or.inl (hw _ (im 182 rfl))) Via.refl e46 q48 (g := (mkF m 121 #[rv x0, rv x1, iv x2, rv x3, iv x4, iv x5, iv 64] [(.ref x0)])) rfl rfl (hb hby d15_121)
  obtain ⟨T50, X50, e50, st50⟩ := getF X49 hx hZ hown (host := "") (Or.inl (hw _ (im 180 rfl))) Via.refl e49 q45 (g := (mkF m 130 #[rv x0, rv x1, iv x2, rv x3, iv x4, iv x5, iv 64] [(.ref x0), (.int 1), (.ref b21)])) rfl rfl (hb hby d15_130)
  have P52 := own_go P39 (S' := T50.setTop (mkF m 144 #[rv x0, rv x1, iv x2, rv x3, iv x4, iv x5, iv 64] [(.long (-1)), (.int 1), (.ref b21)])) (by
    intro t k
    refine XS.iushr X38.here hx rfl (hb hby d15_128) rfl ?_
    refine XS.aloadN X38.here hx rfl (hb hby d15_129) rfl rfl ?_
    refine st40 _ ?_
    refine XS.iload X40.here hx rfl (hb hby d15_133) rfl ?_
    refine XS.isub X40.here hx rfl (hb hby d15_135) rfl ?_
    refine XS.bipush X40.here hx rfl (hb hby d15_136) ?_
    refine XS.icmpNo X40.here hx rfl (hb hby d15_138) rfl (flt (by decide)).1 ?_
    refine X40.ldc2Long hx hown (mvT hZ (hw _ (im 186 rfl))) (g := (mkF m 141 #[rv x0, rv x1, iv x2, rv x3, iv x4, iv x5, iv 0] [(.int 0), (.ref b21)])) rfl (hb hby d15_141) _ ?_
    show Steps p.tables e below (T40.setTop (mkF m 144 #[rv x0, rv x1, iv x2, rv x3, iv x4, iv x5, iv 0] [(.long (-1)), (.int 0), (.ref b21)])) _
    refine XS.goto X40.here hx rfl (pc0 := 144) (pc' := 158) rfl (hb hby d15_144) (by decide) (by decide) ?_
    refine st44 _ ?_
    refine XS.iinc X44.here hx rfl (hb hby d15_159) rfl (l' := #[rv x0, rv x1, iv x2, rv x3, iv x4, iv x5, iv 64]) rfl ?_
    refine XS.goto X44.here hx rfl (pc0 := 162) (pc' := 111) rfl (hb hby d15_162) (by decide) (by decide) ?_
    refine XS.iload X44.here hx rfl (hb hby d15_111) rfl ?_
    refine XS.aloadN X44.here hx rfl (hb hby d15_113) rfl rfl ?_
    refine st46 _ ?_
    refine XS.icmpNo X46.here hx rfl (hb hby d15_117) rfl (tlt (by decide)).2.1 ?_
    show Steps p.tables e below (T46.setTop (mkF m 120 #[rv x0, rv x1, iv x2, rv x3, iv x4, iv x5, iv 64] [])) _
    refine XS.aloadN X46.here hx rfl (hb hby d15_120) rfl rfl ?_
    refine st49 _ ?_
    refine XS.iload X49.here hx rfl (hb hby d15_124) rfl ?_
    refine XS.bipush X49.here hx rfl (hb hby d15_126) ?_
    refine XS.iushr X49.here hx rfl (hb hby d15_128) rfl ?_
    refine XS.aloadN X49.here hx rfl (hb hby d15_129) rfl rfl ?_
    refine st50 _ ?_
    refine XS.iload X50.here hx rfl (hb hby d15_133) rfl ?_
    show Steps p.tables e below (T50.setTop (mkF m 135 #[rv x0, rv x1, iv x2, rv x3, iv x4, iv x5, iv 64] [(.int 64), (.int 128), (.int 1), (.ref b21)])) _
    refine XS.isub X50.here hx rfl (hb hby d15_135) rfl ?_
    refine XS.bipush X50.here hx rfl (hb hby d15_136) ?_
    refine XS.icmpNo X50.here hx rfl (hb hby d15_138) rfl (flt (by decide)).1 ?_
    refine X50.ldc2Long hx hown (mvT hZ (hw _ (im 186 rfl))) (g := (mkF m 141 #[rv x0, rv x1, iv x2, rv x3, iv x4, iv x5, iv 64] [(.int 1), (.ref b21)])) rfl (hb hby d15_141) _ ?_
    exact k)
  obtain ⟨cl53, Ar53, qa53, S53, Nn53, H53, G53⟩ := id V44
  have hin53 : ¬ ((1 : Int32) < 0 ∨ cl53.slots.size ≤ ((1 : Int32)).toNatClampNeg) := inb_of S53 ⟨by decide, by decide⟩
  obtain ⟨T54, h54, X54, e54, W54, st54⟩ := stJ X50 hx hZ e50 Ar53 (j := (1 : Int32)) hin53 (g := (mkF m 158 #[rv x0, rv x1, iv x2, rv x3, iv x4, iv x5, iv 64] [(.long (-1)), (.int 1), (.ref b21)])) rfl rfl (hb hby d15_158)
  have Z54_ : n0 ≤ h54.size := Nat.le_trans Z44_ (Nat.le_of_eq W54.size.symm)
  have N54 := Fr.snoc X54 N44 ge_b21
  have KK54 := KK44.wr W54 (Or.inr sz_b21)
  have V54 : Arv Z h54 b21 k21 .long (2 : Int32) [(.long (-1)), (.long (-1))] (.long 0) := Arv.set Ar53 qa53 S53 Nn53 H53 G53 rfl W54 1 rfl (Nat.le_of_ble_eq_true rfl)
  have q55 := (q45.other W54 (Or.inl ne26))
  obtain ⟨T56, X56, e56, st56⟩ := getF X54 hx hZ hown (host := "") (Or.inl (hw _ (im 180 rfl))) Via.refl e54 q55 (g := (mkF m 114 #[rv x0, rv x1, iv x2, rv x3, iv x4, iv x5, iv 128] [(.ref x0), (.int 128)])) rfl rfl (hb hby d15_114)
  have P58 := own_go P52 (S' := T56.setTop (mkF m 165 #[rv x0, rv x1, iv x2, rv x3, iv x4, iv x5, iv 128] [])) (by
    intro t k
    refine XS.goto X50.here hx rfl (pc0 := 144) (pc' := 158) rfl (hb hby d15_144) (by decide) (by decide) ?_
    refine st54 _ ?_
    refine XS.iinc X54.here hx rfl (hb hby d15_159) rfl (l' := #[rv x0, rv x1, iv x2, rv x3, iv x4, iv x5, iv 128]) rfl ?_
    refine XS.goto X54.here hx rfl (pc0 := 162) (pc' := 111) rfl (hb hby d15_162) (by decide) (by decide) ?_
    refine XS.iload X54.here hx rfl (hb hby d15_111) rfl ?_
    refine XS.aloadN X54.here hx rfl (hb hby d15_113) rfl rfl ?_
    refine st56 _ ?_
    refine XS.icmpYes X56.here hx rfl (pc0 := 117) (pc' := 165) rfl (hb hby d15_117) rfl (flt (by decide)).2.1 (by decide) (by decide) ?_
    show Steps p.tables e below (T56.setTop (mkF m 165 #[rv x0, rv x1, iv x2, rv x3, iv x4, iv x5, iv 128] [])) _
    exact k)
  have q59 := (((q32.wr W33).wr W44).wr W54)
  have q60 := (((((((((Fw7.other W10 (Or.inr (own_sn (la_19 hw) (la_20 hw)))).other W14 (Or.inr (own_sn (la_19 hw) (la_21 hw)))).other W19 (Or.inr (own_sn (la_19 hw) (la_22 hw)))).ext E21).other W24 (Or.inr (own_sn (la_19 hw) (la_23 hw)))).ext E30).other W33 (Or.inr (own_sn (la_19 hw) (la_24 hw)))).other W44 (Or.inl ne26)).other W54 (Or.inl ne26))
  have q61 := ((((((((Fw10.other W14 (Or.inr (own_sn (la_20 hw) (la_21 hw)))).other W19 (Or.inr (own_sn (la_20 hw) (la_22 hw)))).ext E21).other W24 (Or.inr (own_sn (la_20 hw) (la_23 hw)))).ext E30).other W33 (Or.inr (own_sn (la_20 hw) (la_24 hw)))).other W44 (Or.inl ne26)).other W54 (Or.inl ne26))
  have q62 := (((((((Fw14.other W19 (Or.inr (own_sn (la_21 hw) (la_22 hw)))).ext E21).other W24 (Or.inr (own_sn (la_21 hw) (la_23 hw)))).ext E30).other W33 (Or.inr (own_sn (la_21 hw) (la_24 hw)))).other W44 (Or.inl ne26)).other W54 (Or.inl ne26))
  have q63 := (q48.other W54 (Or.inl ne26))
  obtain ⟨fs, hr, hrun, hended, hW, hsame⟩ := X56.leave (v := none) (fun _ => rfl)
  refine ⟨_, _, P58 _ ?_, hrun, hended, _, _, rfl, ?_, ⟨_, rfl⟩, hW, hsame.mono (by decide) (by decide)⟩
  · show Steps p.tables e below (T56.setTop (mkF m 165 #[rv x0, rv x1, iv x2, rv x3, iv x4, iv x5, iv 128] [])) _
    exact X56.returnOut hx Bd.returns (hb hby d15_165) hr
  · show Q15 Z x0 x1 x2 x3 x4 x5 h0 n0 _ T56.heap _
    rw [e56]
    exact ⟨b21, k21, rfl, N54, KK54, q59, q60, q61, q62, q55, q63, V54, ge_b21, sz_b21⟩
def Qrs0 (Z : State) (x0 : Addr) (x2 : Int64) (x3 : Int64) (wa : Addr) (kw : ClassId) (y0 : Int64) (y1 : Int64) (h0 : Heap) (n0 : Nat) (v : Option Value) (h : Heap) (L : List Loc) : Prop := v = none ∧ Fr n0 L ∧ Keep h0 h [wa] ∧ Arv Z h wa kw .long (2 : Int32) [(.long x2), (.long y1)] (.long 0)
theorem ef_rs0 (m : MethodId) (x0 : Addr) (x2 : Int64) (x3 : Int64) : entryFrame m #[(.ref x0), (.int 0), (.long x2), (.long x3)] 6 = mkF m 0 #[rv x0, iv 0, lv x2, .second, lv x3, .second] [] := by first | (simp [entryFrame, mkF, argsToLocals, Value.category]; done) | rfl
set_option maxRecDepth 65536 in
set_option maxHeartbeats 40000000 in
theorem rmrs0 (l : Launch) (Z : State) (a0 : Array Value) (hw : ∀ d ∈ tables_1, d.before a0 Z = true) (ws : List Jvm.Cond) (x0 : Addr) (x2 : Int64) (x3 : Int64) (wa : Addr) (kw : ClassId) (y0 : Int64) (y1 : Int64) (h0 : Heap) (n0 : Nat) (Z0 : n0 ≤ h0.size) (pre_F_x0_words : Fld Z h0 x0 "com/example/violarc/violarc/solver/IntVar" "words" "[J" (.ref wa)) (pre_A_wa : Arv Z h0 wa kw .long (2 : Int32) [(.long y0), (.long y1)] (.long 0)) (g_wa : n0 ≤ wa) :
    MetFree l (⟨"com/example/violarc/violarc/solver/IntVar", "restore", "(IJJ)V"⟩ : MethodName) (head1 (Jvm.Cond.code (⟨"com/example/violarc/violarc/solver/IntVar", "restore", "(IJJ)V"⟩ : MethodName) prog_128_method_16_code 6 none :: ws) ({ frames := 0, cells := 0, slots := 0, locals := 0 } : Room)) (fun a U => a = #[(.ref x0), (.int 0), (.long x2), (.long x3)] ∧ Z.Warmed39 U.vm ∧ U.heap = h0) (fun _ _ _ _ _ => True) (fun _ U o U' => ∃ v L, o = .returned v ∧ Qrs0 Z x0 x2 x3 wa kw y0 y1 h0 n0 v U'.heap L ∧ FrameEnd U o U' L ({ frames := 0, cells := 0, slots := 0, locals := 0 } : Room).cells ({ frames := 0, cells := 0, slots := 0, locals := 0 } : Room).slots) := by
  refine MetFree.of_bodySF (plainFor_of_name pn_18) hisR ?_
  intro p e s m args below meth c s₁ Bd hml0 hP hK
  obtain ⟨rfl, hZ, hh⟩ := hP
  have hx := Bd.exec
  have hby := Bd.bytes
  have hml : c.maxLocals = 6 := hml0
  have hown : s.vm.findClass "com/example/violarc/violarc/solver/IntVar" = some m.cls := findClass_of_methodNamed Bd.named
  have hnm := (name_of_methodNamed Bd.named Bd.method).1
  have X0 : Stand p l e ({ frames := 0, cells := 0, slots := 0, locals := 0 } : Room) s m #[(.ref x0), (.int 0), (.long x2), (.long x3)] below meth c s₁ [] 0 0 := Stand.of_body Bd
  have e0 : s₁.heap = h0 := by rw [← hh, Bd.state]; rfl
  have N0 := Fr.nil n0
  have Kp0 := Keep.refl h0 [wa]
  have P0 : ∀ t, Steps p.tables e below (s₁.setTop (mkF m 0 #[rv x0, iv 0, lv x2, .second, lv x3, .second] [])) t → Steps p.tables e below (s₁.setTop (entryFrame m #[(.ref x0), (.int 0), (.long x2), (.long x3)] 6)) t := fun t k => castTop (ef_rs0 m x0 x2 x3) k
  obtain ⟨T2, X2, e2, st2⟩ := getF X0 hx hZ hown (host := "") (Or.inl (hw _ (im 182 rfl))) Via.refl e0 pre_F_x0_words (g := (mkF m 31 #[rv x0, iv 0, lv x2, .second, lv x3, .second] [(.ref x0)])) rfl rfl (hb hby d18_31)
  obtain ⟨cl3, Ar3, qa3, S3, Nn3, H3, G3⟩ := id pre_A_wa
  have hin3 : ¬ ((0 : Int32) < 0 ∨ cl3.slots.size ≤ ((0 : Int32)).toNatClampNeg) := inb_of S3 ⟨by decide, by decide⟩
  obtain ⟨T4, h4, X4, e4, W4, st4⟩ := stJ X2 hx hZ e2 Ar3 (j := (0 : Int32)) hin3 (g := (mkF m 36 #[rv x0, iv 0, lv x2, .second, lv x3, .second] [(.long x2), (.int 0), (.ref wa)])) rfl rfl (hb hby d18_36)
  have Z4_ : n0 ≤ h4.size := Nat.le_trans Z0 (Nat.le_of_eq W4.size.symm)
  have N4 := Fr.snoc X4 N0 g_wa
  have KK4 := Kp0.wr W4 (Or.inl (List.mem_of_getElem? (i := 0) rfl))
  have V4 : Arv Z h4 wa kw .long (2 : Int32) [(.long x2), (.long y1)] (.long 0) := Arv.set Ar3 qa3 S3 Nn3 H3 G3 rfl W4 0 rfl (Nat.le_of_ble_eq_true rfl)
  have P5 := own_go P0 (S' := T4.setTop (mkF m 37 #[rv x0, iv 0, lv x2, .second, lv x3, .second] [])) (by
    intro t k
    refine XS.iloadN X0.here hx rfl (hb hby d18_0) rfl ?_
    refine XS.iconst X0.here hx rfl (hb hby d18_1) ?_
    refine XS.icmpYes X0.here hx rfl (pc0 := 2) (pc' := 30) rfl (hb hby d18_2) rfl (feq (by decide)).2 (by decide) (by decide) ?_
    refine XS.aloadN X0.here hx rfl (hb hby d18_30) rfl rfl ?_
    refine st2 _ ?_
    refine XS.iloadN X2.here hx rfl (hb hby d18_34) rfl ?_
    refine XS.lloadN X2.here hx rfl (hb hby d18_35) rfl ?_
    refine st4 _ ?_
    show Steps p.tables e below (T4.setTop (mkF m 37 #[rv x0, iv 0, lv x2, .second, lv x3, .second] [])) _
    exact k)
  obtain ⟨fs, hr, hrun, hended, hW, hsame⟩ := X4.leave (v := none) (fun _ => rfl)
  refine ⟨_, _, P5 _ ?_, hrun, hended, _, _, rfl, ?_, ⟨_, rfl⟩, hW, hsame.mono (by decide) (by decide)⟩
  · show Steps p.tables e below (T4.setTop (mkF m 37 #[rv x0, iv 0, lv x2, .second, lv x3, .second] [])) _
    exact X4.returnOut hx Bd.returns (hb hby d18_37) hr
  · show Qrs0 Z x0 x2 x3 wa kw y0 y1 h0 n0 _ T4.heap _
    rw [e4]
    exact ⟨rfl, N4, KK4, V4⟩
def Qrs1 (Z : State) (x0 : Addr) (x2 : Int64) (x3 : Int64) (wa : Addr) (kw : ClassId) (y0 : Int64) (y1 : Int64) (h0 : Heap) (n0 : Nat) (v : Option Value) (h : Heap) (L : List Loc) : Prop := v = none ∧ Fr n0 L ∧ Keep h0 h [wa] ∧ Arv Z h wa kw .long (2 : Int32) [(.long y0), (.long x2)] (.long 0)
theorem ef_rs1 (m : MethodId) (x0 : Addr) (x2 : Int64) (x3 : Int64) : entryFrame m #[(.ref x0), (.int 1), (.long x2), (.long x3)] 6 = mkF m 0 #[rv x0, iv 1, lv x2, .second, lv x3, .second] [] := by first | (simp [entryFrame, mkF, argsToLocals, Value.category]; done) | rfl
set_option maxRecDepth 65536 in
set_option maxHeartbeats 40000000 in
theorem rmrs1 (l : Launch) (Z : State) (a0 : Array Value) (hw : ∀ d ∈ tables_1, d.before a0 Z = true) (ws : List Jvm.Cond) (x0 : Addr) (x2 : Int64) (x3 : Int64) (wa : Addr) (kw : ClassId) (y0 : Int64) (y1 : Int64) (h0 : Heap) (n0 : Nat) (Z0 : n0 ≤ h0.size) (pre_F_x0_words : Fld Z h0 x0 "com/example/violarc/violarc/solver/IntVar" "words" "[J" (.ref wa)) (pre_A_wa : Arv Z h0 wa kw .long (2 : Int32) [(.long y0), (.long y1)] (.long 0)) (g_wa : n0 ≤ wa) :
    MetFree l (⟨"com/example/violarc/violarc/solver/IntVar", "restore", "(IJJ)V"⟩ : MethodName) (head1 (Jvm.Cond.code (⟨"com/example/violarc/violarc/solver/IntVar", "restore", "(IJJ)V"⟩ : MethodName) prog_128_method_16_code 6 none :: ws) ({ frames := 0, cells := 0, slots := 0, locals := 0 } : Room)) (fun a U => a = #[(.ref x0), (.int 1), (.long x2), (.long x3)] ∧ Z.Warmed39 U.vm ∧ U.heap = h0) (fun _ _ _ _ _ => True) (fun _ U o U' => ∃ v L, o = .returned v ∧ Qrs1 Z x0 x2 x3 wa kw y0 y1 h0 n0 v U'.heap L ∧ FrameEnd U o U' L ({ frames := 0, cells := 0, slots := 0, locals := 0 } : Room).cells ({ frames := 0, cells := 0, slots := 0, locals := 0 } : Room).slots) := by
  refine MetFree.of_bodySF (plainFor_of_name pn_18) hisR ?_
  intro p e s m args below meth c s₁ Bd hml0 hP hK
  obtain ⟨rfl, hZ, hh⟩ := hP
  have hx := Bd.exec
  have hby := Bd.bytes
  have hml : c.maxLocals = 6 := hml0
  have hown : s.vm.findClass "com/example/violarc/violarc/solver/IntVar" = some m.cls := findClass_of_methodNamed Bd.named
  have hnm := (name_of_methodNamed Bd.named Bd.method).1
  have X0 : Stand p l e ({ frames := 0, cells := 0, slots := 0, locals := 0 } : Room) s m #[(.ref x0), (.int 1), (.long x2), (.long x3)] below meth c s₁ [] 0 0 := Stand.of_body Bd
  have e0 : s₁.heap = h0 := by rw [← hh, Bd.state]; rfl
  have N0 := Fr.nil n0
  have Kp0 := Keep.refl h0 [wa]
  have P0 : ∀ t, Steps p.tables e below (s₁.setTop (mkF m 0 #[rv x0, iv 1, lv x2, .second, lv x3, .second] [])) t → Steps p.tables e below (s₁.setTop (entryFrame m #[(.ref x0), (.int 1), (.long x2), (.long x3)] 6)) t := fun t k => castTop (ef_rs1 m x0 x2 x3) k
  obtain ⟨T2, X2, e2, st2⟩ := getF X0 hx hZ hown (host := "") (Or.inl (hw _ (im 182 rfl))) Via.refl e0 pre_F_x0_words (g := (mkF m 31 #[rv x0, iv 1, lv x2, .second, lv x3, .second] [(.ref x0)])) rfl rfl (hb hby d18_31)
  obtain ⟨cl3, Ar3, qa3, S3, Nn3, H3, G3⟩ := id pre_A_wa
  have hin3 : ¬ ((1 : Int32) < 0 ∨ cl3.slots.size ≤ ((1 : Int32)).toNatClampNeg) := inb_of S3 ⟨by decide, by decide⟩
  obtain ⟨T4, h4, X4, e4, W4, st4⟩ := stJ X2 hx hZ e2 Ar3 (j := (1 : Int32)) hin3 (g := (mkF m 36 #[rv x0, iv 1, lv x2, .second, lv x3, .second] [(.long x2), (.int 1), (.ref wa)])) rfl rfl (hb hby d18_36)
  have Z4_ : n0 ≤ h4.size := Nat.le_trans Z0 (Nat.le_of_eq W4.size.symm)
  have N4 := Fr.snoc X4 N0 g_wa
  have KK4 := Kp0.wr W4 (Or.inl (List.mem_of_getElem? (i := 0) rfl))
  have V4 : Arv Z h4 wa kw .long (2 : Int32) [(.long y0), (.long x2)] (.long 0) := Arv.set Ar3 qa3 S3 Nn3 H3 G3 rfl W4 1 rfl (Nat.le_of_ble_eq_true rfl)
  have P5 := own_go P0 (S' := T4.setTop (mkF m 37 #[rv x0, iv 1, lv x2, .second, lv x3, .second] [])) (by
    intro t k
    refine XS.iloadN X0.here hx rfl (hb hby d18_0) rfl ?_
    refine XS.iconst X0.here hx rfl (hb hby d18_1) ?_
    refine XS.icmpYes X0.here hx rfl (pc0 := 2) (pc' := 30) rfl (hb hby d18_2) rfl (feq (by decide)).2 (by decide) (by decide) ?_
    refine XS.aloadN X0.here hx rfl (hb hby d18_30) rfl rfl ?_
    refine st2 _ ?_
    refine XS.iloadN X2.here hx rfl (hb hby d18_34) rfl ?_
    refine XS.lloadN X2.here hx rfl (hb hby d18_35) rfl ?_
    refine st4 _ ?_
    show Steps p.tables e below (T4.setTop (mkF m 37 #[rv x0, iv 1, lv x2, .second, lv x3, .second] [])) _
    exact k)
  obtain ⟨fs, hr, hrun, hended, hW, hsame⟩ := X4.leave (v := none) (fun _ => rfl)
  refine ⟨_, _, P5 _ ?_, hrun, hended, _, _, rfl, ?_, ⟨_, rfl⟩, hW, hsame.mono (by decide) (by decide)⟩
  · show Steps p.tables e below (T4.setTop (mkF m 37 #[rv x0, iv 1, lv x2, .second, lv x3, .second] [])) _
    exact X4.returnOut hx Bd.returns (hb hby d18_37) hr
  · show Qrs1 Z x0 x2 x3 wa kw y0 y1 h0 n0 _ T4.heap _
    rw [e4]
    exact ⟨rfl, N4, KK4, V4⟩
def QrsM (Z : State) (x0 : Addr) (x2 : Int64) (x3 : Int64) (a : Int32) (b : Int32) (c2 : Int32) (h0 : Heap) (n0 : Nat) (v : Option Value) (h : Heap) (L : List Loc) : Prop := v = none ∧ Fr n0 L ∧ Keep h0 h [x0] ∧ Exa Z h x0 "com/example/violarc/violarc/solver/IntVar" ∧ Fld Z h x0 "com/example/violarc/violarc/solver/IntVar" "min" "I" (.int ((x2 >>> ((32 : Int32) &&& 0x3f).toInt64).toInt32)) ∧ Fld Z h x0 "com/example/violarc/violarc/solver/IntVar" "max" "I" (.int (x2.toInt32)) ∧ Fld Z h x0 "com/example/violarc/violarc/solver/IntVar" "size" "I" (.int (x3.toInt32))
theorem ef_rsM (m : MethodId) (x0 : Addr) (x2 : Int64) (x3 : Int64) : entryFrame m #[(.ref x0), (.int (-1)), (.long x2), (.long x3)] 6 = mkF m 0 #[rv x0, iv (-1), lv x2, .second, lv x3, .second] [] := by first | (simp [entryFrame, mkF, argsToLocals, Value.category]; done) | rfl
set_option maxRecDepth 65536 in
set_option maxHeartbeats 40000000 in
theorem rmrsM (l : Launch) (Z : State) (a0 : Array Value) (hw : ∀ d ∈ tables_1, d.before a0 Z = true) (ws : List Jvm.Cond) (x0 : Addr) (x2 : Int64) (x3 : Int64) (a : Int32) (b : Int32) (c2 : Int32) (h0 : Heap) (n0 : Nat) (Z0 : n0 ≤ h0.size) (pre_E_x0 : Exa Z h0 x0 "com/example/violarc/violarc/solver/IntVar") (pre_F_x0_min : Fld Z h0 x0 "com/example/violarc/violarc/solver/IntVar" "min" "I" (.int a)) (pre_F_x0_max : Fld Z h0 x0 "com/example/violarc/violarc/solver/IntVar" "max" "I" (.int b)) (pre_F_x0_size : Fld Z h0 x0 "com/example/violarc/violarc/solver/IntVar" "size" "I" (.int c2)) (g_x0 : n0 ≤ x0) :
    MetFree l (⟨"com/example/violarc/violarc/solver/IntVar", "restore", "(IJJ)V"⟩ : MethodName) (head1 (Jvm.Cond.code (⟨"com/example/violarc/violarc/solver/IntVar", "restore", "(IJJ)V"⟩ : MethodName) prog_128_method_16_code 6 none :: ws) ({ frames := 0, cells := 0, slots := 0, locals := 0 } : Room)) (fun a U => a = #[(.ref x0), (.int (-1)), (.long x2), (.long x3)] ∧ Z.Warmed39 U.vm ∧ U.heap = h0) (fun _ _ _ _ _ => True) (fun _ U o U' => ∃ v L, o = .returned v ∧ QrsM Z x0 x2 x3 a b c2 h0 n0 v U'.heap L ∧ FrameEnd U o U' L ({ frames := 0, cells := 0, slots := 0, locals := 0 } : Room).cells ({ frames := 0, cells := 0, slots := 0, locals := 0 } : Room).slots) := by
  refine MetFree.of_bodySF (plainFor_of_name pn_18) hisR ?_
  intro p e s m args below meth c s₁ Bd hml0 hP hK
  obtain ⟨rfl, hZ, hh⟩ := hP
  have hx := Bd.exec
  have hby := Bd.bytes
  have hml : c.maxLocals = 6 := hml0
  have hown : s.vm.findClass "com/example/violarc/violarc/solver/IntVar" = some m.cls := findClass_of_methodNamed Bd.named
  have hnm := (name_of_methodNamed Bd.named Bd.method).1
  have X0 : Stand p l e ({ frames := 0, cells := 0, slots := 0, locals := 0 } : Room) s m #[(.ref x0), (.int (-1)), (.long x2), (.long x3)] below meth c s₁ [] 0 0 := Stand.of_body Bd
  have e0 : s₁.heap = h0 := by rw [← hh, Bd.state]; rfl
  have N0 := Fr.nil n0
  have Kp0 := Keep.refl h0 [x0]
  have P0 : ∀ t, Steps p.tables e below (s₁.setTop (mkF m 0 #[rv x0, iv (-1), lv x2, .second, lv x3, .second] [])) t → Steps p.tables e below (s₁.setTop (entryFrame m #[(.ref x0), (.int (-1)), (.long x2), (.long x3)] 6)) t := fun t k => castTop (ef_rsM m x0 x2 x3) k
  obtain ⟨T2, h2, X2, e2, W2, st2⟩ := putF X0 hx hZ hown (host := "") (Or.inl (hw _ (im 176 rfl))) Via.refl e0 pre_F_x0_min pre_E_x0 (Or.inl (hw _ (im 177 rfl))) (hw _ (im 137 rfl)) (ty := .int) (by decide) rfl rfl (g := (mkF m 11 #[rv x0, iv (-1), lv x2, .second, lv x3, .second] [(.int ((x2 >>> ((32 : Int32) &&& 0x3f).toInt64).toInt32)), (.ref x0)])) rfl rfl (hb hby d18_11)
  have Fw2 := pre_F_x0_min.same W2
  have Z2_ : n0 ≤ h2.size := Nat.le_trans Z0 (Nat.le_of_eq W2.size.symm)
  have N2 := Fr.snoc X2 N0 g_x0
  have KK2 := Kp0.wr W2 (Or.inl (List.mem_of_getElem? (i := 0) rfl))
  have q3 := (pre_F_x0_max.other W2 (Or.inr (own_sn (la_21 hw) (la_20 hw))))
  have q4 := (pre_E_x0.wr W2)
  obtain ⟨T5, h5, X5, e5, W5, st5⟩ := putF X2 hx hZ hown (host := "") (Or.inl (hw _ (im 178 rfl))) Via.refl e2 q3 q4 (Or.inl (hw _ (im 179 rfl))) (hw _ (im 137 rfl)) (ty := .int) (by decide) rfl rfl (g := (mkF m 17 #[rv x0, iv (-1), lv x2, .second, lv x3, .second] [(.int (x2.toInt32)), (.ref x0)])) rfl rfl (hb hby d18_17)
  have Fw5 := q3.same W5
  have Z5_ : n0 ≤ h5.size := Nat.le_trans Z2_ (Nat.le_of_eq W5.size.symm)
  have N5 := Fr.snoc X5 N2 g_x0
  have KK5 := KK2.wr W5 (Or.inl (List.mem_of_getElem? (i := 0) rfl))
  have q6 := ((pre_F_x0_size.other W2 (Or.inr (own_sn (la_22 hw) (la_20 hw)))).other W5 (Or.inr (own_sn (la_22 hw) (la_21 hw))))
  have q7 := (q4.wr W5)
  obtain ⟨T8, h8, X8, e8, W8, st8⟩ := putF X5 hx hZ hown (host := "") (Or.inl (hw _ (im 180 rfl))) Via.refl e5 q6 q7 (Or.inl (hw _ (im 181 rfl))) (hw _ (im 137 rfl)) (ty := .int) (by decide) rfl rfl (g := (mkF m 24 #[rv x0, iv (-1), lv x2, .second, lv x3, .second] [(.int (x3.toInt32)), (.ref x0)])) rfl rfl (hb hby d18_24)
  have Fw8 := q6.same W8
  have Z8_ : n0 ≤ h8.size := Nat.le_trans Z5_ (Nat.le_of_eq W8.size.symm)
  have N8 := Fr.snoc X8 N5 g_x0
  have KK8 := KK5.wr W8 (Or.inl (List.mem_of_getElem? (i := 0) rfl))
  have P9 := own_go P0 (S' := T8.setTop (mkF m 37 #[rv x0, iv (-1), lv x2, .second, lv x3, .second] [])) (by
    intro t k
    refine XS.iloadN X0.here hx rfl (hb hby d18_0) rfl ?_
    refine XS.iconst X0.here hx rfl (hb hby d18_1) ?_
    refine XS.icmpNo X0.here hx rfl (hb hby d18_2) rfl (teq (by decide)).2 ?_
    refine XS.aloadN X0.here hx rfl (hb hby d18_5) rfl rfl ?_
    refine XS.lloadN X0.here hx rfl (hb hby d18_6) rfl ?_
    refine XS.bipush X0.here hx rfl (hb hby d18_7) ?_
    refine XS.lshr X0.here hx rfl (hb hby d18_9) rfl ?_
    refine XS.l2i X0.here hx rfl (hb hby d18_10) rfl ?_
    show Steps p.tables e below (s₁.setTop (mkF m 11 #[rv x0, iv (-1), lv x2, .second, lv x3, .second] [(.int ((x2 >>> ((32 : Int32) &&& 0x3f).toInt64).toInt32)), (.ref x0)])) _
    refine st2 _ ?_
    refine XS.aloadN X2.here hx rfl (hb hby d18_14) rfl rfl ?_
    refine XS.lloadN X2.here hx rfl (hb hby d18_15) rfl ?_
    refine XS.l2i X2.here hx rfl (hb hby d18_16) rfl ?_
    refine st5 _ ?_
    refine XS.aloadN X5.here hx rfl (hb hby d18_20) rfl rfl ?_
    refine XS.lload X5.here hx rfl (hb hby d18_21) rfl ?_
    refine XS.l2i X5.here hx rfl (hb hby d18_23) rfl ?_
    show Steps p.tables e below (T5.setTop (mkF m 24 #[rv x0, iv (-1), lv x2, .second, lv x3, .second] [(.int (x3.toInt32)), (.ref x0)])) _
    refine st8 _ ?_
    refine XS.goto X8.here hx rfl (pc0 := 27) (pc' := 37) rfl (hb hby d18_27) (by decide) (by decide) ?_
    exact k)
  have q10 := (q7.wr W8)
  have q11 := ((Fw2.other W5 (Or.inr (own_sn (la_20 hw) (la_21 hw)))).other W8 (Or.inr (own_sn (la_20 hw) (la_22 hw))))
  have q12 := (Fw5.other W8 (Or.inr (own_sn (la_21 hw) (la_22 hw))))
  obtain ⟨fs, hr, hrun, hended, hW, hsame⟩ := X8.leave (v := none) (fun _ => rfl)
  refine ⟨_, _, P9 _ ?_, hrun, hended, _, _, rfl, ?_, ⟨_, rfl⟩, hW, hsame.mono (by decide) (by decide)⟩
  · show Steps p.tables e below (T8.setTop (mkF m 37 #[rv x0, iv (-1), lv x2, .second, lv x3, .second] [])) _
    exact X8.returnOut hx Bd.returns (hb hby d18_37) hr
  · show QrsM Z x0 x2 x3 a b c2 h0 n0 _ T8.heap _
    rw [e8]
    exact ⟨rfl, N8, KK8, q10, q11, q12, Fw8⟩
def Q19 (Z : State) (x0 : Addr) (w : Int32) (h0 : Heap) (n0 : Nat) (v : Option Value) (h : Heap) (L : List Loc) : Prop := v = some (.int w) ∧ Fr n0 L ∧ h = h0
theorem ef_19 (m : MethodId) (x0 : Addr) : entryFrame m #[(.ref x0)] 1 = mkF m 0 #[rv x0] [] := by first | (simp [entryFrame, mkF, argsToLocals, Value.category]; done) | rfl
set_option maxRecDepth 65536 in
set_option maxHeartbeats 40000000 in
theorem rm19 (l : Launch) (Z : State) (a0 : Array Value) (hw : ∀ d ∈ tables_1, d.before a0 Z = true) (ws : List Jvm.Cond) (x0 : Addr) (w : Int32) (h0 : Heap) (n0 : Nat) (Z0 : n0 ≤ h0.size) (pre_F_x0_size : Fld Z h0 x0 "com/example/violarc/violarc/solver/IntVar" "size" "I" (.int w)) :
    MetFree l (⟨"com/example/violarc/violarc/solver/IntVar", "size", "()I"⟩ : MethodName) (head1 (Jvm.Cond.code (⟨"com/example/violarc/violarc/solver/IntVar", "size", "()I"⟩ : MethodName) prog_128_method_5_code 1 (some .int) :: ws) ({ frames := 0, cells := 0, slots := 0, locals := 0 } : Room)) (fun a U => a = #[(.ref x0)] ∧ Z.Warmed39 U.vm ∧ U.heap = h0) (fun _ _ _ _ _ => True) (fun _ U o U' => ∃ v L, o = .returned v ∧ Q19 Z x0 w h0 n0 v U'.heap L ∧ FrameEnd U o U' L ({ frames := 0, cells := 0, slots := 0, locals := 0 } : Room).cells ({ frames := 0, cells := 0, slots := 0, locals := 0 } : Room).slots) := by
  refine MetFree.of_bodySF (plainFor_of_name pn_19) hisR ?_
  intro p e s m args below meth c s₁ Bd hml0 hP hK
  obtain ⟨rfl, hZ, hh⟩ := hP
  have hx := Bd.exec
  have hby := Bd.bytes
  have hml : c.maxLocals = 1 := hml0
  have hown : s.vm.findClass "com/example/violarc/violarc/solver/IntVar" = some m.cls := findClass_of_methodNamed Bd.named
  have hnm := (name_of_methodNamed Bd.named Bd.method).1
  have X0 : Stand p l e ({ frames := 0, cells := 0, slots := 0, locals := 0 } : Room) s m #[(.ref x0)] below meth c s₁ [] 0 0 := Stand.of_body Bd
  have e0 : s₁.heap = h0 := by rw [← hh, Bd.state]; rfl
  have N0 := Fr.nil n0
  have Kp0 := Keep.refl h0 []
  have P0 : ∀ t, Steps p.tables e below (s₁.setTop (mkF m 0 #[rv x0] [])) t → Steps p.tables e below (s₁.setTop (entryFrame m #[(.ref x0)] 1)) t := fun t k => castTop (ef_19 m x0) k
  obtain ⟨T1, X1, e1, st1⟩ := getF X0 hx hZ hown (host := "") (Or.inl (hw _ (im 180 rfl))) Via.refl e0 pre_F_x0_size (g := (mkF m 1 #[rv x0] [(.ref x0)])) rfl rfl (hb hby d19_1)
  have P2 := own_go P0 (S' := T1.setTop (mkF m 4 #[rv x0] [(.int w)])) (by
    intro t k
    refine XS.aloadN X0.here hx rfl (hb hby d19_0) rfl rfl ?_
    refine st1 _ ?_
    exact k)
  obtain ⟨fs, hr, hrun, hended, hW, hsame⟩ := X1.leave (v := some (.int w)) (fun h => by rw [Bd.returns] at h; cases h)
  refine ⟨_, _, P2 _ ?_, hrun, hended, _, _, rfl, ?_, ⟨_, rfl⟩, hW, hsame.mono (by decide) (by decide)⟩
  · show Steps p.tables e below (T1.setTop (mkF m 4 #[rv x0] [(.int w)])) _
    exact retI X1 hx Bd.returns (hb hby d19_4) hr
  · show Q19 Z x0 w h0 n0 _ T1.heap _
    rw [e1]
    exact ⟨rfl, N0, rfl⟩
def Q21 (Z : State) (x0 : Addr) (w : Int32) (h0 : Heap) (n0 : Nat) (v : Option Value) (h : Heap) (L : List Loc) : Prop := v = some (.int w) ∧ Fr n0 L ∧ h = h0
theorem ef_21 (m : MethodId) (x0 : Addr) : entryFrame m #[(.ref x0)] 1 = mkF m 0 #[rv x0] [] := by first | (simp [entryFrame, mkF, argsToLocals, Value.category]; done) | rfl
set_option maxRecDepth 65536 in
set_option maxHeartbeats 40000000 in
theorem rm21 (l : Launch) (Z : State) (a0 : Array Value) (hw : ∀ d ∈ tables_1, d.before a0 Z = true) (ws : List Jvm.Cond) (x0 : Addr) (w : Int32) (h0 : Heap) (n0 : Nat) (Z0 : n0 ≤ h0.size) (pre_F_x0_min : Fld Z h0 x0 "com/example/violarc/violarc/solver/IntVar" "min" "I" (.int w)) :
    MetFree l (⟨"com/example/violarc/violarc/solver/IntVar", "min", "()I"⟩ : MethodName) (head1 (Jvm.Cond.code (⟨"com/example/violarc/violarc/solver/IntVar", "min", "()I"⟩ : MethodName) prog_128_method_3_code 1 (some .int) :: ws) ({ frames := 0, cells := 0, slots := 0, locals := 0 } : Room)) (fun a U => a = #[(.ref x0)] ∧ Z.Warmed39 U.vm ∧ U.heap = h0) (fun _ _ _ _ _ => True) (fun _ U o U' => ∃ v L, o = .returned v ∧ Q21 Z x0 w h0 n0 v U'.heap L ∧ FrameEnd U o U' L ({ frames := 0, cells := 0, slots := 0, locals := 0 } : Room).cells ({ frames := 0, cells := 0, slots := 0, locals := 0 } : Room).slots) := by
  refine MetFree.of_bodySF (plainFor_of_name pn_21) hisR ?_
  intro p e s m args below meth c s₁ Bd hml0 hP hK
  obtain ⟨rfl, hZ, hh⟩ := hP
  have hx := Bd.exec
  have hby := Bd.bytes
  have hml : c.maxLocals = 1 := hml0
  have hown : s.vm.findClass "com/example/violarc/violarc/solver/IntVar" = some m.cls := findClass_of_methodNamed Bd.named
  have hnm := (name_of_methodNamed Bd.named Bd.method).1
  have X0 : Stand p l e ({ frames := 0, cells := 0, slots := 0, locals := 0 } : Room) s m #[(.ref x0)] below meth c s₁ [] 0 0 := Stand.of_body Bd
  have e0 : s₁.heap = h0 := by rw [← hh, Bd.state]; rfl
  have N0 := Fr.nil n0
  have Kp0 := Keep.refl h0 []
  have P0 : ∀ t, Steps p.tables e below (s₁.setTop (mkF m 0 #[rv x0] [])) t → Steps p.tables e below (s₁.setTop (entryFrame m #[(.ref x0)] 1)) t := fun t k => castTop (ef_21 m x0) k
  obtain ⟨T1, X1, e1, st1⟩ := getF X0 hx hZ hown (host := "") (Or.inl (hw _ (im 176 rfl))) Via.refl e0 pre_F_x0_min (g := (mkF m 1 #[rv x0] [(.ref x0)])) rfl rfl (hb hby d21_1)
  have P2 := own_go P0 (S' := T1.setTop (mkF m 4 #[rv x0] [(.int w)])) (by
    intro t k
    refine XS.aloadN X0.here hx rfl (hb hby d21_0) rfl rfl ?_
    refine st1 _ ?_
    exact k)
  obtain ⟨fs, hr, hrun, hended, hW, hsame⟩ := X1.leave (v := some (.int w)) (fun h => by rw [Bd.returns] at h; cases h)
  refine ⟨_, _, P2 _ ?_, hrun, hended, _, _, rfl, ?_, ⟨_, rfl⟩, hW, hsame.mono (by decide) (by decide)⟩
  · show Steps p.tables e below (T1.setTop (mkF m 4 #[rv x0] [(.int w)])) _
    exact retI X1 hx Bd.returns (hb hby d21_4) hr
  · show Q21 Z x0 w h0 n0 _ T1.heap _
    rw [e1]
    exact ⟨rfl, N0, rfl⟩
def Q22 (Z : State) (x0 : Addr) (w : Int32) (h0 : Heap) (n0 : Nat) (v : Option Value) (h : Heap) (L : List Loc) : Prop := v = some (.int w) ∧ Fr n0 L ∧ h = h0
theorem ef_22 (m : MethodId) (x0 : Addr) : entryFrame m #[(.ref x0)] 1 = mkF m 0 #[rv x0] [] := by first | (simp [entryFrame, mkF, argsToLocals, Value.category]; done) | rfl
set_option maxRecDepth 65536 in
set_option maxHeartbeats 40000000 in
theorem rm22 (l : Launch) (Z : State) (a0 : Array Value) (hw : ∀ d ∈ tables_1, d.before a0 Z = true) (ws : List Jvm.Cond) (x0 : Addr) (w : Int32) (h0 : Heap) (n0 : Nat) (Z0 : n0 ≤ h0.size) (pre_F_x0_max : Fld Z h0 x0 "com/example/violarc/violarc/solver/IntVar" "max" "I" (.int w)) :
    MetFree l (⟨"com/example/violarc/violarc/solver/IntVar", "max", "()I"⟩ : MethodName) (head1 (Jvm.Cond.code (⟨"com/example/violarc/violarc/solver/IntVar", "max", "()I"⟩ : MethodName) prog_128_method_4_code 1 (some .int) :: ws) ({ frames := 0, cells := 0, slots := 0, locals := 0 } : Room)) (fun a U => a = #[(.ref x0)] ∧ Z.Warmed39 U.vm ∧ U.heap = h0) (fun _ _ _ _ _ => True) (fun _ U o U' => ∃ v L, o = .returned v ∧ Q22 Z x0 w h0 n0 v U'.heap L ∧ FrameEnd U o U' L ({ frames := 0, cells := 0, slots := 0, locals := 0 } : Room).cells ({ frames := 0, cells := 0, slots := 0, locals := 0 } : Room).slots) := by
  refine MetFree.of_bodySF (plainFor_of_name pn_22) hisR ?_
  intro p e s m args below meth c s₁ Bd hml0 hP hK
  obtain ⟨rfl, hZ, hh⟩ := hP
  have hx := Bd.exec
  have hby := Bd.bytes
  have hml : c.maxLocals = 1 := hml0
  have hown : s.vm.findClass "com/example/violarc/violarc/solver/IntVar" = some m.cls := findClass_of_methodNamed Bd.named
  have hnm := (name_of_methodNamed Bd.named Bd.method).1
  have X0 : Stand p l e ({ frames := 0, cells := 0, slots := 0, locals := 0 } : Room) s m #[(.ref x0)] below meth c s₁ [] 0 0 := Stand.of_body Bd
  have e0 : s₁.heap = h0 := by rw [← hh, Bd.state]; rfl
  have N0 := Fr.nil n0
  have Kp0 := Keep.refl h0 []
  have P0 : ∀ t, Steps p.tables e below (s₁.setTop (mkF m 0 #[rv x0] [])) t → Steps p.tables e below (s₁.setTop (entryFrame m #[(.ref x0)] 1)) t := fun t k => castTop (ef_22 m x0) k
  obtain ⟨T1, X1, e1, st1⟩ := getF X0 hx hZ hown (host := "") (Or.inl (hw _ (im 178 rfl))) Via.refl e0 pre_F_x0_max (g := (mkF m 1 #[rv x0] [(.ref x0)])) rfl rfl (hb hby d22_1)
  have P2 := own_go P0 (S' := T1.setTop (mkF m 4 #[rv x0] [(.int w)])) (by
    intro t k
    refine XS.aloadN X0.here hx rfl (hb hby d22_0) rfl rfl ?_
    refine st1 _ ?_
    exact k)
  obtain ⟨fs, hr, hrun, hended, hW, hsame⟩ := X1.leave (v := some (.int w)) (fun h => by rw [Bd.returns] at h; cases h)
  refine ⟨_, _, P2 _ ?_, hrun, hended, _, _, rfl, ?_, ⟨_, rfl⟩, hW, hsame.mono (by decide) (by decide)⟩
  · show Steps p.tables e below (T1.setTop (mkF m 4 #[rv x0] [(.int w)])) _
    exact retI X1 hx Bd.returns (hb hby d22_4) hr
  · show Q22 Z x0 w h0 n0 _ T1.heap _
    rw [e1]
    exact ⟨rfl, N0, rfl⟩
def Qct0 (Z : State) (x0 : Addr) (x1 : Int32) (mi : Int32) (ma : Int32) (of : Int32) (wa : Addr) (kw : ClassId) (y0 : Int64) (y1 : Int64) (h0 : Heap) (n0 : Nat) (v : Option Value) (h : Heap) (L : List Loc) : Prop := v = some (.int (if (¬ ((y0 &&& ((1 : Int64) <<< ((x1 - of) &&& 0x3f).toInt64)) = (0 : Int64))) then (1 : Int32) else (0 : Int32))) ∧ Fr n0 L ∧ h = h0
theorem ef_ct0 (m : MethodId) (x0 : Addr) (x1 : Int32) : entryFrame m #[(.ref x0), (.int x1)] 3 = mkF m 0 #[rv x0, iv x1, .unset] [] := by first | (simp [entryFrame, mkF, argsToLocals, Value.category]; done) | rfl
set_option maxRecDepth 65536 in
set_option maxHeartbeats 40000000 in
theorem rmct0 (l : Launch) (Z : State) (a0 : Array Value) (hw : ∀ d ∈ tables_1, d.before a0 Z = true) (ws : List Jvm.Cond) (x0 : Addr) (x1 : Int32) (mi : Int32) (ma : Int32) (of : Int32) (wa : Addr) (kw : ClassId) (y0 : Int64) (y1 : Int64) (h0 : Heap) (n0 : Nat) (Z0 : n0 ≤ h0.size) (pre_F_x0_min : Fld Z h0 x0 "com/example/violarc/violarc/solver/IntVar" "min" "I" (.int mi)) (pre_F_x0_max : Fld Z h0 x0 "com/example/violarc/violarc/solver/IntVar" "max" "I" (.int ma)) (pre_F_x0_offset : Fld Z h0 x0 "com/example/violarc/violarc/solver/IntVar" "offset" "I" (.int of)) (pre_F_x0_words : Fld Z h0 x0 "com/example/violarc/violarc/solver/IntVar" "words" "[J" (.ref wa)) (pre_A_wa : Arv Z h0 wa kw .long (2 : Int32) [(.long y0), (.long y1)] (.long 0)) (h5 : ¬ (x1 < mi)) (h13 : ¬ (ma < x1)) (hidx : (((x1 - of).toUInt32 >>> ((6 : Int32) &&& 31).toUInt32).toInt32) = (0 : Int32)) :
    MetFree l (⟨"com/example/violarc/violarc/solver/IntVar", "contains", "(I)Z"⟩ : MethodName) (head1 (Jvm.Cond.code (⟨"com/example/violarc/violarc/solver/IntVar", "contains", "(I)Z"⟩ : MethodName) prog_128_method_10_code 3 (some .boolean) :: ws) ({ frames := 0, cells := 0, slots := 0, locals := 0 } : Room)) (fun a U => a = #[(.ref x0), (.int x1)] ∧ Z.Warmed39 U.vm ∧ U.heap = h0) (fun _ _ _ _ _ => True) (fun _ U o U' => ∃ v L, o = .returned v ∧ Qct0 Z x0 x1 mi ma of wa kw y0 y1 h0 n0 v U'.heap L ∧ FrameEnd U o U' L ({ frames := 0, cells := 0, slots := 0, locals := 0 } : Room).cells ({ frames := 0, cells := 0, slots := 0, locals := 0 } : Room).slots) := by
  refine MetFree.of_bodySF (plainFor_of_name pn_20) hisR ?_
  intro p e s m args below meth c s₁ Bd hml0 hP hK
  obtain ⟨rfl, hZ, hh⟩ := hP
  have hx := Bd.exec
  have hby := Bd.bytes
  have hml : c.maxLocals = 3 := hml0
  have hown : s.vm.findClass "com/example/violarc/violarc/solver/IntVar" = some m.cls := findClass_of_methodNamed Bd.named
  have hnm := (name_of_methodNamed Bd.named Bd.method).1
  have X0 : Stand p l e ({ frames := 0, cells := 0, slots := 0, locals := 0 } : Room) s m #[(.ref x0), (.int x1)] below meth c s₁ [] 0 0 := Stand.of_body Bd
  have e0 : s₁.heap = h0 := by rw [← hh, Bd.state]; rfl
  have N0 := Fr.nil n0
  have Kp0 := Keep.refl h0 []
  have P0 : ∀ t, Steps p.tables e below (s₁.setTop (mkF m 0 #[rv x0, iv x1, .unset] [])) t → Steps p.tables e below (s₁.setTop (entryFrame m #[(.ref x0), (.int x1)] 3)) t := fun t k => castTop (ef_ct0 m x0 x1) k
  obtain ⟨T1, X1, e1, st1⟩ := getF X0 hx hZ hown (host := "") (Or.inl (hw _ (im 176 rfl))) Via.refl e0 pre_F_x0_min (g := (mkF m 2 #[rv x0, iv x1, .unset] [(.ref x0), (.int x1)])) rfl rfl (hb hby d20_2)
  have hc5_2 : ¬ (x1 < mi) := h5
  obtain ⟨T3, X3, e3, st3⟩ := getF X1 hx hZ hown (host := "") (Or.inl (hw _ (im 178 rfl))) Via.refl e1 pre_F_x0_max (g := (mkF m 10 #[rv x0, iv x1, .unset] [(.ref x0), (.int x1)])) rfl rfl (hb hby d20_10)
  have hc13_4 : ¬ (ma < x1) := h13
  obtain ⟨T5, X5, e5, st5⟩ := getF X3 hx hZ hown (host := "") (Or.inl (hw _ (im 174 rfl))) Via.refl e3 pre_F_x0_offset (g := (mkF m 20 #[rv x0, iv x1, .unset] [(.ref x0), (.int x1)])) rfl rfl (hb hby d20_20)
  obtain ⟨T6, X6, e6, st6⟩ := getF X5 hx hZ hown (host := "") (Or.inl (hw _ (im 182 rfl))) Via.refl e5 pre_F_x0_words (g := (mkF m 26 #[rv x0, iv x1, iv (x1 - of)] [(.ref x0)])) rfl rfl (hb hby d20_26)
  have P7 := own_go P0 (S' := T6.setTop (mkF m 33 #[rv x0, iv x1, iv (x1 - of)] [(.int (((x1 - of).toUInt32 >>> ((6 : Int32) &&& 31).toUInt32).toInt32)), (.ref wa)])) (by
    intro t k
    refine XS.iloadN X0.here hx rfl (hb hby d20_0) rfl ?_
    refine XS.aloadN X0.here hx rfl (hb hby d20_1) rfl rfl ?_
    refine st1 _ ?_
    refine XS.icmpNo X1.here hx rfl (hb hby d20_5) rfl (flt hc5_2).1 ?_
    refine XS.iloadN X1.here hx rfl (hb hby d20_8) rfl ?_
    refine XS.aloadN X1.here hx rfl (hb hby d20_9) rfl rfl ?_
    refine st3 _ ?_
    refine XS.icmpYes X3.here hx rfl (pc0 := 13) (pc' := 18) rfl (hb hby d20_13) rfl (flt hc13_4).2.2.2 (by decide) (by decide) ?_
    show Steps p.tables e below (T3.setTop (mkF m 18 #[rv x0, iv x1, .unset] [])) _
    refine XS.iloadN X3.here hx rfl (hb hby d20_18) rfl ?_
    refine XS.aloadN X3.here hx rfl (hb hby d20_19) rfl rfl ?_
    refine st5 _ ?_
    refine XS.isub X5.here hx rfl (hb hby d20_23) rfl ?_
    refine XS.istoreN X5.here hx rfl (hb hby d20_24) rfl (l' := #[rv x0, iv x1, iv (x1 - of)]) rfl ?_
    refine XS.aloadN X5.here hx rfl (hb hby d20_25) rfl rfl ?_
    refine st6 _ ?_
    refine XS.iloadN X6.here hx rfl (hb hby d20_29) rfl ?_
    show Steps p.tables e below (T6.setTop (mkF m 30 #[rv x0, iv x1, iv (x1 - of)] [(.int (x1 - of)), (.ref wa)])) _
    refine XS.bipush X6.here hx rfl (hb hby d20_30) ?_
    refine XS.iushr X6.here hx rfl (hb hby d20_32) rfl ?_
    exact k)
  have hv8 : (((x1 - of).toUInt32 >>> ((6 : Int32) &&& 31).toUInt32).toInt32) = (0 : Int32) := hidx
  have P8 := own_go P7 (S' := T6.setTop (mkF m 33 #[rv x0, iv x1, iv (x1 - of)] [(.int 0), (.ref wa)])) (by
    intro t k
    rw [hv8]
    exact k)
  obtain ⟨cl9, Ar9, qa9, S9, Nn9, H9, G9⟩ := id pre_A_wa
  have hin9 : ¬ ((0 : Int32) < 0 ∨ cl9.slots.size ≤ ((0 : Int32)).toNatClampNeg) := inb_of S9 ⟨by decide, by decide⟩
  have hat9 : cl9.slots[((0 : Int32)).toNatClampNeg]? = some (.long y0) := Has.at H9 hin9 rfl
  have P11 := own_go P8 (S' := T6.setTop (mkF m 40 #[rv x0, iv x1, iv (x1 - of)] [(.int (lcmpW (y0 &&& ((1 : Int64) <<< ((x1 - of) &&& 0x3f).toInt64)) (0 : Int64)))])) (by
    intro t k
    refine X6.laload hx (j := (0 : Int32)) (v := (.long y0)) (by rw [e6]; exact Ar9.1) (State.isArrayOf_alike hZ.alike Ar9.2.1) Ar9.2.2 hin9 hat9 (g := (mkF m 33 #[rv x0, iv x1, iv (x1 - of)] [(.int 0), (.ref wa)])) rfl rfl (hb hby d20_33) _ ?_
    refine XS.lconst X6.here hx rfl (hb hby d20_34) ?_
    refine XS.iloadN X6.here hx rfl (hb hby d20_35) rfl ?_
    refine XS.lshl X6.here hx rfl (hb hby d20_36) rfl ?_
    refine XS.land X6.here hx rfl (hb hby d20_37) rfl ?_
    refine XS.lconst X6.here hx rfl (hb hby d20_38) ?_
    refine XS.lcmp X6.here hx rfl (hb hby d20_39) rfl ?_
    exact k)
  by_cases hc40_10 : (y0 &&& ((1 : Int64) <<< ((x1 - of) &&& 0x3f).toInt64)) = (0 : Int64)
  · have P12 := own_go P11 (S' := T6.setTop (mkF m 48 #[rv x0, iv x1, iv (x1 - of)] [(.int 0)])) (by
      intro t k
      refine XS.ifYes X6.here hx rfl (pc0 := 40) (pc' := 47) rfl (hb hby d20_40) rfl ((if0 _ _).trans (teq ((lw_eq (y0 &&& ((1 : Int64) <<< ((x1 - of) &&& 0x3f).toInt64)) (0 : Int64)).mpr hc40_10)).1) (by decide) (by decide) ?_
      refine XS.iconst X6.here hx rfl (hb hby d20_47) ?_
      exact k)
    obtain ⟨fs, hr, hrun, hended, hW, hsame⟩ := X6.leave (v := some (.int 0)) (fun h => by rw [Bd.returns] at h; cases h)
    refine ⟨_, _, P12 _ ?_, hrun, hended, _, _, rfl, ?_, ⟨_, rfl⟩, hW, hsame.mono (by decide) (by decide)⟩
    · show Steps p.tables e below (T6.setTop (mkF m 48 #[rv x0, iv x1, iv (x1 - of)] [(.int 0)])) _
      exact retN X6 hx (t := .boolean) Bd.returns (by simp) (hb hby d20_48) hr
    · show Qct0 Z x0 x1 mi ma of wa kw y0 y1 h0 n0 _ T6.heap _
      rw [e6]
      exact ⟨(by first | rfl | rw [if_pos hc40_10] | rw [if_neg hc40_10] | rw [if_neg (not_not_intro hc40_10)] | simp [hc40_10]), N0, rfl⟩
  · have P13 := own_go P11 (S' := T6.setTop (mkF m 48 #[rv x0, iv x1, iv (x1 - of)] [(.int 1)])) (by
      intro t k
      refine XS.ifNo X6.here hx rfl (hb hby d20_40) rfl ((if0 _ _).trans (feq (fun q => hc40_10 ((lw_eq (y0 &&& ((1 : Int64) <<< ((x1 - of) &&& 0x3f).toInt64)) (0 : Int64)).mp q))).1) ?_
      refine XS.iconst X6.here hx rfl (hb hby d20_43) ?_
      refine XS.goto X6.here hx rfl (pc0 := 44) (pc' := 48) rfl (hb hby d20_44) (by decide) (by decide) ?_
      exact k)
    obtain ⟨fs, hr, hrun, hended, hW, hsame⟩ := X6.leave (v := some (.int 1)) (fun h => by rw [Bd.returns] at h; cases h)
    refine ⟨_, _, P13 _ ?_, hrun, hended, _, _, rfl, ?_, ⟨_, rfl⟩, hW, hsame.mono (by decide) (by decide)⟩
    · show Steps p.tables e below (T6.setTop (mkF m 48 #[rv x0, iv x1, iv (x1 - of)] [(.int 1)])) _
      exact retN X6 hx (t := .boolean) Bd.returns (by simp) (hb hby d20_48) hr
    · show Qct0 Z x0 x1 mi ma of wa kw y0 y1 h0 n0 _ T6.heap _
      rw [e6]
      exact ⟨(by first | rfl | rw [if_pos hc40_10] | rw [if_neg hc40_10] | rw [if_neg (not_not_intro hc40_10)] | simp [hc40_10]), N0, rfl⟩
def Qct1 (Z : State) (x0 : Addr) (x1 : Int32) (mi : Int32) (ma : Int32) (of : Int32) (wa : Addr) (kw : ClassId) (y0 : Int64) (y1 : Int64) (h0 : Heap) (n0 : Nat) (v : Option Value) (h : Heap) (L : List Loc) : Prop := v = some (.int (if (¬ ((y1 &&& ((1 : Int64) <<< ((x1 - of) &&& 0x3f).toInt64)) = (0 : Int64))) then (1 : Int32) else (0 : Int32))) ∧ Fr n0 L ∧ h = h0
theorem ef_ct1 (m : MethodId) (x0 : Addr) (x1 : Int32) : entryFrame m #[(.ref x0), (.int x1)] 3 = mkF m 0 #[rv x0, iv x1, .unset] [] := by first | (simp [entryFrame, mkF, argsToLocals, Value.category]; done) | rfl
set_option maxRecDepth 65536 in
set_option maxHeartbeats 40000000 in
theorem rmct1 (l : Launch) (Z : State) (a0 : Array Value) (hw : ∀ d ∈ tables_1, d.before a0 Z = true) (ws : List Jvm.Cond) (x0 : Addr) (x1 : Int32) (mi : Int32) (ma : Int32) (of : Int32) (wa : Addr) (kw : ClassId) (y0 : Int64) (y1 : Int64) (h0 : Heap) (n0 : Nat) (Z0 : n0 ≤ h0.size) (pre_F_x0_min : Fld Z h0 x0 "com/example/violarc/violarc/solver/IntVar" "min" "I" (.int mi)) (pre_F_x0_max : Fld Z h0 x0 "com/example/violarc/violarc/solver/IntVar" "max" "I" (.int ma)) (pre_F_x0_offset : Fld Z h0 x0 "com/example/violarc/violarc/solver/IntVar" "offset" "I" (.int of)) (pre_F_x0_words : Fld Z h0 x0 "com/example/violarc/violarc/solver/IntVar" "words" "[J" (.ref wa)) (pre_A_wa : Arv Z h0 wa kw .long (2 : Int32) [(.long y0), (.long y1)] (.long 0)) (h5 : ¬ (x1 < mi)) (h13 : ¬ (ma < x1)) (hidx : (((x1 - of).toUInt32 >>> ((6 : Int32) &&& 31).toUInt32).toInt32) = (1 : Int32)) :
    MetFree l (⟨"com/example/violarc/violarc/solver/IntVar", "contains", "(I)Z"⟩ : MethodName) (head1 (Jvm.Cond.code (⟨"com/example/violarc/violarc/solver/IntVar", "contains", "(I)Z"⟩ : MethodName) prog_128_method_10_code 3 (some .boolean) :: ws) ({ frames := 0, cells := 0, slots := 0, locals := 0 } : Room)) (fun a U => a = #[(.ref x0), (.int x1)] ∧ Z.Warmed39 U.vm ∧ U.heap = h0) (fun _ _ _ _ _ => True) (fun _ U o U' => ∃ v L, o = .returned v ∧ Qct1 Z x0 x1 mi ma of wa kw y0 y1 h0 n0 v U'.heap L ∧ FrameEnd U o U' L ({ frames := 0, cells := 0, slots := 0, locals := 0 } : Room).cells ({ frames := 0, cells := 0, slots := 0, locals := 0 } : Room).slots) := by
  refine MetFree.of_bodySF (plainFor_of_name pn_20) hisR ?_
  intro p e s m args below meth c s₁ Bd hml0 hP hK
  obtain ⟨rfl, hZ, hh⟩ := hP
  have hx := Bd.exec
  have hby := Bd.bytes
  have hml : c.maxLocals = 3 := hml0
  have hown : s.vm.findClass "com/example/violarc/violarc/solver/IntVar" = some m.cls := findClass_of_methodNamed Bd.named
  have hnm := (name_of_methodNamed Bd.named Bd.method).1
  have X0 : Stand p l e ({ frames := 0, cells := 0, slots := 0, locals := 0 } : Room) s m #[(.ref x0), (.int x1)] below meth c s₁ [] 0 0 := Stand.of_body Bd
  have e0 : s₁.heap = h0 := by rw [← hh, Bd.state]; rfl
  have N0 := Fr.nil n0
  have Kp0 := Keep.refl h0 []
  have P0 : ∀ t, Steps p.tables e below (s₁.setTop (mkF m 0 #[rv x0, iv x1, .unset] [])) t → Steps p.tables e below (s₁.setTop (entryFrame m #[(.ref x0), (.int x1)] 3)) t := fun t k => castTop (ef_ct1 m x0 x1) k
  obtain ⟨T1, X1, e1, st1⟩ := getF X0 hx hZ hown (host := "") (Or.inl (hw _ (im 176 rfl))) Via.refl e0 pre_F_x0_min (g := (mkF m 2 #[rv x0, iv x1, .unset] [(.ref x0), (.int x1)])) rfl rfl (hb hby d20_2)
  have hc5_2 : ¬ (x1 < mi) := h5
  obtain ⟨T3, X3, e3, st3⟩ := getF X1 hx hZ hown (host := "") (Or.inl (hw _ (im 178 rfl))) Via.refl e1 pre_F_x0_max (g := (mkF m 10 #[rv x0, iv x1, .unset] [(.ref x0), (.int x1)])) rfl rfl (hb hby d20_10)
  have hc13_4 : ¬ (ma < x1) := h13
  obtain ⟨T5, X5, e5, st5⟩ := getF X3 hx hZ hown (host := "") (Or.inl (hw _ (im 174 rfl))) Via.refl e3 pre_F_x0_offset (g := (mkF m 20 #[rv x0, iv x1, .unset] [(.ref x0), (.int x1)])) rfl rfl (hb hby d20_20)
  obtain ⟨T6, X6, e6, st6⟩ := getF X5 hx hZ hown (host := "") (Or.inl (hw _ (im 182 rfl))) Via.refl e5 pre_F_x0_words (g := (mkF m 26 #[rv x0, iv x1, iv (x1 - of)] [(.ref x0)])) rfl rfl (hb hby d20_26)
  have P7 := own_go P0 (S' := T6.setTop (mkF m 33 #[rv x0, iv x1, iv (x1 - of)] [(.int (((x1 - of).toUInt32 >>> ((6 : Int32) &&& 31).toUInt32).toInt32)), (.ref wa)])) (by
    intro t k
    refine XS.iloadN X0.here hx rfl (hb hby d20_0) rfl ?_
    refine XS.aloadN X0.here hx rfl (hb hby d20_1) rfl rfl ?_
    refine st1 _ ?_
    refine XS.icmpNo X1.here hx rfl (hb hby d20_5) rfl (flt hc5_2).1 ?_
    refine XS.iloadN X1.here hx rfl (hb hby d20_8) rfl ?_
    refine XS.aloadN X1.here hx rfl (hb hby d20_9) rfl rfl ?_
    refine st3 _ ?_
    refine XS.icmpYes X3.here hx rfl (pc0 := 13) (pc' := 18) rfl (hb hby d20_13) rfl (flt hc13_4).2.2.2 (by decide) (by decide) ?_
    show Steps p.tables e below (T3.setTop (mkF m 18 #[rv x0, iv x1, .unset] [])) _
    refine XS.iloadN X3.here hx rfl (hb hby d20_18) rfl ?_
    refine XS.aloadN X3.here hx rfl (hb hby d20_19) rfl rfl ?_
    refine st5 _ ?_
    refine XS.isub X5.here hx rfl (hb hby d20_23) rfl ?_
    refine XS.istoreN X5.here hx rfl (hb hby d20_24) rfl (l' := #[rv x0, iv x1, iv (x1 - of)]) rfl ?_
    refine XS.aloadN X5.here hx rfl (hb hby d20_25) rfl rfl ?_
    refine st6 _ ?_
    refine XS.iloadN X6.here hx rfl (hb hby d20_29) rfl ?_
    show Steps p.tables e below (T6.setTop (mkF m 30 #[rv x0, iv x1, iv (x1 - of)] [(.int (x1 - of)), (.ref wa)])) _
    refine XS.bipush X6.here hx rfl (hb hby d20_30) ?_
    refine XS.iushr X6.here hx rfl (hb hby d20_32) rfl ?_
    exact k)
  have hv8 : (((x1 - of).toUInt32 >>> ((6 : Int32) &&& 31).toUInt32).toInt32) = (1 : Int32) := hidx
  have P8 := own_go P7 (S' := T6.setTop (mkF m 33 #[rv x0, iv x1, iv (x1 - of)] [(.int 1), (.ref wa)])) (by
    intro t k
    rw [hv8]
    exact k)
  obtain ⟨cl9, Ar9, qa9, S9, Nn9, H9, G9⟩ := id pre_A_wa
  have hin9 : ¬ ((1 : Int32) < 0 ∨ cl9.slots.size ≤ ((1 : Int32)).toNatClampNeg) := inb_of S9 ⟨by decide, by decide⟩
  have hat9 : cl9.slots[((1 : Int32)).toNatClampNeg]? = some (.long y1) := Has.at H9 hin9 rfl
  have P11 := own_go P8 (S' := T6.setTop (mkF m 40 #[rv x0, iv x1, iv (x1 - of)] [(.int (lcmpW (y1 &&& ((1 : Int64) <<< ((x1 - of) &&& 0x3f).toInt64)) (0 : Int64)))])) (by
    intro t k
    refine X6.laload hx (j := (1 : Int32)) (v := (.long y1)) (by rw [e6]; exact Ar9.1) (State.isArrayOf_alike hZ.alike Ar9.2.1) Ar9.2.2 hin9 hat9 (g := (mkF m 33 #[rv x0, iv x1, iv (x1 - of)] [(.int 1), (.ref wa)])) rfl rfl (hb hby d20_33) _ ?_
    refine XS.lconst X6.here hx rfl (hb hby d20_34) ?_
    refine XS.iloadN X6.here hx rfl (hb hby d20_35) rfl ?_
    refine XS.lshl X6.here hx rfl (hb hby d20_36) rfl ?_
    refine XS.land X6.here hx rfl (hb hby d20_37) rfl ?_
    refine XS.lconst X6.here hx rfl (hb hby d20_38) ?_
    refine XS.lcmp X6.here hx rfl (hb hby d20_39) rfl ?_
    exact k)
  by_cases hc40_10 : (y1 &&& ((1 : Int64) <<< ((x1 - of) &&& 0x3f).toInt64)) = (0 : Int64)
  · have P12 := own_go P11 (S' := T6.setTop (mkF m 48 #[rv x0, iv x1, iv (x1 - of)] [(.int 0)])) (by
      intro t k
      refine XS.ifYes X6.here hx rfl (pc0 := 40) (pc' := 47) rfl (hb hby d20_40) rfl ((if0 _ _).trans (teq ((lw_eq (y1 &&& ((1 : Int64) <<< ((x1 - of) &&& 0x3f).toInt64)) (0 : Int64)).mpr hc40_10)).1) (by decide) (by decide) ?_
      refine XS.iconst X6.here hx rfl (hb hby d20_47) ?_
      exact k)
    obtain ⟨fs, hr, hrun, hended, hW, hsame⟩ := X6.leave (v := some (.int 0)) (fun h => by rw [Bd.returns] at h; cases h)
    refine ⟨_, _, P12 _ ?_, hrun, hended, _, _, rfl, ?_, ⟨_, rfl⟩, hW, hsame.mono (by decide) (by decide)⟩
    · show Steps p.tables e below (T6.setTop (mkF m 48 #[rv x0, iv x1, iv (x1 - of)] [(.int 0)])) _
      exact retN X6 hx (t := .boolean) Bd.returns (by simp) (hb hby d20_48) hr
    · show Qct1 Z x0 x1 mi ma of wa kw y0 y1 h0 n0 _ T6.heap _
      rw [e6]
      exact ⟨(by first | rfl | rw [if_pos hc40_10] | rw [if_neg hc40_10] | rw [if_neg (not_not_intro hc40_10)] | simp [hc40_10]), N0, rfl⟩
  · have P13 := own_go P11 (S' := T6.setTop (mkF m 48 #[rv x0, iv x1, iv (x1 - of)] [(.int 1)])) (by
      intro t k
      refine XS.ifNo X6.here hx rfl (hb hby d20_40) rfl ((if0 _ _).trans (feq (fun q => hc40_10 ((lw_eq (y1 &&& ((1 : Int64) <<< ((x1 - of) &&& 0x3f).toInt64)) (0 : Int64)).mp q))).1) ?_
      refine XS.iconst X6.here hx rfl (hb hby d20_43) ?_
      refine XS.goto X6.here hx rfl (pc0 := 44) (pc' := 48) rfl (hb hby d20_44) (by decide) (by decide) ?_
      exact k)
    obtain ⟨fs, hr, hrun, hended, hW, hsame⟩ := X6.leave (v := some (.int 1)) (fun h => by rw [Bd.returns] at h; cases h)
    refine ⟨_, _, P13 _ ?_, hrun, hended, _, _, rfl, ?_, ⟨_, rfl⟩, hW, hsame.mono (by decide) (by decide)⟩
    · show Steps p.tables e below (T6.setTop (mkF m 48 #[rv x0, iv x1, iv (x1 - of)] [(.int 1)])) _
      exact retN X6 hx (t := .boolean) Bd.returns (by simp) (hb hby d20_48) hr
    · show Qct1 Z x0 x1 mi ma of wa kw y0 y1 h0 n0 _ T6.heap _
      rw [e6]
      exact ⟨(by first | rfl | rw [if_pos hc40_10] | rw [if_neg hc40_10] | rw [if_neg (not_not_intro hc40_10)] | simp [hc40_10]), N0, rfl⟩
def Q0 (Z : State) (x0 : Int32) (x1 : Int32) (x2 : Int64) (x3 : Int32) (x4 : Int32) (x5 : Int32) (va : Addr) (kv : ClassId) (hi : Addr) (me : Addr) (lw : Addr) (de : Addr) (kd : ClassId) (h0 : Heap) (n0 : Nat) (v : Option Value) (h : Heap) (L : List Loc) : Prop := v = some (.int 1) ∧ Fr n0 L
theorem ef_0 (m : MethodId) (x0 : Int32) (x1 : Int32) (x2 : Int64) (x3 : Int32) (x4 : Int32) (x5 : Int32) : entryFrame m #[(.int x0), (.int x1), (.long x2), (.int x3), (.int x4), (.int x5)] maxLocals = mkF m 0 #[iv x0, iv x1, lv x2, .second, iv x3, iv x4, iv x5, .unset, .unset, .unset, .unset, .unset, .unset, .unset, .unset, .unset, .unset, .unset, .unset, .unset] [] := by first | (simp [entryFrame, mkF, argsToLocals, Value.category, maxLocals]; done) | rfl
set_option maxRecDepth 65536 in
set_option maxHeartbeats 40000000 in
theorem rm0 (l : Launch) (Z : State) (a0 : Array Value) (hw : ∀ d ∈ tables_1, d.before a0 Z = true) (ws : List Jvm.Cond) (x0 : Int32) (x1 : Int32) (x2 : Int64) (x3 : Int32) (x4 : Int32) (x5 : Int32) (va : Addr) (kv : ClassId) (hi : Addr) (me : Addr) (lw : Addr) (de : Addr) (kd : ClassId) (h0 : Heap) (n0 : Nat) (Z0 : n0 ≤ h0.size) (O0 : Old Z n0 h0) (pre_S__VALUES : Sta Z Z.heap "com/example/violarc/violarc/solver/Propagator$Priority" "$VALUES" "[Lcom/example/violarc/violarc/solver/Propagator$Priority;" (.ref va)) (pre_E_va : Exa Z Z.heap va "[Lcom/example/violarc/violarc/solver/Propagator$Priority;") (pre_A_va : Arv Z Z.heap va kv (.object "com/example/violarc/violarc/solver/Propagator$Priority") (3 : Int32) [(.ref hi), (.ref me), (.ref lw)] .null) (pre_S_TY_EMPTY_ELEMENTDATA : Sta Z Z.heap "java/util/ArrayList" "DEFAULTCAPACITY_EMPTY_ELEMENTDATA" "[Ljava/lang/Object;" (.ref de)) (pre_A_de : Arv Z Z.heap de kd (.object "java/lang/Object") (0 : Int32) [] .null) :
    MetFree l x (head1 (Jvm.Cond.code x code maxLocals ret :: ws) room_1) (fun a U => a = #[(.int x0), (.int x1), (.long x2), (.int x3), (.int x4), (.int x5)] ∧ Z.Warmed39 U.vm ∧ U.heap = h0) (fun _ _ _ _ _ => True) (fun _ U o U' => ∃ v L, o = .returned v ∧ Q0 Z x0 x1 x2 x3 x4 x5 va kv hi me lw de kd h0 n0 v U'.heap L ∧ ReturnedEndW U o U' L room_1.cells room_1.slots) := by
  refine MetFree.of_bodySF (plainFor_of_name pn_0) hisR ?_
  intro p e s m args below meth c s₁ Bd hml0 hP hK
  obtain ⟨rfl, hZ, hh⟩ := hP
  have hx := Bd.exec
  have hby := Bd.bytes
  have hml : c.maxLocals = 20 := hml0
  have hown : s.vm.findClass "com/example/violarc/violarc/solver/IntVarRestorePinLaw" = some m.cls := findClass_of_methodNamed Bd.named
  have hnm := (name_of_methodNamed Bd.named Bd.method).1
  have X0 : Stand p l e room_1 (s.setVm s.vm) m #[(.int x0), (.int x1), (.long x2), (.int x3), (.int x4), (.int x5)] below meth c s₁ [] 0 0 := Stand.of_body Bd
  have e0 : s₁.heap = h0 := by rw [← hh, Bd.state]; rfl
  have N0 := Fr.nil n0
  have Kp0 := Keep.refl h0 []
  have hS0 : s.Since s.vm 0 := (State.WarmedH.refl s).since 0
  have hk0 : 0 ≤ h0.size := Nat.zero_le _
  replace hZ : Z.Warmed39 (s.setVm s.vm).vm := hZ
  replace hown : (s.setVm s.vm).vm.findClass "com/example/violarc/violarc/solver/IntVarRestorePinLaw" = some m.cls := hown
  have P0 : ∀ t, Steps p.tables e below (s₁.setTop (mkF m 0 #[iv x0, iv x1, lv x2, .second, iv x3, iv x4, iv x5, .unset, .unset, .unset, .unset, .unset, .unset, .unset, .unset, .unset, .unset, .unset, .unset, .unset] [])) t → Steps p.tables e below (s₁.setTop (entryFrame m #[(.int x0), (.int x1), (.long x2), (.int x3), (.int x4), (.int x5)] maxLocals)) t := fun t k => castTop (ef_0 m x0 x1 x2 x3 x4 x5) k
  obtain ⟨_, _, ⟨T1, L1, k1, n1⟩, -, X1, ⟨Lc1, hQ1, l1, y1, z1⟩, st1⟩ := Jvm.LawKit.callS X0 hx (y := (⟨"java/lang/Math", "min", "(II)I"⟩ : MethodName)) hown (mvT hZ (hw _ (im 1 rfl))) (mvT hZ (hw _ (im 2 rfl))) (mvT hZ (hw _ (im 3 rfl))) (mvT hZ (hw _ (im 4 rfl))) (by decide) (backOf (W := 0) (rm1 l Z a0 hw [] x0 (2147483520 : Int32) h0 n0 Z0 ) hZ (hw _ (im 4 rfl)) (hw _ (im 3 rfl)) (by decide) (by decide)) (g := (mkF m 3 #[iv x0, iv x1, lv x2, .second, iv x3, iv x4, iv x5, .unset, .unset, .unset, .unset, .unset, .unset, .unset, .unset, .unset, .unset, .unset, .unset, .unset] [(.int 2147483520), (.int x0)])) rfl (by rw [hml]; rfl) (argsL := [(.int x0), (.int 2147483520)]) (rest := []) (lenOf pd_1 rfl) rfl (by show 2 * 0 + _ ≤ _; exact Nat.le_of_eq rfl) (hb hby at_3) (fun _ _ => ⟨rfl, e0, (by decide : 0 + 0 ≤ _), (by decide : 0 + 0 ≤ _)⟩)
  dsimp only [Pt.U, Pt.locs, Pt.cells, Pt.slots] at X1 l1 y1 z1 st1 hQ1
  subst l1 y1 z1
  obtain ⟨rfl, N1q, e1⟩ := hQ1
  have N1 := Fr.app N0 N1q
  have P2 := own_go P0 (S' := T1.setTop (mkF m 6 #[iv x0, iv x1, lv x2, .second, iv x3, iv x4, iv x5, .unset, .unset, .unset, .unset, .unset, .unset, .unset, .unset, .unset, .unset, .unset, .unset, .unset] [(.int (if (2147483520 : Int32) < x0 then (2147483520 : Int32) else x0))])) (by
    intro t k
    refine XS.iloadN X0.here hx rfl (hb hby at_0) rfl ?_
    refine X0.ldcInt hx hown (mvT hZ (hw _ (im 0 rfl))) (g := (mkF m 1 #[iv x0, iv x1, lv x2, .second, iv x3, iv x4, iv x5, .unset, .unset, .unset, .unset, .unset, .unset, .unset, .unset, .unset, .unset, .unset, .unset, .unset] [(.int x0)])) rfl (hb hby at_1) _ ?_
    refine st1 _ ?_
    exact k)
  obtain ⟨lo, hlo⟩ : ∃ z : Int32, z = (if (2147483520 : Int32) < x0 then (2147483520 : Int32) else x0) := ⟨_, rfl⟩
  have P3 := own_go P2 (S' := T1.setTop (mkF m 6 #[iv x0, iv x1, lv x2, .second, iv x3, iv x4, iv x5, .unset, .unset, .unset, .unset, .unset, .unset, .unset, .unset, .unset, .unset, .unset, .unset, .unset] [(.int lo)])) (by
    intro t k
    rw [← hlo]
    exact k)
  obtain ⟨T4, h4, X4, e4, E4, A4, D4, -, st4⟩ := newO X1 hx hZ hown (hw _ (im 5 rfl)) (hw _ (im 6 rfl)) (hw _ (im 7 rfl)) e1 (g := (mkF m 21 #[iv x0, iv x1, lv x2, .second, iv x3, iv x4, iv x5, iv lo, iv (x1 &&& (1 : Int32)), iv (((x1.toUInt32 >>> ((1 : Int32) &&& 31).toUInt32).toInt32) &&& (63 : Int32)), .unset, .unset, .unset, .unset, .unset, .unset, .unset, .unset, .unset, .unset] [])) rfl (hb hby at_21) (by decide) (by decide)
  obtain ⟨b4, g4⟩ : ∃ z, z = h0.size := ⟨_, rfl⟩
  rw [← g4] at A4 D4 st4
  have ge_b4 : n0 ≤ b4 := Nat.le_trans Z0 (Nat.le_of_eq g4.symm)
  have Z4_ : n0 ≤ h4.size := Nat.le_trans Z0 E4.1
  have hk4_ := Nat.le_trans hk0 E4.1
  have O4_ := O0.ext E4
  have F4_trail : Fld Z h4 b4 "com/example/violarc/violarc/solver/Solver" "trail" "Lcom/example/violarc/violarc/solver/Trail;" .null := D4 (Or.inr (hw _ (im 38 rfl))) (ty := (.object "com/example/violarc/violarc/solver/Trail")) (by decide)
  have F4_intVars : Fld Z h4 b4 "com/example/violarc/violarc/solver/Solver" "intVars" "Ljava/util/List;" .null := D4 (Or.inr (hw _ (im 64 rfl))) (ty := (.object "java/util/List")) (by decide)
  have F4_intervalVars : Fld Z h4 b4 "com/example/violarc/violarc/solver/Solver" "intervalVars" "Ljava/util/List;" .null := D4 (Or.inr (hw _ (im 66 rfl))) (ty := (.object "java/util/List")) (by decide)
  have F4_queues : Fld Z h4 b4 "com/example/violarc/violarc/solver/Solver" "queues" "Ljava/util/List;" .null := D4 (Or.inr (hw _ (im 68 rfl))) (ty := (.object "java/util/List")) (by decide)
  have F4_budget : Fld Z h4 b4 "com/example/violarc/violarc/solver/Solver" "budget" "J" (.long 0) := D4 (Or.inl (hw _ (im 71 rfl))) (ty := .long) (by decide)
  obtain ⟨_, _, ⟨T5, L5, k5, n5⟩, -, X5, ⟨Lc5, hQ5, l5, y5, z5⟩, st5⟩ := X4.specialBack hx (y := (⟨"com/example/violarc/violarc/solver/Solver", "<init>", "()V"⟩ : MethodName)) rfl hown (mvT hZ (hw _ (im 8 rfl))) (mvT hZ (hw _ (im 9 rfl))) (mvT hZ (hw _ (im 10 rfl))) (by decide) (backOf (W := 1) (rm2 l Z a0 hw [] b4 va kv hi me lw de kd h4 n0 Z4_ O4_ pre_S__VALUES pre_E_va pre_A_va pre_S_TY_EMPTY_ELEMENTDATA pre_A_de A4 F4_trail F4_intVars F4_intervalVars F4_queues F4_budget ge_b4) hZ (hw _ (im 10 rfl)) (hw _ (im 7 rfl)) (by decide) (by decide)) (g := (mkF m 25 #[iv x0, iv x1, lv x2, .second, iv x3, iv x4, iv x5, iv lo, iv (x1 &&& (1 : Int32)), iv (((x1.toUInt32 >>> ((1 : Int32) &&& 31).toUInt32).toInt32) &&& (63 : Int32)), .unset, .unset, .unset, .unset, .unset, .unset, .unset, .unset, .unset, .unset] [(.ref b4), (.ref b4)])) rfl (by rw [hml]; rfl) (Steps.refl _) (a := b4) (argsL := []) (rest := [(.ref b4)]) (lenOf pd_0 rfl) rfl (by show 2 * 0 + _ ≤ _; exact Nat.le_of_eq rfl) (hb hby at_25) (fun _ _ => ⟨rfl, e4, (by decide : 1 + 21 ≤ _), (by decide : 8 + 1252 ≤ _)⟩)
  dsimp only [Pt.U, Pt.locs, Pt.cells, Pt.slots] at X5 l5 y5 z5 st5 hQ5
  subst l5 y5 z5
  obtain ⟨rfl, N5q, K5⟩ := hQ5
  have N5 := Fr.app N1 N5q
  have Z5_ : n0 ≤ T5.heap.size := Nat.le_trans Z4_ K5.1
  have hk5_ := Nat.le_trans hk4_ K5.1
  have O5_ := O4_.keep K5 (allS ge_b4 all0)
  obtain ⟨T6, h6, X6, e6, E6, A6, D6, -, st6⟩ := newO X5 hx hZ hown (hw _ (im 136 rfl)) (hw _ (im 137 rfl)) (hw _ (im 138 rfl)) rfl (g := (mkF m 30 #[iv x0, iv x1, lv x2, .second, iv x3, iv x4, iv x5, iv lo, iv (x1 &&& (1 : Int32)), iv (((x1.toUInt32 >>> ((1 : Int32) &&& 31).toUInt32).toInt32) &&& (63 : Int32)), rv b4, .unset, .unset, .unset, .unset, .unset, .unset, .unset, .unset, .unset] [])) rfl (hb hby at_30) (by decide) (by decide)
  obtain ⟨b6, g6⟩ : ∃ z, z = T5.heap.size := ⟨_, rfl⟩
  rw [← g6] at A6 D6 st6
  have ge_b6 : n0 ≤ b6 := Nat.le_trans Z5_ (Nat.le_of_eq g6.symm)
  have Z6_ : n0 ≤ h6.size := Nat.le_trans Z5_ E6.1
  have hk6_ := Nat.le_trans hk5_ E6.1
  have O6_ := O5_.ext E6
  have F6_watchers : Fld Z h6 b6 "com/example/violarc/violarc/solver/Variable" "watchers" "[Lcom/example/violarc/violarc/solver/Propagator;" .null := D6 (Or.inl (hw _ (im 164 rfl))) (ty := (.array (.object "com/example/violarc/violarc/solver/Propagator"))) (by decide)
  have F6_masks : Fld Z h6 b6 "com/example/violarc/violarc/solver/Variable" "masks" "[I" .null := D6 (Or.inl (hw _ (im 166 rfl))) (ty := (.array .int)) (by decide)
  have F6_solver : Fld Z h6 b6 "com/example/violarc/violarc/solver/Variable" "solver" "Lcom/example/violarc/violarc/solver/Solver;" .null := D6 (Or.inr (hw _ (im 168 rfl))) (ty := (.object "com/example/violarc/violarc/solver/Solver")) (by decide)
  have F6_name : Fld Z h6 b6 "com/example/violarc/violarc/solver/Variable" "name" "Ljava/lang/String;" .null := D6 (Or.inr (hw _ (im 170 rfl))) (ty := (.object "java/lang/String")) (by decide)
  have F6_index : Fld Z h6 b6 "com/example/violarc/violarc/solver/IntVar" "index" "I" (.int 0) := D6 (Or.inr (hw _ (im 173 rfl))) (ty := .int) (by decide)
  have F6_offset : Fld Z h6 b6 "com/example/violarc/violarc/solver/IntVar" "offset" "I" (.int 0) := D6 (Or.inr (hw _ (im 175 rfl))) (ty := .int) (by decide)
  have F6_min : Fld Z h6 b6 "com/example/violarc/violarc/solver/IntVar" "min" "I" (.int 0) := D6 (Or.inl (hw _ (im 177 rfl))) (ty := .int) (by decide)
  have F6_max : Fld Z h6 b6 "com/example/violarc/violarc/solver/IntVar" "max" "I" (.int 0) := D6 (Or.inl (hw _ (im 179 rfl))) (ty := .int) (by decide)
  have F6_size : Fld Z h6 b6 "com/example/violarc/violarc/solver/IntVar" "size" "I" (.int 0) := D6 (Or.inl (hw _ (im 181 rfl))) (ty := .int) (by decide)
  have F6_words : Fld Z h6 b6 "com/example/violarc/violarc/solver/IntVar" "words" "[J" .null := D6 (Or.inr (hw _ (im 183 rfl))) (ty := (.array .long)) (by decide)
  have F6_wordStamps : Fld Z h6 b6 "com/example/violarc/violarc/solver/IntVar" "wordStamps" "[J" .null := D6 (Or.inr (hw _ (im 185 rfl))) (ty := (.array .long)) (by decide)
  obtain ⟨b7, T7, h7, k7, X7, e7, E7, hS7, hk7, hZ7, hown7, st7⟩ := ldcS X6 hx hZ hown (hw _ (im 139 rfl)) (own_atoms hw) e6 hS0 hk6_ (g := (mkF m 37 #[iv x0, iv x1, lv x2, .second, iv x3, iv x4, iv x5, iv lo, iv (x1 &&& (1 : Int32)), iv (((x1.toUInt32 >>> ((1 : Int32) &&& 31).toUInt32).toInt32) &&& (63 : Int32)), rv b4, .unset, .unset, .unset, .unset, .unset, .unset, .unset, .unset, .unset] [(.int 0), (.ref b4), (.ref b6), (.ref b6)])) rfl (hb hby at_37) (n := 4) (by decide) (by decide) (by decide) (by decide)
  have Z7_ : n0 ≤ h7.size := Nat.le_trans Z6_ E7.1
  have hk7_ := Nat.le_trans hk6_ E7.1
  have O7_ := O6_.ext E7
  have q8 := (A6.ext E7)
  have q9 := (F6_watchers.ext E7)
  have q10 := (F6_masks.ext E7)
  have q11 := (F6_solver.ext E7)
  have q12 := (F6_name.ext E7)
  have q13 := (F6_index.ext E7)
  have q14 := (F6_offset.ext E7)
  have q15 := (F6_min.ext E7)
  have q16 := (F6_max.ext E7)
  have q17 := (F6_size.ext E7)
  have q18 := (F6_words.ext E7)
  have q19 := (F6_wordStamps.ext E7)
  obtain ⟨_, _, ⟨T20, L20, k20, n20⟩, -, X20, ⟨Lc20, hQ20, l20, y20, z20⟩, st20⟩ := X7.specialBack hx (y := (⟨"com/example/violarc/violarc/solver/IntVar", "<init>", "(Lcom/example/violarc/violarc/solver/Solver;ILjava/lang/String;II)V"⟩ : MethodName)) rfl hown7 (mvT hZ7 (hw _ (im 147 rfl))) (mvT hZ7 (hw _ (im 148 rfl))) (mvT hZ7 (hw _ (im 149 rfl))) (by decide) (backOf (W := 1) (rm15 l Z a0 hw [] b6 b4 (0 : Int32) b7 lo (lo + (127 : Int32)) h7 n0 Z7_ q8 q9 q10 q11 q12 q13 q14 q15 q16 q17 q18 q19 ge_b6 ((own_lo _ (own_lob hlo)).1) ((own_lo _ (own_lob hlo)).2.1) ((own_lo _ (own_lob hlo)).2.2)) hZ7 (hw _ (im 149 rfl)) (hw _ (im 138 rfl)) (by decide) (by decide)) (g := (mkF m 46 #[iv x0, iv x1, lv x2, .second, iv x3, iv x4, iv x5, iv lo, iv (x1 &&& (1 : Int32)), iv (((x1.toUInt32 >>> ((1 : Int32) &&& 31).toUInt32).toInt32) &&& (63 : Int32)), rv b4, .unset, .unset, .unset, .unset, .unset, .unset, .unset, .unset, .unset] [(.int (lo + (127 : Int32))), (.int lo), (.ref b7), (.int 0), (.ref b4), (.ref b6), (.ref b6)])) rfl (by rw [hml]; rfl) (Steps.refl _) (a := b6) (argsL := [(.ref b4), (.int 0), (.ref b7), (.int lo), (.int (lo + (127 : Int32)))]) (rest := [(.ref b6)]) (lenOf pd_8 rfl) rfl (by show 2 * 0 + _ ≤ _; exact Nat.le_of_eq rfl) (hb hby at_46) (fun _ _ => ⟨rfl, e7, (by decide : 25 + 4 ≤ _), (by decide : 1282 + 4 ≤ _)⟩)
  dsimp only [Pt.U, Pt.locs, Pt.cells, Pt.slots] at X20 l20 y20 z20 st20 hQ20
  subst l20 y20 z20
  obtain ⟨wa_20, kw_20, rfl, N20q, K20, r20_0, r20_1, r20_2, r20_3, r20_4, r20_5, r20_6, r20_7, r20_8⟩ := hQ20
  have N20 := Fr.app N5 N20q
  have Z20_ : n0 ≤ T20.heap.size := Nat.le_trans Z7_ K20.1
  have hk20_ := Nat.le_trans hk7 K20.1
  have O20_ := O7_.keep K20 (allS ge_b6 all0)
  have P21 := own_go P3 (S' := T20.setTop (mkF m 51 #[iv x0, iv x1, lv x2, .second, iv x3, iv x4, iv x5, iv lo, iv (x1 &&& (1 : Int32)), iv (((x1.toUInt32 >>> ((1 : Int32) &&& 31).toUInt32).toInt32) &&& (63 : Int32)), rv b4, rv b6, .unset, .unset, .unset, .unset, .unset, .unset, .unset, .unset] [])) (by
    intro t k
    refine XS.istore X1.here hx rfl (hb hby at_6) rfl (l' := #[iv x0, iv x1, lv x2, .second, iv x3, iv x4, iv x5, iv lo, .unset, .unset, .unset, .unset, .unset, .unset, .unset, .unset, .unset, .unset, .unset, .unset]) rfl ?_
    refine XS.iloadN X1.here hx rfl (hb hby at_8) rfl ?_
    refine XS.iconst X1.here hx rfl (hb hby at_9) ?_
    refine XS.iand X1.here hx rfl (hb hby at_10) rfl ?_
    refine XS.istore X1.here hx rfl (hb hby at_11) rfl (l' := #[iv x0, iv x1, lv x2, .second, iv x3, iv x4, iv x5, iv lo, iv (x1 &&& (1 : Int32)), .unset, .unset, .unset, .unset, .unset, .unset, .unset, .unset, .unset, .unset, .unset]) rfl ?_
    refine XS.iloadN X1.here hx rfl (hb hby at_13) rfl ?_
    refine XS.iconst X1.here hx rfl (hb hby at_14) ?_
    refine XS.iushr X1.here hx rfl (hb hby at_15) rfl ?_
    show Steps p.tables e below (T1.setTop (mkF m 16 #[iv x0, iv x1, lv x2, .second, iv x3, iv x4, iv x5, iv lo, iv (x1 &&& (1 : Int32)), .unset, .unset, .unset, .unset, .unset, .unset, .unset, .unset, .unset, .unset, .unset] [(.int ((x1.toUInt32 >>> ((1 : Int32) &&& 31).toUInt32).toInt32))])) _
    refine XS.bipush X1.here hx rfl (hb hby at_16) ?_
    refine XS.iand X1.here hx rfl (hb hby at_18) rfl ?_
    refine XS.istore X1.here hx rfl (hb hby at_19) rfl (l' := #[iv x0, iv x1, lv x2, .second, iv x3, iv x4, iv x5, iv lo, iv (x1 &&& (1 : Int32)), iv (((x1.toUInt32 >>> ((1 : Int32) &&& 31).toUInt32).toInt32) &&& (63 : Int32)), .unset, .unset, .unset, .unset, .unset, .unset, .unset, .unset, .unset, .unset]) rfl ?_
    refine st4 _ ?_
    refine XS.dup X4.here hx rfl (hb hby at_24) rfl rfl ?_
    refine st5.trans ?_
    refine XS.astore X5.here hx rfl (hb hby at_28) rfl rfl (l' := #[iv x0, iv x1, lv x2, .second, iv x3, iv x4, iv x5, iv lo, iv (x1 &&& (1 : Int32)), iv (((x1.toUInt32 >>> ((1 : Int32) &&& 31).toUInt32).toInt32) &&& (63 : Int32)), rv b4, .unset, .unset, .unset, .unset, .unset, .unset, .unset, .unset, .unset]) rfl ?_
    refine st6 _ ?_
    show Steps p.tables e below (T6.setTop (mkF m 33 #[iv x0, iv x1, lv x2, .second, iv x3, iv x4, iv x5, iv lo, iv (x1 &&& (1 : Int32)), iv (((x1.toUInt32 >>> ((1 : Int32) &&& 31).toUInt32).toInt32) &&& (63 : Int32)), rv b4, .unset, .unset, .unset, .unset, .unset, .unset, .unset, .unset, .unset] [(.ref b6)])) _
    refine XS.dup X6.here hx rfl (hb hby at_33) rfl rfl ?_
    refine XS.aload X6.here hx rfl (hb hby at_34) rfl rfl ?_
    refine XS.iconst X6.here hx rfl (hb hby at_36) ?_
    refine st7 _ ?_
    refine XS.iload X7.here hx rfl (hb hby at_39) rfl ?_
    refine XS.iload X7.here hx rfl (hb hby at_41) rfl ?_
    refine XS.bipush X7.here hx rfl (hb hby at_43) ?_
    refine XS.iadd X7.here hx rfl (hb hby at_45) rfl ?_
    show Steps p.tables e below (T7.setTop (mkF m 46 #[iv x0, iv x1, lv x2, .second, iv x3, iv x4, iv x5, iv lo, iv (x1 &&& (1 : Int32)), iv (((x1.toUInt32 >>> ((1 : Int32) &&& 31).toUInt32).toInt32) &&& (63 : Int32)), rv b4, .unset, .unset, .unset, .unset, .unset, .unset, .unset, .unset, .unset] [(.int (lo + (127 : Int32))), (.int lo), (.ref b7), (.int 0), (.ref b4), (.ref b6), (.ref b6)])) _
    refine st20.trans ?_
    refine XS.astore X20.here hx rfl (hb hby at_49) rfl rfl (l' := #[iv x0, iv x1, lv x2, .second, iv x3, iv x4, iv x5, iv lo, iv (x1 &&& (1 : Int32)), iv (((x1.toUInt32 >>> ((1 : Int32) &&& 31).toUInt32).toInt32) &&& (63 : Int32)), rv b4, rv b6, .unset, .unset, .unset, .unset, .unset, .unset, .unset, .unset]) rfl ?_
    exact k)
  rcases own_bit x1 with hm22 | hm22
  · have P23 := own_go P21 (S' := T20.setTop (mkF m 51 #[iv x0, iv x1, lv x2, .second, iv x3, iv x4, iv x5, iv lo, iv 0, iv (((x1.toUInt32 >>> ((1 : Int32) &&& 31).toUInt32).toInt32) &&& (63 : Int32)), rv b4, rv b6, .unset, .unset, .unset, .unset, .unset, .unset, .unset, .unset] [])) (by
      intro t k
      rw [hm22]
      exact k)
    obtain ⟨cq24, kq24, q24a, q24b, q24c⟩ := isOf hZ7 rfl r20_0
    obtain ⟨_, _, ⟨T24, L24, k24, n24⟩, -, X24, ⟨Lc24, hQ24, l24, y24, z24⟩, st24⟩ := X20.virtualBack hx (y := (⟨"com/example/violarc/violarc/solver/IntVar", "restore", "(IJJ)V"⟩ : MethodName)) (z := (⟨"com/example/violarc/violarc/solver/IntVar", "restore", "(IJJ)V"⟩ : MethodName)) hown7 (mvT hZ7 (hw _ (im 188 rfl))) (mvT hZ7 (hw _ (im 189 rfl))) (notFace_of_selects (args := #[]) (mvT hZ7 (hw _ (im 191 rfl)))) (mvT hZ7 (hw _ (im 191 rfl))) (mvT hZ7 (hw _ (im 190 rfl))) (by decide) (backOf (W := 0) (rmrs0 l Z a0 hw [] b6 x2 (x2 ^^^ (-1 : Int64)) wa_20 kw_20 (-1 : Int64) (-1 : Int64) T20.heap n0 Z20_ r20_5 r20_6 r20_7) hZ7 (hw _ (im 192 rfl)) (hw _ (im 138 rfl)) (by decide) (by decide)) q24a q24c (g := (mkF m 61 #[iv x0, iv x1, lv x2, .second, iv x3, iv x4, iv x5, iv lo, iv 0, iv (((x1.toUInt32 >>> ((1 : Int32) &&& 31).toUInt32).toInt32) &&& (63 : Int32)), rv b4, rv b6, .unset, .unset, .unset, .unset, .unset, .unset, .unset, .unset] [(.long (x2 ^^^ (-1 : Int64))), (.long x2), (.int 0), (.ref b6)])) rfl (by rw [hml]; rfl) (Steps.refl _) (argsL := [(.int 0), (.long x2), (.long (x2 ^^^ (-1 : Int64)))]) (rest := []) (lenOf pd_9 rfl) rfl (by show 2 * 0 + _ ≤ _; exact Nat.le_of_eq rfl) (hb hby at_61) (fun _ _ => ⟨rfl, rfl, (by decide : 29 + 0 ≤ _), (by decide : 1286 + 0 ≤ _)⟩)
    dsimp only [Pt.U, Pt.locs, Pt.cells, Pt.slots] at X24 l24 y24 z24 st24 hQ24
    subst l24 y24 z24
    obtain ⟨rfl, N24q, K24, r24_0⟩ := hQ24
    have N24 := Fr.app N20 N24q
    have Z24_ : n0 ≤ T24.heap.size := Nat.le_trans Z20_ K24.1
    have hk24_ := Nat.le_trans hk20_ K24.1
    have O24_ := O20_.keep K24 (allS r20_7 all0)
    have P27 := own_go P23 (S' := T24.setTop (mkF m 72 #[iv x0, iv x1, lv x2, .second, iv x3, iv x4, iv x5, iv lo, iv 0, iv (((x1.toUInt32 >>> ((1 : Int32) &&& 31).toUInt32).toInt32) &&& (63 : Int32)), rv b4, rv b6, .unset, .unset, .unset, .unset, .unset, .unset, .unset, .unset] [(.int (lcmpW (((x2.toUInt64 >>> ((((x1.toUInt32 >>> ((1 : Int32) &&& 31).toUInt32).toInt32) &&& (63 : Int32)) &&& 0x3f).toInt64.toUInt64).toInt64) &&& (1 : Int64)) (0 : Int64)))])) (by
      intro t k
      refine XS.aload X20.here hx rfl (hb hby at_51) rfl rfl ?_
      refine XS.iload X20.here hx rfl (hb hby at_53) rfl ?_
      refine XS.lloadN X20.here hx rfl (hb hby at_55) rfl ?_
      refine XS.lloadN X20.here hx rfl (hb hby at_56) rfl ?_
      refine X20.ldc2Long hx hown7 (mvT hZ7 (hw _ (im 187 rfl))) (g := (mkF m 57 #[iv x0, iv x1, lv x2, .second, iv x3, iv x4, iv x5, iv lo, iv 0, iv (((x1.toUInt32 >>> ((1 : Int32) &&& 31).toUInt32).toInt32) &&& (63 : Int32)), rv b4, rv b6, .unset, .unset, .unset, .unset, .unset, .unset, .unset, .unset] [(.long x2), (.long x2), (.int 0), (.ref b6)])) rfl (hb hby at_57) _ ?_
      refine XS.lxor X20.here hx rfl (hb hby at_60) rfl ?_
      refine st24.trans ?_
      refine XS.lloadN X24.here hx rfl (hb hby at_64) rfl ?_
      show Steps p.tables e below (T24.setTop (mkF m 65 #[iv x0, iv x1, lv x2, .second, iv x3, iv x4, iv x5, iv lo, iv 0, iv (((x1.toUInt32 >>> ((1 : Int32) &&& 31).toUInt32).toInt32) &&& (63 : Int32)), rv b4, rv b6, .unset, .unset, .unset, .unset, .unset, .unset, .unset, .unset] [(.long x2)])) _
      refine XS.iload X24.here hx rfl (hb hby at_65) rfl ?_
      refine XS.lushr X24.here hx rfl (hb hby at_67) rfl ?_
      refine XS.lconst X24.here hx rfl (hb hby at_68) ?_
      refine XS.land X24.here hx rfl (hb hby at_69) rfl ?_
      refine XS.lconst X24.here hx rfl (hb hby at_70) ?_
      refine XS.lcmp X24.here hx rfl (hb hby at_71) rfl ?_
      exact k)
    obtain ⟨v26_0, hv26_0⟩ : ∃ z : Int32, z = (if (((x2.toUInt64 >>> ((((x1.toUInt32 >>> ((1 : Int32) &&& 31).toUInt32).toInt32) &&& (63 : Int32)) &&& 0x3f).toInt64.toUInt64).toInt64) &&& (1 : Int64)) = (0 : Int64) then (0 : Int32) else (1 : Int32)) := ⟨_, rfl⟩
    have P29 := own_go P27 (S' := T24.setTop (mkF m 80 #[iv x0, iv x1, lv x2, .second, iv x3, iv x4, iv x5, iv lo, iv 0, iv (((x1.toUInt32 >>> ((1 : Int32) &&& 31).toUInt32).toInt32) &&& (63 : Int32)), rv b4, rv b6, .unset, .unset, .unset, .unset, .unset, .unset, .unset, .unset] [(.int v26_0)])) (by
      intro t k
      by_cases hc72_28 : (((x2.toUInt64 >>> ((((x1.toUInt32 >>> ((1 : Int32) &&& 31).toUInt32).toInt32) &&& (63 : Int32)) &&& 0x3f).toInt64.toUInt64).toInt64) &&& (1 : Int64)) = (0 : Int64)
      · refine XS.ifYes X24.here hx rfl (pc0 := 72) (pc' := 79) rfl (hb hby at_72) rfl ((if0 _ _).trans (teq ((lw_eq (((x2.toUInt64 >>> ((((x1.toUInt32 >>> ((1 : Int32) &&& 31).toUInt32).toInt32) &&& (63 : Int32)) &&& 0x3f).toInt64.toUInt64).toInt64) &&& (1 : Int64)) (0 : Int64)).mpr hc72_28)).1) (by decide) (by decide) ?_
        refine XS.iconst X24.here hx rfl (hb hby at_79) ?_
        have q_v26_0 : v26_0 = (0 : Int32) := by rw [hv26_0, if_pos hc72_28]
        subst q_v26_0
        exact k
      · refine XS.ifNo X24.here hx rfl (hb hby at_72) rfl ((if0 _ _).trans (feq (fun q => hc72_28 ((lw_eq (((x2.toUInt64 >>> ((((x1.toUInt32 >>> ((1 : Int32) &&& 31).toUInt32).toInt32) &&& (63 : Int32)) &&& 0x3f).toInt64.toUInt64).toInt64) &&& (1 : Int64)) (0 : Int64)).mp q))).1) ?_
        refine XS.iconst X24.here hx rfl (hb hby at_75) ?_
        refine XS.goto X24.here hx rfl (pc0 := 76) (pc' := 80) rfl (hb hby at_76) (by decide) (by decide) ?_
        have q_v26_0 : v26_0 = (1 : Int32) := by rw [hv26_0, if_neg hc72_28]
        subst q_v26_0
        exact k)
    have q31 := (Nat.lt_of_lt_of_le A6.lt E7.1)
    have ne30 : b6 ≠ wa_20 := Nat.ne_of_lt (Nat.lt_of_lt_of_le q31 r20_8)
    have ni32 := (ninS ne30 nin0)
    have q33 := (r20_4.keep K24 ni32)
    have q35 := (r20_0.keep K24)
    obtain ⟨cq34, kq34, q34a, q34b, q34c⟩ := isOf hZ7 rfl q35
    obtain ⟨_, _, ⟨T34, L34, k34, n34⟩, -, X34, ⟨Lc34, hQ34, l34, y34, z34⟩, st34⟩ := X24.virtualBack hx (y := (⟨"com/example/violarc/violarc/solver/IntVar", "size", "()I"⟩ : MethodName)) (z := (⟨"com/example/violarc/violarc/solver/IntVar", "size", "()I"⟩ : MethodName)) hown7 (mvT hZ7 (hw _ (im 193 rfl))) (mvT hZ7 (hw _ (im 194 rfl))) (notFace_of_selects (args := #[]) (mvT hZ7 (hw _ (im 196 rfl)))) (mvT hZ7 (hw _ (im 196 rfl))) (mvT hZ7 (hw _ (im 195 rfl))) (by decide) (backOf (W := 0) (rm19 l Z a0 hw [] b6 (128 : Int32) T24.heap n0 Z24_ q33) hZ7 (hw _ (im 197 rfl)) (hw _ (im 138 rfl)) (by decide) (by decide)) q34a q34c (g := (mkF m 84 #[iv x0, iv x1, lv x2, .second, iv x3, iv x4, iv x5, iv lo, iv 0, iv (((x1.toUInt32 >>> ((1 : Int32) &&& 31).toUInt32).toInt32) &&& (63 : Int32)), rv b4, rv b6, iv v26_0, .unset, .unset, .unset, .unset, .unset, .unset, .unset] [(.ref b6)])) rfl (by rw [hml]; rfl) (Steps.refl _) (argsL := []) (rest := []) (lenOf pd_10 rfl) rfl (by show 2 * 0 + _ ≤ _; exact Nat.le_of_eq rfl) (hb hby at_84) (fun _ _ => ⟨rfl, rfl, (by decide : 29 + 0 ≤ _), (by decide : 1286 + 0 ≤ _)⟩)
    dsimp only [Pt.U, Pt.locs, Pt.cells, Pt.slots] at X34 l34 y34 z34 st34 hQ34
    subst l34 y34 z34
    obtain ⟨rfl, N34q, e34⟩ := hQ34
    have N34 := Fr.app N24 N34q
    have q37 := (r20_2.keep K24 ni32)
    have q38 := (r20_3.keep K24 ni32)
    have q39 := (r20_1.keep K24 ni32)
    have q40 := (r20_5.keep K24 ni32)
    obtain ⟨cq41, kq41, q41a, q41b, q41c⟩ := isOf hZ7 e34 q35
    obtain ⟨_, _, ⟨T41, L41, k41, n41⟩, -, X41, ⟨Lc41, hQ41, l41, y41, z41⟩, st41⟩ := X34.virtualBack hx (y := (⟨"com/example/violarc/violarc/solver/IntVar", "contains", "(I)Z"⟩ : MethodName)) (z := (⟨"com/example/violarc/violarc/solver/IntVar", "contains", "(I)Z"⟩ : MethodName)) hown7 (mvT hZ7 (hw _ (im 198 rfl))) (mvT hZ7 (hw _ (im 199 rfl))) (notFace_of_selects (args := #[]) (mvT hZ7 (hw _ (im 201 rfl)))) (mvT hZ7 (hw _ (im 201 rfl))) (mvT hZ7 (hw _ (im 200 rfl))) (by decide) (backOf (W := 0) (rmct0 l Z a0 hw [] b6 ((lo + (0 : Int32)) + (((x1.toUInt32 >>> ((1 : Int32) &&& 31).toUInt32).toInt32) &&& (63 : Int32))) lo (lo + (127 : Int32)) lo wa_20 kw_20 x2 (-1 : Int64) T24.heap n0 Z24_ q37 q38 q39 q40 r24_0 ((own_in0 _ _ (own_lob hlo) (own_k x1)).1) ((own_in0 _ _ (own_lob hlo) (own_k x1)).2.1) ((own_in0 _ _ (own_lob hlo) (own_k x1)).2.2.1)) hZ7 (hw _ (im 202 rfl)) (hw _ (im 138 rfl)) (by decide) (by decide)) q41a q41c (g := (mkF m 113 #[iv x0, iv x1, lv x2, .second, iv x3, iv x4, iv x5, iv lo, iv 0, iv (((x1.toUInt32 >>> ((1 : Int32) &&& 31).toUInt32).toInt32) &&& (63 : Int32)), rv b4, rv b6, iv v26_0, iv 1, .unset, .unset, .unset, .unset, .unset, .unset] [(.int ((lo + (0 : Int32)) + (((x1.toUInt32 >>> ((1 : Int32) &&& 31).toUInt32).toInt32) &&& (63 : Int32)))), (.ref b6)])) rfl (by rw [hml]; rfl) (Steps.refl _) (argsL := [(.int ((lo + (0 : Int32)) + (((x1.toUInt32 >>> ((1 : Int32) &&& 31).toUInt32).toInt32) &&& (63 : Int32))))]) (rest := []) (lenOf pd_11 rfl) rfl (by show 2 * 0 + _ ≤ _; exact Nat.le_of_eq rfl) (hb hby at_113) (fun _ _ => ⟨rfl, e34, (by decide : 29 + 0 ≤ _), (by decide : 1286 + 0 ≤ _)⟩)
    dsimp only [Pt.U, Pt.locs, Pt.cells, Pt.slots] at X41 l41 y41 z41 st41 hQ41
    subst l41 y41 z41
    obtain ⟨rfl, N41q, e41⟩ := hQ41
    have N41 := Fr.app N34 N41q
    have hc118_42 : (if (¬ ((x2 &&& ((1 : Int64) <<< ((((lo + (0 : Int32)) + (((x1.toUInt32 >>> ((1 : Int32) &&& 31).toUInt32).toInt32) &&& (63 : Int32))) - lo) &&& 0x3f).toInt64)) = (0 : Int64))) then (1 : Int32) else (0 : Int32)) = v26_0 := own_set x2 _ _ (own_k x1) (own_in0 _ _ (own_lob hlo) (own_k x1)).2.2.2 hv26_0
    have P43 := own_go P29 (S' := T41.setTop (mkF m 137 #[iv x0, iv x1, lv x2, .second, iv x3, iv x4, iv x5, iv lo, iv 0, iv (((x1.toUInt32 >>> ((1 : Int32) &&& 31).toUInt32).toInt32) &&& (63 : Int32)), rv b4, rv b6, iv v26_0, iv 1, iv 1, .unset, .unset, .unset, .unset, .unset] [(.int 0), (.int 1), (.int 64), (.int lo), (.ref b6)])) (by
      intro t k
      refine XS.istore X24.here hx rfl (hb hby at_80) rfl (l' := #[iv x0, iv x1, lv x2, .second, iv x3, iv x4, iv x5, iv lo, iv 0, iv (((x1.toUInt32 >>> ((1 : Int32) &&& 31).toUInt32).toInt32) &&& (63 : Int32)), rv b4, rv b6, iv v26_0, .unset, .unset, .unset, .unset, .unset, .unset, .unset]) rfl ?_
      refine XS.aload X24.here hx rfl (hb hby at_82) rfl rfl ?_
      refine st34.trans ?_
      refine XS.sipush X34.here hx rfl (hb hby at_87) ?_
      refine XS.icmpNo X34.here hx rfl (hb hby at_90) rfl (teq (by decide)).2 ?_
      refine XS.iconst X34.here hx rfl (hb hby at_93) ?_
      refine XS.goto X34.here hx rfl (pc0 := 94) (pc' := 98) rfl (hb hby at_94) (by decide) (by decide) ?_
      refine XS.istore X34.here hx rfl (hb hby at_98) rfl (l' := #[iv x0, iv x1, lv x2, .second, iv x3, iv x4, iv x5, iv lo, iv 0, iv (((x1.toUInt32 >>> ((1 : Int32) &&& 31).toUInt32).toInt32) &&& (63 : Int32)), rv b4, rv b6, iv v26_0, iv 1, .unset, .unset, .unset, .unset, .unset, .unset]) rfl ?_
      show Steps p.tables e below (T34.setTop (mkF m 100 #[iv x0, iv x1, lv x2, .second, iv x3, iv x4, iv x5, iv lo, iv 0, iv (((x1.toUInt32 >>> ((1 : Int32) &&& 31).toUInt32).toInt32) &&& (63 : Int32)), rv b4, rv b6, iv v26_0, iv 1, .unset, .unset, .unset, .unset, .unset, .unset] [])) _
      refine XS.aload X34.here hx rfl (hb hby at_100) rfl rfl ?_
      refine XS.iload X34.here hx rfl (hb hby at_102) rfl ?_
      refine XS.bipush X34.here hx rfl (hb hby at_104) ?_
      refine XS.iload X34.here hx rfl (hb hby at_106) rfl ?_
      refine XS.imul X34.here hx rfl (hb hby at_108) rfl ?_
      refine XS.iadd X34.here hx rfl (hb hby at_109) rfl ?_
      refine XS.iload X34.here hx rfl (hb hby at_110) rfl ?_
      refine XS.iadd X34.here hx rfl (hb hby at_112) rfl ?_
      show Steps p.tables e below (T34.setTop (mkF m 113 #[iv x0, iv x1, lv x2, .second, iv x3, iv x4, iv x5, iv lo, iv 0, iv (((x1.toUInt32 >>> ((1 : Int32) &&& 31).toUInt32).toInt32) &&& (63 : Int32)), rv b4, rv b6, iv v26_0, iv 1, .unset, .unset, .unset, .unset, .unset, .unset] [(.int ((lo + (0 : Int32)) + (((x1.toUInt32 >>> ((1 : Int32) &&& 31).toUInt32).toInt32) &&& (63 : Int32)))), (.ref b6)])) _
      refine st41.trans ?_
      refine XS.iload X41.here hx rfl (hb hby at_116) rfl ?_
      refine XS.icmpNo X41.here hx rfl (hb hby at_118) rfl (teq hc118_42).2 ?_
      refine XS.iconst X41.here hx rfl (hb hby at_121) ?_
      refine XS.goto X41.here hx rfl (pc0 := 122) (pc' := 126) rfl (hb hby at_122) (by decide) (by decide) ?_
      refine XS.istore X41.here hx rfl (hb hby at_126) rfl (l' := #[iv x0, iv x1, lv x2, .second, iv x3, iv x4, iv x5, iv lo, iv 0, iv (((x1.toUInt32 >>> ((1 : Int32) &&& 31).toUInt32).toInt32) &&& (63 : Int32)), rv b4, rv b6, iv v26_0, iv 1, iv 1, .unset, .unset, .unset, .unset, .unset]) rfl ?_
      refine XS.aload X41.here hx rfl (hb hby at_128) rfl rfl ?_
      refine XS.iload X41.here hx rfl (hb hby at_130) rfl ?_
      show Steps p.tables e below (T41.setTop (mkF m 132 #[iv x0, iv x1, lv x2, .second, iv x3, iv x4, iv x5, iv lo, iv 0, iv (((x1.toUInt32 >>> ((1 : Int32) &&& 31).toUInt32).toInt32) &&& (63 : Int32)), rv b4, rv b6, iv v26_0, iv 1, iv 1, .unset, .unset, .unset, .unset, .unset] [(.int lo), (.ref b6)])) _
      refine XS.bipush X41.here hx rfl (hb hby at_132) ?_
      refine XS.iconst X41.here hx rfl (hb hby at_134) ?_
      refine XS.iload X41.here hx rfl (hb hby at_135) rfl ?_
      exact k)
    obtain ⟨cq44, kq44, q44a, q44b, q44c⟩ := isOf hZ7 e41 q35
    obtain ⟨_, _, ⟨T44, L44, k44, n44⟩, -, X44, ⟨Lc44, hQ44, l44, y44, z44⟩, st44⟩ := X41.virtualBack hx (y := (⟨"com/example/violarc/violarc/solver/IntVar", "contains", "(I)Z"⟩ : MethodName)) (z := (⟨"com/example/violarc/violarc/solver/IntVar", "contains", "(I)Z"⟩ : MethodName)) hown7 (mvT hZ7 (hw _ (im 198 rfl))) (mvT hZ7 (hw _ (im 199 rfl))) (notFace_of_selects (args := #[]) (mvT hZ7 (hw _ (im 201 rfl)))) (mvT hZ7 (hw _ (im 201 rfl))) (mvT hZ7 (hw _ (im 200 rfl))) (by decide) (backOf (W := 0) (rmct1 l Z a0 hw [] b6 ((lo + (64 : Int32)) + (((x1.toUInt32 >>> ((1 : Int32) &&& 31).toUInt32).toInt32) &&& (63 : Int32))) lo (lo + (127 : Int32)) lo wa_20 kw_20 x2 (-1 : Int64) T24.heap n0 Z24_ q37 q38 q39 q40 r24_0 ((own_in1 _ _ (own_lob hlo) (own_k x1)).1) ((own_in1 _ _ (own_lob hlo) (own_k x1)).2.1) ((own_in1 _ _ (own_lob hlo) (own_k x1)).2.2.1)) hZ7 (hw _ (im 202 rfl)) (hw _ (im 138 rfl)) (by decide) (by decide)) q44a q44c (g := (mkF m 143 #[iv x0, iv x1, lv x2, .second, iv x3, iv x4, iv x5, iv lo, iv 0, iv (((x1.toUInt32 >>> ((1 : Int32) &&& 31).toUInt32).toInt32) &&& (63 : Int32)), rv b4, rv b6, iv v26_0, iv 1, iv 1, .unset, .unset, .unset, .unset, .unset] [(.int ((lo + (64 : Int32)) + (((x1.toUInt32 >>> ((1 : Int32) &&& 31).toUInt32).toInt32) &&& (63 : Int32)))), (.ref b6)])) rfl (by rw [hml]; rfl) (Steps.refl _) (argsL := [(.int ((lo + (64 : Int32)) + (((x1.toUInt32 >>> ((1 : Int32) &&& 31).toUInt32).toInt32) &&& (63 : Int32))))]) (rest := []) (lenOf pd_11 rfl) rfl (by show 2 * 0 + _ ≤ _; exact Nat.le_of_eq rfl) (hb hby at_143) (fun _ _ => ⟨rfl, e41, (by decide : 29 + 0 ≤ _), (by decide : 1286 + 0 ≤ _)⟩)
    dsimp only [Pt.U, Pt.locs, Pt.cells, Pt.slots] at X44 l44 y44 z44 st44 hQ44
    subst l44 y44 z44
    obtain ⟨rfl, N44q, e44⟩ := hQ44
    have N44 := Fr.app N41 N44q
    have P45 := own_go P43 (S' := T44.setTop (mkF m 176 #[iv x0, iv x1, lv x2, .second, iv x3, iv x4, iv x5, iv lo, iv 0, iv (((x1.toUInt32 >>> ((1 : Int32) &&& 31).toUInt32).toInt32) &&& (63 : Int32)), rv b4, rv b6, iv v26_0, iv 1, iv 1, iv (if (¬ (((-1 : Int64) &&& ((1 : Int64) <<< ((((lo + (64 : Int32)) + (((x1.toUInt32 >>> ((1 : Int32) &&& 31).toUInt32).toInt32) &&& (63 : Int32))) - lo) &&& 0x3f).toInt64)) = (0 : Int64))) then (1 : Int32) else (0 : Int32)), lv (((x3.toInt64) <<< ((32 : Int32) &&& 0x3f).toInt64) ||| ((x4.toInt64) &&& (4294967295 : Int64))), .second, .unset, .unset] [(.long ((x5.toInt64) &&& (4294967295 : Int64))), (.long ((x1.toInt64) <<< ((32 : Int32) &&& 0x3f).toInt64))])) (by
      intro t k
      refine XS.isub X41.here hx rfl (hb hby at_137) rfl ?_
      refine XS.imul X41.here hx rfl (hb hby at_138) rfl ?_
      refine XS.iadd X41.here hx rfl (hb hby at_139) rfl ?_
      refine XS.iload X41.here hx rfl (hb hby at_140) rfl ?_
      refine XS.iadd X41.here hx rfl (hb hby at_142) rfl ?_
      refine st44.trans ?_
      refine XS.istore X44.here hx rfl (hb hby at_146) rfl (l' := #[iv x0, iv x1, lv x2, .second, iv x3, iv x4, iv x5, iv lo, iv 0, iv (((x1.toUInt32 >>> ((1 : Int32) &&& 31).toUInt32).toInt32) &&& (63 : Int32)), rv b4, rv b6, iv v26_0, iv 1, iv 1, iv (if (¬ (((-1 : Int64) &&& ((1 : Int64) <<< ((((lo + (64 : Int32)) + (((x1.toUInt32 >>> ((1 : Int32) &&& 31).toUInt32).toInt32) &&& (63 : Int32))) - lo) &&& 0x3f).toInt64)) = (0 : Int64))) then (1 : Int32) else (0 : Int32)), .unset, .unset, .unset, .unset]) rfl ?_
      refine XS.iload X44.here hx rfl (hb hby at_148) rfl ?_
      show Steps p.tables e below (T44.setTop (mkF m 150 #[iv x0, iv x1, lv x2, .second, iv x3, iv x4, iv x5, iv lo, iv 0, iv (((x1.toUInt32 >>> ((1 : Int32) &&& 31).toUInt32).toInt32) &&& (63 : Int32)), rv b4, rv b6, iv v26_0, iv 1, iv 1, iv (if (¬ (((-1 : Int64) &&& ((1 : Int64) <<< ((((lo + (64 : Int32)) + (((x1.toUInt32 >>> ((1 : Int32) &&& 31).toUInt32).toInt32) &&& (63 : Int32))) - lo) &&& 0x3f).toInt64)) = (0 : Int64))) then (1 : Int32) else (0 : Int32)), .unset, .unset, .unset, .unset] [(.int x3)])) _
      refine XS.i2l X44.here hx rfl (hb hby at_150) rfl ?_
      refine XS.bipush X44.here hx rfl (hb hby at_151) ?_
      refine XS.lshl X44.here hx rfl (hb hby at_153) rfl ?_
      refine XS.iload X44.here hx rfl (hb hby at_154) rfl ?_
      refine XS.i2l X44.here hx rfl (hb hby at_156) rfl ?_
      refine X44.ldc2Long hx hown7 (mvT hZ7 (hw _ (im 203 rfl))) (g := (mkF m 157 #[iv x0, iv x1, lv x2, .second, iv x3, iv x4, iv x5, iv lo, iv 0, iv (((x1.toUInt32 >>> ((1 : Int32) &&& 31).toUInt32).toInt32) &&& (63 : Int32)), rv b4, rv b6, iv v26_0, iv 1, iv 1, iv (if (¬ (((-1 : Int64) &&& ((1 : Int64) <<< ((((lo + (64 : Int32)) + (((x1.toUInt32 >>> ((1 : Int32) &&& 31).toUInt32).toInt32) &&& (63 : Int32))) - lo) &&& 0x3f).toInt64)) = (0 : Int64))) then (1 : Int32) else (0 : Int32)), .unset, .unset, .unset, .unset] [(.long (x4.toInt64)), (.long ((x3.toInt64) <<< ((32 : Int32) &&& 0x3f).toInt64))])) rfl (hb hby at_157) _ ?_
      refine XS.land X44.here hx rfl (hb hby at_160) rfl ?_
      refine XS.lor X44.here hx rfl (hb hby at_161) rfl ?_
      show Steps p.tables e below (T44.setTop (mkF m 162 #[iv x0, iv x1, lv x2, .second, iv x3, iv x4, iv x5, iv lo, iv 0, iv (((x1.toUInt32 >>> ((1 : Int32) &&& 31).toUInt32).toInt32) &&& (63 : Int32)), rv b4, rv b6, iv v26_0, iv 1, iv 1, iv (if (¬ (((-1 : Int64) &&& ((1 : Int64) <<< ((((lo + (64 : Int32)) + (((x1.toUInt32 >>> ((1 : Int32) &&& 31).toUInt32).toInt32) &&& (63 : Int32))) - lo) &&& 0x3f).toInt64)) = (0 : Int64))) then (1 : Int32) else (0 : Int32)), .unset, .unset, .unset, .unset] [(.long (((x3.toInt64) <<< ((32 : Int32) &&& 0x3f).toInt64) ||| ((x4.toInt64) &&& (4294967295 : Int64))))])) _
      refine XS.lstore X44.here hx rfl (hb hby at_162) rfl (l' := #[iv x0, iv x1, lv x2, .second, iv x3, iv x4, iv x5, iv lo, iv 0, iv (((x1.toUInt32 >>> ((1 : Int32) &&& 31).toUInt32).toInt32) &&& (63 : Int32)), rv b4, rv b6, iv v26_0, iv 1, iv 1, iv (if (¬ (((-1 : Int64) &&& ((1 : Int64) <<< ((((lo + (64 : Int32)) + (((x1.toUInt32 >>> ((1 : Int32) &&& 31).toUInt32).toInt32) &&& (63 : Int32))) - lo) &&& 0x3f).toInt64)) = (0 : Int64))) then (1 : Int32) else (0 : Int32)), lv (((x3.toInt64) <<< ((32 : Int32) &&& 0x3f).toInt64) ||| ((x4.toInt64) &&& (4294967295 : Int64))), .second, .unset, .unset]) rfl ?_
      refine XS.iloadN X44.here hx rfl (hb hby at_164) rfl ?_
      refine XS.i2l X44.here hx rfl (hb hby at_165) rfl ?_
      refine XS.bipush X44.here hx rfl (hb hby at_166) ?_
      refine XS.lshl X44.here hx rfl (hb hby at_168) rfl ?_
      refine XS.iload X44.here hx rfl (hb hby at_169) rfl ?_
      refine XS.i2l X44.here hx rfl (hb hby at_171) rfl ?_
      refine X44.ldc2Long hx hown7 (mvT hZ7 (hw _ (im 203 rfl))) (g := (mkF m 172 #[iv x0, iv x1, lv x2, .second, iv x3, iv x4, iv x5, iv lo, iv 0, iv (((x1.toUInt32 >>> ((1 : Int32) &&& 31).toUInt32).toInt32) &&& (63 : Int32)), rv b4, rv b6, iv v26_0, iv 1, iv 1, iv (if (¬ (((-1 : Int64) &&& ((1 : Int64) <<< ((((lo + (64 : Int32)) + (((x1.toUInt32 >>> ((1 : Int32) &&& 31).toUInt32).toInt32) &&& (63 : Int32))) - lo) &&& 0x3f).toInt64)) = (0 : Int64))) then (1 : Int32) else (0 : Int32)), lv (((x3.toInt64) <<< ((32 : Int32) &&& 0x3f).toInt64) ||| ((x4.toInt64) &&& (4294967295 : Int64))), .second, .unset, .unset] [(.long (x5.toInt64)), (.long ((x1.toInt64) <<< ((32 : Int32) &&& 0x3f).toInt64))])) rfl (hb hby at_172) _ ?_
      show Steps p.tables e below (T44.setTop (mkF m 175 #[iv x0, iv x1, lv x2, .second, iv x3, iv x4, iv x5, iv lo, iv 0, iv (((x1.toUInt32 >>> ((1 : Int32) &&& 31).toUInt32).toInt32) &&& (63 : Int32)), rv b4, rv b6, iv v26_0, iv 1, iv 1, iv (if (¬ (((-1 : Int64) &&& ((1 : Int64) <<< ((((lo + (64 : Int32)) + (((x1.toUInt32 >>> ((1 : Int32) &&& 31).toUInt32).toInt32) &&& (63 : Int32))) - lo) &&& 0x3f).toInt64)) = (0 : Int64))) then (1 : Int32) else (0 : Int32)), lv (((x3.toInt64) <<< ((32 : Int32) &&& 0x3f).toInt64) ||| ((x4.toInt64) &&& (4294967295 : Int64))), .second, .unset, .unset] [(.long 4294967295), (.long (x5.toInt64)), (.long ((x1.toInt64) <<< ((32 : Int32) &&& 0x3f).toInt64))])) _
      refine XS.land X44.here hx rfl (hb hby at_175) rfl ?_
      exact k)
    obtain ⟨cq46, kq46, q46a, q46b, q46c⟩ := isOf hZ7 e44 q35
    obtain ⟨_, _, ⟨T46, L46, k46, n46⟩, -, X46, ⟨Lc46, hQ46, l46, y46, z46⟩, st46⟩ := X44.virtualBack hx (y := (⟨"com/example/violarc/violarc/solver/IntVar", "restore", "(IJJ)V"⟩ : MethodName)) (z := (⟨"com/example/violarc/violarc/solver/IntVar", "restore", "(IJJ)V"⟩ : MethodName)) hown7 (mvT hZ7 (hw _ (im 188 rfl))) (mvT hZ7 (hw _ (im 189 rfl))) (notFace_of_selects (args := #[]) (mvT hZ7 (hw _ (im 191 rfl)))) (mvT hZ7 (hw _ (im 191 rfl))) (mvT hZ7 (hw _ (im 190 rfl))) (by decide) (backOf (W := 0) (rmrsM l Z a0 hw [] b6 (((x3.toInt64) <<< ((32 : Int32) &&& 0x3f).toInt64) ||| ((x4.toInt64) &&& (4294967295 : Int64))) (((x1.toInt64) <<< ((32 : Int32) &&& 0x3f).toInt64) ||| ((x5.toInt64) &&& (4294967295 : Int64))) lo (lo + (127 : Int32)) (128 : Int32) T24.heap n0 Z24_ q35 q37 q38 q33 ge_b6) hZ7 (hw _ (im 192 rfl)) (hw _ (im 138 rfl)) (by decide) (by decide)) q46a q46c (g := (mkF m 186 #[iv x0, iv x1, lv x2, .second, iv x3, iv x4, iv x5, iv lo, iv 0, iv (((x1.toUInt32 >>> ((1 : Int32) &&& 31).toUInt32).toInt32) &&& (63 : Int32)), rv b4, rv b6, iv v26_0, iv 1, iv 1, iv (if (¬ (((-1 : Int64) &&& ((1 : Int64) <<< ((((lo + (64 : Int32)) + (((x1.toUInt32 >>> ((1 : Int32) &&& 31).toUInt32).toInt32) &&& (63 : Int32))) - lo) &&& 0x3f).toInt64)) = (0 : Int64))) then (1 : Int32) else (0 : Int32)), lv (((x3.toInt64) <<< ((32 : Int32) &&& 0x3f).toInt64) ||| ((x4.toInt64) &&& (4294967295 : Int64))), .second, lv (((x1.toInt64) <<< ((32 : Int32) &&& 0x3f).toInt64) ||| ((x5.toInt64) &&& (4294967295 : Int64))), .second] [(.long (((x1.toInt64) <<< ((32 : Int32) &&& 0x3f).toInt64) ||| ((x5.toInt64) &&& (4294967295 : Int64)))), (.long (((x3.toInt64) <<< ((32 : Int32) &&& 0x3f).toInt64) ||| ((x4.toInt64) &&& (4294967295 : Int64)))), (.int (-1)), (.ref b6)])) rfl (by rw [hml]; rfl) (Steps.refl _) (argsL := [(.int (-1)), (.long (((x3.toInt64) <<< ((32 : Int32) &&& 0x3f).toInt64) ||| ((x4.toInt64) &&& (4294967295 : Int64)))), (.long (((x1.toInt64) <<< ((32 : Int32) &&& 0x3f).toInt64) ||| ((x5.toInt64) &&& (4294967295 : Int64))))]) (rest := []) (lenOf pd_9 rfl) rfl (by show 2 * 0 + _ ≤ _; exact Nat.le_of_eq rfl) (hb hby at_186) (fun _ _ => ⟨rfl, e44, (by decide : 29 + 0 ≤ _), (by decide : 1286 + 0 ≤ _)⟩)
    dsimp only [Pt.U, Pt.locs, Pt.cells, Pt.slots] at X46 l46 y46 z46 st46 hQ46
    subst l46 y46 z46
    obtain ⟨rfl, N46q, K46, r46_0, r46_1, r46_2, r46_3⟩ := hQ46
    have N46 := Fr.app N44 N46q
    have Z46_ : n0 ≤ T46.heap.size := Nat.le_trans Z24_ K46.1
    have hk46_ := Nat.le_trans hk24_ K46.1
    have O46_ := O24_.keep K46 (allS ge_b6 all0)
    have hc201_49 : (¬ (((-1 : Int64) &&& ((1 : Int64) <<< ((((lo + (64 : Int32)) + (((x1.toUInt32 >>> ((1 : Int32) &&& 31).toUInt32).toInt32) &&& (63 : Int32))) - lo) &&& 0x3f).toInt64)) = (0 : Int64))) := own_all _ _ (own_k x1) (own_in1 _ _ (own_lob hlo) (own_k x1)).2.2.2
    obtain ⟨cq50, kq50, q50a, q50b, q50c⟩ := isOf hZ7 rfl r46_0
    obtain ⟨_, _, ⟨T50, L50, k50, n50⟩, -, X50, ⟨Lc50, hQ50, l50, y50, z50⟩, st50⟩ := X46.virtualBack hx (y := (⟨"com/example/violarc/violarc/solver/IntVar", "min", "()I"⟩ : MethodName)) (z := (⟨"com/example/violarc/violarc/solver/IntVar", "min", "()I"⟩ : MethodName)) hown7 (mvT hZ7 (hw _ (im 204 rfl))) (mvT hZ7 (hw _ (im 205 rfl))) (notFace_of_selects (args := #[]) (mvT hZ7 (hw _ (im 207 rfl)))) (mvT hZ7 (hw _ (im 207 rfl))) (mvT hZ7 (hw _ (im 206 rfl))) (by decide) (backOf (W := 0) (rm21 l Z a0 hw [] b6 (((((x3.toInt64) <<< ((32 : Int32) &&& 0x3f).toInt64) ||| ((x4.toInt64) &&& (4294967295 : Int64))) >>> ((32 : Int32) &&& 0x3f).toInt64).toInt32) T46.heap n0 Z46_ r46_1) hZ7 (hw _ (im 208 rfl)) (hw _ (im 138 rfl)) (by decide) (by decide)) q50a q50c (g := (mkF m 206 #[iv x0, iv x1, lv x2, .second, iv x3, iv x4, iv x5, iv lo, iv 0, iv (((x1.toUInt32 >>> ((1 : Int32) &&& 31).toUInt32).toInt32) &&& (63 : Int32)), rv b4, rv b6, iv v26_0, iv 1, iv 1, iv (if (¬ (((-1 : Int64) &&& ((1 : Int64) <<< ((((lo + (64 : Int32)) + (((x1.toUInt32 >>> ((1 : Int32) &&& 31).toUInt32).toInt32) &&& (63 : Int32))) - lo) &&& 0x3f).toInt64)) = (0 : Int64))) then (1 : Int32) else (0 : Int32)), lv (((x3.toInt64) <<< ((32 : Int32) &&& 0x3f).toInt64) ||| ((x4.toInt64) &&& (4294967295 : Int64))), .second, lv (((x1.toInt64) <<< ((32 : Int32) &&& 0x3f).toInt64) ||| ((x5.toInt64) &&& (4294967295 : Int64))), .second] [(.ref b6)])) rfl (by rw [hml]; rfl) (Steps.refl _) (argsL := []) (rest := []) (lenOf pd_10 rfl) rfl (by show 2 * 0 + _ ≤ _; exact Nat.le_of_eq rfl) (hb hby at_206) (fun _ _ => ⟨rfl, rfl, (by decide : 29 + 0 ≤ _), (by decide : 1286 + 0 ≤ _)⟩)
    dsimp only [Pt.U, Pt.locs, Pt.cells, Pt.slots] at X50 l50 y50 z50 st50 hQ50
    subst l50 y50 z50
    obtain ⟨rfl, N50q, e50⟩ := hQ50
    have N50 := Fr.app N46 N50q
    have hc211_51 : (((((x3.toInt64) <<< ((32 : Int32) &&& 0x3f).toInt64) ||| ((x4.toInt64) &&& (4294967295 : Int64))) >>> ((32 : Int32) &&& 0x3f).toInt64).toInt32) = x3 := own_hi x3 x4
    obtain ⟨cq52, kq52, q52a, q52b, q52c⟩ := isOf hZ7 e50 r46_0
    obtain ⟨_, _, ⟨T52, L52, k52, n52⟩, -, X52, ⟨Lc52, hQ52, l52, y52, z52⟩, st52⟩ := X50.virtualBack hx (y := (⟨"com/example/violarc/violarc/solver/IntVar", "max", "()I"⟩ : MethodName)) (z := (⟨"com/example/violarc/violarc/solver/IntVar", "max", "()I"⟩ : MethodName)) hown7 (mvT hZ7 (hw _ (im 209 rfl))) (mvT hZ7 (hw _ (im 210 rfl))) (notFace_of_selects (args := #[]) (mvT hZ7 (hw _ (im 212 rfl)))) (mvT hZ7 (hw _ (im 212 rfl))) (mvT hZ7 (hw _ (im 211 rfl))) (by decide) (backOf (W := 0) (rm22 l Z a0 hw [] b6 ((((x3.toInt64) <<< ((32 : Int32) &&& 0x3f).toInt64) ||| ((x4.toInt64) &&& (4294967295 : Int64))).toInt32) T46.heap n0 Z46_ r46_2) hZ7 (hw _ (im 213 rfl)) (hw _ (im 138 rfl)) (by decide) (by decide)) q52a q52c (g := (mkF m 216 #[iv x0, iv x1, lv x2, .second, iv x3, iv x4, iv x5, iv lo, iv 0, iv (((x1.toUInt32 >>> ((1 : Int32) &&& 31).toUInt32).toInt32) &&& (63 : Int32)), rv b4, rv b6, iv v26_0, iv 1, iv 1, iv (if (¬ (((-1 : Int64) &&& ((1 : Int64) <<< ((((lo + (64 : Int32)) + (((x1.toUInt32 >>> ((1 : Int32) &&& 31).toUInt32).toInt32) &&& (63 : Int32))) - lo) &&& 0x3f).toInt64)) = (0 : Int64))) then (1 : Int32) else (0 : Int32)), lv (((x3.toInt64) <<< ((32 : Int32) &&& 0x3f).toInt64) ||| ((x4.toInt64) &&& (4294967295 : Int64))), .second, lv (((x1.toInt64) <<< ((32 : Int32) &&& 0x3f).toInt64) ||| ((x5.toInt64) &&& (4294967295 : Int64))), .second] [(.ref b6)])) rfl (by rw [hml]; rfl) (Steps.refl _) (argsL := []) (rest := []) (lenOf pd_10 rfl) rfl (by show 2 * 0 + _ ≤ _; exact Nat.le_of_eq rfl) (hb hby at_216) (fun _ _ => ⟨rfl, e50, (by decide : 29 + 0 ≤ _), (by decide : 1286 + 0 ≤ _)⟩)
    dsimp only [Pt.U, Pt.locs, Pt.cells, Pt.slots] at X52 l52 y52 z52 st52 hQ52
    subst l52 y52 z52
    obtain ⟨rfl, N52q, e52⟩ := hQ52
    have N52 := Fr.app N50 N52q
    have hc221_53 : ((((x3.toInt64) <<< ((32 : Int32) &&& 0x3f).toInt64) ||| ((x4.toInt64) &&& (4294967295 : Int64))).toInt32) = x4 := own_low x3 x4
    obtain ⟨cq54, kq54, q54a, q54b, q54c⟩ := isOf hZ7 e52 r46_0
    obtain ⟨_, _, ⟨T54, L54, k54, n54⟩, -, X54, ⟨Lc54, hQ54, l54, y54, z54⟩, st54⟩ := X52.virtualBack hx (y := (⟨"com/example/violarc/violarc/solver/IntVar", "size", "()I"⟩ : MethodName)) (z := (⟨"com/example/violarc/violarc/solver/IntVar", "size", "()I"⟩ : MethodName)) hown7 (mvT hZ7 (hw _ (im 193 rfl))) (mvT hZ7 (hw _ (im 194 rfl))) (notFace_of_selects (args := #[]) (mvT hZ7 (hw _ (im 196 rfl)))) (mvT hZ7 (hw _ (im 196 rfl))) (mvT hZ7 (hw _ (im 195 rfl))) (by decide) (backOf (W := 0) (rm19 l Z a0 hw [] b6 ((((x1.toInt64) <<< ((32 : Int32) &&& 0x3f).toInt64) ||| ((x5.toInt64) &&& (4294967295 : Int64))).toInt32) T46.heap n0 Z46_ r46_3) hZ7 (hw _ (im 197 rfl)) (hw _ (im 138 rfl)) (by decide) (by decide)) q54a q54c (g := (mkF m 226 #[iv x0, iv x1, lv x2, .second, iv x3, iv x4, iv x5, iv lo, iv 0, iv (((x1.toUInt32 >>> ((1 : Int32) &&& 31).toUInt32).toInt32) &&& (63 : Int32)), rv b4, rv b6, iv v26_0, iv 1, iv 1, iv (if (¬ (((-1 : Int64) &&& ((1 : Int64) <<< ((((lo + (64 : Int32)) + (((x1.toUInt32 >>> ((1 : Int32) &&& 31).toUInt32).toInt32) &&& (63 : Int32))) - lo) &&& 0x3f).toInt64)) = (0 : Int64))) then (1 : Int32) else (0 : Int32)), lv (((x3.toInt64) <<< ((32 : Int32) &&& 0x3f).toInt64) ||| ((x4.toInt64) &&& (4294967295 : Int64))), .second, lv (((x1.toInt64) <<< ((32 : Int32) &&& 0x3f).toInt64) ||| ((x5.toInt64) &&& (4294967295 : Int64))), .second] [(.ref b6)])) rfl (by rw [hml]; rfl) (Steps.refl _) (argsL := []) (rest := []) (lenOf pd_10 rfl) rfl (by show 2 * 0 + _ ≤ _; exact Nat.le_of_eq rfl) (hb hby at_226) (fun _ _ => ⟨rfl, e52, (by decide : 29 + 0 ≤ _), (by decide : 1286 + 0 ≤ _)⟩)
    dsimp only [Pt.U, Pt.locs, Pt.cells, Pt.slots] at X54 l54 y54 z54 st54 hQ54
    subst l54 y54 z54
    obtain ⟨rfl, N54q, e54⟩ := hQ54
    have N54 := Fr.app N52 N54q
    have hc231_55 : ((((x1.toInt64) <<< ((32 : Int32) &&& 0x3f).toInt64) ||| ((x5.toInt64) &&& (4294967295 : Int64))).toInt32) = x5 := own_low x1 x5
    have P56 := own_go P45 (S' := T54.setTop (mkF m 239 #[iv x0, iv x1, lv x2, .second, iv x3, iv x4, iv x5, iv lo, iv 0, iv (((x1.toUInt32 >>> ((1 : Int32) &&& 31).toUInt32).toInt32) &&& (63 : Int32)), rv b4, rv b6, iv v26_0, iv 1, iv 1, iv (if (¬ (((-1 : Int64) &&& ((1 : Int64) <<< ((((lo + (64 : Int32)) + (((x1.toUInt32 >>> ((1 : Int32) &&& 31).toUInt32).toInt32) &&& (63 : Int32))) - lo) &&& 0x3f).toInt64)) = (0 : Int64))) then (1 : Int32) else (0 : Int32)), lv (((x3.toInt64) <<< ((32 : Int32) &&& 0x3f).toInt64) ||| ((x4.toInt64) &&& (4294967295 : Int64))), .second, lv (((x1.toInt64) <<< ((32 : Int32) &&& 0x3f).toInt64) ||| ((x5.toInt64) &&& (4294967295 : Int64))), .second] [(.int 1)])) (by
      intro t k
      refine XS.lor X44.here hx rfl (hb hby at_176) rfl ?_
      refine XS.lstore X44.here hx rfl (hb hby at_177) rfl (l' := #[iv x0, iv x1, lv x2, .second, iv x3, iv x4, iv x5, iv lo, iv 0, iv (((x1.toUInt32 >>> ((1 : Int32) &&& 31).toUInt32).toInt32) &&& (63 : Int32)), rv b4, rv b6, iv v26_0, iv 1, iv 1, iv (if (¬ (((-1 : Int64) &&& ((1 : Int64) <<< ((((lo + (64 : Int32)) + (((x1.toUInt32 >>> ((1 : Int32) &&& 31).toUInt32).toInt32) &&& (63 : Int32))) - lo) &&& 0x3f).toInt64)) = (0 : Int64))) then (1 : Int32) else (0 : Int32)), lv (((x3.toInt64) <<< ((32 : Int32) &&& 0x3f).toInt64) ||| ((x4.toInt64) &&& (4294967295 : Int64))), .second, lv (((x1.toInt64) <<< ((32 : Int32) &&& 0x3f).toInt64) ||| ((x5.toInt64) &&& (4294967295 : Int64))), .second]) rfl ?_
      refine XS.aload X44.here hx rfl (hb hby at_179) rfl rfl ?_
      refine XS.iconst X44.here hx rfl (hb hby at_181) ?_
      refine XS.lload X44.here hx rfl (hb hby at_182) rfl ?_
      refine XS.lload X44.here hx rfl (hb hby at_184) rfl ?_
      refine st46.trans ?_
      refine XS.iload X46.here hx rfl (hb hby at_189) rfl ?_
      show Steps p.tables e below (T46.setTop (mkF m 191 #[iv x0, iv x1, lv x2, .second, iv x3, iv x4, iv x5, iv lo, iv 0, iv (((x1.toUInt32 >>> ((1 : Int32) &&& 31).toUInt32).toInt32) &&& (63 : Int32)), rv b4, rv b6, iv v26_0, iv 1, iv 1, iv (if (¬ (((-1 : Int64) &&& ((1 : Int64) <<< ((((lo + (64 : Int32)) + (((x1.toUInt32 >>> ((1 : Int32) &&& 31).toUInt32).toInt32) &&& (63 : Int32))) - lo) &&& 0x3f).toInt64)) = (0 : Int64))) then (1 : Int32) else (0 : Int32)), lv (((x3.toInt64) <<< ((32 : Int32) &&& 0x3f).toInt64) ||| ((x4.toInt64) &&& (4294967295 : Int64))), .second, lv (((x1.toInt64) <<< ((32 : Int32) &&& 0x3f).toInt64) ||| ((x5.toInt64) &&& (4294967295 : Int64))), .second] [(.int 1)])) _
      refine XS.ifNo X46.here hx rfl (hb hby at_191) rfl ((if0 _ _).trans (feq (by decide)).1) ?_
      refine XS.iload X46.here hx rfl (hb hby at_194) rfl ?_
      refine XS.ifNo X46.here hx rfl (hb hby at_196) rfl ((if0 _ _).trans (feq (by decide)).1) ?_
      refine XS.iload X46.here hx rfl (hb hby at_199) rfl ?_
      refine XS.ifNo X46.here hx rfl (hb hby at_201) rfl ((if0 _ _).trans (feq (by rw [if_pos hc201_49]; decide)).1) ?_
      refine XS.aload X46.here hx rfl (hb hby at_204) rfl rfl ?_
      refine st50.trans ?_
      refine XS.iload X50.here hx rfl (hb hby at_209) rfl ?_
      show Steps p.tables e below (T50.setTop (mkF m 211 #[iv x0, iv x1, lv x2, .second, iv x3, iv x4, iv x5, iv lo, iv 0, iv (((x1.toUInt32 >>> ((1 : Int32) &&& 31).toUInt32).toInt32) &&& (63 : Int32)), rv b4, rv b6, iv v26_0, iv 1, iv 1, iv (if (¬ (((-1 : Int64) &&& ((1 : Int64) <<< ((((lo + (64 : Int32)) + (((x1.toUInt32 >>> ((1 : Int32) &&& 31).toUInt32).toInt32) &&& (63 : Int32))) - lo) &&& 0x3f).toInt64)) = (0 : Int64))) then (1 : Int32) else (0 : Int32)), lv (((x3.toInt64) <<< ((32 : Int32) &&& 0x3f).toInt64) ||| ((x4.toInt64) &&& (4294967295 : Int64))), .second, lv (((x1.toInt64) <<< ((32 : Int32) &&& 0x3f).toInt64) ||| ((x5.toInt64) &&& (4294967295 : Int64))), .second] [(.int x3), (.int (((((x3.toInt64) <<< ((32 : Int32) &&& 0x3f).toInt64) ||| ((x4.toInt64) &&& (4294967295 : Int64))) >>> ((32 : Int32) &&& 0x3f).toInt64).toInt32))])) _
      refine XS.icmpNo X50.here hx rfl (hb hby at_211) rfl (teq hc211_51).2 ?_
      refine XS.aload X50.here hx rfl (hb hby at_214) rfl rfl ?_
      refine st52.trans ?_
      refine XS.iload X52.here hx rfl (hb hby at_219) rfl ?_
      refine XS.icmpNo X52.here hx rfl (hb hby at_221) rfl (teq hc221_53).2 ?_
      refine XS.aload X52.here hx rfl (hb hby at_224) rfl rfl ?_
      refine st54.trans ?_
      refine XS.iload X54.here hx rfl (hb hby at_229) rfl ?_
      show Steps p.tables e below (T54.setTop (mkF m 231 #[iv x0, iv x1, lv x2, .second, iv x3, iv x4, iv x5, iv lo, iv 0, iv (((x1.toUInt32 >>> ((1 : Int32) &&& 31).toUInt32).toInt32) &&& (63 : Int32)), rv b4, rv b6, iv v26_0, iv 1, iv 1, iv (if (¬ (((-1 : Int64) &&& ((1 : Int64) <<< ((((lo + (64 : Int32)) + (((x1.toUInt32 >>> ((1 : Int32) &&& 31).toUInt32).toInt32) &&& (63 : Int32))) - lo) &&& 0x3f).toInt64)) = (0 : Int64))) then (1 : Int32) else (0 : Int32)), lv (((x3.toInt64) <<< ((32 : Int32) &&& 0x3f).toInt64) ||| ((x4.toInt64) &&& (4294967295 : Int64))), .second, lv (((x1.toInt64) <<< ((32 : Int32) &&& 0x3f).toInt64) ||| ((x5.toInt64) &&& (4294967295 : Int64))), .second] [(.int x5), (.int ((((x1.toInt64) <<< ((32 : Int32) &&& 0x3f).toInt64) ||| ((x5.toInt64) &&& (4294967295 : Int64))).toInt32))])) _
      refine XS.icmpNo X54.here hx rfl (hb hby at_231) rfl (teq hc231_55).2 ?_
      refine XS.iconst X54.here hx rfl (hb hby at_234) ?_
      refine XS.goto X54.here hx rfl (pc0 := 235) (pc' := 239) rfl (hb hby at_235) (by decide) (by decide) ?_
      exact k)
    obtain ⟨fs, hr, hrun, hended, hend⟩ := X54.leaveW hS7 (by rw [e54]; exact hk46_) (v := some (.int 1)) (fun h => by rw [Bd.returns] at h; cases h)
    refine ⟨_, _, P56 _ ?_, hrun, hended, _, _, rfl, ?_, hend.1, hend.2.1, hend.2.2.1, hend.2.2.2.mono (by decide) (by decide)⟩
    · show Steps p.tables e below (T54.setTop (mkF m 239 #[iv x0, iv x1, lv x2, .second, iv x3, iv x4, iv x5, iv lo, iv 0, iv (((x1.toUInt32 >>> ((1 : Int32) &&& 31).toUInt32).toInt32) &&& (63 : Int32)), rv b4, rv b6, iv v26_0, iv 1, iv 1, iv (if (¬ (((-1 : Int64) &&& ((1 : Int64) <<< ((((lo + (64 : Int32)) + (((x1.toUInt32 >>> ((1 : Int32) &&& 31).toUInt32).toInt32) &&& (63 : Int32))) - lo) &&& 0x3f).toInt64)) = (0 : Int64))) then (1 : Int32) else (0 : Int32)), lv (((x3.toInt64) <<< ((32 : Int32) &&& 0x3f).toInt64) ||| ((x4.toInt64) &&& (4294967295 : Int64))), .second, lv (((x1.toInt64) <<< ((32 : Int32) &&& 0x3f).toInt64) ||| ((x5.toInt64) &&& (4294967295 : Int64))), .second] [(.int 1)])) _
      exact retN X54 hx (t := .boolean) Bd.returns (by simp) (hb hby at_239) hr
    · show Q0 Z x0 x1 x2 x3 x4 x5 va kv hi me lw de kd h0 n0 _ T54.heap _
      rw [e54]
      exact ⟨rfl, N54⟩
  · have P57 := own_go P21 (S' := T20.setTop (mkF m 51 #[iv x0, iv x1, lv x2, .second, iv x3, iv x4, iv x5, iv lo, iv 1, iv (((x1.toUInt32 >>> ((1 : Int32) &&& 31).toUInt32).toInt32) &&& (63 : Int32)), rv b4, rv b6, .unset, .unset, .unset, .unset, .unset, .unset, .unset, .unset] [])) (by
      intro t k
      rw [hm22]
      exact k)
    obtain ⟨cq58, kq58, q58a, q58b, q58c⟩ := isOf hZ7 rfl r20_0
    obtain ⟨_, _, ⟨T58, L58, k58, n58⟩, -, X58, ⟨Lc58, hQ58, l58, y58, z58⟩, st58⟩ := X20.virtualBack hx (y := (⟨"com/example/violarc/violarc/solver/IntVar", "restore", "(IJJ)V"⟩ : MethodName)) (z := (⟨"com/example/violarc/violarc/solver/IntVar", "restore", "(IJJ)V"⟩ : MethodName)) hown7 (mvT hZ7 (hw _ (im 188 rfl))) (mvT hZ7 (hw _ (im 189 rfl))) (notFace_of_selects (args := #[]) (mvT hZ7 (hw _ (im 191 rfl)))) (mvT hZ7 (hw _ (im 191 rfl))) (mvT hZ7 (hw _ (im 190 rfl))) (by decide) (backOf (W := 0) (rmrs1 l Z a0 hw [] b6 x2 (x2 ^^^ (-1 : Int64)) wa_20 kw_20 (-1 : Int64) (-1 : Int64) T20.heap n0 Z20_ r20_5 r20_6 r20_7) hZ7 (hw _ (im 192 rfl)) (hw _ (im 138 rfl)) (by decide) (by decide)) q58a q58c (g := (mkF m 61 #[iv x0, iv x1, lv x2, .second, iv x3, iv x4, iv x5, iv lo, iv 1, iv (((x1.toUInt32 >>> ((1 : Int32) &&& 31).toUInt32).toInt32) &&& (63 : Int32)), rv b4, rv b6, .unset, .unset, .unset, .unset, .unset, .unset, .unset, .unset] [(.long (x2 ^^^ (-1 : Int64))), (.long x2), (.int 1), (.ref b6)])) rfl (by rw [hml]; rfl) (Steps.refl _) (argsL := [(.int 1), (.long x2), (.long (x2 ^^^ (-1 : Int64)))]) (rest := []) (lenOf pd_9 rfl) rfl (by show 2 * 0 + _ ≤ _; exact Nat.le_of_eq rfl) (hb hby at_61) (fun _ _ => ⟨rfl, rfl, (by decide : 29 + 0 ≤ _), (by decide : 1286 + 0 ≤ _)⟩)
    dsimp only [Pt.U, Pt.locs, Pt.cells, Pt.slots] at X58 l58 y58 z58 st58 hQ58
    subst l58 y58 z58
    obtain ⟨rfl, N58q, K58, r58_0⟩ := hQ58
    have N58 := Fr.app N20 N58q
    have Z58_ : n0 ≤ T58.heap.size := Nat.le_trans Z20_ K58.1
    have hk58_ := Nat.le_trans hk20_ K58.1
    have O58_ := O20_.keep K58 (allS r20_7 all0)
    have P61 := own_go P57 (S' := T58.setTop (mkF m 72 #[iv x0, iv x1, lv x2, .second, iv x3, iv x4, iv x5, iv lo, iv 1, iv (((x1.toUInt32 >>> ((1 : Int32) &&& 31).toUInt32).toInt32) &&& (63 : Int32)), rv b4, rv b6, .unset, .unset, .unset, .unset, .unset, .unset, .unset, .unset] [(.int (lcmpW (((x2.toUInt64 >>> ((((x1.toUInt32 >>> ((1 : Int32) &&& 31).toUInt32).toInt32) &&& (63 : Int32)) &&& 0x3f).toInt64.toUInt64).toInt64) &&& (1 : Int64)) (0 : Int64)))])) (by
      intro t k
      refine XS.aload X20.here hx rfl (hb hby at_51) rfl rfl ?_
      refine XS.iload X20.here hx rfl (hb hby at_53) rfl ?_
      refine XS.lloadN X20.here hx rfl (hb hby at_55) rfl ?_
      refine XS.lloadN X20.here hx rfl (hb hby at_56) rfl ?_
      refine X20.ldc2Long hx hown7 (mvT hZ7 (hw _ (im 187 rfl))) (g := (mkF m 57 #[iv x0, iv x1, lv x2, .second, iv x3, iv x4, iv x5, iv lo, iv 1, iv (((x1.toUInt32 >>> ((1 : Int32) &&& 31).toUInt32).toInt32) &&& (63 : Int32)), rv b4, rv b6, .unset, .unset, .unset, .unset, .unset, .unset, .unset, .unset] [(.long x2), (.long x2), (.int 1), (.ref b6)])) rfl (hb hby at_57) _ ?_
      refine XS.lxor X20.here hx rfl (hb hby at_60) rfl ?_
      refine st58.trans ?_
      refine XS.lloadN X58.here hx rfl (hb hby at_64) rfl ?_
      show Steps p.tables e below (T58.setTop (mkF m 65 #[iv x0, iv x1, lv x2, .second, iv x3, iv x4, iv x5, iv lo, iv 1, iv (((x1.toUInt32 >>> ((1 : Int32) &&& 31).toUInt32).toInt32) &&& (63 : Int32)), rv b4, rv b6, .unset, .unset, .unset, .unset, .unset, .unset, .unset, .unset] [(.long x2)])) _
      refine XS.iload X58.here hx rfl (hb hby at_65) rfl ?_
      refine XS.lushr X58.here hx rfl (hb hby at_67) rfl ?_
      refine XS.lconst X58.here hx rfl (hb hby at_68) ?_
      refine XS.land X58.here hx rfl (hb hby at_69) rfl ?_
      refine XS.lconst X58.here hx rfl (hb hby at_70) ?_
      refine XS.lcmp X58.here hx rfl (hb hby at_71) rfl ?_
      exact k)
    obtain ⟨v60_0, hv60_0⟩ : ∃ z : Int32, z = (if (((x2.toUInt64 >>> ((((x1.toUInt32 >>> ((1 : Int32) &&& 31).toUInt32).toInt32) &&& (63 : Int32)) &&& 0x3f).toInt64.toUInt64).toInt64) &&& (1 : Int64)) = (0 : Int64) then (0 : Int32) else (1 : Int32)) := ⟨_, rfl⟩
    have P63 := own_go P61 (S' := T58.setTop (mkF m 80 #[iv x0, iv x1, lv x2, .second, iv x3, iv x4, iv x5, iv lo, iv 1, iv (((x1.toUInt32 >>> ((1 : Int32) &&& 31).toUInt32).toInt32) &&& (63 : Int32)), rv b4, rv b6, .unset, .unset, .unset, .unset, .unset, .unset, .unset, .unset] [(.int v60_0)])) (by
      intro t k
      by_cases hc72_62 : (((x2.toUInt64 >>> ((((x1.toUInt32 >>> ((1 : Int32) &&& 31).toUInt32).toInt32) &&& (63 : Int32)) &&& 0x3f).toInt64.toUInt64).toInt64) &&& (1 : Int64)) = (0 : Int64)
      · refine XS.ifYes X58.here hx rfl (pc0 := 72) (pc' := 79) rfl (hb hby at_72) rfl ((if0 _ _).trans (teq ((lw_eq (((x2.toUInt64 >>> ((((x1.toUInt32 >>> ((1 : Int32) &&& 31).toUInt32).toInt32) &&& (63 : Int32)) &&& 0x3f).toInt64.toUInt64).toInt64) &&& (1 : Int64)) (0 : Int64)).mpr hc72_62)).1) (by decide) (by decide) ?_
        refine XS.iconst X58.here hx rfl (hb hby at_79) ?_
        have q_v60_0 : v60_0 = (0 : Int32) := by rw [hv60_0, if_pos hc72_62]
        subst q_v60_0
        exact k
      · refine XS.ifNo X58.here hx rfl (hb hby at_72) rfl ((if0 _ _).trans (feq (fun q => hc72_62 ((lw_eq (((x2.toUInt64 >>> ((((x1.toUInt32 >>> ((1 : Int32) &&& 31).toUInt32).toInt32) &&& (63 : Int32)) &&& 0x3f).toInt64.toUInt64).toInt64) &&& (1 : Int64)) (0 : Int64)).mp q))).1) ?_
        refine XS.iconst X58.here hx rfl (hb hby at_75) ?_
        refine XS.goto X58.here hx rfl (pc0 := 76) (pc' := 80) rfl (hb hby at_76) (by decide) (by decide) ?_
        have q_v60_0 : v60_0 = (1 : Int32) := by rw [hv60_0, if_neg hc72_62]
        subst q_v60_0
        exact k)
    have q65 := (Nat.lt_of_lt_of_le A6.lt E7.1)
    have ne64 : b6 ≠ wa_20 := Nat.ne_of_lt (Nat.lt_of_lt_of_le q65 r20_8)
    have ni66 := (ninS ne64 nin0)
    have q67 := (r20_4.keep K58 ni66)
    have q69 := (r20_0.keep K58)
    obtain ⟨cq68, kq68, q68a, q68b, q68c⟩ := isOf hZ7 rfl q69
    obtain ⟨_, _, ⟨T68, L68, k68, n68⟩, -, X68, ⟨Lc68, hQ68, l68, y68, z68⟩, st68⟩ := X58.virtualBack hx (y := (⟨"com/example/violarc/violarc/solver/IntVar", "size", "()I"⟩ : MethodName)) (z := (⟨"com/example/violarc/violarc/solver/IntVar", "size", "()I"⟩ : MethodName)) hown7 (mvT hZ7 (hw _ (im 193 rfl))) (mvT hZ7 (hw _ (im 194 rfl))) (notFace_of_selects (args := #[]) (mvT hZ7 (hw _ (im 196 rfl)))) (mvT hZ7 (hw _ (im 196 rfl))) (mvT hZ7 (hw _ (im 195 rfl))) (by decide) (backOf (W := 0) (rm19 l Z a0 hw [] b6 (128 : Int32) T58.heap n0 Z58_ q67) hZ7 (hw _ (im 197 rfl)) (hw _ (im 138 rfl)) (by decide) (by decide)) q68a q68c (g := (mkF m 84 #[iv x0, iv x1, lv x2, .second, iv x3, iv x4, iv x5, iv lo, iv 1, iv (((x1.toUInt32 >>> ((1 : Int32) &&& 31).toUInt32).toInt32) &&& (63 : Int32)), rv b4, rv b6, iv v60_0, .unset, .unset, .unset, .unset, .unset, .unset, .unset] [(.ref b6)])) rfl (by rw [hml]; rfl) (Steps.refl _) (argsL := []) (rest := []) (lenOf pd_10 rfl) rfl (by show 2 * 0 + _ ≤ _; exact Nat.le_of_eq rfl) (hb hby at_84) (fun _ _ => ⟨rfl, rfl, (by decide : 29 + 0 ≤ _), (by decide : 1286 + 0 ≤ _)⟩)
    dsimp only [Pt.U, Pt.locs, Pt.cells, Pt.slots] at X68 l68 y68 z68 st68 hQ68
    subst l68 y68 z68
    obtain ⟨rfl, N68q, e68⟩ := hQ68
    have N68 := Fr.app N58 N68q
    have q71 := (r20_2.keep K58 ni66)
    have q72 := (r20_3.keep K58 ni66)
    have q73 := (r20_1.keep K58 ni66)
    have q74 := (r20_5.keep K58 ni66)
    obtain ⟨cq75, kq75, q75a, q75b, q75c⟩ := isOf hZ7 e68 q69
    obtain ⟨_, _, ⟨T75, L75, k75, n75⟩, -, X75, ⟨Lc75, hQ75, l75, y75, z75⟩, st75⟩ := X68.virtualBack hx (y := (⟨"com/example/violarc/violarc/solver/IntVar", "contains", "(I)Z"⟩ : MethodName)) (z := (⟨"com/example/violarc/violarc/solver/IntVar", "contains", "(I)Z"⟩ : MethodName)) hown7 (mvT hZ7 (hw _ (im 198 rfl))) (mvT hZ7 (hw _ (im 199 rfl))) (notFace_of_selects (args := #[]) (mvT hZ7 (hw _ (im 201 rfl)))) (mvT hZ7 (hw _ (im 201 rfl))) (mvT hZ7 (hw _ (im 200 rfl))) (by decide) (backOf (W := 0) (rmct1 l Z a0 hw [] b6 ((lo + (64 : Int32)) + (((x1.toUInt32 >>> ((1 : Int32) &&& 31).toUInt32).toInt32) &&& (63 : Int32))) lo (lo + (127 : Int32)) lo wa_20 kw_20 (-1 : Int64) x2 T58.heap n0 Z58_ q71 q72 q73 q74 r58_0 ((own_in1 _ _ (own_lob hlo) (own_k x1)).1) ((own_in1 _ _ (own_lob hlo) (own_k x1)).2.1) ((own_in1 _ _ (own_lob hlo) (own_k x1)).2.2.1)) hZ7 (hw _ (im 202 rfl)) (hw _ (im 138 rfl)) (by decide) (by decide)) q75a q75c (g := (mkF m 113 #[iv x0, iv x1, lv x2, .second, iv x3, iv x4, iv x5, iv lo, iv 1, iv (((x1.toUInt32 >>> ((1 : Int32) &&& 31).toUInt32).toInt32) &&& (63 : Int32)), rv b4, rv b6, iv v60_0, iv 1, .unset, .unset, .unset, .unset, .unset, .unset] [(.int ((lo + (64 : Int32)) + (((x1.toUInt32 >>> ((1 : Int32) &&& 31).toUInt32).toInt32) &&& (63 : Int32)))), (.ref b6)])) rfl (by rw [hml]; rfl) (Steps.refl _) (argsL := [(.int ((lo + (64 : Int32)) + (((x1.toUInt32 >>> ((1 : Int32) &&& 31).toUInt32).toInt32) &&& (63 : Int32))))]) (rest := []) (lenOf pd_11 rfl) rfl (by show 2 * 0 + _ ≤ _; exact Nat.le_of_eq rfl) (hb hby at_113) (fun _ _ => ⟨rfl, e68, (by decide : 29 + 0 ≤ _), (by decide : 1286 + 0 ≤ _)⟩)
    dsimp only [Pt.U, Pt.locs, Pt.cells, Pt.slots] at X75 l75 y75 z75 st75 hQ75
    subst l75 y75 z75
    obtain ⟨rfl, N75q, e75⟩ := hQ75
    have N75 := Fr.app N68 N75q
    have hc118_76 : (if (¬ ((x2 &&& ((1 : Int64) <<< ((((lo + (64 : Int32)) + (((x1.toUInt32 >>> ((1 : Int32) &&& 31).toUInt32).toInt32) &&& (63 : Int32))) - lo) &&& 0x3f).toInt64)) = (0 : Int64))) then (1 : Int32) else (0 : Int32)) = v60_0 := own_set x2 _ _ (own_k x1) (own_in1 _ _ (own_lob hlo) (own_k x1)).2.2.2 hv60_0
    have P77 := own_go P63 (S' := T75.setTop (mkF m 137 #[iv x0, iv x1, lv x2, .second, iv x3, iv x4, iv x5, iv lo, iv 1, iv (((x1.toUInt32 >>> ((1 : Int32) &&& 31).toUInt32).toInt32) &&& (63 : Int32)), rv b4, rv b6, iv v60_0, iv 1, iv 1, .unset, .unset, .unset, .unset, .unset] [(.int 1), (.int 1), (.int 64), (.int lo), (.ref b6)])) (by
      intro t k
      refine XS.istore X58.here hx rfl (hb hby at_80) rfl (l' := #[iv x0, iv x1, lv x2, .second, iv x3, iv x4, iv x5, iv lo, iv 1, iv (((x1.toUInt32 >>> ((1 : Int32) &&& 31).toUInt32).toInt32) &&& (63 : Int32)), rv b4, rv b6, iv v60_0, .unset, .unset, .unset, .unset, .unset, .unset, .unset]) rfl ?_
      refine XS.aload X58.here hx rfl (hb hby at_82) rfl rfl ?_
      refine st68.trans ?_
      refine XS.sipush X68.here hx rfl (hb hby at_87) ?_
      refine XS.icmpNo X68.here hx rfl (hb hby at_90) rfl (teq (by decide)).2 ?_
      refine XS.iconst X68.here hx rfl (hb hby at_93) ?_
      refine XS.goto X68.here hx rfl (pc0 := 94) (pc' := 98) rfl (hb hby at_94) (by decide) (by decide) ?_
      refine XS.istore X68.here hx rfl (hb hby at_98) rfl (l' := #[iv x0, iv x1, lv x2, .second, iv x3, iv x4, iv x5, iv lo, iv 1, iv (((x1.toUInt32 >>> ((1 : Int32) &&& 31).toUInt32).toInt32) &&& (63 : Int32)), rv b4, rv b6, iv v60_0, iv 1, .unset, .unset, .unset, .unset, .unset, .unset]) rfl ?_
      show Steps p.tables e below (T68.setTop (mkF m 100 #[iv x0, iv x1, lv x2, .second, iv x3, iv x4, iv x5, iv lo, iv 1, iv (((x1.toUInt32 >>> ((1 : Int32) &&& 31).toUInt32).toInt32) &&& (63 : Int32)), rv b4, rv b6, iv v60_0, iv 1, .unset, .unset, .unset, .unset, .unset, .unset] [])) _
      refine XS.aload X68.here hx rfl (hb hby at_100) rfl rfl ?_
      refine XS.iload X68.here hx rfl (hb hby at_102) rfl ?_
      refine XS.bipush X68.here hx rfl (hb hby at_104) ?_
      refine XS.iload X68.here hx rfl (hb hby at_106) rfl ?_
      refine XS.imul X68.here hx rfl (hb hby at_108) rfl ?_
      refine XS.iadd X68.here hx rfl (hb hby at_109) rfl ?_
      refine XS.iload X68.here hx rfl (hb hby at_110) rfl ?_
      refine XS.iadd X68.here hx rfl (hb hby at_112) rfl ?_
      show Steps p.tables e below (T68.setTop (mkF m 113 #[iv x0, iv x1, lv x2, .second, iv x3, iv x4, iv x5, iv lo, iv 1, iv (((x1.toUInt32 >>> ((1 : Int32) &&& 31).toUInt32).toInt32) &&& (63 : Int32)), rv b4, rv b6, iv v60_0, iv 1, .unset, .unset, .unset, .unset, .unset, .unset] [(.int ((lo + (64 : Int32)) + (((x1.toUInt32 >>> ((1 : Int32) &&& 31).toUInt32).toInt32) &&& (63 : Int32)))), (.ref b6)])) _
      refine st75.trans ?_
      refine XS.iload X75.here hx rfl (hb hby at_116) rfl ?_
      refine XS.icmpNo X75.here hx rfl (hb hby at_118) rfl (teq hc118_76).2 ?_
      refine XS.iconst X75.here hx rfl (hb hby at_121) ?_
      refine XS.goto X75.here hx rfl (pc0 := 122) (pc' := 126) rfl (hb hby at_122) (by decide) (by decide) ?_
      refine XS.istore X75.here hx rfl (hb hby at_126) rfl (l' := #[iv x0, iv x1, lv x2, .second, iv x3, iv x4, iv x5, iv lo, iv 1, iv (((x1.toUInt32 >>> ((1 : Int32) &&& 31).toUInt32).toInt32) &&& (63 : Int32)), rv b4, rv b6, iv v60_0, iv 1, iv 1, .unset, .unset, .unset, .unset, .unset]) rfl ?_
      refine XS.aload X75.here hx rfl (hb hby at_128) rfl rfl ?_
      refine XS.iload X75.here hx rfl (hb hby at_130) rfl ?_
      show Steps p.tables e below (T75.setTop (mkF m 132 #[iv x0, iv x1, lv x2, .second, iv x3, iv x4, iv x5, iv lo, iv 1, iv (((x1.toUInt32 >>> ((1 : Int32) &&& 31).toUInt32).toInt32) &&& (63 : Int32)), rv b4, rv b6, iv v60_0, iv 1, iv 1, .unset, .unset, .unset, .unset, .unset] [(.int lo), (.ref b6)])) _
      refine XS.bipush X75.here hx rfl (hb hby at_132) ?_
      refine XS.iconst X75.here hx rfl (hb hby at_134) ?_
      refine XS.iload X75.here hx rfl (hb hby at_135) rfl ?_
      exact k)
    obtain ⟨cq78, kq78, q78a, q78b, q78c⟩ := isOf hZ7 e75 q69
    obtain ⟨_, _, ⟨T78, L78, k78, n78⟩, -, X78, ⟨Lc78, hQ78, l78, y78, z78⟩, st78⟩ := X75.virtualBack hx (y := (⟨"com/example/violarc/violarc/solver/IntVar", "contains", "(I)Z"⟩ : MethodName)) (z := (⟨"com/example/violarc/violarc/solver/IntVar", "contains", "(I)Z"⟩ : MethodName)) hown7 (mvT hZ7 (hw _ (im 198 rfl))) (mvT hZ7 (hw _ (im 199 rfl))) (notFace_of_selects (args := #[]) (mvT hZ7 (hw _ (im 201 rfl)))) (mvT hZ7 (hw _ (im 201 rfl))) (mvT hZ7 (hw _ (im 200 rfl))) (by decide) (backOf (W := 0) (rmct0 l Z a0 hw [] b6 ((lo + (0 : Int32)) + (((x1.toUInt32 >>> ((1 : Int32) &&& 31).toUInt32).toInt32) &&& (63 : Int32))) lo (lo + (127 : Int32)) lo wa_20 kw_20 (-1 : Int64) x2 T58.heap n0 Z58_ q71 q72 q73 q74 r58_0 ((own_in0 _ _ (own_lob hlo) (own_k x1)).1) ((own_in0 _ _ (own_lob hlo) (own_k x1)).2.1) ((own_in0 _ _ (own_lob hlo) (own_k x1)).2.2.1)) hZ7 (hw _ (im 202 rfl)) (hw _ (im 138 rfl)) (by decide) (by decide)) q78a q78c (g := (mkF m 143 #[iv x0, iv x1, lv x2, .second, iv x3, iv x4, iv x5, iv lo, iv 1, iv (((x1.toUInt32 >>> ((1 : Int32) &&& 31).toUInt32).toInt32) &&& (63 : Int32)), rv b4, rv b6, iv v60_0, iv 1, iv 1, .unset, .unset, .unset, .unset, .unset] [(.int ((lo + (0 : Int32)) + (((x1.toUInt32 >>> ((1 : Int32) &&& 31).toUInt32).toInt32) &&& (63 : Int32)))), (.ref b6)])) rfl (by rw [hml]; rfl) (Steps.refl _) (argsL := [(.int ((lo + (0 : Int32)) + (((x1.toUInt32 >>> ((1 : Int32) &&& 31).toUInt32).toInt32) &&& (63 : Int32))))]) (rest := []) (lenOf pd_11 rfl) rfl (by show 2 * 0 + _ ≤ _; exact Nat.le_of_eq rfl) (hb hby at_143) (fun _ _ => ⟨rfl, e75, (by decide : 29 + 0 ≤ _), (by decide : 1286 + 0 ≤ _)⟩)
    dsimp only [Pt.U, Pt.locs, Pt.cells, Pt.slots] at X78 l78 y78 z78 st78 hQ78
    subst l78 y78 z78
    obtain ⟨rfl, N78q, e78⟩ := hQ78
    have N78 := Fr.app N75 N78q
    have P79 := own_go P77 (S' := T78.setTop (mkF m 176 #[iv x0, iv x1, lv x2, .second, iv x3, iv x4, iv x5, iv lo, iv 1, iv (((x1.toUInt32 >>> ((1 : Int32) &&& 31).toUInt32).toInt32) &&& (63 : Int32)), rv b4, rv b6, iv v60_0, iv 1, iv 1, iv (if (¬ (((-1 : Int64) &&& ((1 : Int64) <<< ((((lo + (0 : Int32)) + (((x1.toUInt32 >>> ((1 : Int32) &&& 31).toUInt32).toInt32) &&& (63 : Int32))) - lo) &&& 0x3f).toInt64)) = (0 : Int64))) then (1 : Int32) else (0 : Int32)), lv (((x3.toInt64) <<< ((32 : Int32) &&& 0x3f).toInt64) ||| ((x4.toInt64) &&& (4294967295 : Int64))), .second, .unset, .unset] [(.long ((x5.toInt64) &&& (4294967295 : Int64))), (.long ((x1.toInt64) <<< ((32 : Int32) &&& 0x3f).toInt64))])) (by
      intro t k
      refine XS.isub X75.here hx rfl (hb hby at_137) rfl ?_
      refine XS.imul X75.here hx rfl (hb hby at_138) rfl ?_
      refine XS.iadd X75.here hx rfl (hb hby at_139) rfl ?_
      refine XS.iload X75.here hx rfl (hb hby at_140) rfl ?_
      refine XS.iadd X75.here hx rfl (hb hby at_142) rfl ?_
      refine st78.trans ?_
      refine XS.istore X78.here hx rfl (hb hby at_146) rfl (l' := #[iv x0, iv x1, lv x2, .second, iv x3, iv x4, iv x5, iv lo, iv 1, iv (((x1.toUInt32 >>> ((1 : Int32) &&& 31).toUInt32).toInt32) &&& (63 : Int32)), rv b4, rv b6, iv v60_0, iv 1, iv 1, iv (if (¬ (((-1 : Int64) &&& ((1 : Int64) <<< ((((lo + (0 : Int32)) + (((x1.toUInt32 >>> ((1 : Int32) &&& 31).toUInt32).toInt32) &&& (63 : Int32))) - lo) &&& 0x3f).toInt64)) = (0 : Int64))) then (1 : Int32) else (0 : Int32)), .unset, .unset, .unset, .unset]) rfl ?_
      refine XS.iload X78.here hx rfl (hb hby at_148) rfl ?_
      show Steps p.tables e below (T78.setTop (mkF m 150 #[iv x0, iv x1, lv x2, .second, iv x3, iv x4, iv x5, iv lo, iv 1, iv (((x1.toUInt32 >>> ((1 : Int32) &&& 31).toUInt32).toInt32) &&& (63 : Int32)), rv b4, rv b6, iv v60_0, iv 1, iv 1, iv (if (¬ (((-1 : Int64) &&& ((1 : Int64) <<< ((((lo + (0 : Int32)) + (((x1.toUInt32 >>> ((1 : Int32) &&& 31).toUInt32).toInt32) &&& (63 : Int32))) - lo) &&& 0x3f).toInt64)) = (0 : Int64))) then (1 : Int32) else (0 : Int32)), .unset, .unset, .unset, .unset] [(.int x3)])) _
      refine XS.i2l X78.here hx rfl (hb hby at_150) rfl ?_
      refine XS.bipush X78.here hx rfl (hb hby at_151) ?_
      refine XS.lshl X78.here hx rfl (hb hby at_153) rfl ?_
      refine XS.iload X78.here hx rfl (hb hby at_154) rfl ?_
      refine XS.i2l X78.here hx rfl (hb hby at_156) rfl ?_
      refine X78.ldc2Long hx hown7 (mvT hZ7 (hw _ (im 203 rfl))) (g := (mkF m 157 #[iv x0, iv x1, lv x2, .second, iv x3, iv x4, iv x5, iv lo, iv 1, iv (((x1.toUInt32 >>> ((1 : Int32) &&& 31).toUInt32).toInt32) &&& (63 : Int32)), rv b4, rv b6, iv v60_0, iv 1, iv 1, iv (if (¬ (((-1 : Int64) &&& ((1 : Int64) <<< ((((lo + (0 : Int32)) + (((x1.toUInt32 >>> ((1 : Int32) &&& 31).toUInt32).toInt32) &&& (63 : Int32))) - lo) &&& 0x3f).toInt64)) = (0 : Int64))) then (1 : Int32) else (0 : Int32)), .unset, .unset, .unset, .unset] [(.long (x4.toInt64)), (.long ((x3.toInt64) <<< ((32 : Int32) &&& 0x3f).toInt64))])) rfl (hb hby at_157) _ ?_
      refine XS.land X78.here hx rfl (hb hby at_160) rfl ?_
      refine XS.lor X78.here hx rfl (hb hby at_161) rfl ?_
      show Steps p.tables e below (T78.setTop (mkF m 162 #[iv x0, iv x1, lv x2, .second, iv x3, iv x4, iv x5, iv lo, iv 1, iv (((x1.toUInt32 >>> ((1 : Int32) &&& 31).toUInt32).toInt32) &&& (63 : Int32)), rv b4, rv b6, iv v60_0, iv 1, iv 1, iv (if (¬ (((-1 : Int64) &&& ((1 : Int64) <<< ((((lo + (0 : Int32)) + (((x1.toUInt32 >>> ((1 : Int32) &&& 31).toUInt32).toInt32) &&& (63 : Int32))) - lo) &&& 0x3f).toInt64)) = (0 : Int64))) then (1 : Int32) else (0 : Int32)), .unset, .unset, .unset, .unset] [(.long (((x3.toInt64) <<< ((32 : Int32) &&& 0x3f).toInt64) ||| ((x4.toInt64) &&& (4294967295 : Int64))))])) _
      refine XS.lstore X78.here hx rfl (hb hby at_162) rfl (l' := #[iv x0, iv x1, lv x2, .second, iv x3, iv x4, iv x5, iv lo, iv 1, iv (((x1.toUInt32 >>> ((1 : Int32) &&& 31).toUInt32).toInt32) &&& (63 : Int32)), rv b4, rv b6, iv v60_0, iv 1, iv 1, iv (if (¬ (((-1 : Int64) &&& ((1 : Int64) <<< ((((lo + (0 : Int32)) + (((x1.toUInt32 >>> ((1 : Int32) &&& 31).toUInt32).toInt32) &&& (63 : Int32))) - lo) &&& 0x3f).toInt64)) = (0 : Int64))) then (1 : Int32) else (0 : Int32)), lv (((x3.toInt64) <<< ((32 : Int32) &&& 0x3f).toInt64) ||| ((x4.toInt64) &&& (4294967295 : Int64))), .second, .unset, .unset]) rfl ?_
      refine XS.iloadN X78.here hx rfl (hb hby at_164) rfl ?_
      refine XS.i2l X78.here hx rfl (hb hby at_165) rfl ?_
      refine XS.bipush X78.here hx rfl (hb hby at_166) ?_
      refine XS.lshl X78.here hx rfl (hb hby at_168) rfl ?_
      refine XS.iload X78.here hx rfl (hb hby at_169) rfl ?_
      refine XS.i2l X78.here hx rfl (hb hby at_171) rfl ?_
      refine X78.ldc2Long hx hown7 (mvT hZ7 (hw _ (im 203 rfl))) (g := (mkF m 172 #[iv x0, iv x1, lv x2, .second, iv x3, iv x4, iv x5, iv lo, iv 1, iv (((x1.toUInt32 >>> ((1 : Int32) &&& 31).toUInt32).toInt32) &&& (63 : Int32)), rv b4, rv b6, iv v60_0, iv 1, iv 1, iv (if (¬ (((-1 : Int64) &&& ((1 : Int64) <<< ((((lo + (0 : Int32)) + (((x1.toUInt32 >>> ((1 : Int32) &&& 31).toUInt32).toInt32) &&& (63 : Int32))) - lo) &&& 0x3f).toInt64)) = (0 : Int64))) then (1 : Int32) else (0 : Int32)), lv (((x3.toInt64) <<< ((32 : Int32) &&& 0x3f).toInt64) ||| ((x4.toInt64) &&& (4294967295 : Int64))), .second, .unset, .unset] [(.long (x5.toInt64)), (.long ((x1.toInt64) <<< ((32 : Int32) &&& 0x3f).toInt64))])) rfl (hb hby at_172) _ ?_
      show Steps p.tables e below (T78.setTop (mkF m 175 #[iv x0, iv x1, lv x2, .second, iv x3, iv x4, iv x5, iv lo, iv 1, iv (((x1.toUInt32 >>> ((1 : Int32) &&& 31).toUInt32).toInt32) &&& (63 : Int32)), rv b4, rv b6, iv v60_0, iv 1, iv 1, iv (if (¬ (((-1 : Int64) &&& ((1 : Int64) <<< ((((lo + (0 : Int32)) + (((x1.toUInt32 >>> ((1 : Int32) &&& 31).toUInt32).toInt32) &&& (63 : Int32))) - lo) &&& 0x3f).toInt64)) = (0 : Int64))) then (1 : Int32) else (0 : Int32)), lv (((x3.toInt64) <<< ((32 : Int32) &&& 0x3f).toInt64) ||| ((x4.toInt64) &&& (4294967295 : Int64))), .second, .unset, .unset] [(.long 4294967295), (.long (x5.toInt64)), (.long ((x1.toInt64) <<< ((32 : Int32) &&& 0x3f).toInt64))])) _
      refine XS.land X78.here hx rfl (hb hby at_175) rfl ?_
      exact k)
    obtain ⟨cq80, kq80, q80a, q80b, q80c⟩ := isOf hZ7 e78 q69
    obtain ⟨_, _, ⟨T80, L80, k80, n80⟩, -, X80, ⟨Lc80, hQ80, l80, y80, z80⟩, st80⟩ := X78.virtualBack hx (y := (⟨"com/example/violarc/violarc/solver/IntVar", "restore", "(IJJ)V"⟩ : MethodName)) (z := (⟨"com/example/violarc/violarc/solver/IntVar", "restore", "(IJJ)V"⟩ : MethodName)) hown7 (mvT hZ7 (hw _ (im 188 rfl))) (mvT hZ7 (hw _ (im 189 rfl))) (notFace_of_selects (args := #[]) (mvT hZ7 (hw _ (im 191 rfl)))) (mvT hZ7 (hw _ (im 191 rfl))) (mvT hZ7 (hw _ (im 190 rfl))) (by decide) (backOf (W := 0) (rmrsM l Z a0 hw [] b6 (((x3.toInt64) <<< ((32 : Int32) &&& 0x3f).toInt64) ||| ((x4.toInt64) &&& (4294967295 : Int64))) (((x1.toInt64) <<< ((32 : Int32) &&& 0x3f).toInt64) ||| ((x5.toInt64) &&& (4294967295 : Int64))) lo (lo + (127 : Int32)) (128 : Int32) T58.heap n0 Z58_ q69 q71 q72 q67 ge_b6) hZ7 (hw _ (im 192 rfl)) (hw _ (im 138 rfl)) (by decide) (by decide)) q80a q80c (g := (mkF m 186 #[iv x0, iv x1, lv x2, .second, iv x3, iv x4, iv x5, iv lo, iv 1, iv (((x1.toUInt32 >>> ((1 : Int32) &&& 31).toUInt32).toInt32) &&& (63 : Int32)), rv b4, rv b6, iv v60_0, iv 1, iv 1, iv (if (¬ (((-1 : Int64) &&& ((1 : Int64) <<< ((((lo + (0 : Int32)) + (((x1.toUInt32 >>> ((1 : Int32) &&& 31).toUInt32).toInt32) &&& (63 : Int32))) - lo) &&& 0x3f).toInt64)) = (0 : Int64))) then (1 : Int32) else (0 : Int32)), lv (((x3.toInt64) <<< ((32 : Int32) &&& 0x3f).toInt64) ||| ((x4.toInt64) &&& (4294967295 : Int64))), .second, lv (((x1.toInt64) <<< ((32 : Int32) &&& 0x3f).toInt64) ||| ((x5.toInt64) &&& (4294967295 : Int64))), .second] [(.long (((x1.toInt64) <<< ((32 : Int32) &&& 0x3f).toInt64) ||| ((x5.toInt64) &&& (4294967295 : Int64)))), (.long (((x3.toInt64) <<< ((32 : Int32) &&& 0x3f).toInt64) ||| ((x4.toInt64) &&& (4294967295 : Int64)))), (.int (-1)), (.ref b6)])) rfl (by rw [hml]; rfl) (Steps.refl _) (argsL := [(.int (-1)), (.long (((x3.toInt64) <<< ((32 : Int32) &&& 0x3f).toInt64) ||| ((x4.toInt64) &&& (4294967295 : Int64)))), (.long (((x1.toInt64) <<< ((32 : Int32) &&& 0x3f).toInt64) ||| ((x5.toInt64) &&& (4294967295 : Int64))))]) (rest := []) (lenOf pd_9 rfl) rfl (by show 2 * 0 + _ ≤ _; exact Nat.le_of_eq rfl) (hb hby at_186) (fun _ _ => ⟨rfl, e78, (by decide : 29 + 0 ≤ _), (by decide : 1286 + 0 ≤ _)⟩)
    dsimp only [Pt.U, Pt.locs, Pt.cells, Pt.slots] at X80 l80 y80 z80 st80 hQ80
    subst l80 y80 z80
    obtain ⟨rfl, N80q, K80, r80_0, r80_1, r80_2, r80_3⟩ := hQ80
    have N80 := Fr.app N78 N80q
    have Z80_ : n0 ≤ T80.heap.size := Nat.le_trans Z58_ K80.1
    have hk80_ := Nat.le_trans hk58_ K80.1
    have O80_ := O58_.keep K80 (allS ge_b6 all0)
    have hc201_83 : (¬ (((-1 : Int64) &&& ((1 : Int64) <<< ((((lo + (0 : Int32)) + (((x1.toUInt32 >>> ((1 : Int32) &&& 31).toUInt32).toInt32) &&& (63 : Int32))) - lo) &&& 0x3f).toInt64)) = (0 : Int64))) := own_all _ _ (own_k x1) (own_in0 _ _ (own_lob hlo) (own_k x1)).2.2.2
    obtain ⟨cq84, kq84, q84a, q84b, q84c⟩ := isOf hZ7 rfl r80_0
    obtain ⟨_, _, ⟨T84, L84, k84, n84⟩, -, X84, ⟨Lc84, hQ84, l84, y84, z84⟩, st84⟩ := X80.virtualBack hx (y := (⟨"com/example/violarc/violarc/solver/IntVar", "min", "()I"⟩ : MethodName)) (z := (⟨"com/example/violarc/violarc/solver/IntVar", "min", "()I"⟩ : MethodName)) hown7 (mvT hZ7 (hw _ (im 204 rfl))) (mvT hZ7 (hw _ (im 205 rfl))) (notFace_of_selects (args := #[]) (mvT hZ7 (hw _ (im 207 rfl)))) (mvT hZ7 (hw _ (im 207 rfl))) (mvT hZ7 (hw _ (im 206 rfl))) (by decide) (backOf (W := 0) (rm21 l Z a0 hw [] b6 (((((x3.toInt64) <<< ((32 : Int32) &&& 0x3f).toInt64) ||| ((x4.toInt64) &&& (4294967295 : Int64))) >>> ((32 : Int32) &&& 0x3f).toInt64).toInt32) T80.heap n0 Z80_ r80_1) hZ7 (hw _ (im 208 rfl)) (hw _ (im 138 rfl)) (by decide) (by decide)) q84a q84c (g := (mkF m 206 #[iv x0, iv x1, lv x2, .second, iv x3, iv x4, iv x5, iv lo, iv 1, iv (((x1.toUInt32 >>> ((1 : Int32) &&& 31).toUInt32).toInt32) &&& (63 : Int32)), rv b4, rv b6, iv v60_0, iv 1, iv 1, iv (if (¬ (((-1 : Int64) &&& ((1 : Int64) <<< ((((lo + (0 : Int32)) + (((x1.toUInt32 >>> ((1 : Int32) &&& 31).toUInt32).toInt32) &&& (63 : Int32))) - lo) &&& 0x3f).toInt64)) = (0 : Int64))) then (1 : Int32) else (0 : Int32)), lv (((x3.toInt64) <<< ((32 : Int32) &&& 0x3f).toInt64) ||| ((x4.toInt64) &&& (4294967295 : Int64))), .second, lv (((x1.toInt64) <<< ((32 : Int32) &&& 0x3f).toInt64) ||| ((x5.toInt64) &&& (4294967295 : Int64))), .second] [(.ref b6)])) rfl (by rw [hml]; rfl) (Steps.refl _) (argsL := []) (rest := []) (lenOf pd_10 rfl) rfl (by show 2 * 0 + _ ≤ _; exact Nat.le_of_eq rfl) (hb hby at_206) (fun _ _ => ⟨rfl, rfl, (by decide : 29 + 0 ≤ _), (by decide : 1286 + 0 ≤ _)⟩)
    dsimp only [Pt.U, Pt.locs, Pt.cells, Pt.slots] at X84 l84 y84 z84 st84 hQ84
    subst l84 y84 z84
    obtain ⟨rfl, N84q, e84⟩ := hQ84
    have N84 := Fr.app N80 N84q
    have hc211_85 : (((((x3.toInt64) <<< ((32 : Int32) &&& 0x3f).toInt64) ||| ((x4.toInt64) &&& (4294967295 : Int64))) >>> ((32 : Int32) &&& 0x3f).toInt64).toInt32) = x3 := own_hi x3 x4
    obtain ⟨cq86, kq86, q86a, q86b, q86c⟩ := isOf hZ7 e84 r80_0
    obtain ⟨_, _, ⟨T86, L86, k86, n86⟩, -, X86, ⟨Lc86, hQ86, l86, y86, z86⟩, st86⟩ := X84.virtualBack hx (y := (⟨"com/example/violarc/violarc/solver/IntVar", "max", "()I"⟩ : MethodName)) (z := (⟨"com/example/violarc/violarc/solver/IntVar", "max", "()I"⟩ : MethodName)) hown7 (mvT hZ7 (hw _ (im 209 rfl))) (mvT hZ7 (hw _ (im 210 rfl))) (notFace_of_selects (args := #[]) (mvT hZ7 (hw _ (im 212 rfl)))) (mvT hZ7 (hw _ (im 212 rfl))) (mvT hZ7 (hw _ (im 211 rfl))) (by decide) (backOf (W := 0) (rm22 l Z a0 hw [] b6 ((((x3.toInt64) <<< ((32 : Int32) &&& 0x3f).toInt64) ||| ((x4.toInt64) &&& (4294967295 : Int64))).toInt32) T80.heap n0 Z80_ r80_2) hZ7 (hw _ (im 213 rfl)) (hw _ (im 138 rfl)) (by decide) (by decide)) q86a q86c (g := (mkF m 216 #[iv x0, iv x1, lv x2, .second, iv x3, iv x4, iv x5, iv lo, iv 1, iv (((x1.toUInt32 >>> ((1 : Int32) &&& 31).toUInt32).toInt32) &&& (63 : Int32)), rv b4, rv b6, iv v60_0, iv 1, iv 1, iv (if (¬ (((-1 : Int64) &&& ((1 : Int64) <<< ((((lo + (0 : Int32)) + (((x1.toUInt32 >>> ((1 : Int32) &&& 31).toUInt32).toInt32) &&& (63 : Int32))) - lo) &&& 0x3f).toInt64)) = (0 : Int64))) then (1 : Int32) else (0 : Int32)), lv (((x3.toInt64) <<< ((32 : Int32) &&& 0x3f).toInt64) ||| ((x4.toInt64) &&& (4294967295 : Int64))), .second, lv (((x1.toInt64) <<< ((32 : Int32) &&& 0x3f).toInt64) ||| ((x5.toInt64) &&& (4294967295 : Int64))), .second] [(.ref b6)])) rfl (by rw [hml]; rfl) (Steps.refl _) (argsL := []) (rest := []) (lenOf pd_10 rfl) rfl (by show 2 * 0 + _ ≤ _; exact Nat.le_of_eq rfl) (hb hby at_216) (fun _ _ => ⟨rfl, e84, (by decide : 29 + 0 ≤ _), (by decide : 1286 + 0 ≤ _)⟩)
    dsimp only [Pt.U, Pt.locs, Pt.cells, Pt.slots] at X86 l86 y86 z86 st86 hQ86
    subst l86 y86 z86
    obtain ⟨rfl, N86q, e86⟩ := hQ86
    have N86 := Fr.app N84 N86q
    have hc221_87 : ((((x3.toInt64) <<< ((32 : Int32) &&& 0x3f).toInt64) ||| ((x4.toInt64) &&& (4294967295 : Int64))).toInt32) = x4 := own_low x3 x4
    obtain ⟨cq88, kq88, q88a, q88b, q88c⟩ := isOf hZ7 e86 r80_0
    obtain ⟨_, _, ⟨T88, L88, k88, n88⟩, -, X88, ⟨Lc88, hQ88, l88, y88, z88⟩, st88⟩ := X86.virtualBack hx (y := (⟨"com/example/violarc/violarc/solver/IntVar", "size", "()I"⟩ : MethodName)) (z := (⟨"com/example/violarc/violarc/solver/IntVar", "size", "()I"⟩ : MethodName)) hown7 (mvT hZ7 (hw _ (im 193 rfl))) (mvT hZ7 (hw _ (im 194 rfl))) (notFace_of_selects (args := #[]) (mvT hZ7 (hw _ (im 196 rfl)))) (mvT hZ7 (hw _ (im 196 rfl))) (mvT hZ7 (hw _ (im 195 rfl))) (by decide) (backOf (W := 0) (rm19 l Z a0 hw [] b6 ((((x1.toInt64) <<< ((32 : Int32) &&& 0x3f).toInt64) ||| ((x5.toInt64) &&& (4294967295 : Int64))).toInt32) T80.heap n0 Z80_ r80_3) hZ7 (hw _ (im 197 rfl)) (hw _ (im 138 rfl)) (by decide) (by decide)) q88a q88c (g := (mkF m 226 #[iv x0, iv x1, lv x2, .second, iv x3, iv x4, iv x5, iv lo, iv 1, iv (((x1.toUInt32 >>> ((1 : Int32) &&& 31).toUInt32).toInt32) &&& (63 : Int32)), rv b4, rv b6, iv v60_0, iv 1, iv 1, iv (if (¬ (((-1 : Int64) &&& ((1 : Int64) <<< ((((lo + (0 : Int32)) + (((x1.toUInt32 >>> ((1 : Int32) &&& 31).toUInt32).toInt32) &&& (63 : Int32))) - lo) &&& 0x3f).toInt64)) = (0 : Int64))) then (1 : Int32) else (0 : Int32)), lv (((x3.toInt64) <<< ((32 : Int32) &&& 0x3f).toInt64) ||| ((x4.toInt64) &&& (4294967295 : Int64))), .second, lv (((x1.toInt64) <<< ((32 : Int32) &&& 0x3f).toInt64) ||| ((x5.toInt64) &&& (4294967295 : Int64))), .second] [(.ref b6)])) rfl (by rw [hml]; rfl) (Steps.refl _) (argsL := []) (rest := []) (lenOf pd_10 rfl) rfl (by show 2 * 0 + _ ≤ _; exact Nat.le_of_eq rfl) (hb hby at_226) (fun _ _ => ⟨rfl, e86, (by decide : 29 + 0 ≤ _), (by decide : 1286 + 0 ≤ _)⟩)
    dsimp only [Pt.U, Pt.locs, Pt.cells, Pt.slots] at X88 l88 y88 z88 st88 hQ88
    subst l88 y88 z88
    obtain ⟨rfl, N88q, e88⟩ := hQ88
    have N88 := Fr.app N86 N88q
    have hc231_89 : ((((x1.toInt64) <<< ((32 : Int32) &&& 0x3f).toInt64) ||| ((x5.toInt64) &&& (4294967295 : Int64))).toInt32) = x5 := own_low x1 x5
    have P90 := own_go P79 (S' := T88.setTop (mkF m 239 #[iv x0, iv x1, lv x2, .second, iv x3, iv x4, iv x5, iv lo, iv 1, iv (((x1.toUInt32 >>> ((1 : Int32) &&& 31).toUInt32).toInt32) &&& (63 : Int32)), rv b4, rv b6, iv v60_0, iv 1, iv 1, iv (if (¬ (((-1 : Int64) &&& ((1 : Int64) <<< ((((lo + (0 : Int32)) + (((x1.toUInt32 >>> ((1 : Int32) &&& 31).toUInt32).toInt32) &&& (63 : Int32))) - lo) &&& 0x3f).toInt64)) = (0 : Int64))) then (1 : Int32) else (0 : Int32)), lv (((x3.toInt64) <<< ((32 : Int32) &&& 0x3f).toInt64) ||| ((x4.toInt64) &&& (4294967295 : Int64))), .second, lv (((x1.toInt64) <<< ((32 : Int32) &&& 0x3f).toInt64) ||| ((x5.toInt64) &&& (4294967295 : Int64))), .second] [(.int 1)])) (by
      intro t k
      refine XS.lor X78.here hx rfl (hb hby at_176) rfl ?_
      refine XS.lstore X78.here hx rfl (hb hby at_177) rfl (l' := #[iv x0, iv x1, lv x2, .second, iv x3, iv x4, iv x5, iv lo, iv 1, iv (((x1.toUInt32 >>> ((1 : Int32) &&& 31).toUInt32).toInt32) &&& (63 : Int32)), rv b4, rv b6, iv v60_0, iv 1, iv 1, iv (if (¬ (((-1 : Int64) &&& ((1 : Int64) <<< ((((lo + (0 : Int32)) + (((x1.toUInt32 >>> ((1 : Int32) &&& 31).toUInt32).toInt32) &&& (63 : Int32))) - lo) &&& 0x3f).toInt64)) = (0 : Int64))) then (1 : Int32) else (0 : Int32)), lv (((x3.toInt64) <<< ((32 : Int32) &&& 0x3f).toInt64) ||| ((x4.toInt64) &&& (4294967295 : Int64))), .second, lv (((x1.toInt64) <<< ((32 : Int32) &&& 0x3f).toInt64) ||| ((x5.toInt64) &&& (4294967295 : Int64))), .second]) rfl ?_
      refine XS.aload X78.here hx rfl (hb hby at_179) rfl rfl ?_
      refine XS.iconst X78.here hx rfl (hb hby at_181) ?_
      refine XS.lload X78.here hx rfl (hb hby at_182) rfl ?_
      refine XS.lload X78.here hx rfl (hb hby at_184) rfl ?_
      refine st80.trans ?_
      refine XS.iload X80.here hx rfl (hb hby at_189) rfl ?_
      show Steps p.tables e below (T80.setTop (mkF m 191 #[iv x0, iv x1, lv x2, .second, iv x3, iv x4, iv x5, iv lo, iv 1, iv (((x1.toUInt32 >>> ((1 : Int32) &&& 31).toUInt32).toInt32) &&& (63 : Int32)), rv b4, rv b6, iv v60_0, iv 1, iv 1, iv (if (¬ (((-1 : Int64) &&& ((1 : Int64) <<< ((((lo + (0 : Int32)) + (((x1.toUInt32 >>> ((1 : Int32) &&& 31).toUInt32).toInt32) &&& (63 : Int32))) - lo) &&& 0x3f).toInt64)) = (0 : Int64))) then (1 : Int32) else (0 : Int32)), lv (((x3.toInt64) <<< ((32 : Int32) &&& 0x3f).toInt64) ||| ((x4.toInt64) &&& (4294967295 : Int64))), .second, lv (((x1.toInt64) <<< ((32 : Int32) &&& 0x3f).toInt64) ||| ((x5.toInt64) &&& (4294967295 : Int64))), .second] [(.int 1)])) _
      refine XS.ifNo X80.here hx rfl (hb hby at_191) rfl ((if0 _ _).trans (feq (by decide)).1) ?_
      refine XS.iload X80.here hx rfl (hb hby at_194) rfl ?_
      refine XS.ifNo X80.here hx rfl (hb hby at_196) rfl ((if0 _ _).trans (feq (by decide)).1) ?_
      refine XS.iload X80.here hx rfl (hb hby at_199) rfl ?_
      refine XS.ifNo X80.here hx rfl (hb hby at_201) rfl ((if0 _ _).trans (feq (by rw [if_pos hc201_83]; decide)).1) ?_
      refine XS.aload X80.here hx rfl (hb hby at_204) rfl rfl ?_
      refine st84.trans ?_
      refine XS.iload X84.here hx rfl (hb hby at_209) rfl ?_
      show Steps p.tables e below (T84.setTop (mkF m 211 #[iv x0, iv x1, lv x2, .second, iv x3, iv x4, iv x5, iv lo, iv 1, iv (((x1.toUInt32 >>> ((1 : Int32) &&& 31).toUInt32).toInt32) &&& (63 : Int32)), rv b4, rv b6, iv v60_0, iv 1, iv 1, iv (if (¬ (((-1 : Int64) &&& ((1 : Int64) <<< ((((lo + (0 : Int32)) + (((x1.toUInt32 >>> ((1 : Int32) &&& 31).toUInt32).toInt32) &&& (63 : Int32))) - lo) &&& 0x3f).toInt64)) = (0 : Int64))) then (1 : Int32) else (0 : Int32)), lv (((x3.toInt64) <<< ((32 : Int32) &&& 0x3f).toInt64) ||| ((x4.toInt64) &&& (4294967295 : Int64))), .second, lv (((x1.toInt64) <<< ((32 : Int32) &&& 0x3f).toInt64) ||| ((x5.toInt64) &&& (4294967295 : Int64))), .second] [(.int x3), (.int (((((x3.toInt64) <<< ((32 : Int32) &&& 0x3f).toInt64) ||| ((x4.toInt64) &&& (4294967295 : Int64))) >>> ((32 : Int32) &&& 0x3f).toInt64).toInt32))])) _
      refine XS.icmpNo X84.here hx rfl (hb hby at_211) rfl (teq hc211_85).2 ?_
      refine XS.aload X84.here hx rfl (hb hby at_214) rfl rfl ?_
      refine st86.trans ?_
      refine XS.iload X86.here hx rfl (hb hby at_219) rfl ?_
      refine XS.icmpNo X86.here hx rfl (hb hby at_221) rfl (teq hc221_87).2 ?_
      refine XS.aload X86.here hx rfl (hb hby at_224) rfl rfl ?_
      refine st88.trans ?_
      refine XS.iload X88.here hx rfl (hb hby at_229) rfl ?_
      show Steps p.tables e below (T88.setTop (mkF m 231 #[iv x0, iv x1, lv x2, .second, iv x3, iv x4, iv x5, iv lo, iv 1, iv (((x1.toUInt32 >>> ((1 : Int32) &&& 31).toUInt32).toInt32) &&& (63 : Int32)), rv b4, rv b6, iv v60_0, iv 1, iv 1, iv (if (¬ (((-1 : Int64) &&& ((1 : Int64) <<< ((((lo + (0 : Int32)) + (((x1.toUInt32 >>> ((1 : Int32) &&& 31).toUInt32).toInt32) &&& (63 : Int32))) - lo) &&& 0x3f).toInt64)) = (0 : Int64))) then (1 : Int32) else (0 : Int32)), lv (((x3.toInt64) <<< ((32 : Int32) &&& 0x3f).toInt64) ||| ((x4.toInt64) &&& (4294967295 : Int64))), .second, lv (((x1.toInt64) <<< ((32 : Int32) &&& 0x3f).toInt64) ||| ((x5.toInt64) &&& (4294967295 : Int64))), .second] [(.int x5), (.int ((((x1.toInt64) <<< ((32 : Int32) &&& 0x3f).toInt64) ||| ((x5.toInt64) &&& (4294967295 : Int64))).toInt32))])) _
      refine XS.icmpNo X88.here hx rfl (hb hby at_231) rfl (teq hc231_89).2 ?_
      refine XS.iconst X88.here hx rfl (hb hby at_234) ?_
      refine XS.goto X88.here hx rfl (pc0 := 235) (pc' := 239) rfl (hb hby at_235) (by decide) (by decide) ?_
      exact k)
    obtain ⟨fs, hr, hrun, hended, hend⟩ := X88.leaveW hS7 (by rw [e88]; exact hk80_) (v := some (.int 1)) (fun h => by rw [Bd.returns] at h; cases h)
    refine ⟨_, _, P90 _ ?_, hrun, hended, _, _, rfl, ?_, hend.1, hend.2.1, hend.2.2.1, hend.2.2.2.mono (by decide) (by decide)⟩
    · show Steps p.tables e below (T88.setTop (mkF m 239 #[iv x0, iv x1, lv x2, .second, iv x3, iv x4, iv x5, iv lo, iv 1, iv (((x1.toUInt32 >>> ((1 : Int32) &&& 31).toUInt32).toInt32) &&& (63 : Int32)), rv b4, rv b6, iv v60_0, iv 1, iv 1, iv (if (¬ (((-1 : Int64) &&& ((1 : Int64) <<< ((((lo + (0 : Int32)) + (((x1.toUInt32 >>> ((1 : Int32) &&& 31).toUInt32).toInt32) &&& (63 : Int32))) - lo) &&& 0x3f).toInt64)) = (0 : Int64))) then (1 : Int32) else (0 : Int32)), lv (((x3.toInt64) <<< ((32 : Int32) &&& 0x3f).toInt64) ||| ((x4.toInt64) &&& (4294967295 : Int64))), .second, lv (((x1.toInt64) <<< ((32 : Int32) &&& 0x3f).toInt64) ||| ((x5.toInt64) &&& (4294967295 : Int64))), .second] [(.int 1)])) _
      exact retN X88 hx (t := .boolean) Bd.returns (by simp) (hb hby at_239) hr
    · show Q0 Z x0 x1 x2 x3 x4 x5 va kv hi me lw de kd h0 n0 _ T88.heap _
      rw [e88]
      exact ⟨rfl, N88⟩

set_option maxRecDepth 65536 in
set_option maxHeartbeats 40000000 in
theorem comes_1 {Post : Tables → Env → Array Value → State → Outcome → State → Prop} (hpost : ∀ tb e args s v u, (limb_1_1.after args s (.returned v) u = true ∧ limb_1_2.after args s (.returned v) u = true ∧ True) → ReturnedEndW s (.returned v) u (Jvm.fieldLocs frame_1_writes args s ++ Jvm.arrayLocs frame_1_arrays args s ++ Jvm.staticLocs frame_1_statics s) 64 3648 → Post tb e args s (.returned v) u) :
    ArmFor flags0 classFile x code maxLocals ret World_1 tables_1 room_1 Calls_1 rest_1 Pre_1 Post := by
  intro l hfl _ _ p e ha hc hk s m args below hf hA hF happ hP
  obtain ⟨hcalls, hrest, hpre⟩ := hP
  obtain ⟨-, -, -, hnamed, -, -, -, hat⟩ := (Spec.applies_iff hf).mp happ
  obtain ⟨hg, hn⟩ := and_e (Cond.before_iff.mp (show (Jvm.Cond.and given_1 narrow_1).before args s = true from hpre))
  obtain ⟨hcnt, hgs0⟩ := and_e hg
  obtain ⟨hk0, hgs1⟩ := and_e hgs0
  obtain ⟨hk1, hgs2⟩ := and_e hgs1
  obtain ⟨hk2, hgs3⟩ := and_e hgs2
  obtain ⟨hk3, hgs4⟩ := and_e hgs3
  obtain ⟨hk4, hgs5⟩ := and_e hgs4
  obtain ⟨w0, w1, w2, w3, w4, w5, rfl⟩ : ∃ w0 w1 w2 w3 w4 w5 : Value, args = #[w0, w1, w2, w3, w4, w5] := by
    have hs : args.size = 6 := by simpa [Cond.value, given_1] using hcnt
    obtain ⟨L⟩ := args
    match L, hs with
    | [w0, w1, w2, w3, w4, w5], _ => exact ⟨w0, w1, w2, w3, w4, w5, rfl⟩
  have hw := fun d (hd : d ∈ tables_1) => atoms_spec (ws := Jvm.Cond.code x code maxLocals ret :: tables_1) hat d (List.mem_cons_of_mem _ hd)
  have hfit : Fit s := fun {y c} hc i hi => by
    obtain ⟨ha, rfl⟩ := Array.getElem?_eq_some_iff.mp hc
    have q := List.all_eq_true.mp ((Array.all_eq_true_iff_forall_mem.mp hF) _ (Array.getElem_mem ha)) i (List.mem_range.mpr hi)
    simpa [Array.getElem?_eq_getElem hi] using q
  obtain ⟨hsets, hown0⟩ := atoms_of _ (rest_1_c_eq ▸ (show rest_1_c.before _ s = true from hrest))
  have hr0 := Cond.before_iff.mp hown0
  obtain ⟨i0, ei0⟩ := is_v hk0
  obtain rfl : w0 = (.int i0) := Option.some.inj ei0
  obtain ⟨i1, ei1⟩ := is_v hk1
  obtain rfl : w1 = (.int i1) := Option.some.inj ei1
  obtain ⟨i2, ei2⟩ := isL_v hk2
  obtain rfl : w2 = (.long i2) := Option.some.inj ei2
  obtain ⟨i3, ei3⟩ := is_v hk3
  obtain rfl : w3 = (.int i3) := Option.some.inj ei3
  obtain ⟨i4, ei4⟩ := is_v hk4
  obtain rfl : w4 = (.int i4) := Option.some.inj ei4
  obtain ⟨i5, ei5⟩ := is_v hgs5
  obtain rfl : w5 = (.int i5) := Option.some.inj ei5
  obtain ⟨n1, r1⟩ := and_e hn
  obtain ⟨n2, r2⟩ := and_e r1
  obtain ⟨n3, r3⟩ := and_e r2
  obtain ⟨n4, r4⟩ := and_e r3
  obtain ⟨n5, r5⟩ := and_e r4
  obtain ⟨n6, r6⟩ := and_e r5
  obtain ⟨n7, r7⟩ := and_e r6
  obtain ⟨n8, n9⟩ := and_e r7
  obtain ⟨va, eva⟩ := arr_v n1
  have SV_ : Sta s s.heap "com/example/violarc/violarc/solver/Propagator$Priority" "$VALUES" "[Lcom/example/violarc/violarc/solver/Propagator$Priority;" (.ref va) := Sta.start eva (Or.inr ⟨(hw _ (im 74 rfl)), (hw _ (im 77 rfl))⟩)
  have EV := Exa.start eva n2
  obtain ⟨cv, Acv⟩ := Arr.start eva n1
  have elv := eqv_i (Term.int_eval _) n3
  obtain ⟨lv1, lv2⟩ := own_len eva (Acv.fin (Vm.Alike.refl _)) elv
  obtain ⟨hi, ehi⟩ := exa_v n4
  obtain ⟨me, eme⟩ := exa_v n6
  obtain ⟨lw, elw⟩ := exa_v n8
  have q0 := own_elem eva (Acv.fin (Vm.Alike.refl _)) (by decide) (own_eqr ehi n5)
  have q1 := own_elem eva (Acv.fin (Vm.Alike.refl _)) (by decide) (own_eqr eme n7)
  have q2 := own_elem eva (Acv.fin (Vm.Alike.refl _)) (by decide) (own_eqr elw n9)
  have AV : Arv s s.heap va cv.cls (.object "com/example/violarc/violarc/solver/Propagator$Priority") (3 : Int32) [(.ref hi), (.ref me), (.ref lw)] .null := Arv.start hfit Acv lv1 lv2 (by decide) rfl ⟨q0, q1, q2, trivial⟩
  have hs6 := Cond.before_iff.mp (hsets _ (List.mem_of_getElem? (i := 6) rfl))
  have hs8 := Cond.before_iff.mp (hsets _ (List.mem_of_getElem? (i := 8) rfl))
  obtain ⟨de, ede⟩ := arr_v hs6
  have SD_ : Sta s s.heap "java/util/ArrayList" "DEFAULTCAPACITY_EMPTY_ELEMENTDATA" "[Ljava/lang/Object;" (.ref de) := Sta.start ede (Or.inr ⟨(hw _ (im 41 rfl)), hsets _ (List.mem_of_getElem? (i := 2) rfl)⟩)
  obtain ⟨cd, Acd⟩ := Arr.start ede hs6
  have eld := eqv_i (Term.int_eval _) hs8
  obtain ⟨ld1, ld2⟩ := own_len ede (Acd.fin (Vm.Alike.refl _)) eld
  have AD_ : Arv s s.heap de cd.cls (.object "java/lang/Object") (0 : Int32) [] .null := Arv.start hfit Acd ld1 ld2 (by decide) rfl trivial
  obtain ⟨n, o, h1, h2, h3, _, L, rfl, ⟨rfl, N⟩, hq⟩ := rm0 l s _ hw tables_1 i0 i1 i2 i3 i4 i5 va cv.cls hi me lw de cd.cls s.heap s.heap.size (Nat.le_refl _) (Old.start s) SV_ EV AV SD_ AD_ p e ha hc hk s m _ below hf ((Spec.applies_iff_loose hf).mp happ).1 ⟨rfl, State.Warmed39.refl s, rfl⟩ trivial
  refine ⟨n, _, h1, h2, h3, hpost _ _ _ _ _ _ ⟨Cond.after_iff.mpr rfl, Cond.after_iff.mpr (eq_i res_at (Term.int_eval (1)) rfl), trivial⟩ ⟨hq.1, hq.2.1, hq.2.2.1, (hq.2.2.2.sift fun y hy => Or.inr (N y hy)).mono (by decide) (by decide)⟩⟩
theorem main_1_1 : Claimed_1_1 := comes_1 fun _ _ _ _ _ _ h hF => ⟨h.1, hF⟩
theorem main_1_2 : Claimed_1_2 := comes_1 fun _ _ _ _ _ _ h hF => ⟨h.2.1, hF⟩
end Jvm.Pilot.@@N@@
namespace Jvm.Pilot.@@N@@
open Jvm Jvm.ClassFile Sem Op Lib Jvm.Free Jvm.Stand Jvm.Pilot.@@N@@.Jvm.D
/-! MADE BY PROGRAM (witnessworld.py) out of the Statement's table words and the real class files: 39 classes; the members and pool entries that the words name. The judged class is class 1, her method 1. -/
namespace start1
open Jvm.ClassFile
def u (s : String) : CpInfo := .utf8 (stringToUtf16 s)
/-- a pool by its gaps: so many unusable entries, then the entry; so many at the end -/
def gap : Nat → List CpInfo → List CpInfo
  | 0, r => r
  | n + 1, r => .unusable :: gap n r
def poolList (es : List (Nat × CpInfo)) (last : Nat) : List CpInfo := es.foldr (fun e r => gap e.1 (e.2 :: r)) (gap last [])
def pool (es : List (Nat × CpInfo)) (last : Nat) : Array CpInfo := ⟨poolList es last⟩
def fileOf (pool : Array CpInfo) (this : Nat) (attrs : Array Attribute := #[]) (ms : Array MethodInfo := #[]) (fl : Nat := 33) (sup : Nat := 0) (ifs : Array Nat := #[]) (fds : Array FieldInfo := #[]) : ClassFile where
  minorVersion := 0
  majorVersion := 65
  constantPool := pool
  accessFlags := fl
  thisClass := this
  superClass := sup
  interfaces := ifs
  fields := fds
  methods := ms
  attributes := attrs
def plain (name : String) (sup : Option ClassId) : Class where
  name := name
  kind := .ordinary
  loader := none
  accessFlags := 33
  super := sup
  interfaces := #[]
  cf := none
  fields := #[]
  methods := #[]
  instanceTypes := #[]
  staticTypes := #[]
  resolved := #[]
  callSites := []
  init := .initialized
  statics := none
  mirror := none

def pool0 : Array CpInfo := pool [(5, u "<init>"), (0, u "()V"), (1, .class_ 10), (1, u "java/lang/Object"), (85, u "clone"), (0, u "()Ljava/lang/Object;")] 26

def k0c0 : Code := { maxStack := 0, maxLocals := 1, code := object_method_1_code, exceptionTable := #[], attributes := #[] }
def k0m0 : Method := { name := "<init>", desc := "()V", sig := { parameters := [], returnType := none }, accessFlags := 1, code := some k0c0 }
def k0m1 : Method := { name := "clone", desc := "()Ljava/lang/Object;", sig := { parameters := [], returnType := some (.object "java/lang/Object") }, accessFlags := 260, code := none }
/-- java/lang/Object -/
def k0 : Class := { plain "java/lang/Object" none with
  accessFlags := 33
  interfaces := #[]
  cf := some (fileOf pool0 8 #[] #[{ accessFlags := 1, nameIndex := 5, descriptorIndex := 6, attributes := #[] }, { accessFlags := 260, nameIndex := 96, descriptorIndex := 97, attributes := #[] }] 33 0 #[] #[])
  fields := #[]
  methods := #[k0m0, k0m1]
  instanceTypes := #[]
  staticTypes := #[]
  resolved := Array.replicate 124 none
  statics := none }

def pool1 : Array CpInfo := pool [(2, .class_ 4), (0, .nameAndType 5 6), (0, u "java/lang/Object"), (0, u "<init>"), (0, u "()V"), (2, .integer 2147483520), (0, .methodref 11 12), (0, .class_ 13), (0, .nameAndType 14 15), (0, u "java/lang/Math"), (0, u "min"), (0, u "(II)I"), (0, .class_ 17), (0, u "com/example/violarc/violarc/solver/Solver"), (0, .methodref 16 3), (0, .class_ 20), (0, u "com/example/violarc/violarc/solver/IntVar"), (0, .string 22), (0, u "x"), (0, .methodref 19 24), (0, .nameAndType 5 25), (0, u "(Lcom/example/violarc/violarc/solver/Solver;ILjava/lang/String;II)V"), (0, .long 18446744073709551615), (1, .methodref 19 29), (0, .nameAndType 30 31), (0, u "restore"), (0, u "(IJJ)V"), (0, .methodref 19 33), (0, .nameAndType 34 35), (0, u "size"), (0, u "()I"), (0, .methodref 19 37), (0, .nameAndType 38 39), (0, u "contains"), (0, u "(I)Z"), (0, .long 4294967295), (1, .methodref 19 43), (0, .nameAndType 14 35), (0, .methodref 19 45), (0, .nameAndType 46 35), (0, u "max"), (0, .class_ 48), (0, u "com/example/violarc/violarc/solver/IntVarRestorePinLaw"), (2, u "law"), (0, u "(IIJIII)Z")] 3

def k1m0 : Method := { name := "<init>", desc := "()V", sig := { parameters := [], returnType := none }, accessFlags := 1, code := none }
def k1c1 : Code := { maxStack := 8, maxLocals := 20, code := code, exceptionTable := #[], attributes := #[] }
def k1m1 : Method := { name := "law", desc := "(IIJIII)Z", sig := { parameters := [.int, .int, .long, .int, .int, .int], returnType := some .boolean }, accessFlags := 9, code := some k1c1 }
/-- com/example/violarc/violarc/solver/IntVarRestorePinLaw -/
def k1 : Class := { plain "com/example/violarc/violarc/solver/IntVarRestorePinLaw" (some 0) with
  accessFlags := 49
  interfaces := #[]
  cf := some (fileOf pool1 47 #[] #[{ accessFlags := 1, nameIndex := 5, descriptorIndex := 6, attributes := #[] }, { accessFlags := 9, nameIndex := 51, descriptorIndex := 52, attributes := #[] }] 49 2 #[] #[])
  fields := #[]
  methods := #[k1m0, k1m1]
  instanceTypes := #[]
  staticTypes := #[]
  resolved := Array.replicate 56 none
  statics := none }

def pool2 : Array CpInfo := pool [(1, .class_ 2), (0, u "java/lang/Math"), (1, .class_ 6), (1, u "java/lang/Object"), (0, u "<init>"), (0, u "()V"), (89, .class_ 100), (1, u "java/lang/Math$RandomNumberGeneratorHolder"), (71, u "negativeZeroFloatBits"), (0, u "J"), (2, u "negativeZeroDoubleBits"), (21, u "max"), (2, u "min"), (43, u "$assertionsDisabled"), (0, u "Z"), (88, u "(II)I"), (2, u "twoToTheDoubleScaleDown"), (0, u "D"), (4, u "twoToTheDoubleScaleUp"), (9, u "E"), (3, u "PI"), (2, u "TAU"), (2, u "DEGREES_TO_RADIANS"), (0, u "RADIANS_TO_DEGREES")] 94

def k2m0 : Method := { name := "<init>", desc := "()V", sig := { parameters := [], returnType := none }, accessFlags := 2, code := none }
def k2c1 : Code := { maxStack := 2, maxLocals := 2, code := jdk_29_method_65_code, exceptionTable := #[], attributes := #[] }
def k2m1 : Method := { name := "max", desc := "(II)I", sig := { parameters := [.int, .int], returnType := some .int }, accessFlags := 9, code := some k2c1 }
def k2c2 : Code := { maxStack := 2, maxLocals := 2, code := jdk_29_method_69_code, exceptionTable := #[], attributes := #[] }
def k2m2 : Method := { name := "min", desc := "(II)I", sig := { parameters := [.int, .int], returnType := some .int }, accessFlags := 9, code := some k2c2 }
/-- java/lang/Math -/
def k2 : Class := { plain "java/lang/Math" (some 0) with
  accessFlags := 49
  interfaces := #[]
  cf := some (fileOf pool2 1 #[.nestMembers #[98]] #[{ accessFlags := 2, nameIndex := 7, descriptorIndex := 8, attributes := #[] }, { accessFlags := 9, nameIndex := 198, descriptorIndex := 335, attributes := #[] }, { accessFlags := 9, nameIndex := 201, descriptorIndex := 335, attributes := #[] }] 49 4 #[] #[{ accessFlags := 25, nameIndex := 354, descriptorIndex := 339, attributes := #[] }, { accessFlags := 25, nameIndex := 358, descriptorIndex := 339, attributes := #[] }, { accessFlags := 25, nameIndex := 361, descriptorIndex := 339, attributes := #[] }, { accessFlags := 26, nameIndex := 364, descriptorIndex := 339, attributes := #[] }, { accessFlags := 26, nameIndex := 365, descriptorIndex := 339, attributes := #[] }, { accessFlags := 26, nameIndex := 172, descriptorIndex := 173, attributes := #[] }, { accessFlags := 26, nameIndex := 176, descriptorIndex := 173, attributes := #[] }, { accessFlags := 8, nameIndex := 344, descriptorIndex := 339, attributes := #[] }, { accessFlags := 8, nameIndex := 338, descriptorIndex := 339, attributes := #[] }, { accessFlags := 4120, nameIndex := 245, descriptorIndex := 246, attributes := #[] }])
  fields := #[{ name := "E", type := .double, accessFlags := 25, slot := 0, constantValue := 0 }, { name := "PI", type := .double, accessFlags := 25, slot := 1, constantValue := 0 }, { name := "TAU", type := .double, accessFlags := 25, slot := 2, constantValue := 0 }, { name := "DEGREES_TO_RADIANS", type := .double, accessFlags := 26, slot := 3, constantValue := 0 }, { name := "RADIANS_TO_DEGREES", type := .double, accessFlags := 26, slot := 4, constantValue := 0 }, { name := "negativeZeroFloatBits", type := .long, accessFlags := 26, slot := 5, constantValue := 0 }, { name := "negativeZeroDoubleBits", type := .long, accessFlags := 26, slot := 6, constantValue := 0 }, { name := "twoToTheDoubleScaleUp", type := .double, accessFlags := 8, slot := 7, constantValue := 0 }, { name := "twoToTheDoubleScaleDown", type := .double, accessFlags := 8, slot := 8, constantValue := 0 }, { name := "$assertionsDisabled", type := .boolean, accessFlags := 4120, slot := 9, constantValue := 0 }]
  methods := #[k2m0, k2m1, k2m2]
  instanceTypes := #[]
  staticTypes := #[.double, .double, .double, .double, .double, .long, .long, .double, .double, .boolean]
  resolved := Array.replicate 460 none
  statics := none }

def pool3 : Array CpInfo := pool [(1, .methodref 2 3), (0, .class_ 4), (0, .nameAndType 5 6), (0, u "java/lang/Object"), (0, u "<init>"), (0, u "()V"), (0, .class_ 8), (0, u "com/example/violarc/violarc/solver/Trail"), (0, .methodref 7 3), (0, .fieldref 11 12), (0, .class_ 13), (0, .nameAndType 14 15), (0, u "com/example/violarc/violarc/solver/Solver"), (0, u "trail"), (0, u "Lcom/example/violarc/violarc/solver/Trail;"), (0, .class_ 17), (0, u "java/util/ArrayList"), (0, .methodref 16 3), (0, .fieldref 11 20), (0, .nameAndType 21 22), (0, u "intVars"), (0, u "Ljava/util/List;"), (0, .fieldref 11 24), (0, .nameAndType 25 22), (0, u "intervalVars"), (0, .fieldref 11 27), (0, .nameAndType 28 22), (0, u "queues"), (2, .long 9223372036854775807), (1, .fieldref 11 34), (0, .nameAndType 35 36), (0, u "budget"), (0, u "J"), (0, .methodref 38 39), (0, .class_ 40), (0, .nameAndType 41 42), (0, u "com/example/violarc/violarc/solver/Propagator$Priority"), (0, u "values"), (0, u "()[Lcom/example/violarc/violarc/solver/Propagator$Priority;"), (0, .class_ 44), (0, u "java/util/ArrayDeque"), (0, .methodref 43 3), (0, .interfaceMethodref 47 48), (0, .class_ 49), (0, .nameAndType 50 51), (0, u "java/util/List"), (0, u "add"), (0, u "(Ljava/lang/Object;)Z"), (85, u "running"), (0, u "Lcom/example/violarc/violarc/solver/Propagator;"), (5, u "runs"), (10, u "start"), (40, u "RUNS_BETWEEN_CLOCKS"), (0, u "I")] 42

def k3c0 : Code := { maxStack := 3, maxLocals := 2, code := prog_143_method_1_code, exceptionTable := #[], attributes := #[] }
def k3m0 : Method := { name := "<init>", desc := "()V", sig := { parameters := [], returnType := none }, accessFlags := 1, code := some k3c0 }
/-- com/example/violarc/violarc/solver/Solver -/
def k3 : Class := { plain "com/example/violarc/violarc/solver/Solver" (some 0) with
  accessFlags := 49
  interfaces := #[]
  cf := some (fileOf pool3 11 #[] #[{ accessFlags := 1, nameIndex := 5, descriptorIndex := 6, attributes := #[] }] 49 2 #[] #[{ accessFlags := 26, nameIndex := 196, descriptorIndex := 197, attributes := #[] }, { accessFlags := 16, nameIndex := 14, descriptorIndex := 15, attributes := #[] }, { accessFlags := 18, nameIndex := 21, descriptorIndex := 22, attributes := #[] }, { accessFlags := 18, nameIndex := 25, descriptorIndex := 22, attributes := #[] }, { accessFlags := 18, nameIndex := 28, descriptorIndex := 22, attributes := #[] }, { accessFlags := 2, nameIndex := 137, descriptorIndex := 138, attributes := #[] }, { accessFlags := 2, nameIndex := 144, descriptorIndex := 36, attributes := #[] }, { accessFlags := 2, nameIndex := 155, descriptorIndex := 36, attributes := #[] }, { accessFlags := 2, nameIndex := 35, descriptorIndex := 36, attributes := #[] }])
  fields := #[{ name := "RUNS_BETWEEN_CLOCKS", type := .int, accessFlags := 26, slot := 0, constantValue := 0 }, { name := "trail", type := (.object "com/example/violarc/violarc/solver/Trail"), accessFlags := 16, slot := 0, constantValue := 0 }, { name := "intVars", type := (.object "java/util/List"), accessFlags := 18, slot := 1, constantValue := 0 }, { name := "intervalVars", type := (.object "java/util/List"), accessFlags := 18, slot := 2, constantValue := 0 }, { name := "queues", type := (.object "java/util/List"), accessFlags := 18, slot := 3, constantValue := 0 }, { name := "running", type := (.object "com/example/violarc/violarc/solver/Propagator"), accessFlags := 2, slot := 4, constantValue := 0 }, { name := "runs", type := .long, accessFlags := 2, slot := 5, constantValue := 0 }, { name := "start", type := .long, accessFlags := 2, slot := 6, constantValue := 0 }, { name := "budget", type := .long, accessFlags := 2, slot := 7, constantValue := 0 }]
  methods := #[k3m0]
  instanceTypes := #[(.object "com/example/violarc/violarc/solver/Trail"), (.object "java/util/List"), (.object "java/util/List"), (.object "java/util/List"), (.object "com/example/violarc/violarc/solver/Propagator"), .long, .long, .long]
  staticTypes := #[.int]
  resolved := Array.replicate 240 none
  statics := none }

def pool4 : Array CpInfo := pool [(1, .methodref 2 3), (0, .class_ 4), (0, .nameAndType 5 6), (0, u "java/lang/Object"), (0, u "<init>"), (0, u "()V"), (0, .class_ 8), (0, u "com/example/violarc/violarc/solver/Trailed"), (0, .fieldref 10 11), (0, .class_ 12), (0, .nameAndType 13 14), (0, u "com/example/violarc/violarc/solver/Trail"), (0, u "owners"), (0, u "[Lcom/example/violarc/violarc/solver/Trailed;"), (0, .fieldref 10 16), (0, .nameAndType 17 18), (0, u "slots"), (0, u "[I"), (0, .fieldref 10 20), (0, .nameAndType 21 22), (0, u "firsts"), (0, u "[J"), (0, .fieldref 10 24), (0, .nameAndType 25 22), (0, u "seconds"), (0, .fieldref 10 27), (0, .nameAndType 28 18), (0, u "marks"), (0, .fieldref 10 30), (0, .nameAndType 31 22), (0, u "stamps"), (2, u "depth"), (0, u "I"), (2, u "size"), (15, u "stamp"), (0, u "J")] 23

def k4c0 : Code := { maxStack := 2, maxLocals := 1, code := prog_146_method_1_code, exceptionTable := #[], attributes := #[] }
def k4m0 : Method := { name := "<init>", desc := "()V", sig := { parameters := [], returnType := none }, accessFlags := 0, code := some k4c0 }
/-- com/example/violarc/violarc/solver/Trail -/
def k4 : Class := { plain "com/example/violarc/violarc/solver/Trail" (some 0) with
  accessFlags := 48
  interfaces := #[]
  cf := some (fileOf pool4 10 #[] #[{ accessFlags := 0, nameIndex := 5, descriptorIndex := 6, attributes := #[] }] 48 2 #[] #[{ accessFlags := 2, nameIndex := 13, descriptorIndex := 14, attributes := #[] }, { accessFlags := 2, nameIndex := 17, descriptorIndex := 18, attributes := #[] }, { accessFlags := 2, nameIndex := 21, descriptorIndex := 22, attributes := #[] }, { accessFlags := 2, nameIndex := 25, descriptorIndex := 22, attributes := #[] }, { accessFlags := 2, nameIndex := 38, descriptorIndex := 35, attributes := #[] }, { accessFlags := 2, nameIndex := 28, descriptorIndex := 18, attributes := #[] }, { accessFlags := 2, nameIndex := 34, descriptorIndex := 35, attributes := #[] }, { accessFlags := 2, nameIndex := 54, descriptorIndex := 55, attributes := #[] }, { accessFlags := 2, nameIndex := 31, descriptorIndex := 22, attributes := #[] }])
  fields := #[{ name := "owners", type := (.array (.object "com/example/violarc/violarc/solver/Trailed")), accessFlags := 2, slot := 0, constantValue := 0 }, { name := "slots", type := (.array .int), accessFlags := 2, slot := 1, constantValue := 0 }, { name := "firsts", type := (.array .long), accessFlags := 2, slot := 2, constantValue := 0 }, { name := "seconds", type := (.array .long), accessFlags := 2, slot := 3, constantValue := 0 }, { name := "size", type := .int, accessFlags := 2, slot := 4, constantValue := 0 }, { name := "marks", type := (.array .int), accessFlags := 2, slot := 5, constantValue := 0 }, { name := "depth", type := .int, accessFlags := 2, slot := 6, constantValue := 0 }, { name := "stamp", type := .long, accessFlags := 2, slot := 7, constantValue := 0 }, { name := "stamps", type := (.array .long), accessFlags := 2, slot := 8, constantValue := 0 }]
  methods := #[k4m0]
  instanceTypes := #[(.array (.object "com/example/violarc/violarc/solver/Trailed")), (.array .int), (.array .long), (.array .long), .int, (.array .int), .int, .long, (.array .long)]
  staticTypes := #[]
  resolved := Array.replicate 79 none
  statics := none }

def pool5 : Array CpInfo := pool [(1, .methodref 2 3), (0, .class_ 4), (0, .nameAndType 5 6), (0, u "java/lang/Object"), (0, u "<init>"), (0, u "()V"), (0, .class_ 8), (0, u "com/example/violarc/violarc/solver/Trailed")] 11

def k5c0 : Code := { maxStack := 1, maxLocals := 1, code := prog_147_method_1_code, exceptionTable := #[], attributes := #[] }
def k5m0 : Method := { name := "<init>", desc := "()V", sig := { parameters := [], returnType := none }, accessFlags := 0, code := some k5c0 }
/-- com/example/violarc/violarc/solver/Trailed -/
def k5 : Class := { plain "com/example/violarc/violarc/solver/Trailed" (some 0) with
  accessFlags := 1056
  interfaces := #[]
  cf := some (fileOf pool5 7 #[] #[{ accessFlags := 0, nameIndex := 5, descriptorIndex := 6, attributes := #[] }] 1056 2 #[] #[])
  fields := #[]
  methods := #[k5m0]
  instanceTypes := #[]
  staticTypes := #[]
  resolved := Array.replicate 20 none
  statics := none }

def pool6 : Array CpInfo := pool [(8, .class_ 10), (1, u "java/lang/Iterable"), (24, .class_ 36), (0, u "java/lang/Object")] 25

/-- java/lang/Iterable -/
def k6 : Class := { plain "java/lang/Iterable" (some 0) with
  accessFlags := 1537
  interfaces := #[]
  cf := some (fileOf pool6 8 #[] #[] 1537 35 #[] #[])
  fields := #[]
  methods := #[]
  instanceTypes := #[]
  staticTypes := #[]
  resolved := Array.replicate 62 none
  statics := none }

def pool7 : Array CpInfo := pool [(10, .class_ 12), (1, u "java/util/Collection"), (47, .class_ 61), (0, u "java/lang/Object"), (0, .class_ 63), (0, u "java/lang/Iterable")] 51

/-- java/util/Collection -/
def k7 : Class := { plain "java/util/Collection" (some 0) with
  accessFlags := 1537
  interfaces := #[6]
  cf := some (fileOf pool7 10 #[] #[] 1537 60 #[62] #[])
  fields := #[]
  methods := #[]
  instanceTypes := #[]
  staticTypes := #[]
  resolved := Array.replicate 115 none
  statics := none }

def pool8 : Array CpInfo := pool [(1, .methodref 2 3), (0, .class_ 4), (0, .nameAndType 5 6), (0, u "java/lang/Object"), (0, u "<init>"), (0, u "()V"), (1, .class_ 10), (1, u "java/util/AbstractCollection"), (66, .class_ 78), (0, u "java/util/Collection")] 81

def k8c0 : Code := { maxStack := 1, maxLocals := 1, code := jdk_22_method_1_code, exceptionTable := #[], attributes := #[] }
def k8m0 : Method := { name := "<init>", desc := "()V", sig := { parameters := [], returnType := none }, accessFlags := 4, code := some k8c0 }
/-- java/util/AbstractCollection -/
def k8 : Class := { plain "java/util/AbstractCollection" (some 0) with
  accessFlags := 1057
  interfaces := #[7]
  cf := some (fileOf pool8 8 #[] #[{ accessFlags := 4, nameIndex := 5, descriptorIndex := 6, attributes := #[] }] 1057 2 #[77] #[])
  fields := #[]
  methods := #[k8m0]
  instanceTypes := #[]
  staticTypes := #[]
  resolved := Array.replicate 160 none
  statics := none }

def pool9 : Array CpInfo := pool [(8, .class_ 10), (1, u "java/util/SequencedCollection"), (15, .class_ 27), (0, u "java/lang/Object"), (0, .class_ 29), (0, u "java/util/Collection")] 27

/-- java/util/SequencedCollection -/
def k9 : Class := { plain "java/util/SequencedCollection" (some 0) with
  accessFlags := 1537
  interfaces := #[7]
  cf := some (fileOf pool9 8 #[] #[] 1537 26 #[28] #[])
  fields := #[]
  methods := #[]
  instanceTypes := #[]
  staticTypes := #[]
  resolved := Array.replicate 57 none
  statics := none }

def pool10 : Array CpInfo := pool [(8, .class_ 10), (1, u "java/util/List"), (49, u "add"), (3, u "(Ljava/lang/Object;)Z"), (38, .class_ 104), (0, u "java/lang/Object"), (15, .class_ 121), (0, u "java/util/SequencedCollection")] 129

def k10m0 : Method := { name := "add", desc := "(Ljava/lang/Object;)Z", sig := { parameters := [(.object "java/lang/Object")], returnType := some .boolean }, accessFlags := 1025, code := none }
/-- java/util/List -/
def k10 : Class := { plain "java/util/List" (some 0) with
  accessFlags := 1537
  interfaces := #[9]
  cf := some (fileOf pool10 8 #[] #[{ accessFlags := 1025, nameIndex := 60, descriptorIndex := 64, attributes := #[] }] 1537 103 #[120] #[])
  fields := #[]
  methods := #[k10m0]
  instanceTypes := #[]
  staticTypes := #[]
  resolved := Array.replicate 251 none
  statics := none }

def pool11 : Array CpInfo := pool [(1, .methodref 2 3), (0, .class_ 4), (0, .nameAndType 5 6), (0, u "java/util/AbstractCollection"), (0, u "<init>"), (0, u "()V"), (0, .fieldref 8 9), (0, .class_ 10), (0, .nameAndType 11 12), (0, u "java/util/AbstractList"), (0, u "modCount"), (0, u "I"), (64, .class_ 78), (0, u "java/util/AbstractList$Itr"), (3, .class_ 83), (0, u "java/util/AbstractList$ListItr"), (9, .class_ 94), (0, u "java/util/AbstractList$RandomAccessSubList"), (3, .class_ 99), (0, u "java/util/AbstractList$SubList"), (33, .class_ 134), (0, u "java/util/List"), (73, .class_ 209), (0, u "java/util/AbstractList$SubList$1"), (0, .class_ 211), (0, u "java/util/AbstractList$RandomAccessSpliterator")] 6

def k11c0 : Code := { maxStack := 2, maxLocals := 1, code := jdk_39_method_1_code, exceptionTable := #[], attributes := #[] }
def k11m0 : Method := { name := "<init>", desc := "()V", sig := { parameters := [], returnType := none }, accessFlags := 4, code := some k11c0 }
/-- java/util/AbstractList -/
def k11 : Class := { plain "java/util/AbstractList" (some 8) with
  accessFlags := 1057
  interfaces := #[10]
  cf := some (fileOf pool11 8 #[.nestMembers #[93, 98, 208, 210, 82, 77]] #[{ accessFlags := 4, nameIndex := 5, descriptorIndex := 6, attributes := #[] }] 1057 2 #[133] #[{ accessFlags := 132, nameIndex := 11, descriptorIndex := 12, attributes := #[] }])
  fields := #[{ name := "modCount", type := .int, accessFlags := 132, slot := 0, constantValue := 0 }]
  methods := #[k11m0]
  instanceTypes := #[.int]
  staticTypes := #[]
  resolved := Array.replicate 218 none
  statics := none }

def pool12 : Array CpInfo := pool [(1, .class_ 2), (0, u "java/util/RandomAccess"), (0, .class_ 4), (0, u "java/lang/Object")] 2

/-- java/util/RandomAccess -/
def k12 : Class := { plain "java/util/RandomAccess" (some 0) with
  accessFlags := 1537
  interfaces := #[]
  cf := some (fileOf pool12 1 #[] #[] 1537 3 #[] #[])
  fields := #[]
  methods := #[]
  instanceTypes := #[]
  staticTypes := #[]
  resolved := Array.replicate 7 none
  statics := none }

def pool13 : Array CpInfo := pool [(1, .class_ 2), (0, u "java/lang/Cloneable"), (0, .class_ 4), (0, u "java/lang/Object")] 2

/-- java/lang/Cloneable -/
def k13 : Class := { plain "java/lang/Cloneable" (some 0) with
  accessFlags := 1537
  interfaces := #[]
  cf := some (fileOf pool13 1 #[] #[] 1537 3 #[] #[])
  fields := #[]
  methods := #[]
  instanceTypes := #[]
  staticTypes := #[]
  resolved := Array.replicate 7 none
  statics := none }

def pool14 : Array CpInfo := pool [(1, .class_ 2), (0, u "java/io/Serializable"), (0, .class_ 4), (0, u "java/lang/Object")] 2

/-- java/io/Serializable -/
def k14 : Class := { plain "java/io/Serializable" (some 0) with
  accessFlags := 1537
  interfaces := #[]
  cf := some (fileOf pool14 1 #[] #[] 1537 3 #[] #[])
  fields := #[]
  methods := #[]
  instanceTypes := #[]
  staticTypes := #[]
  resolved := Array.replicate 7 none
  statics := none }

def pool15 : Array CpInfo := pool [(1, .methodref 2 3), (0, .class_ 4), (0, .nameAndType 5 6), (0, u "java/util/AbstractList"), (0, u "<init>"), (0, u "()V"), (0, .class_ 8), (0, u "java/lang/Object"), (0, .fieldref 10 11), (0, .class_ 12), (0, .nameAndType 13 14), (0, u "java/util/ArrayList"), (0, u "elementData"), (0, u "[Ljava/lang/Object;"), (2, u "EMPTY_ELEMENTDATA"), (21, .fieldref 10 40), (0, .nameAndType 41 14), (0, u "DEFAULTCAPACITY_EMPTY_ELEMENTDATA"), (5, u "()[Ljava/lang/Object;"), (0, .fieldref 10 49), (0, .nameAndType 50 51), (0, u "size"), (0, u "I"), (11, .fieldref 10 64), (0, .nameAndType 65 51), (0, u "modCount"), (3, .methodref 10 70), (0, .nameAndType 71 72), (0, u "grow"), (0, u "(I)[Ljava/lang/Object;"), (6, .methodref 80 81), (0, .class_ 82), (0, .nameAndType 83 84), (0, u "java/lang/Math"), (0, u "max"), (0, u "(II)I"), (11, u "(Ljava/lang/Object;)Z"), (32, .methodref 10 130), (0, .nameAndType 71 47), (0, .methodref 10 132), (0, .nameAndType 133 134), (0, u "add"), (0, u "(Ljava/lang/Object;[Ljava/lang/Object;I)V"), (13, .class_ 149), (0, u "java/util/List"), (112, .class_ 263), (0, u "java/util/ArrayList$ListItr"), (3, .class_ 268), (0, u "java/util/ArrayList$Itr"), (7, .class_ 277), (0, u "java/util/ArrayList$SubList"), (12, .class_ 291), (0, u "java/util/ArrayList$ArrayListSpliterator"), (37, .class_ 330), (0, u "java/util/RandomAccess"), (0, .class_ 332), (0, u "java/lang/Cloneable"), (0, .class_ 334), (0, u "java/io/Serializable"), (0, u "serialVersionUID"), (0, u "J"), (3, u "DEFAULT_CAPACITY"), (159, .class_ 501), (0, u "java/util/ArrayList$SubList$2"), (0, .class_ 503), (0, u "java/util/ArrayList$SubList$1")] 5

def k15c0 : Code := { maxStack := 2, maxLocals := 1, code := jdk_38_method_2_code, exceptionTable := #[], attributes := #[] }
def k15m0 : Method := { name := "<init>", desc := "()V", sig := { parameters := [], returnType := none }, accessFlags := 1, code := some k15c0 }
def k15c1 : Code := { maxStack := 4, maxLocals := 4, code := jdk_38_method_6_code, exceptionTable := #[], attributes := #[] }
def k15m1 : Method := { name := "grow", desc := "(I)[Ljava/lang/Object;", sig := { parameters := [.int], returnType := some (.array (.object "java/lang/Object")) }, accessFlags := 2, code := some k15c1 }
def k15c2 : Code := { maxStack := 3, maxLocals := 1, code := jdk_38_method_7_code, exceptionTable := #[], attributes := #[] }
def k15m2 : Method := { name := "grow", desc := "()[Ljava/lang/Object;", sig := { parameters := [], returnType := some (.array (.object "java/lang/Object")) }, accessFlags := 2, code := some k15c2 }
def k15c3 : Code := { maxStack := 3, maxLocals := 4, code := jdk_38_method_24_code, exceptionTable := #[], attributes := #[] }
def k15m3 : Method := { name := "add", desc := "(Ljava/lang/Object;[Ljava/lang/Object;I)V", sig := { parameters := [(.object "java/lang/Object"), (.array (.object "java/lang/Object")), .int], returnType := none }, accessFlags := 2, code := some k15c3 }
def k15c4 : Code := { maxStack := 4, maxLocals := 2, code := jdk_38_method_25_code, exceptionTable := #[], attributes := #[] }
def k15m4 : Method := { name := "add", desc := "(Ljava/lang/Object;)Z", sig := { parameters := [(.object "java/lang/Object")], returnType := some .boolean }, accessFlags := 1, code := some k15c4 }
/-- java/util/ArrayList -/
def k15 : Class := { plain "java/util/ArrayList" (some 11) with
  accessFlags := 33
  interfaces := #[10, 12, 13, 14]
  cf := some (fileOf pool15 10 #[.nestMembers #[290, 276, 500, 502, 262, 267]] #[{ accessFlags := 1, nameIndex := 5, descriptorIndex := 6, attributes := #[] }, { accessFlags := 2, nameIndex := 71, descriptorIndex := 72, attributes := #[] }, { accessFlags := 2, nameIndex := 71, descriptorIndex := 47, attributes := #[] }, { accessFlags := 2, nameIndex := 133, descriptorIndex := 134, attributes := #[] }, { accessFlags := 1, nameIndex := 133, descriptorIndex := 96, attributes := #[] }] 33 2 #[148, 329, 331, 333] #[{ accessFlags := 26, nameIndex := 335, descriptorIndex := 336, attributes := #[] }, { accessFlags := 26, nameIndex := 340, descriptorIndex := 51, attributes := #[] }, { accessFlags := 26, nameIndex := 17, descriptorIndex := 14, attributes := #[] }, { accessFlags := 26, nameIndex := 41, descriptorIndex := 14, attributes := #[] }, { accessFlags := 128, nameIndex := 13, descriptorIndex := 14, attributes := #[] }, { accessFlags := 2, nameIndex := 50, descriptorIndex := 51, attributes := #[] }])
  fields := #[{ name := "serialVersionUID", type := .long, accessFlags := 26, slot := 0, constantValue := 0 }, { name := "DEFAULT_CAPACITY", type := .int, accessFlags := 26, slot := 1, constantValue := 0 }, { name := "EMPTY_ELEMENTDATA", type := (.array (.object "java/lang/Object")), accessFlags := 26, slot := 2, constantValue := 0 }, { name := "DEFAULTCAPACITY_EMPTY_ELEMENTDATA", type := (.array (.object "java/lang/Object")), accessFlags := 26, slot := 3, constantValue := 0 }, { name := "elementData", type := (.array (.object "java/lang/Object")), accessFlags := 128, slot := 1, constantValue := 0 }, { name := "size", type := .int, accessFlags := 2, slot := 2, constantValue := 0 }]
  methods := #[k15m0, k15m1, k15m2, k15m3, k15m4]
  instanceTypes := #[.int, (.array (.object "java/lang/Object")), .int]
  staticTypes := #[.long, .int, (.array (.object "java/lang/Object")), (.array (.object "java/lang/Object"))]
  resolved := Array.replicate 509 none
  statics := some 0 }

def pool16 : Array CpInfo := pool [(1, .class_ 2), (0, u "java/lang/constant/Constable"), (0, .class_ 4), (0, u "java/lang/Object")] 6

/-- java/lang/constant/Constable -/
def k16 : Class := { plain "java/lang/constant/Constable" (some 0) with
  accessFlags := 1537
  interfaces := #[]
  cf := some (fileOf pool16 1 #[] #[] 1537 3 #[] #[])
  fields := #[]
  methods := #[]
  instanceTypes := #[]
  staticTypes := #[]
  resolved := Array.replicate 11 none
  statics := none }

def pool17 : Array CpInfo := pool [(1, .class_ 2), (0, u "java/lang/Comparable"), (0, .class_ 4), (0, u "java/lang/Object")] 7

/-- java/lang/Comparable -/
def k17 : Class := { plain "java/lang/Comparable" (some 0) with
  accessFlags := 1537
  interfaces := #[]
  cf := some (fileOf pool17 1 #[] #[] 1537 3 #[] #[])
  fields := #[]
  methods := #[]
  instanceTypes := #[]
  staticTypes := #[]
  resolved := Array.replicate 12 none
  statics := none }

def pool18 : Array CpInfo := pool [(2, .class_ 4), (1, u "java/lang/Enum"), (0, u "name"), (0, u "Ljava/lang/String;"), (2, u "ordinal"), (0, u "I"), (1, .class_ 14), (1, u "java/lang/Object"), (4, u "hash"), (86, .class_ 108), (1, u "java/lang/Enum$EnumDesc"), (2, .class_ 112), (0, u "java/lang/constant/Constable"), (0, .class_ 114), (0, u "java/lang/Comparable"), (0, .class_ 116), (0, u "java/io/Serializable")] 87

/-- java/lang/Enum -/
def k18 : Class := { plain "java/lang/Enum" (some 0) with
  accessFlags := 1057
  interfaces := #[16, 17, 14]
  cf := some (fileOf pool18 2 #[.nestMembers #[106]] #[] 1057 12 #[111, 113, 115] #[{ accessFlags := 18, nameIndex := 5, descriptorIndex := 6, attributes := #[] }, { accessFlags := 18, nameIndex := 9, descriptorIndex := 10, attributes := #[] }, { accessFlags := 2, nameIndex := 19, descriptorIndex := 10, attributes := #[] }])
  fields := #[{ name := "name", type := (.object "java/lang/String"), accessFlags := 18, slot := 0, constantValue := 0 }, { name := "ordinal", type := .int, accessFlags := 18, slot := 1, constantValue := 0 }, { name := "hash", type := .int, accessFlags := 2, slot := 2, constantValue := 0 }]
  methods := #[]
  instanceTypes := #[(.object "java/lang/String"), .int, .int]
  staticTypes := #[]
  resolved := Array.replicate 204 none
  statics := none }

def pool19 : Array CpInfo := pool [(1, .class_ 2), (0, u "com/example/violarc/violarc/solver/Propagator$Priority"), (2, u "HIGH"), (0, u "Lcom/example/violarc/violarc/solver/Propagator$Priority;"), (2, u "MEDIUM"), (2, u "LOW"), (0, .fieldref 1 14), (0, .nameAndType 15 16), (0, u "$VALUES"), (0, u "[Lcom/example/violarc/violarc/solver/Propagator$Priority;"), (0, .methodref 18 19), (0, .class_ 16), (0, .nameAndType 20 21), (0, u "clone"), (0, u "()Ljava/lang/Object;"), (1, .class_ 25), (1, u "java/lang/Enum"), (13, u "()[Lcom/example/violarc/violarc/solver/Propagator$Priority;"), (0, u "values"), (11, .class_ 53), (0, u "com/example/violarc/violarc/solver/Propagator")] 2

def k19c0 : Code := { maxStack := 1, maxLocals := 0, code := prog_132_method_1_code, exceptionTable := #[], attributes := #[] }
def k19m0 : Method := { name := "values", desc := "()[Lcom/example/violarc/violarc/solver/Propagator$Priority;", sig := { parameters := [], returnType := some (.array (.object "com/example/violarc/violarc/solver/Propagator$Priority")) }, accessFlags := 9, code := some k19c0 }
/-- com/example/violarc/violarc/solver/Propagator$Priority -/
def k19 : Class := { plain "com/example/violarc/violarc/solver/Propagator$Priority" (some 18) with
  accessFlags := 16433
  interfaces := #[]
  cf := some (fileOf pool19 1 #[.nestHost 52] #[{ accessFlags := 9, nameIndex := 40, descriptorIndex := 39, attributes := #[] }] 16433 23 #[] #[{ accessFlags := 16409, nameIndex := 5, descriptorIndex := 6, attributes := #[] }, { accessFlags := 16409, nameIndex := 9, descriptorIndex := 6, attributes := #[] }, { accessFlags := 16409, nameIndex := 12, descriptorIndex := 6, attributes := #[] }, { accessFlags := 4122, nameIndex := 15, descriptorIndex := 16, attributes := #[] }])
  fields := #[{ name := "HIGH", type := (.object "com/example/violarc/violarc/solver/Propagator$Priority"), accessFlags := 16409, slot := 0, constantValue := 0 }, { name := "MEDIUM", type := (.object "com/example/violarc/violarc/solver/Propagator$Priority"), accessFlags := 16409, slot := 1, constantValue := 0 }, { name := "LOW", type := (.object "com/example/violarc/violarc/solver/Propagator$Priority"), accessFlags := 16409, slot := 2, constantValue := 0 }, { name := "$VALUES", type := (.array (.object "com/example/violarc/violarc/solver/Propagator$Priority")), accessFlags := 4122, slot := 3, constantValue := 0 }]
  methods := #[k19m0]
  instanceTypes := #[(.object "java/lang/String"), .int, .int]
  staticTypes := #[(.object "com/example/violarc/violarc/solver/Propagator$Priority"), (.object "com/example/violarc/violarc/solver/Propagator$Priority"), (.object "com/example/violarc/violarc/solver/Propagator$Priority"), (.array (.object "com/example/violarc/violarc/solver/Propagator$Priority"))]
  resolved := Array.replicate 56 none
  statics := some 1 }

def pool20 : Array CpInfo := pool [(1, .class_ 2), (0, u "java/util/Queue"), (0, .class_ 4), (0, u "java/lang/Object"), (0, .class_ 6), (0, u "java/util/Collection")] 14

/-- java/util/Queue -/
def k20 : Class := { plain "java/util/Queue" (some 0) with
  accessFlags := 1537
  interfaces := #[7]
  cf := some (fileOf pool20 1 #[] #[] 1537 3 #[5] #[])
  fields := #[]
  methods := #[]
  instanceTypes := #[]
  staticTypes := #[]
  resolved := Array.replicate 21 none
  statics := none }

def pool21 : Array CpInfo := pool [(8, .class_ 10), (1, u "java/util/Deque"), (2, .class_ 14), (0, u "java/lang/Object"), (0, .class_ 16), (0, u "java/util/Queue"), (0, .class_ 18), (0, u "java/util/SequencedCollection")] 51

/-- java/util/Deque -/
def k21 : Class := { plain "java/util/Deque" (some 0) with
  accessFlags := 1537
  interfaces := #[20, 9]
  cf := some (fileOf pool21 8 #[] #[] 1537 13 #[15, 17] #[])
  fields := #[]
  methods := #[]
  instanceTypes := #[]
  staticTypes := #[]
  resolved := Array.replicate 70 none
  statics := none }

def pool22 : Array CpInfo := pool [(3, .fieldref 4 5), (0, .class_ 6), (0, .nameAndType 7 8), (0, u "java/util/ArrayDeque"), (0, u "elements"), (0, u "[Ljava/lang/Object;"), (13, u "tail"), (0, u "I"), (2, u "head"), (12, u "<init>"), (2, .methodref 43 44), (0, .class_ 45), (0, .nameAndType 39 46), (0, u "java/util/AbstractCollection"), (0, u "()V"), (0, .class_ 48), (0, u "java/lang/Object"), (82, .class_ 132), (0, u "java/util/ArrayDeque$DeqIterator"), (3, .class_ 137), (0, u "java/util/ArrayDeque$DescendingIterator"), (1, .class_ 140), (0, u "java/util/ArrayDeque$DeqSpliterator"), (137, .class_ 279), (0, u "java/util/Deque"), (0, .class_ 281), (0, u "java/lang/Cloneable"), (0, .class_ 283), (0, u "java/io/Serializable"), (0, u "MAX_ARRAY_SIZE"), (1, u "serialVersionUID"), (0, u "J")] 150

def k22c0 : Code := { maxStack := 2, maxLocals := 1, code := jdk_21_method_3_code, exceptionTable := #[], attributes := #[] }
def k22m0 : Method := { name := "<init>", desc := "()V", sig := { parameters := [], returnType := none }, accessFlags := 1, code := some k22c0 }
/-- java/util/ArrayDeque -/
def k22 : Class := { plain "java/util/ArrayDeque" (some 8) with
  accessFlags := 33
  interfaces := #[21, 13, 14]
  cf := some (fileOf pool22 4 #[.nestMembers #[139, 136, 131]] #[{ accessFlags := 1, nameIndex := 39, descriptorIndex := 46, attributes := #[] }] 33 43 #[278, 280, 282] #[{ accessFlags := 128, nameIndex := 7, descriptorIndex := 8, attributes := #[] }, { accessFlags := 128, nameIndex := 26, descriptorIndex := 23, attributes := #[] }, { accessFlags := 128, nameIndex := 22, descriptorIndex := 23, attributes := #[] }, { accessFlags := 26, nameIndex := 284, descriptorIndex := 23, attributes := #[] }, { accessFlags := 26, nameIndex := 286, descriptorIndex := 287, attributes := #[] }])
  fields := #[{ name := "elements", type := (.array (.object "java/lang/Object")), accessFlags := 128, slot := 0, constantValue := 0 }, { name := "head", type := .int, accessFlags := 128, slot := 1, constantValue := 0 }, { name := "tail", type := .int, accessFlags := 128, slot := 2, constantValue := 0 }, { name := "MAX_ARRAY_SIZE", type := .int, accessFlags := 26, slot := 0, constantValue := 0 }, { name := "serialVersionUID", type := .long, accessFlags := 26, slot := 1, constantValue := 0 }]
  methods := #[k22m0]
  instanceTypes := #[(.array (.object "java/lang/Object")), .int, .int]
  staticTypes := #[.int, .long]
  resolved := Array.replicate 438 none
  statics := none }

def pool23 : Array CpInfo := pool [(1, .methodref 2 3), (0, .class_ 4), (0, .nameAndType 5 6), (0, u "com/example/violarc/violarc/solver/Trailed"), (0, u "<init>"), (0, u "()V"), (0, .class_ 8), (0, u "com/example/violarc/violarc/solver/Propagator"), (0, .fieldref 10 11), (0, .class_ 12), (0, .nameAndType 13 14), (0, u "com/example/violarc/violarc/solver/Variable"), (0, u "watchers"), (0, u "[Lcom/example/violarc/violarc/solver/Propagator;"), (0, .fieldref 10 16), (0, .nameAndType 17 18), (0, u "masks"), (0, u "[I"), (3, .fieldref 10 23), (0, .nameAndType 24 25), (0, u "solver"), (0, u "Lcom/example/violarc/violarc/solver/Solver;"), (0, .fieldref 10 27), (0, .nameAndType 28 29), (0, u "name"), (0, u "Ljava/lang/String;"), (2, u "watching"), (0, u "I"), (16, u "DOMAIN"), (2, u "BOUNDS"), (1, u "FIXED"), (1, u "weight"), (0, u "J"), (0, u "(Lcom/example/violarc/violarc/solver/Solver;Ljava/lang/String;)V")] 24

def k23c0 : Code := { maxStack := 2, maxLocals := 3, code := prog_154_method_1_code, exceptionTable := #[], attributes := #[] }
def k23m0 : Method := { name := "<init>", desc := "(Lcom/example/violarc/violarc/solver/Solver;Ljava/lang/String;)V", sig := { parameters := [(.object "com/example/violarc/violarc/solver/Solver"), (.object "java/lang/String")], returnType := none }, accessFlags := 0, code := some k23c0 }
/-- com/example/violarc/violarc/solver/Variable -/
def k23 : Class := { plain "com/example/violarc/violarc/solver/Variable" (some 5) with
  accessFlags := 1057
  interfaces := #[]
  cf := some (fileOf pool23 10 #[] #[{ accessFlags := 0, nameIndex := 5, descriptorIndex := 59, attributes := #[] }] 1057 2 #[] #[{ accessFlags := 25, nameIndex := 50, descriptorIndex := 33, attributes := #[] }, { accessFlags := 25, nameIndex := 53, descriptorIndex := 33, attributes := #[] }, { accessFlags := 25, nameIndex := 55, descriptorIndex := 33, attributes := #[] }, { accessFlags := 16, nameIndex := 24, descriptorIndex := 25, attributes := #[] }, { accessFlags := 0, nameIndex := 57, descriptorIndex := 58, attributes := #[] }, { accessFlags := 18, nameIndex := 28, descriptorIndex := 29, attributes := #[] }, { accessFlags := 2, nameIndex := 13, descriptorIndex := 14, attributes := #[] }, { accessFlags := 2, nameIndex := 17, descriptorIndex := 18, attributes := #[] }, { accessFlags := 2, nameIndex := 32, descriptorIndex := 33, attributes := #[] }])
  fields := #[{ name := "DOMAIN", type := .int, accessFlags := 25, slot := 0, constantValue := 0 }, { name := "BOUNDS", type := .int, accessFlags := 25, slot := 1, constantValue := 0 }, { name := "FIXED", type := .int, accessFlags := 25, slot := 2, constantValue := 0 }, { name := "solver", type := (.object "com/example/violarc/violarc/solver/Solver"), accessFlags := 16, slot := 0, constantValue := 0 }, { name := "weight", type := .long, accessFlags := 0, slot := 1, constantValue := 0 }, { name := "name", type := (.object "java/lang/String"), accessFlags := 18, slot := 2, constantValue := 0 }, { name := "watchers", type := (.array (.object "com/example/violarc/violarc/solver/Propagator")), accessFlags := 2, slot := 3, constantValue := 0 }, { name := "masks", type := (.array .int), accessFlags := 2, slot := 4, constantValue := 0 }, { name := "watching", type := .int, accessFlags := 2, slot := 5, constantValue := 0 }]
  methods := #[k23m0]
  instanceTypes := #[(.object "com/example/violarc/violarc/solver/Solver"), .long, (.object "java/lang/String"), (.array (.object "com/example/violarc/violarc/solver/Propagator")), (.array .int), .int]
  staticTypes := #[.int, .int, .int]
  resolved := Array.replicate 84 none
  statics := none }

def pool24 : Array CpInfo := pool [(1, .methodref 2 3), (0, .class_ 4), (0, .nameAndType 5 6), (0, u "com/example/violarc/violarc/solver/Variable"), (0, u "<init>"), (0, u "(Lcom/example/violarc/violarc/solver/Solver;Ljava/lang/String;)V"), (0, .class_ 8), (0, u "com/example/violarc/violarc/solver/IntVar"), (0, .long 16777216), (10, .fieldref 7 21), (0, .nameAndType 22 23), (0, u "index"), (0, u "I"), (0, .fieldref 7 25), (0, .nameAndType 26 23), (0, u "offset"), (0, .fieldref 7 28), (0, .nameAndType 29 23), (0, u "min"), (0, .fieldref 7 31), (0, .nameAndType 32 23), (0, u "max"), (0, .fieldref 7 34), (0, .nameAndType 35 23), (0, u "size"), (0, .fieldref 7 37), (0, .nameAndType 38 39), (0, u "words"), (0, u "[J"), (0, .fieldref 7 41), (0, .nameAndType 42 39), (0, u "wordStamps"), (0, .long 18446744073709551615), (5, u "()I"), (4, u "(Lcom/example/violarc/violarc/solver/Solver;ILjava/lang/String;II)V"), (63, u "contains"), (0, u "(I)Z"), (12, u "stateStamp"), (0, u "J"), (22, u "MAX_RANGE"), (2, u "STATE"), (24, u "restore"), (0, u "(IJJ)V")] 22

def k24c0 : Code := { maxStack := 6, maxLocals := 7, code := prog_128_method_1_code, exceptionTable := #[], attributes := #[] }
def k24m0 : Method := { name := "<init>", desc := "(Lcom/example/violarc/violarc/solver/Solver;ILjava/lang/String;II)V", sig := { parameters := [(.object "com/example/violarc/violarc/solver/Solver"), .int, (.object "java/lang/String"), .int, .int], returnType := none }, accessFlags := 0, code := some k24c0 }
def k24c1 : Code := { maxStack := 1, maxLocals := 1, code := prog_128_method_3_code, exceptionTable := #[], attributes := #[] }
def k24m1 : Method := { name := "min", desc := "()I", sig := { parameters := [], returnType := some .int }, accessFlags := 1, code := some k24c1 }
def k24c2 : Code := { maxStack := 1, maxLocals := 1, code := prog_128_method_4_code, exceptionTable := #[], attributes := #[] }
def k24m2 : Method := { name := "max", desc := "()I", sig := { parameters := [], returnType := some .int }, accessFlags := 1, code := some k24c2 }
def k24c3 : Code := { maxStack := 1, maxLocals := 1, code := prog_128_method_5_code, exceptionTable := #[], attributes := #[] }
def k24m3 : Method := { name := "size", desc := "()I", sig := { parameters := [], returnType := some .int }, accessFlags := 1, code := some k24c3 }
def k24c4 : Code := { maxStack := 5, maxLocals := 3, code := prog_128_method_10_code, exceptionTable := #[], attributes := #[] }
def k24m4 : Method := { name := "contains", desc := "(I)Z", sig := { parameters := [.int], returnType := some .boolean }, accessFlags := 1, code := some k24c4 }
def k24c5 : Code := { maxStack := 4, maxLocals := 6, code := prog_128_method_16_code, exceptionTable := #[], attributes := #[] }
def k24m5 : Method := { name := "restore", desc := "(IJJ)V", sig := { parameters := [.int, .long, .long], returnType := none }, accessFlags := 0, code := some k24c5 }
/-- com/example/violarc/violarc/solver/IntVar -/
def k24 : Class := { plain "com/example/violarc/violarc/solver/IntVar" (some 23) with
  accessFlags := 49
  interfaces := #[]
  cf := some (fileOf pool24 7 #[] #[{ accessFlags := 0, nameIndex := 5, descriptorIndex := 54, attributes := #[] }, { accessFlags := 1, nameIndex := 29, descriptorIndex := 49, attributes := #[] }, { accessFlags := 1, nameIndex := 32, descriptorIndex := 49, attributes := #[] }, { accessFlags := 1, nameIndex := 35, descriptorIndex := 49, attributes := #[] }, { accessFlags := 1, nameIndex := 118, descriptorIndex := 119, attributes := #[] }, { accessFlags := 0, nameIndex := 184, descriptorIndex := 185, attributes := #[] }] 49 2 #[] #[{ accessFlags := 25, nameIndex := 156, descriptorIndex := 23, attributes := #[] }, { accessFlags := 26, nameIndex := 159, descriptorIndex := 23, attributes := #[] }, { accessFlags := 16, nameIndex := 22, descriptorIndex := 23, attributes := #[] }, { accessFlags := 18, nameIndex := 26, descriptorIndex := 23, attributes := #[] }, { accessFlags := 18, nameIndex := 38, descriptorIndex := 39, attributes := #[] }, { accessFlags := 18, nameIndex := 42, descriptorIndex := 39, attributes := #[] }, { accessFlags := 2, nameIndex := 29, descriptorIndex := 23, attributes := #[] }, { accessFlags := 2, nameIndex := 32, descriptorIndex := 23, attributes := #[] }, { accessFlags := 2, nameIndex := 35, descriptorIndex := 23, attributes := #[] }, { accessFlags := 2, nameIndex := 132, descriptorIndex := 133, attributes := #[] }])
  fields := #[{ name := "MAX_RANGE", type := .int, accessFlags := 25, slot := 0, constantValue := 0 }, { name := "STATE", type := .int, accessFlags := 26, slot := 1, constantValue := 0 }, { name := "index", type := .int, accessFlags := 16, slot := 6, constantValue := 0 }, { name := "offset", type := .int, accessFlags := 18, slot := 7, constantValue := 0 }, { name := "words", type := (.array .long), accessFlags := 18, slot := 8, constantValue := 0 }, { name := "wordStamps", type := (.array .long), accessFlags := 18, slot := 9, constantValue := 0 }, { name := "min", type := .int, accessFlags := 2, slot := 10, constantValue := 0 }, { name := "max", type := .int, accessFlags := 2, slot := 11, constantValue := 0 }, { name := "size", type := .int, accessFlags := 2, slot := 12, constantValue := 0 }, { name := "stateStamp", type := .long, accessFlags := 2, slot := 13, constantValue := 0 }]
  methods := #[k24m0, k24m1, k24m2, k24m3, k24m4, k24m5]
  instanceTypes := #[(.object "com/example/violarc/violarc/solver/Solver"), .long, (.object "java/lang/String"), (.array (.object "com/example/violarc/violarc/solver/Propagator")), (.array .int), .int, .int, .int, (.array .long), (.array .long), .int, .int, .int, .long]
  staticTypes := #[.int, .int]
  resolved := Array.replicate 208 none
  statics := none }

def pool25 : Array CpInfo := pool [(2, .class_ 4), (1, u "java/lang/CharSequence"), (42, .class_ 48), (0, u "java/lang/CharSequence$1CodePointIterator"), (10, .class_ 60), (0, u "java/lang/CharSequence$1CharIterator"), (5, .class_ 67), (0, u "java/lang/Object")] 63

/-- java/lang/CharSequence -/
def k25 : Class := { plain "java/lang/CharSequence" (some 0) with
  accessFlags := 1537
  interfaces := #[]
  cf := some (fileOf pool25 2 #[.nestMembers #[47, 59]] #[] 1537 66 #[] #[])
  fields := #[]
  methods := #[]
  instanceTypes := #[]
  staticTypes := #[]
  resolved := Array.replicate 131 none
  statics := none }

def pool26 : Array CpInfo := pool [(1, .class_ 2), (0, u "java/lang/constant/ConstantDesc"), (0, .class_ 4), (0, u "java/lang/Object")] 32

/-- java/lang/constant/ConstantDesc -/
def k26 : Class := { plain "java/lang/constant/ConstantDesc" (some 0) with
  accessFlags := 1537
  interfaces := #[]
  cf := some (fileOf pool26 1 #[] #[] 1537 3 #[] #[])
  fields := #[]
  methods := #[]
  instanceTypes := #[]
  staticTypes := #[]
  resolved := Array.replicate 37 none
  statics := none }

def pool27 : Array CpInfo := pool [(2, .class_ 4), (1, u "java/lang/Object"), (0, u "<init>"), (0, u "()V"), (3, .class_ 12), (1, u "java/lang/String"), (0, u "value"), (0, u "[B"), (2, u "coder"), (0, u "B"), (2, u "hash"), (0, u "I"), (2, u "hashIsZero"), (0, u "Z"), (13, u "COMPACT_STRINGS"), (534, .class_ 576), (0, u "java/lang/CharSequence"), (22, u "CASE_INSENSITIVE_ORDER"), (0, u "Ljava/util/Comparator;"), (500, u "serialPersistentFields"), (0, u "[Ljava/io/ObjectStreamField;"), (0, .class_ 1104), (0, u "java/lang/String$CaseInsensitiveComparator"), (1, .class_ 1107), (0, u "java/io/Serializable"), (0, .class_ 1109), (0, u "java/lang/Comparable"), (0, .class_ 1111), (0, u "java/lang/constant/Constable"), (0, .class_ 1113), (0, u "java/lang/constant/ConstantDesc"), (2, u "serialVersionUID"), (0, u "J"), (3, u "REPL"), (0, u "C"), (2, u "LATIN1"), (1, u "UTF16")] 323

def k27m0 : Method := { name := "<init>", desc := "()V", sig := { parameters := [], returnType := none }, accessFlags := 1, code := none }
/-- java/lang/String -/
def k27 : Class := { plain "java/lang/String" (some 0) with
  accessFlags := 49
  interfaces := #[14, 17, 25, 16, 26]
  cf := some (fileOf pool27 10 #[.nestMembers #[1103]] #[{ accessFlags := 1, nameIndex := 5, descriptorIndex := 6, attributes := #[] }] 49 2 #[1106, 1108, 575, 1110, 1112] #[{ accessFlags := 18, nameIndex := 13, descriptorIndex := 14, attributes := #[] }, { accessFlags := 18, nameIndex := 17, descriptorIndex := 18, attributes := #[] }, { accessFlags := 2, nameIndex := 21, descriptorIndex := 22, attributes := #[] }, { accessFlags := 2, nameIndex := 25, descriptorIndex := 26, attributes := #[] }, { accessFlags := 26, nameIndex := 1116, descriptorIndex := 1117, attributes := #[] }, { accessFlags := 24, nameIndex := 40, descriptorIndex := 26, attributes := #[] }, { accessFlags := 26, nameIndex := 1101, descriptorIndex := 1102, attributes := #[] }, { accessFlags := 26, nameIndex := 1121, descriptorIndex := 1122, attributes := #[] }, { accessFlags := 25, nameIndex := 599, descriptorIndex := 600, attributes := #[] }, { accessFlags := 24, nameIndex := 1125, descriptorIndex := 18, attributes := #[] }, { accessFlags := 24, nameIndex := 1127, descriptorIndex := 18, attributes := #[] }])
  fields := #[{ name := "value", type := (.array .byte), accessFlags := 18, slot := 0, constantValue := 0 }, { name := "coder", type := .byte, accessFlags := 18, slot := 1, constantValue := 0 }, { name := "hash", type := .int, accessFlags := 2, slot := 2, constantValue := 0 }, { name := "hashIsZero", type := .boolean, accessFlags := 2, slot := 3, constantValue := 0 }, { name := "serialVersionUID", type := .long, accessFlags := 26, slot := 0, constantValue := 0 }, { name := "COMPACT_STRINGS", type := .boolean, accessFlags := 24, slot := 1, constantValue := 0 }, { name := "serialPersistentFields", type := (.array (.object "java/io/ObjectStreamField")), accessFlags := 26, slot := 2, constantValue := 0 }, { name := "REPL", type := .char, accessFlags := 26, slot := 3, constantValue := 0 }, { name := "CASE_INSENSITIVE_ORDER", type := (.object "java/util/Comparator"), accessFlags := 25, slot := 4, constantValue := 0 }, { name := "LATIN1", type := .byte, accessFlags := 24, slot := 5, constantValue := 0 }, { name := "UTF16", type := .byte, accessFlags := 24, slot := 6, constantValue := 0 }]
  methods := #[k27m0]
  instanceTypes := #[(.array .byte), .byte, .int, .boolean]
  staticTypes := #[.long, .boolean, (.array (.object "java/io/ObjectStreamField")), .char, (.object "java/util/Comparator"), .byte, .byte]
  resolved := Array.replicate 1451 none
  statics := none }

def pool28 : Array CpInfo := pool [(2, .class_ 4), (1, u "java/lang/Object"), (12, .class_ 19), (1, u "com/example/violarc/violarc/solver/Propagator"), (0, u "priority"), (0, u "Lcom/example/violarc/violarc/solver/Propagator$Priority;"), (2, u "events"), (0, u "I"), (6, u "scope"), (0, u "Ljava/util/List;"), (52, u "scheduled"), (0, u "Z"), (4, .class_ 93), (0, u "com/example/violarc/violarc/solver/Propagator$Priority")] 30

/-- com/example/violarc/violarc/solver/Propagator -/
def k28 : Class := { plain "com/example/violarc/violarc/solver/Propagator" (some 0) with
  accessFlags := 1057
  interfaces := #[]
  cf := some (fileOf pool28 17 #[.nestMembers #[92]] #[] 1057 2 #[] #[{ accessFlags := 18, nameIndex := 20, descriptorIndex := 21, attributes := #[] }, { accessFlags := 18, nameIndex := 24, descriptorIndex := 25, attributes := #[] }, { accessFlags := 18, nameIndex := 32, descriptorIndex := 33, attributes := #[] }, { accessFlags := 0, nameIndex := 86, descriptorIndex := 87, attributes := #[] }])
  fields := #[{ name := "priority", type := (.object "com/example/violarc/violarc/solver/Propagator$Priority"), accessFlags := 18, slot := 0, constantValue := 0 }, { name := "events", type := .int, accessFlags := 18, slot := 1, constantValue := 0 }, { name := "scope", type := (.object "java/util/List"), accessFlags := 18, slot := 2, constantValue := 0 }, { name := "scheduled", type := .boolean, accessFlags := 0, slot := 3, constantValue := 0 }]
  methods := #[]
  instanceTypes := #[(.object "com/example/violarc/violarc/solver/Propagator$Priority"), .int, (.object "java/util/List"), .boolean]
  staticTypes := #[]
  resolved := Array.replicate 124 none
  statics := none }

/-- the primitive byte -/
def k29 : Class := { plain "byte" none with kind := .primitive 'B', accessFlags := 0x411 }
/-- [B -/
def k30 : Class := { plain "[B" (some 0) with kind := .array 29 .byte, interfaces := #[13, 14], accessFlags := 1041 }

/-- the primitive int -/
def k31 : Class := { plain "int" none with kind := .primitive 'I', accessFlags := 0x411 }
/-- [I -/
def k32 : Class := { plain "[I" (some 0) with kind := .array 31 .int, interfaces := #[13, 14], accessFlags := 1041 }

/-- the primitive long -/
def k33 : Class := { plain "long" none with kind := .primitive 'J', accessFlags := 0x411 }
/-- [J -/
def k34 : Class := { plain "[J" (some 0) with kind := .array 33 .long, interfaces := #[13, 14], accessFlags := 1041 }

/-- [Lcom/example/violarc/violarc/solver/Propagator; -/
def k35 : Class := { plain "[Lcom/example/violarc/violarc/solver/Propagator;" (some 0) with kind := .array 28 (.object "com/example/violarc/violarc/solver/Propagator"), interfaces := #[13, 14], accessFlags := 1041 }

/-- [Lcom/example/violarc/violarc/solver/Propagator$Priority; -/
def k36 : Class := { plain "[Lcom/example/violarc/violarc/solver/Propagator$Priority;" (some 0) with kind := .array 19 (.object "com/example/violarc/violarc/solver/Propagator$Priority"), interfaces := #[13, 14], accessFlags := 1041 }

/-- [Lcom/example/violarc/violarc/solver/Trailed; -/
def k37 : Class := { plain "[Lcom/example/violarc/violarc/solver/Trailed;" (some 0) with kind := .array 5 (.object "com/example/violarc/violarc/solver/Trailed"), interfaces := #[13, 14], accessFlags := 1041 }

/-- [Ljava/lang/Object; -/
def k38 : Class := { plain "[Ljava/lang/Object;" (some 0) with kind := .array 0 (.object "java/lang/Object"), interfaces := #[13, 14], accessFlags := 1041 }

def heap : Heap := #[{ cls := 15, slots := #[.long 0, .int 0, .ref 6, .ref 7], vm := .statics 15 },
  { cls := 19, slots := #[.ref 3, .ref 4, .ref 5, .ref 2], vm := .statics 19 },
  { cls := 36, slots := #[.ref 3, .ref 4, .ref 5], vm := .none },
  { cls := 19, slots := #[.null, .int 0, .int 0], vm := .none },
  { cls := 19, slots := #[.null, .int 1, .int 0], vm := .none },
  { cls := 19, slots := #[.null, .int 2, .int 0], vm := .none },
  { cls := 38, slots := #[], vm := .none },
  { cls := 38, slots := #[], vm := .none }]
def classes : Array Class := #[k0, k1, k2, k3, k4, k5, k6, k7, k8, k9, k10, k11, k12, k13, k14, k15, k16, k17, k18, k19, k20, k21, k22, k23, k24, k25, k26, k27, k28, k29, k30, k31, k32, k33, k34, k35, k36, k37, k38]
def interned : List (Array UInt16 × Addr) := []
def slotsUsed : Nat := 20
def theMethod : MethodId := ⟨1, 1⟩
def args0 : Array Value := #[.int 5, .int 6, .long 7, .int 8, .int 9, .int 10]
def aboutOver (below : List Frame) : State where
  vm := { classes := classes, interned := interned.toArray }
  heap := heap
  slotsUsed := slotsUsed
  threads := #[{ frames := .invoking theMethod args0 :: below }]
def below0 : List Frame := [.native { method := ⟨0, 0⟩, args := #[] }]
def about1 : State := aboutOver below0
def p0 : Program := .bare "" "" ""
def e0 : Env := launch0.env 0 0 0
theorem w_frames : about1.frames = Frame.invoking theMethod args0 :: below0 := rfl
set_option maxRecDepth 65536 in
theorem w_args : argsFit about1.vm theMethod args0 = true := by decide +kernel
set_option maxRecDepth 65536 in
theorem w_heap : heapFits about1 = true := by decide +kernel
set_option maxRecDepth 65536 in
theorem w_runnable : about1.curStatus? = some .runnable := by decide +kernel
set_option maxRecDepth 65536 in
theorem w_alone : about1.alone = true := by decide +kernel
set_option maxRecDepth 65536 in
theorem w_named : about1.methodNamed? x = some theMethod := by decide +kernel
set_option maxRecDepth 65536 in
theorem w_hears : about1.hears theMethod below0 = true := by decide +kernel
set_option maxRecDepth 65536 in
theorem w_ripe : about1.ripe theMethod args0 below0 = true := by decide +kernel
theorem w_running : about1.status = .running := rfl
set_option maxRecDepth 65536 in
theorem w_room : about1.hasRoom e0.platform room_1 = true :=
  launch0.hasRoom_least _ room_1 (by decide +kernel) (by decide +kernel) (by decide +kernel) (by decide +kernel) (by decide +kernel) (by decide +kernel)
theorem allAtoms_all (ts : List Jvm.Cond) (a : Array Jvm.Value) (st : Jvm.State) : (allAtoms ts).before a st = ts.all (fun c => c.before a st) := by
  induction ts with
  | nil => rfl
  | cons c t ih =>
    show (Jvm.Cond.and c (allAtoms t)).before a st = _
    rw [Jvm.Cond.before_and, ih, List.all_cons]
def words1 : List Jvm.Cond := Jvm.Cond.code x code maxLocals ret :: tables_1
/-- a 'code' word, met by the world's own term for the bytes: nothing is compared byte by byte -/
theorem code_word {y : MethodName} {bytes : ByteArray} {mx : Nat} {rt : Option FieldType} {a : Array Value} {s : State} {m : MethodId} {meth : Method} {c : Code} (h1 : s.methodNamed? y = some m) (h2 : s.vm.method? m = some meth) (h3 : meth.code = some c) (h4 : c.code = bytes)
    (h5 : (c.maxLocals == mx && c.exceptionTable.isEmpty && decide (c.maxStack ≤ mostOperands) && decide (meth.sig.returnType = rt) && !meth.locks && decide (parseMethodDescriptor y.desc = some meth.sig)) = true) : (Jvm.Cond.code y bytes mx rt).before a s = true := by
  simp only [Bool.and_eq_true, beq_iff_eq, Bool.not_eq_true', decide_eq_true_eq] at h5
  obtain ⟨⟨⟨⟨⟨g1, g2⟩, g3⟩, g4⟩, g5⟩, g6⟩ := h5
  simp [Cond.before, Cond.holds, Cond.value, h1, h2, h3, h4, g1, g2, g3, g4, g5, g6]
def isCode : Jvm.Cond → Bool
  | .code _ _ _ _ => true
  | _ => false
theorem all_split {L : List Jvm.Cond} {P : Jvm.Cond → Bool} (h1 : L.all (fun c => isCode c || P c) = true) (h2 : ∀ c ∈ L.filter isCode, P c = true) : L.all P = true := by
  refine List.all_eq_true.mpr fun c hc => ?_
  have h := List.all_eq_true.mp h1 c hc
  rcases Bool.eq_false_or_eq_true (isCode c) with hi | hi
  · exact h2 c (List.mem_filter.mpr ⟨hc, hi⟩)
  · simpa [hi] using h
set_option maxRecDepth 65536 in
theorem w_c0 : (Jvm.Cond.code x code maxLocals ret).before args0 about1 = true := code_word (m := ⟨1, 1⟩) (meth := k1m1) (c := k1c1) (by decide +kernel) rfl rfl rfl (by decide +kernel)
set_option maxRecDepth 65536 in
theorem w_c1 : (Jvm.Cond.code ({ cls := "java/lang/Math", name := "min", desc := "(II)I" } : Jvm.MethodName) jdk_29_method_69_code (2 : Nat) (Option.some Jvm.ClassFile.FieldType.int)).before args0 about1 = true := code_word (m := ⟨2, 2⟩) (meth := k2m2) (c := k2c2) (by decide +kernel) rfl rfl rfl (by decide +kernel)
set_option maxRecDepth 65536 in
theorem w_c2 : (Jvm.Cond.code ({ cls := "com/example/violarc/violarc/solver/Solver", name := "<init>", desc := "()V" } : Jvm.MethodName) prog_143_method_1_code (2 : Nat) (Option.none : Option Jvm.ClassFile.FieldType)).before args0 about1 = true := code_word (m := ⟨3, 0⟩) (meth := k3m0) (c := k3c0) (by decide +kernel) rfl rfl rfl (by decide +kernel)
set_option maxRecDepth 65536 in
theorem w_c3 : (Jvm.Cond.code ({ cls := "java/lang/Object", name := "<init>", desc := "()V" } : Jvm.MethodName) object_method_1_code (1 : Nat) (Option.none : Option Jvm.ClassFile.FieldType)).before args0 about1 = true := code_word (m := ⟨0, 0⟩) (meth := k0m0) (c := k0c0) (by decide +kernel) rfl rfl rfl (by decide +kernel)
set_option maxRecDepth 65536 in
theorem w_c4 : (Jvm.Cond.code ({ cls := "com/example/violarc/violarc/solver/Trail", name := "<init>", desc := "()V" } : Jvm.MethodName) prog_146_method_1_code (1 : Nat) (Option.none : Option Jvm.ClassFile.FieldType)).before args0 about1 = true := code_word (m := ⟨4, 0⟩) (meth := k4m0) (c := k4c0) (by decide +kernel) rfl rfl rfl (by decide +kernel)
set_option maxRecDepth 65536 in
theorem w_c5 : (Jvm.Cond.code ({ cls := "java/util/ArrayList", name := "<init>", desc := "()V" } : Jvm.MethodName) jdk_38_method_2_code (1 : Nat) (Option.none : Option Jvm.ClassFile.FieldType)).before args0 about1 = true := code_word (m := ⟨15, 0⟩) (meth := k15m0) (c := k15c0) (by decide +kernel) rfl rfl rfl (by decide +kernel)
set_option maxRecDepth 65536 in
theorem w_c6 : (Jvm.Cond.code ({ cls := "java/util/AbstractList", name := "<init>", desc := "()V" } : Jvm.MethodName) jdk_39_method_1_code (1 : Nat) (Option.none : Option Jvm.ClassFile.FieldType)).before args0 about1 = true := code_word (m := ⟨11, 0⟩) (meth := k11m0) (c := k11c0) (by decide +kernel) rfl rfl rfl (by decide +kernel)
set_option maxRecDepth 65536 in
theorem w_c7 : (Jvm.Cond.code ({ cls := "java/util/AbstractCollection", name := "<init>", desc := "()V" } : Jvm.MethodName) jdk_22_method_1_code (1 : Nat) (Option.none : Option Jvm.ClassFile.FieldType)).before args0 about1 = true := code_word (m := ⟨8, 0⟩) (meth := k8m0) (c := k8c0) (by decide +kernel) rfl rfl rfl (by decide +kernel)
set_option maxRecDepth 65536 in
theorem w_c8 : (Jvm.Cond.code ({ cls := "com/example/violarc/violarc/solver/Propagator$Priority", name := "values", desc := "()[Lcom/example/violarc/violarc/solver/Propagator$Priority;" } : Jvm.MethodName) prog_132_method_1_code (0 : Nat) (Option.some (Jvm.ClassFile.FieldType.array (Jvm.ClassFile.FieldType.object "com/example/violarc/violarc/solver/Propagator$Priority")))).before args0 about1 = true := code_word (m := ⟨19, 0⟩) (meth := k19m0) (c := k19c0) (by decide +kernel) rfl rfl rfl (by decide +kernel)
set_option maxRecDepth 65536 in
theorem w_c9 : (Jvm.Cond.code ({ cls := "java/util/ArrayDeque", name := "<init>", desc := "()V" } : Jvm.MethodName) jdk_21_method_3_code (1 : Nat) (Option.none : Option Jvm.ClassFile.FieldType)).before args0 about1 = true := code_word (m := ⟨22, 0⟩) (meth := k22m0) (c := k22c0) (by decide +kernel) rfl rfl rfl (by decide +kernel)
set_option maxRecDepth 65536 in
theorem w_c10 : (Jvm.Cond.code ({ cls := "java/util/ArrayList", name := "add", desc := "(Ljava/lang/Object;)Z" } : Jvm.MethodName) jdk_38_method_25_code (2 : Nat) (Option.some Jvm.ClassFile.FieldType.boolean)).before args0 about1 = true := code_word (m := ⟨15, 4⟩) (meth := k15m4) (c := k15c4) (by decide +kernel) rfl rfl rfl (by decide +kernel)
set_option maxRecDepth 65536 in
theorem w_c11 : (Jvm.Cond.code ({ cls := "java/util/ArrayList", name := "add", desc := "(Ljava/lang/Object;[Ljava/lang/Object;I)V" } : Jvm.MethodName) jdk_38_method_24_code (4 : Nat) (Option.none : Option Jvm.ClassFile.FieldType)).before args0 about1 = true := code_word (m := ⟨15, 3⟩) (meth := k15m3) (c := k15c3) (by decide +kernel) rfl rfl rfl (by decide +kernel)
set_option maxRecDepth 65536 in
theorem w_c12 : (Jvm.Cond.code ({ cls := "java/util/ArrayList", name := "grow", desc := "()[Ljava/lang/Object;" } : Jvm.MethodName) jdk_38_method_7_code (1 : Nat) (Option.some (Jvm.ClassFile.FieldType.array (Jvm.ClassFile.FieldType.object "java/lang/Object")))).before args0 about1 = true := code_word (m := ⟨15, 2⟩) (meth := k15m2) (c := k15c2) (by decide +kernel) rfl rfl rfl (by decide +kernel)
set_option maxRecDepth 65536 in
theorem w_c13 : (Jvm.Cond.code ({ cls := "java/util/ArrayList", name := "grow", desc := "(I)[Ljava/lang/Object;" } : Jvm.MethodName) jdk_38_method_6_code (4 : Nat) (Option.some (Jvm.ClassFile.FieldType.array (Jvm.ClassFile.FieldType.object "java/lang/Object")))).before args0 about1 = true := code_word (m := ⟨15, 1⟩) (meth := k15m1) (c := k15c1) (by decide +kernel) rfl rfl rfl (by decide +kernel)
set_option maxRecDepth 65536 in
theorem w_c14 : (Jvm.Cond.code ({ cls := "java/lang/Math", name := "max", desc := "(II)I" } : Jvm.MethodName) jdk_29_method_65_code (2 : Nat) (Option.some Jvm.ClassFile.FieldType.int)).before args0 about1 = true := code_word (m := ⟨2, 1⟩) (meth := k2m1) (c := k2c1) (by decide +kernel) rfl rfl rfl (by decide +kernel)
set_option maxRecDepth 65536 in
theorem w_c15 : (Jvm.Cond.code ({ cls := "com/example/violarc/violarc/solver/IntVar", name := "<init>", desc := "(Lcom/example/violarc/violarc/solver/Solver;ILjava/lang/String;II)V" } : Jvm.MethodName) prog_128_method_1_code (7 : Nat) (Option.none : Option Jvm.ClassFile.FieldType)).before args0 about1 = true := code_word (m := ⟨24, 0⟩) (meth := k24m0) (c := k24c0) (by decide +kernel) rfl rfl rfl (by decide +kernel)
set_option maxRecDepth 65536 in
theorem w_c16 : (Jvm.Cond.code ({ cls := "com/example/violarc/violarc/solver/Variable", name := "<init>", desc := "(Lcom/example/violarc/violarc/solver/Solver;Ljava/lang/String;)V" } : Jvm.MethodName) prog_154_method_1_code (3 : Nat) (Option.none : Option Jvm.ClassFile.FieldType)).before args0 about1 = true := code_word (m := ⟨23, 0⟩) (meth := k23m0) (c := k23c0) (by decide +kernel) rfl rfl rfl (by decide +kernel)
set_option maxRecDepth 65536 in
theorem w_c17 : (Jvm.Cond.code ({ cls := "com/example/violarc/violarc/solver/Trailed", name := "<init>", desc := "()V" } : Jvm.MethodName) prog_147_method_1_code (1 : Nat) (Option.none : Option Jvm.ClassFile.FieldType)).before args0 about1 = true := code_word (m := ⟨5, 0⟩) (meth := k5m0) (c := k5c0) (by decide +kernel) rfl rfl rfl (by decide +kernel)
set_option maxRecDepth 65536 in
theorem w_c18 : (Jvm.Cond.code ({ cls := "com/example/violarc/violarc/solver/IntVar", name := "restore", desc := "(IJJ)V" } : Jvm.MethodName) prog_128_method_16_code (6 : Nat) (Option.none : Option Jvm.ClassFile.FieldType)).before args0 about1 = true := code_word (m := ⟨24, 5⟩) (meth := k24m5) (c := k24c5) (by decide +kernel) rfl rfl rfl (by decide +kernel)
set_option maxRecDepth 65536 in
theorem w_c19 : (Jvm.Cond.code ({ cls := "com/example/violarc/violarc/solver/IntVar", name := "size", desc := "()I" } : Jvm.MethodName) prog_128_method_5_code (1 : Nat) (Option.some Jvm.ClassFile.FieldType.int)).before args0 about1 = true := code_word (m := ⟨24, 3⟩) (meth := k24m3) (c := k24c3) (by decide +kernel) rfl rfl rfl (by decide +kernel)
set_option maxRecDepth 65536 in
theorem w_c20 : (Jvm.Cond.code ({ cls := "com/example/violarc/violarc/solver/IntVar", name := "contains", desc := "(I)Z" } : Jvm.MethodName) prog_128_method_10_code (3 : Nat) (Option.some Jvm.ClassFile.FieldType.boolean)).before args0 about1 = true := code_word (m := ⟨24, 4⟩) (meth := k24m4) (c := k24c4) (by decide +kernel) rfl rfl rfl (by decide +kernel)
set_option maxRecDepth 65536 in
theorem w_c21 : (Jvm.Cond.code ({ cls := "com/example/violarc/violarc/solver/IntVar", name := "min", desc := "()I" } : Jvm.MethodName) prog_128_method_3_code (1 : Nat) (Option.some Jvm.ClassFile.FieldType.int)).before args0 about1 = true := code_word (m := ⟨24, 1⟩) (meth := k24m1) (c := k24c1) (by decide +kernel) rfl rfl rfl (by decide +kernel)
set_option maxRecDepth 65536 in
theorem w_c22 : (Jvm.Cond.code ({ cls := "com/example/violarc/violarc/solver/IntVar", name := "max", desc := "()I" } : Jvm.MethodName) prog_128_method_4_code (1 : Nat) (Option.some Jvm.ClassFile.FieldType.int)).before args0 about1 = true := code_word (m := ⟨24, 2⟩) (meth := k24m2) (c := k24c2) (by decide +kernel) rfl rfl rfl (by decide +kernel)
def codes1 : List Jvm.Cond := [Jvm.Cond.code x code maxLocals ret, Jvm.Cond.code ({ cls := "java/lang/Math", name := "min", desc := "(II)I" } : Jvm.MethodName) jdk_29_method_69_code (2 : Nat) (Option.some Jvm.ClassFile.FieldType.int), Jvm.Cond.code ({ cls := "com/example/violarc/violarc/solver/Solver", name := "<init>", desc := "()V" } : Jvm.MethodName) prog_143_method_1_code (2 : Nat) (Option.none : Option Jvm.ClassFile.FieldType), Jvm.Cond.code ({ cls := "java/lang/Object", name := "<init>", desc := "()V" } : Jvm.MethodName) object_method_1_code (1 : Nat) (Option.none : Option Jvm.ClassFile.FieldType), Jvm.Cond.code ({ cls := "com/example/violarc/violarc/solver/Trail", name := "<init>", desc := "()V" } : Jvm.MethodName) prog_146_method_1_code (1 : Nat) (Option.none : Option Jvm.ClassFile.FieldType), Jvm.Cond.code ({ cls := "java/util/ArrayList", name := "<init>", desc := "()V" } : Jvm.MethodName) jdk_38_method_2_code (1 : Nat) (Option.none : Option Jvm.ClassFile.FieldType), Jvm.Cond.code ({ cls := "java/util/AbstractList", name := "<init>", desc := "()V" } : Jvm.MethodName) jdk_39_method_1_code (1 : Nat) (Option.none : Option Jvm.ClassFile.FieldType), Jvm.Cond.code ({ cls := "java/util/AbstractCollection", name := "<init>", desc := "()V" } : Jvm.MethodName) jdk_22_method_1_code (1 : Nat) (Option.none : Option Jvm.ClassFile.FieldType), Jvm.Cond.code ({ cls := "com/example/violarc/violarc/solver/Propagator$Priority", name := "values", desc := "()[Lcom/example/violarc/violarc/solver/Propagator$Priority;" } : Jvm.MethodName) prog_132_method_1_code (0 : Nat) (Option.some (Jvm.ClassFile.FieldType.array (Jvm.ClassFile.FieldType.object "com/example/violarc/violarc/solver/Propagator$Priority"))), Jvm.Cond.code ({ cls := "java/util/ArrayDeque", name := "<init>", desc := "()V" } : Jvm.MethodName) jdk_21_method_3_code (1 : Nat) (Option.none : Option Jvm.ClassFile.FieldType), Jvm.Cond.code ({ cls := "java/util/ArrayList", name := "add", desc := "(Ljava/lang/Object;)Z" } : Jvm.MethodName) jdk_38_method_25_code (2 : Nat) (Option.some Jvm.ClassFile.FieldType.boolean), Jvm.Cond.code ({ cls := "java/util/ArrayList", name := "add", desc := "(Ljava/lang/Object;[Ljava/lang/Object;I)V" } : Jvm.MethodName) jdk_38_method_24_code (4 : Nat) (Option.none : Option Jvm.ClassFile.FieldType), Jvm.Cond.code ({ cls := "java/util/ArrayList", name := "grow", desc := "()[Ljava/lang/Object;" } : Jvm.MethodName) jdk_38_method_7_code (1 : Nat) (Option.some (Jvm.ClassFile.FieldType.array (Jvm.ClassFile.FieldType.object "java/lang/Object"))), Jvm.Cond.code ({ cls := "java/util/ArrayList", name := "grow", desc := "(I)[Ljava/lang/Object;" } : Jvm.MethodName) jdk_38_method_6_code (4 : Nat) (Option.some (Jvm.ClassFile.FieldType.array (Jvm.ClassFile.FieldType.object "java/lang/Object"))), Jvm.Cond.code ({ cls := "java/lang/Math", name := "max", desc := "(II)I" } : Jvm.MethodName) jdk_29_method_65_code (2 : Nat) (Option.some Jvm.ClassFile.FieldType.int), Jvm.Cond.code ({ cls := "com/example/violarc/violarc/solver/IntVar", name := "<init>", desc := "(Lcom/example/violarc/violarc/solver/Solver;ILjava/lang/String;II)V" } : Jvm.MethodName) prog_128_method_1_code (7 : Nat) (Option.none : Option Jvm.ClassFile.FieldType), Jvm.Cond.code ({ cls := "com/example/violarc/violarc/solver/Variable", name := "<init>", desc := "(Lcom/example/violarc/violarc/solver/Solver;Ljava/lang/String;)V" } : Jvm.MethodName) prog_154_method_1_code (3 : Nat) (Option.none : Option Jvm.ClassFile.FieldType), Jvm.Cond.code ({ cls := "com/example/violarc/violarc/solver/Trailed", name := "<init>", desc := "()V" } : Jvm.MethodName) prog_147_method_1_code (1 : Nat) (Option.none : Option Jvm.ClassFile.FieldType), Jvm.Cond.code ({ cls := "com/example/violarc/violarc/solver/IntVar", name := "restore", desc := "(IJJ)V" } : Jvm.MethodName) prog_128_method_16_code (6 : Nat) (Option.none : Option Jvm.ClassFile.FieldType), Jvm.Cond.code ({ cls := "com/example/violarc/violarc/solver/IntVar", name := "size", desc := "()I" } : Jvm.MethodName) prog_128_method_5_code (1 : Nat) (Option.some Jvm.ClassFile.FieldType.int), Jvm.Cond.code ({ cls := "com/example/violarc/violarc/solver/IntVar", name := "contains", desc := "(I)Z" } : Jvm.MethodName) prog_128_method_10_code (3 : Nat) (Option.some Jvm.ClassFile.FieldType.boolean), Jvm.Cond.code ({ cls := "com/example/violarc/violarc/solver/IntVar", name := "min", desc := "()I" } : Jvm.MethodName) prog_128_method_3_code (1 : Nat) (Option.some Jvm.ClassFile.FieldType.int), Jvm.Cond.code ({ cls := "com/example/violarc/violarc/solver/IntVar", name := "max", desc := "()I" } : Jvm.MethodName) prog_128_method_4_code (1 : Nat) (Option.some Jvm.ClassFile.FieldType.int)]
set_option maxRecDepth 65536 in
theorem codes_eq : words1.filter isCode = codes1 := rfl
theorem w_codes : ∀ c ∈ words1.filter isCode, c.before args0 about1 = true := by
  rw [codes_eq]
  intro c hc
  simp only [codes1, List.mem_cons, List.not_mem_nil, or_false] at hc
  rcases hc with rfl | rfl | rfl | rfl | rfl | rfl | rfl | rfl | rfl | rfl | rfl | rfl | rfl | rfl | rfl | rfl | rfl | rfl | rfl | rfl | rfl | rfl | rfl
  · exact w_c0
  · exact w_c1
  · exact w_c2
  · exact w_c3
  · exact w_c4
  · exact w_c5
  · exact w_c6
  · exact w_c7
  · exact w_c8
  · exact w_c9
  · exact w_c10
  · exact w_c11
  · exact w_c12
  · exact w_c13
  · exact w_c14
  · exact w_c15
  · exact w_c16
  · exact w_c17
  · exact w_c18
  · exact w_c19
  · exact w_c20
  · exact w_c21
  · exact w_c22
set_option maxRecDepth 65536 in
theorem w_t1 : (words1.take 24).all (fun c => isCode c || c.before args0 about1) = true := by decide +kernel
set_option maxRecDepth 65536 in
theorem w_t2 : ((words1.drop 24).take 24).all (fun c => isCode c || c.before args0 about1) = true := by decide +kernel
set_option maxRecDepth 65536 in
theorem w_t3 : (((words1.drop 24).drop 24).take 24).all (fun c => isCode c || c.before args0 about1) = true := by decide +kernel
set_option maxRecDepth 65536 in
theorem w_t4 : ((((words1.drop 24).drop 24).drop 24).take 24).all (fun c => isCode c || c.before args0 about1) = true := by decide +kernel
set_option maxRecDepth 65536 in
theorem w_t5 : (((((words1.drop 24).drop 24).drop 24).drop 24).take 24).all (fun c => isCode c || c.before args0 about1) = true := by decide +kernel
set_option maxRecDepth 65536 in
theorem w_t6 : ((((((words1.drop 24).drop 24).drop 24).drop 24).drop 24).take 24).all (fun c => isCode c || c.before args0 about1) = true := by decide +kernel
set_option maxRecDepth 65536 in
theorem w_t7 : (((((((words1.drop 24).drop 24).drop 24).drop 24).drop 24).drop 24).take 24).all (fun c => isCode c || c.before args0 about1) = true := by decide +kernel
set_option maxRecDepth 65536 in
theorem w_t8 : ((((((((words1.drop 24).drop 24).drop 24).drop 24).drop 24).drop 24).drop 24).take 24).all (fun c => isCode c || c.before args0 about1) = true := by decide +kernel
set_option maxRecDepth 65536 in
theorem w_t9 : ((((((((words1.drop 24).drop 24).drop 24).drop 24).drop 24).drop 24).drop 24).drop 24).all (fun c => isCode c || c.before args0 about1) = true := by decide +kernel
theorem w_tables : (allAtoms (Jvm.Cond.code x code maxLocals ret :: tables_1)).before args0 about1 = true := by
  rw [allAtoms_all]
  show words1.all (fun c => c.before args0 about1) = true
  refine all_split ?_ w_codes
  rw [← List.take_append_drop 24 words1, List.all_append, w_t1, ← List.take_append_drop 24 (words1.drop 24), List.all_append, w_t2, ← List.take_append_drop 24 ((words1.drop 24).drop 24), List.all_append, w_t3, ← List.take_append_drop 24 (((words1.drop 24).drop 24).drop 24), List.all_append, w_t4, ← List.take_append_drop 24 ((((words1.drop 24).drop 24).drop 24).drop 24), List.all_append, w_t5, ← List.take_append_drop 24 (((((words1.drop 24).drop 24).drop 24).drop 24).drop 24), List.all_append, w_t6, ← List.take_append_drop 24 ((((((words1.drop 24).drop 24).drop 24).drop 24).drop 24).drop 24), List.all_append, w_t7, ← List.take_append_drop 24 (((((((words1.drop 24).drop 24).drop 24).drop 24).drop 24).drop 24).drop 24), List.all_append, w_t8, w_t9]
  rfl
set_option maxRecDepth 65536 in
theorem w_rest : rest_1_c.before args0 about1 = true := by decide +kernel
set_option maxRecDepth 65536 in
theorem w_case : (Jvm.Cond.and given_1 narrow_1).before args0 about1 = true := by decide +kernel
theorem w_applies : (headSpec (Jvm.Cond.code x code maxLocals ret :: tables_1) room_1).applies x e0.platform about1 = true :=
  (Spec.applies_iff w_frames).mpr ⟨w_running, w_runnable, w_alone, w_named, w_hears, w_ripe, w_room, w_tables⟩
theorem atStart : AtStart classFile x code maxLocals ret World_1 tables_1 room_1 Calls_1 rest_1 Pre_1 launch0 p0 e0 about1 theMethod args0 below0 :=
  ⟨lists_1, trivial, launch0.admits_env _ _ _, launch0.least_env, fairChoices_fair.cas, fairChoices_fair.clock, w_frames, w_args, w_heap, w_applies, trivial, w_rest, w_case⟩
end start1
theorem witness_1 : WitnessClaimed_1 := ⟨start1.p0, start1.e0, start1.about1, start1.theMethod, start1.args0, start1.below0, start1.atStart⟩
end Jvm.Pilot.@@N@@
