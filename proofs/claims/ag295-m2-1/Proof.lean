import JvmDerived
import JvmDerived.Pilot.@@N@@Statement
import JvmDerived.Pilot.@@N@@Code
set_option linter.unusedVariables false
set_option linter.unusedSimpArgs false
namespace Jvm.RoadKit
open Sem ClassFile Op Lib Jvm.Stand Jvm.Free Jvm.LawKit
section New
variable {p : Program} {l : Launch} {e : Env} {R : Room} {s : State} {m : MethodId} {args : Array Value} {below : List Frame} {meth : Method} {c : Code} {T : State} {locs : List Loc} {cells slots : Nat}
theorem retI (X : Stand p l e R s m args below meth c T locs cells slots) (hx : p.tables.exec = Jvm.exec) {pc : Nat} {Ls : Array Slot} {z : Int32} {rest : List Value} (hret : meth.sig.returnType = some .int) (hd : decode c.code pc = .ok (.ireturn, 1)) {fs : List Frame}
    (hl : ∀ (f : JFrame) (acts : List Action), f.method = m → f.locked = none → f.entered = [] → (doReturn e (T.setTop f) acts (some (.int z))).1 = T.setFrames fs) : Steps p.tables e below (T.setTop (mkF m pc Ls (.int z :: rest))) (T.setFrames fs) := by
  have hm' : T.vm.method? m = some meth := X.method'
  have hn : narrow .int (.int z) = .int z := rfl
  show Steps p.tables e below (T.setTop { method := m, pc := pc, locals := Ls, stack := _ :: rest, locked := none }) _
  jvm_step X.here [X.here.top, hx, hd, hm', hret, hn]
  first | (intro acts; rw [hl _ acts rfl rfl rfl]) | rw [hl _ _ rfl rfl rfl]
  exact Steps.refl _
end New
end Jvm.RoadKit
namespace Jvm.Pilot.@@N@@
open Jvm Jvm.ClassFile Sem Op Lib Jvm.Free Jvm.Stand Jvm.LawKit Jvm.RoadKit Bundle Jvm.Pilot.@@N@@.Jvm.D
abbrev lv (x : Int64) : Slot := .val (.long x)
theorem im (i : Nat) {d : Jvm.Cond} (h : tables_1[i]? = some d) : d ∈ tables_1 := List.mem_of_getElem? h
theorem own_go {tb : Tables} {e : Env} {below : List Frame} {S S' S0 : State} (P : ∀ t, Steps tb e below S t → Steps tb e below S0 t) (f : ∀ t, Steps tb e below S' t → Steps tb e below S t) : ∀ t, Steps tb e below S' t → Steps tb e below S0 t := fun t k => P t (f t k)
theorem own_sn {Z : State} {a0 : Array Value} {K O n d O' n' d' : String} (L : Laid Z a0 K O n d) (L' : Laid Z a0 K O' n' d') (hn : n ≠ n' := by decide) (ht : (parseFieldDescriptor d).isSome = true := by decide) (ht' : (parseFieldDescriptor d').isSome = true := by decide) : Jvm.RoadKit.slotOf Z O n d ≠ Jvm.RoadKit.slotOf Z O' n' d' := by
  obtain ⟨t, e⟩ := Option.isSome_iff_exists.mp ht
  obtain ⟨t', e'⟩ := Option.isSome_iff_exists.mp ht'
  exact slot_ne L L' hn e e'
theorem pn_0 : plainName "com/example/bylaws_for_tables/bylawsfortables/FindingKeyEqualsPinLaw" = true := by first | (simp [plainName, overriddenIn]; done) | decide +kernel
theorem d1_0 : decode method_6_code 0 = .ok (.lload_n 0, 1) := by decide +kernel
theorem d1_1 : decode method_6_code 1 = .ok (.bipush 18, 2) := by decide +kernel
theorem d1_3 : decode method_6_code 3 = .ok (.iload_n 2, 1) := by decide +kernel
theorem d1_4 : decode method_6_code 4 = .ok (.imul, 1) := by decide +kernel
theorem d1_5 : decode method_6_code 5 = .ok (.lushr, 1) := by decide +kernel
theorem d1_6 : decode method_6_code 6 = .ok (.ldc2_w 26, 3) := by decide +kernel
theorem d1_9 : decode method_6_code 9 = .ok (.land, 1) := by decide +kernel
theorem d1_10 : decode method_6_code 10 = .ok (.lreturn, 1) := by decide +kernel
theorem pn_1 : plainName "com/example/bylaws_for_tables/bylawsfortables/FindingKeyEqualsPinLaw" = true := by first | (simp [plainName, overriddenIn]; done) | decide +kernel
theorem d2_0 : decode method_4_code 0 = .ok (.lload_n 0, 1) := by decide +kernel
theorem d2_1 : decode method_4_code 1 = .ok (.invokestatic 11, 3) := by decide +kernel
theorem d2_4 : decode method_4_code 4 = .ok (.istore_n 2, 1) := by decide +kernel
theorem d2_5 : decode method_4_code 5 = .ok (.iload_n 2, 1) := by decide +kernel
theorem d2_6 : decode method_4_code 6 = .ok (.ifCond .ne 14, 3) := by decide +kernel
theorem d2_9 : decode method_4_code 9 = .ok (.new 17, 3) := by decide +kernel
theorem d2_12 : decode method_4_code 12 = .ok (.dup, 1) := by decide +kernel
theorem d2_13 : decode method_4_code 13 = .ok (.iconst 0, 1) := by decide +kernel
theorem d2_14 : decode method_4_code 14 = .ok (.newarray .char, 2) := by decide +kernel
theorem d2_16 : decode method_4_code 16 = .ok (.invokespecial 19, 3) := by decide +kernel
theorem d2_19 : decode method_4_code 19 = .ok (.areturn, 1) := by decide +kernel
theorem d2_20 : decode method_4_code 20 = .ok (.iload_n 2, 1) := by decide +kernel
theorem d2_21 : decode method_4_code 21 = .ok (.iconst 1, 1) := by decide +kernel
theorem d2_22 : decode method_4_code 22 = .ok (.if_icmp .ne 24, 3) := by decide +kernel
theorem d2_25 : decode method_4_code 25 = .ok (.iconst 1, 1) := by decide +kernel
theorem d2_26 : decode method_4_code 26 = .ok (.newarray .char, 2) := by decide +kernel
theorem d2_28 : decode method_4_code 28 = .ok (.astore_n 3, 1) := by decide +kernel
theorem d2_29 : decode method_4_code 29 = .ok (.aload_n 3, 1) := by decide +kernel
theorem d2_30 : decode method_4_code 30 = .ok (.iconst 0, 1) := by decide +kernel
theorem d2_31 : decode method_4_code 31 = .ok (.lload_n 0, 1) := by decide +kernel
theorem d2_32 : decode method_4_code 32 = .ok (.iconst 0, 1) := by decide +kernel
theorem d2_33 : decode method_4_code 33 = .ok (.invokestatic 22, 3) := by decide +kernel
theorem d2_36 : decode method_4_code 36 = .ok (.castore, 1) := by decide +kernel
theorem d2_37 : decode method_4_code 37 = .ok (.new 17, 3) := by decide +kernel
theorem d2_40 : decode method_4_code 40 = .ok (.dup, 1) := by decide +kernel
theorem d2_41 : decode method_4_code 41 = .ok (.aload_n 3, 1) := by decide +kernel
theorem d2_42 : decode method_4_code 42 = .ok (.invokespecial 19, 3) := by decide +kernel
theorem d2_45 : decode method_4_code 45 = .ok (.areturn, 1) := by decide +kernel
theorem d2_46 : decode method_4_code 46 = .ok (.iconst 2, 1) := by decide +kernel
theorem d2_47 : decode method_4_code 47 = .ok (.newarray .char, 2) := by decide +kernel
theorem d2_49 : decode method_4_code 49 = .ok (.astore_n 3, 1) := by decide +kernel
theorem d2_50 : decode method_4_code 50 = .ok (.aload_n 3, 1) := by decide +kernel
theorem d2_51 : decode method_4_code 51 = .ok (.iconst 0, 1) := by decide +kernel
theorem d2_52 : decode method_4_code 52 = .ok (.lload_n 0, 1) := by decide +kernel
theorem d2_53 : decode method_4_code 53 = .ok (.iconst 0, 1) := by decide +kernel
theorem d2_54 : decode method_4_code 54 = .ok (.invokestatic 22, 3) := by decide +kernel
theorem d2_57 : decode method_4_code 57 = .ok (.castore, 1) := by decide +kernel
theorem d2_58 : decode method_4_code 58 = .ok (.aload_n 3, 1) := by decide +kernel
theorem d2_59 : decode method_4_code 59 = .ok (.iconst 1, 1) := by decide +kernel
theorem d2_60 : decode method_4_code 60 = .ok (.lload_n 0, 1) := by decide +kernel
theorem d2_61 : decode method_4_code 61 = .ok (.iconst 1, 1) := by decide +kernel
theorem d2_62 : decode method_4_code 62 = .ok (.invokestatic 22, 3) := by decide +kernel
theorem d2_65 : decode method_4_code 65 = .ok (.castore, 1) := by decide +kernel
theorem d2_66 : decode method_4_code 66 = .ok (.new 17, 3) := by decide +kernel
theorem d2_69 : decode method_4_code 69 = .ok (.dup, 1) := by decide +kernel
theorem d2_70 : decode method_4_code 70 = .ok (.aload_n 3, 1) := by decide +kernel
theorem d2_71 : decode method_4_code 71 = .ok (.invokespecial 19, 3) := by decide +kernel
theorem d2_74 : decode method_4_code 74 = .ok (.areturn, 1) := by decide +kernel
theorem pn_2 : plainName "com/example/bylaws_for_tables/bylawsfortables/FindingKeyEqualsPinLaw" = true := by first | (simp [plainName, overriddenIn]; done) | decide +kernel
theorem d3_0 : decode method_2_code 0 = .ok (.lload_n 0, 1) := by decide +kernel
theorem d3_1 : decode method_2_code 1 = .ok (.ldc2_w 7, 3) := by decide +kernel
theorem d3_4 : decode method_2_code 4 = .ok (.land, 1) := by decide +kernel
theorem d3_5 : decode method_2_code 5 = .ok (.ldc2_w 7, 3) := by decide +kernel
theorem d3_8 : decode method_2_code 8 = .ok (.lrem, 1) := by decide +kernel
theorem d3_9 : decode method_2_code 9 = .ok (.l2i, 1) := by decide +kernel
theorem d3_10 : decode method_2_code 10 = .ok (.ireturn, 1) := by decide +kernel
theorem pn_3 : plainName "com/example/bylaws_for_tables/bylawsfortables/FindingKeyEqualsPinLaw" = true := by first | (simp [plainName, overriddenIn]; done) | decide +kernel
theorem d4_0 : decode jdk_42_method_3_code 0 = .ok (.aload_n 0, 1) := by decide +kernel
theorem d4_1 : decode jdk_42_method_3_code 1 = .ok (.aload_n 1, 1) := by decide +kernel
theorem d4_2 : decode jdk_42_method_3_code 2 = .ok (.iconst 0, 1) := by decide +kernel
theorem d4_3 : decode jdk_42_method_3_code 3 = .ok (.aload_n 1, 1) := by decide +kernel
theorem d4_4 : decode jdk_42_method_3_code 4 = .ok (.arraylength, 1) := by decide +kernel
theorem d4_5 : decode jdk_42_method_3_code 5 = .ok (.aconst_null, 1) := by decide +kernel
theorem d4_6 : decode jdk_42_method_3_code 6 = .ok (.invokespecial 27, 3) := by decide +kernel
theorem d4_9 : decode jdk_42_method_3_code 9 = .ok (.return_, 1) := by decide +kernel
theorem pn_4 : plainName "java/lang/String" = true := by first | (simp [plainName, overriddenIn]; done) | decide +kernel
theorem d5_0 : decode jdk_42_method_149_code 0 = .ok (.aload_n 0, 1) := by decide +kernel
theorem d5_1 : decode jdk_42_method_149_code 1 = .ok (.invokespecial 1, 3) := by decide +kernel
theorem d5_4 : decode jdk_42_method_149_code 4 = .ok (.iload_n 3, 1) := by decide +kernel
theorem d5_5 : decode jdk_42_method_149_code 5 = .ok (.ifCond .ne 22, 3) := by decide +kernel
theorem d5_8 : decode jdk_42_method_149_code 8 = .ok (.aload_n 0, 1) := by decide +kernel
theorem d5_9 : decode jdk_42_method_149_code 9 = .ok (.ldc 7, 2) := by decide +kernel
theorem d5_11 : decode jdk_42_method_149_code 11 = .ok (.getfield 9, 3) := by decide +kernel
theorem d5_14 : decode jdk_42_method_149_code 14 = .ok (.putfield 9, 3) := by decide +kernel
theorem d5_17 : decode jdk_42_method_149_code 17 = .ok (.aload_n 0, 1) := by decide +kernel
theorem d5_18 : decode jdk_42_method_149_code 18 = .ok (.ldc 7, 2) := by decide +kernel
theorem d5_20 : decode jdk_42_method_149_code 20 = .ok (.getfield 15, 3) := by decide +kernel
theorem d5_23 : decode jdk_42_method_149_code 23 = .ok (.putfield 15, 3) := by decide +kernel
theorem d5_26 : decode jdk_42_method_149_code 26 = .ok (.return_, 1) := by decide +kernel
theorem d5_27 : decode jdk_42_method_149_code 27 = .ok (.getstatic 38, 3) := by decide +kernel
theorem d5_30 : decode jdk_42_method_149_code 30 = .ok (.ifCond .eq 28, 3) := by decide +kernel
theorem d5_33 : decode jdk_42_method_149_code 33 = .ok (.aload_n 1, 1) := by decide +kernel
theorem d5_34 : decode jdk_42_method_149_code 34 = .ok (.iload_n 2, 1) := by decide +kernel
theorem d5_35 : decode jdk_42_method_149_code 35 = .ok (.iload_n 3, 1) := by decide +kernel
theorem d5_36 : decode jdk_42_method_149_code 36 = .ok (.invokestatic 177, 3) := by decide +kernel
theorem d5_39 : decode jdk_42_method_149_code 39 = .ok (.astore 5, 2) := by decide +kernel
theorem d5_41 : decode jdk_42_method_149_code 41 = .ok (.aload_n 0, 1) := by decide +kernel
theorem d5_42 : decode jdk_42_method_149_code 42 = .ok (.aload 5, 2) := by decide +kernel
theorem d5_44 : decode jdk_42_method_149_code 44 = .ok (.iload_n 3, 1) := by decide +kernel
theorem d5_45 : decode jdk_42_method_149_code 45 = .ok (.invokestatic 47, 3) := by decide +kernel
theorem d5_48 : decode jdk_42_method_149_code 48 = .ok (.putfield 15, 3) := by decide +kernel
theorem d5_51 : decode jdk_42_method_149_code 51 = .ok (.aload_n 0, 1) := by decide +kernel
theorem d5_52 : decode jdk_42_method_149_code 52 = .ok (.aload 5, 2) := by decide +kernel
theorem d5_54 : decode jdk_42_method_149_code 54 = .ok (.putfield 9, 3) := by decide +kernel
theorem d5_57 : decode jdk_42_method_149_code 57 = .ok (.return_, 1) := by decide +kernel
theorem d5_58 : decode jdk_42_method_149_code 58 = .ok (.aload_n 0, 1) := by decide +kernel
theorem d5_59 : decode jdk_42_method_149_code 59 = .ok (.iconst 1, 1) := by decide +kernel
theorem d5_60 : decode jdk_42_method_149_code 60 = .ok (.putfield 15, 3) := by decide +kernel
theorem d5_63 : decode jdk_42_method_149_code 63 = .ok (.aload_n 0, 1) := by decide +kernel
theorem d5_64 : decode jdk_42_method_149_code 64 = .ok (.aload_n 1, 1) := by decide +kernel
theorem d5_65 : decode jdk_42_method_149_code 65 = .ok (.iload_n 2, 1) := by decide +kernel
theorem d5_66 : decode jdk_42_method_149_code 66 = .ok (.iload_n 3, 1) := by decide +kernel
theorem d5_67 : decode jdk_42_method_149_code 67 = .ok (.invokestatic 180, 3) := by decide +kernel
theorem d5_70 : decode jdk_42_method_149_code 70 = .ok (.putfield 9, 3) := by decide +kernel
theorem d5_73 : decode jdk_42_method_149_code 73 = .ok (.return_, 1) := by decide +kernel
theorem pn_5 : plainName "java/lang/String" = true := by first | (simp [plainName, overriddenIn]; done) | decide +kernel
theorem d7_0 : decode prog_8_method_1_code 0 = .ok (.aload_n 0, 1) := by decide +kernel
theorem d7_1 : decode prog_8_method_1_code 1 = .ok (.invokespecial 1, 3) := by decide +kernel
theorem d7_4 : decode prog_8_method_1_code 4 = .ok (.aload_n 0, 1) := by decide +kernel
theorem d7_5 : decode prog_8_method_1_code 5 = .ok (.aload_n 1, 1) := by decide +kernel
theorem d7_6 : decode prog_8_method_1_code 6 = .ok (.ldc 7, 2) := by decide +kernel
theorem d7_8 : decode prog_8_method_1_code 8 = .ok (.invokestatic 9, 3) := by decide +kernel
theorem d7_11 : decode prog_8_method_1_code 11 = .ok (.checkcast 15, 3) := by decide +kernel
theorem d7_14 : decode prog_8_method_1_code 14 = .ok (.putfield 17, 3) := by decide +kernel
theorem d7_17 : decode prog_8_method_1_code 17 = .ok (.aload_n 0, 1) := by decide +kernel
theorem d7_18 : decode prog_8_method_1_code 18 = .ok (.aload_n 2, 1) := by decide +kernel
theorem d7_19 : decode prog_8_method_1_code 19 = .ok (.ldc 22, 2) := by decide +kernel
theorem d7_21 : decode prog_8_method_1_code 21 = .ok (.invokestatic 9, 3) := by decide +kernel
theorem d7_24 : decode prog_8_method_1_code 24 = .ok (.checkcast 15, 3) := by decide +kernel
theorem d7_27 : decode prog_8_method_1_code 27 = .ok (.putfield 24, 3) := by decide +kernel
theorem d7_30 : decode prog_8_method_1_code 30 = .ok (.aload_n 0, 1) := by decide +kernel
theorem d7_31 : decode prog_8_method_1_code 31 = .ok (.aload_n 3, 1) := by decide +kernel
theorem d7_32 : decode prog_8_method_1_code 32 = .ok (.ldc 26, 2) := by decide +kernel
theorem d7_34 : decode prog_8_method_1_code 34 = .ok (.invokestatic 9, 3) := by decide +kernel
theorem d7_37 : decode prog_8_method_1_code 37 = .ok (.checkcast 15, 3) := by decide +kernel
theorem d7_40 : decode prog_8_method_1_code 40 = .ok (.putfield 28, 3) := by decide +kernel
theorem d7_43 : decode prog_8_method_1_code 43 = .ok (.aload_n 0, 1) := by decide +kernel
theorem d7_44 : decode prog_8_method_1_code 44 = .ok (.lload 4, 2) := by decide +kernel
theorem d7_46 : decode prog_8_method_1_code 46 = .ok (.putfield 30, 3) := by decide +kernel
theorem d7_49 : decode prog_8_method_1_code 49 = .ok (.return_, 1) := by decide +kernel
theorem pn_7 : plainName "com/example/bylaws_for_tables/bylawsfortables/FindingKey" = true := by first | (simp [plainName, overriddenIn]; done) | decide +kernel
theorem d8_0 : decode jdk_31_method_11_code 0 = .ok (.aload_n 0, 1) := by decide +kernel
theorem d8_1 : decode jdk_31_method_11_code 1 = .ok (.ifnonnull 12, 3) := by decide +kernel
theorem d8_4 : decode jdk_31_method_11_code 4 = .ok (.new 84, 3) := by decide +kernel
theorem d8_7 : decode jdk_31_method_11_code 7 = .ok (.dup, 1) := by decide +kernel
theorem d8_8 : decode jdk_31_method_11_code 8 = .ok (.aload_n 1, 1) := by decide +kernel
theorem d8_9 : decode jdk_31_method_11_code 9 = .ok (.invokespecial 87, 3) := by decide +kernel
theorem d8_12 : decode jdk_31_method_11_code 12 = .ok (.athrow, 1) := by decide +kernel
theorem d8_13 : decode jdk_31_method_11_code 13 = .ok (.aload_n 0, 1) := by decide +kernel
theorem d8_14 : decode jdk_31_method_11_code 14 = .ok (.areturn, 1) := by decide +kernel
theorem pn_8 : plainName "java/util/Objects" = true := by first | (simp [plainName, overriddenIn]; done) | decide +kernel
theorem d9_0 : decode prog_8_method_9_code 0 = .ok (.aload_n 1, 1) := by decide +kernel
theorem d9_1 : decode prog_8_method_9_code 1 = .ok (.instanceof 18, 3) := by decide +kernel
theorem d9_4 : decode prog_8_method_9_code 4 = .ok (.ifCond .eq 66, 3) := by decide +kernel
theorem d9_7 : decode prog_8_method_9_code 7 = .ok (.aload_n 1, 1) := by decide +kernel
theorem d9_8 : decode prog_8_method_9_code 8 = .ok (.checkcast 18, 3) := by decide +kernel
theorem d9_11 : decode prog_8_method_9_code 11 = .ok (.astore_n 2, 1) := by decide +kernel
theorem d9_12 : decode prog_8_method_9_code 12 = .ok (.aload_n 0, 1) := by decide +kernel
theorem d9_13 : decode prog_8_method_9_code 13 = .ok (.getfield 30, 3) := by decide +kernel
theorem d9_16 : decode prog_8_method_9_code 16 = .ok (.aload_n 2, 1) := by decide +kernel
theorem d9_17 : decode prog_8_method_9_code 17 = .ok (.getfield 30, 3) := by decide +kernel
theorem d9_20 : decode prog_8_method_9_code 20 = .ok (.lcmp, 1) := by decide +kernel
theorem d9_21 : decode prog_8_method_9_code 21 = .ok (.ifCond .ne 49, 3) := by decide +kernel
theorem d9_24 : decode prog_8_method_9_code 24 = .ok (.aload_n 0, 1) := by decide +kernel
theorem d9_25 : decode prog_8_method_9_code 25 = .ok (.getfield 17, 3) := by decide +kernel
theorem d9_28 : decode prog_8_method_9_code 28 = .ok (.aload_n 2, 1) := by decide +kernel
theorem d9_29 : decode prog_8_method_9_code 29 = .ok (.getfield 17, 3) := by decide +kernel
theorem d9_32 : decode prog_8_method_9_code 32 = .ok (.invokevirtual 125, 3) := by decide +kernel
theorem d9_35 : decode prog_8_method_9_code 35 = .ok (.ifCond .eq 35, 3) := by decide +kernel
theorem d9_38 : decode prog_8_method_9_code 38 = .ok (.aload_n 0, 1) := by decide +kernel
theorem d9_39 : decode prog_8_method_9_code 39 = .ok (.getfield 24, 3) := by decide +kernel
theorem d9_42 : decode prog_8_method_9_code 42 = .ok (.aload_n 2, 1) := by decide +kernel
theorem d9_43 : decode prog_8_method_9_code 43 = .ok (.getfield 24, 3) := by decide +kernel
theorem d9_46 : decode prog_8_method_9_code 46 = .ok (.invokevirtual 125, 3) := by decide +kernel
theorem d9_49 : decode prog_8_method_9_code 49 = .ok (.ifCond .eq 21, 3) := by decide +kernel
theorem d9_52 : decode prog_8_method_9_code 52 = .ok (.aload_n 0, 1) := by decide +kernel
theorem d9_53 : decode prog_8_method_9_code 53 = .ok (.getfield 28, 3) := by decide +kernel
theorem d9_56 : decode prog_8_method_9_code 56 = .ok (.aload_n 2, 1) := by decide +kernel
theorem d9_57 : decode prog_8_method_9_code 57 = .ok (.getfield 28, 3) := by decide +kernel
theorem d9_60 : decode prog_8_method_9_code 60 = .ok (.invokevirtual 125, 3) := by decide +kernel
theorem d9_63 : decode prog_8_method_9_code 63 = .ok (.ifCond .eq 7, 3) := by decide +kernel
theorem d9_66 : decode prog_8_method_9_code 66 = .ok (.iconst 1, 1) := by decide +kernel
theorem d9_67 : decode prog_8_method_9_code 67 = .ok (.goto 4, 3) := by decide +kernel
theorem d9_70 : decode prog_8_method_9_code 70 = .ok (.iconst 0, 1) := by decide +kernel
theorem d9_71 : decode prog_8_method_9_code 71 = .ok (.ireturn, 1) := by decide +kernel
theorem pn_9 : plainName "com/example/bylaws_for_tables/bylawsfortables/FindingKey" = true := by first | (simp [plainName, overriddenIn]; done) | decide +kernel
theorem d10_0 : decode jdk_42_method_66_code 0 = .ok (.aload_n 0, 1) := by decide +kernel
theorem d10_1 : decode jdk_42_method_66_code 1 = .ok (.aload_n 1, 1) := by decide +kernel
theorem d10_2 : decode jdk_42_method_66_code 2 = .ok (.if_acmp .ne 5, 3) := by decide +kernel
theorem d10_5 : decode jdk_42_method_66_code 5 = .ok (.iconst 1, 1) := by decide +kernel
theorem d10_6 : decode jdk_42_method_66_code 6 = .ok (.ireturn, 1) := by decide +kernel
theorem d10_7 : decode jdk_42_method_66_code 7 = .ok (.aload_n 1, 1) := by decide +kernel
theorem d10_8 : decode jdk_42_method_66_code 8 = .ok (.instanceof 10, 3) := by decide +kernel
theorem d10_11 : decode jdk_42_method_66_code 11 = .ok (.ifCond .eq 43, 3) := by decide +kernel
theorem d10_14 : decode jdk_42_method_66_code 14 = .ok (.aload_n 1, 1) := by decide +kernel
theorem d10_15 : decode jdk_42_method_66_code 15 = .ok (.checkcast 10, 3) := by decide +kernel
theorem d10_18 : decode jdk_42_method_66_code 18 = .ok (.astore_n 2, 1) := by decide +kernel
theorem d10_19 : decode jdk_42_method_66_code 19 = .ok (.getstatic 38, 3) := by decide +kernel
theorem d10_22 : decode jdk_42_method_66_code 22 = .ok (.ifCond .eq 14, 3) := by decide +kernel
theorem d10_25 : decode jdk_42_method_66_code 25 = .ok (.aload_n 0, 1) := by decide +kernel
theorem d10_26 : decode jdk_42_method_66_code 26 = .ok (.getfield 15, 3) := by decide +kernel
theorem d10_29 : decode jdk_42_method_66_code 29 = .ok (.aload_n 2, 1) := by decide +kernel
theorem d10_30 : decode jdk_42_method_66_code 30 = .ok (.getfield 15, 3) := by decide +kernel
theorem d10_33 : decode jdk_42_method_66_code 33 = .ok (.if_icmp .ne 21, 3) := by decide +kernel
theorem d10_36 : decode jdk_42_method_66_code 36 = .ok (.aload_n 0, 1) := by decide +kernel
theorem d10_37 : decode jdk_42_method_66_code 37 = .ok (.getfield 9, 3) := by decide +kernel
theorem d10_40 : decode jdk_42_method_66_code 40 = .ok (.aload_n 2, 1) := by decide +kernel
theorem d10_41 : decode jdk_42_method_66_code 41 = .ok (.getfield 9, 3) := by decide +kernel
theorem d10_44 : decode jdk_42_method_66_code 44 = .ok (.invokestatic 541, 3) := by decide +kernel
theorem d10_47 : decode jdk_42_method_66_code 47 = .ok (.ifCond .eq 7, 3) := by decide +kernel
theorem d10_50 : decode jdk_42_method_66_code 50 = .ok (.iconst 1, 1) := by decide +kernel
theorem d10_51 : decode jdk_42_method_66_code 51 = .ok (.goto 4, 3) := by decide +kernel
theorem d10_54 : decode jdk_42_method_66_code 54 = .ok (.iconst 0, 1) := by decide +kernel
theorem d10_55 : decode jdk_42_method_66_code 55 = .ok (.ireturn, 1) := by decide +kernel
theorem pn_10 : plainName "java/lang/String" = true := by first | (simp [plainName, overriddenIn]; done) | decide +kernel
theorem d11_0 : decode method_3_code 0 = .ok (.lload_n 0, 1) := by decide +kernel
theorem d11_1 : decode method_3_code 1 = .ok (.iconst 2, 1) := by decide +kernel
theorem d11_2 : decode method_3_code 2 = .ok (.bipush 8, 2) := by decide +kernel
theorem d11_4 : decode method_3_code 4 = .ok (.iload_n 2, 1) := by decide +kernel
theorem d11_5 : decode method_3_code 5 = .ok (.imul, 1) := by decide +kernel
theorem d11_6 : decode method_3_code 6 = .ok (.iadd, 1) := by decide +kernel
theorem d11_7 : decode method_3_code 7 = .ok (.lushr, 1) := by decide +kernel
theorem d11_8 : decode method_3_code 8 = .ok (.ldc2_w 9, 3) := by decide +kernel
theorem d11_11 : decode method_3_code 11 = .ok (.land, 1) := by decide +kernel
theorem d11_12 : decode method_3_code 12 = .ok (.l2i, 1) := by decide +kernel
theorem d11_13 : decode method_3_code 13 = .ok (.i2c, 1) := by decide +kernel
theorem d11_14 : decode method_3_code 14 = .ok (.ireturn, 1) := by decide +kernel
theorem pn_11 : plainName "com/example/bylaws_for_tables/bylawsfortables/FindingKeyEqualsPinLaw" = true := by first | (simp [plainName, overriddenIn]; done) | decide +kernel
theorem d12_0 : decode jdk_52_method_16_code 0 = .ok (.iload_n 2, 1) := by decide +kernel
theorem d12_1 : decode jdk_52_method_16_code 1 = .ok (.newarray .byte, 2) := by decide +kernel
theorem d12_3 : decode jdk_52_method_16_code 3 = .ok (.astore_n 3, 1) := by decide +kernel
theorem d12_4 : decode jdk_52_method_16_code 4 = .ok (.aload_n 0, 1) := by decide +kernel
theorem d12_5 : decode jdk_52_method_16_code 5 = .ok (.iload_n 1, 1) := by decide +kernel
theorem d12_6 : decode jdk_52_method_16_code 6 = .ok (.aload_n 3, 1) := by decide +kernel
theorem d12_7 : decode jdk_52_method_16_code 7 = .ok (.iconst 0, 1) := by decide +kernel
theorem d12_8 : decode jdk_52_method_16_code 8 = .ok (.iload_n 2, 1) := by decide +kernel
theorem d12_9 : decode jdk_52_method_16_code 9 = .ok (.invokestatic 115, 3) := by decide +kernel
theorem d12_12 : decode jdk_52_method_16_code 12 = .ok (.istore 4, 2) := by decide +kernel
theorem d12_14 : decode jdk_52_method_16_code 14 = .ok (.iload 4, 2) := by decide +kernel
theorem d12_16 : decode jdk_52_method_16_code 16 = .ok (.iload_n 2, 1) := by decide +kernel
theorem d12_17 : decode jdk_52_method_16_code 17 = .ok (.if_icmp .eq 40, 3) := by decide +kernel
theorem d12_20 : decode jdk_52_method_16_code 20 = .ok (.aload_n 0, 1) := by decide +kernel
theorem d12_21 : decode jdk_52_method_16_code 21 = .ok (.iload_n 1, 1) := by decide +kernel
theorem d12_22 : decode jdk_52_method_16_code 22 = .ok (.iload_n 2, 1) := by decide +kernel
theorem d12_23 : decode jdk_52_method_16_code 23 = .ok (.invokestatic 119, 3) := by decide +kernel
theorem d12_26 : decode jdk_52_method_16_code 26 = .ok (.astore 5, 2) := by decide +kernel
theorem d12_28 : decode jdk_52_method_16_code 28 = .ok (.aload 5, 2) := by decide +kernel
theorem d12_30 : decode jdk_52_method_16_code 30 = .ok (.iload 4, 2) := by decide +kernel
theorem d12_32 : decode jdk_52_method_16_code 32 = .ok (.invokestatic 71, 3) := by decide +kernel
theorem d12_35 : decode jdk_52_method_16_code 35 = .ok (.sipush 255, 3) := by decide +kernel
theorem d12_38 : decode jdk_52_method_16_code 38 = .ok (.if_icmp .gt 16, 3) := by decide +kernel
theorem d12_41 : decode jdk_52_method_16_code 41 = .ok (.aload 5, 2) := by decide +kernel
theorem d12_43 : decode jdk_52_method_16_code 43 = .ok (.iconst 0, 1) := by decide +kernel
theorem d12_44 : decode jdk_52_method_16_code 44 = .ok (.aload_n 3, 1) := by decide +kernel
theorem d12_45 : decode jdk_52_method_16_code 45 = .ok (.iconst 0, 1) := by decide +kernel
theorem d12_46 : decode jdk_52_method_16_code 46 = .ok (.iload_n 2, 1) := by decide +kernel
theorem d12_47 : decode jdk_52_method_16_code 47 = .ok (.invokestatic 123, 3) := by decide +kernel
theorem d12_50 : decode jdk_52_method_16_code 50 = .ok (.iload_n 2, 1) := by decide +kernel
theorem d12_51 : decode jdk_52_method_16_code 51 = .ok (.if_icmp .eq 6, 3) := by decide +kernel
theorem d12_54 : decode jdk_52_method_16_code 54 = .ok (.aload 5, 2) := by decide +kernel
theorem d12_56 : decode jdk_52_method_16_code 56 = .ok (.areturn, 1) := by decide +kernel
theorem d12_57 : decode jdk_52_method_16_code 57 = .ok (.aload_n 3, 1) := by decide +kernel
theorem d12_58 : decode jdk_52_method_16_code 58 = .ok (.areturn, 1) := by decide +kernel
theorem pn_12 : plainName "java/lang/StringUTF16" = true := by first | (simp [plainName, overriddenIn]; done) | decide +kernel
theorem d13_0 : decode jdk_52_method_21_code 0 = .ok (.iconst 0, 1) := by decide +kernel
theorem d13_1 : decode jdk_52_method_21_code 1 = .ok (.istore 5, 2) := by decide +kernel
theorem d13_3 : decode jdk_52_method_21_code 3 = .ok (.iload 5, 2) := by decide +kernel
theorem d13_5 : decode jdk_52_method_21_code 5 = .ok (.iload 4, 2) := by decide +kernel
theorem d13_7 : decode jdk_52_method_21_code 7 = .ok (.if_icmp .ge 37, 3) := by decide +kernel
theorem d13_10 : decode jdk_52_method_21_code 10 = .ok (.aload_n 0, 1) := by decide +kernel
theorem d13_11 : decode jdk_52_method_21_code 11 = .ok (.iload_n 1, 1) := by decide +kernel
theorem d13_12 : decode jdk_52_method_21_code 12 = .ok (.caload, 1) := by decide +kernel
theorem d13_13 : decode jdk_52_method_21_code 13 = .ok (.istore 6, 2) := by decide +kernel
theorem d13_15 : decode jdk_52_method_21_code 15 = .ok (.iload 6, 2) := by decide +kernel
theorem d13_17 : decode jdk_52_method_21_code 17 = .ok (.sipush 255, 3) := by decide +kernel
theorem d13_20 : decode jdk_52_method_21_code 20 = .ok (.if_icmp .le 6, 3) := by decide +kernel
theorem d13_23 : decode jdk_52_method_21_code 23 = .ok (.iload 5, 2) := by decide +kernel
theorem d13_25 : decode jdk_52_method_21_code 25 = .ok (.ireturn, 1) := by decide +kernel
theorem d13_26 : decode jdk_52_method_21_code 26 = .ok (.aload_n 2, 1) := by decide +kernel
theorem d13_27 : decode jdk_52_method_21_code 27 = .ok (.iload_n 3, 1) := by decide +kernel
theorem d13_28 : decode jdk_52_method_21_code 28 = .ok (.iload 6, 2) := by decide +kernel
theorem d13_30 : decode jdk_52_method_21_code 30 = .ok (.i2b, 1) := by decide +kernel
theorem d13_31 : decode jdk_52_method_21_code 31 = .ok (.bastore, 1) := by decide +kernel
theorem d13_32 : decode jdk_52_method_21_code 32 = .ok (.iinc 1 1, 3) := by decide +kernel
theorem d13_35 : decode jdk_52_method_21_code 35 = .ok (.iinc 3 1, 3) := by decide +kernel
theorem d13_38 : decode jdk_52_method_21_code 38 = .ok (.iinc 5 1, 3) := by decide +kernel
theorem d13_41 : decode jdk_52_method_21_code 41 = .ok (.goto (-38), 3) := by decide +kernel
theorem d13_44 : decode jdk_52_method_21_code 44 = .ok (.iload 4, 2) := by decide +kernel
theorem d13_46 : decode jdk_52_method_21_code 46 = .ok (.ireturn, 1) := by decide +kernel
theorem pn_13 : plainName "java/lang/StringUTF16" = true := by first | (simp [plainName, overriddenIn]; done) | decide +kernel
theorem d14_0 : decode jdk_52_method_15_code 0 = .ok (.iload_n 1, 1) := by decide +kernel
theorem d14_1 : decode jdk_52_method_15_code 1 = .ok (.aload_n 0, 1) := by decide +kernel
theorem d14_2 : decode jdk_52_method_15_code 2 = .ok (.arraylength, 1) := by decide +kernel
theorem d14_3 : decode jdk_52_method_15_code 3 = .ok (.isub, 1) := by decide +kernel
theorem d14_4 : decode jdk_52_method_15_code 4 = .ok (.bipush 31, 2) := by decide +kernel
theorem d14_6 : decode jdk_52_method_15_code 6 = .ok (.iushr, 1) := by decide +kernel
theorem d14_7 : decode jdk_52_method_15_code 7 = .ok (.i2b, 1) := by decide +kernel
theorem d14_8 : decode jdk_52_method_15_code 8 = .ok (.ireturn, 1) := by decide +kernel
theorem pn_14 : plainName "java/lang/StringUTF16" = true := by first | (simp [plainName, overriddenIn]; done) | decide +kernel
theorem d15_0 : decode method_5_code 0 = .ok (.lload_n 0, 1) := by decide +kernel
theorem d15_1 : decode method_5_code 1 = .ok (.invokestatic 11, 3) := by decide +kernel
theorem d15_4 : decode method_5_code 4 = .ok (.istore 4, 2) := by decide +kernel
theorem d15_6 : decode method_5_code 6 = .ok (.iload 4, 2) := by decide +kernel
theorem d15_8 : decode method_5_code 8 = .ok (.lload_n 2, 1) := by decide +kernel
theorem d15_9 : decode method_5_code 9 = .ok (.invokestatic 11, 3) := by decide +kernel
theorem d15_12 : decode method_5_code 12 = .ok (.if_icmp .eq 5, 3) := by decide +kernel
theorem d15_15 : decode method_5_code 15 = .ok (.iconst 0, 1) := by decide +kernel
theorem d15_16 : decode method_5_code 16 = .ok (.ireturn, 1) := by decide +kernel
theorem d15_17 : decode method_5_code 17 = .ok (.iload 4, 2) := by decide +kernel
theorem d15_19 : decode method_5_code 19 = .ok (.iconst 1, 1) := by decide +kernel
theorem d15_20 : decode method_5_code 20 = .ok (.if_icmp .lt 18, 3) := by decide +kernel
theorem d15_23 : decode method_5_code 23 = .ok (.lload_n 0, 1) := by decide +kernel
theorem d15_24 : decode method_5_code 24 = .ok (.iconst 0, 1) := by decide +kernel
theorem d15_25 : decode method_5_code 25 = .ok (.invokestatic 22, 3) := by decide +kernel
theorem d15_28 : decode method_5_code 28 = .ok (.lload_n 2, 1) := by decide +kernel
theorem d15_29 : decode method_5_code 29 = .ok (.iconst 0, 1) := by decide +kernel
theorem d15_30 : decode method_5_code 30 = .ok (.invokestatic 22, 3) := by decide +kernel
theorem d15_33 : decode method_5_code 33 = .ok (.if_icmp .eq 5, 3) := by decide +kernel
theorem d15_36 : decode method_5_code 36 = .ok (.iconst 0, 1) := by decide +kernel
theorem d15_37 : decode method_5_code 37 = .ok (.ireturn, 1) := by decide +kernel
theorem d15_38 : decode method_5_code 38 = .ok (.iload 4, 2) := by decide +kernel
theorem d15_40 : decode method_5_code 40 = .ok (.iconst 2, 1) := by decide +kernel
theorem d15_41 : decode method_5_code 41 = .ok (.if_icmp .lt 18, 3) := by decide +kernel
theorem d15_44 : decode method_5_code 44 = .ok (.lload_n 0, 1) := by decide +kernel
theorem d15_45 : decode method_5_code 45 = .ok (.iconst 1, 1) := by decide +kernel
theorem d15_46 : decode method_5_code 46 = .ok (.invokestatic 22, 3) := by decide +kernel
theorem d15_49 : decode method_5_code 49 = .ok (.lload_n 2, 1) := by decide +kernel
theorem d15_50 : decode method_5_code 50 = .ok (.iconst 1, 1) := by decide +kernel
theorem d15_51 : decode method_5_code 51 = .ok (.invokestatic 22, 3) := by decide +kernel
theorem d15_54 : decode method_5_code 54 = .ok (.if_icmp .eq 5, 3) := by decide +kernel
theorem d15_57 : decode method_5_code 57 = .ok (.iconst 0, 1) := by decide +kernel
theorem d15_58 : decode method_5_code 58 = .ok (.ireturn, 1) := by decide +kernel
theorem d15_59 : decode method_5_code 59 = .ok (.iconst 1, 1) := by decide +kernel
theorem d15_60 : decode method_5_code 60 = .ok (.ireturn, 1) := by decide +kernel
theorem pn_15 : plainName "com/example/bylaws_for_tables/bylawsfortables/FindingKeyEqualsPinLaw" = true := by first | (simp [plainName, overriddenIn]; done) | decide +kernel
theorem d16_0 : decode jdk_43_method_13_code 0 = .ok (.aload_n 0, 1) := by decide +kernel
theorem d16_1 : decode jdk_43_method_13_code 1 = .ok (.arraylength, 1) := by decide +kernel
theorem d16_2 : decode jdk_43_method_13_code 2 = .ok (.aload_n 1, 1) := by decide +kernel
theorem d16_3 : decode jdk_43_method_13_code 3 = .ok (.arraylength, 1) := by decide +kernel
theorem d16_4 : decode jdk_43_method_13_code 4 = .ok (.if_icmp .ne 30, 3) := by decide +kernel
theorem d16_7 : decode jdk_43_method_13_code 7 = .ok (.iconst 0, 1) := by decide +kernel
theorem d16_8 : decode jdk_43_method_13_code 8 = .ok (.istore_n 2, 1) := by decide +kernel
theorem d16_9 : decode jdk_43_method_13_code 9 = .ok (.iload_n 2, 1) := by decide +kernel
theorem d16_10 : decode jdk_43_method_13_code 10 = .ok (.aload_n 0, 1) := by decide +kernel
theorem d16_11 : decode jdk_43_method_13_code 11 = .ok (.arraylength, 1) := by decide +kernel
theorem d16_12 : decode jdk_43_method_13_code 12 = .ok (.if_icmp .ge 20, 3) := by decide +kernel
theorem d16_15 : decode jdk_43_method_13_code 15 = .ok (.aload_n 0, 1) := by decide +kernel
theorem d16_16 : decode jdk_43_method_13_code 16 = .ok (.iload_n 2, 1) := by decide +kernel
theorem d16_17 : decode jdk_43_method_13_code 17 = .ok (.baload, 1) := by decide +kernel
theorem d16_18 : decode jdk_43_method_13_code 18 = .ok (.aload_n 1, 1) := by decide +kernel
theorem d16_19 : decode jdk_43_method_13_code 19 = .ok (.iload_n 2, 1) := by decide +kernel
theorem d16_20 : decode jdk_43_method_13_code 20 = .ok (.baload, 1) := by decide +kernel
theorem d16_21 : decode jdk_43_method_13_code 21 = .ok (.if_icmp .eq 5, 3) := by decide +kernel
theorem d16_24 : decode jdk_43_method_13_code 24 = .ok (.iconst 0, 1) := by decide +kernel
theorem d16_25 : decode jdk_43_method_13_code 25 = .ok (.ireturn, 1) := by decide +kernel
theorem d16_26 : decode jdk_43_method_13_code 26 = .ok (.iinc 2 1, 3) := by decide +kernel
theorem d16_29 : decode jdk_43_method_13_code 29 = .ok (.goto (-20), 3) := by decide +kernel
theorem d16_32 : decode jdk_43_method_13_code 32 = .ok (.iconst 1, 1) := by decide +kernel
theorem d16_33 : decode jdk_43_method_13_code 33 = .ok (.ireturn, 1) := by decide +kernel
theorem d16_34 : decode jdk_43_method_13_code 34 = .ok (.iconst 0, 1) := by decide +kernel
theorem d16_35 : decode jdk_43_method_13_code 35 = .ok (.ireturn, 1) := by decide +kernel
theorem pn_16 : plainName "java/lang/StringLatin1" = true := by first | (simp [plainName, overriddenIn]; done) | decide +kernel
theorem d17_0 : decode jdk_33_method_22_code 0 = .ok (.iload_n 0, 1) := by decide +kernel
theorem d17_1 : decode jdk_33_method_22_code 1 = .ok (.bipush (-128), 2) := by decide +kernel
theorem d17_3 : decode jdk_33_method_22_code 3 = .ok (.if_icmp .lt 20, 3) := by decide +kernel
theorem d17_6 : decode jdk_33_method_22_code 6 = .ok (.iload_n 0, 1) := by decide +kernel
theorem d17_7 : decode jdk_33_method_22_code 7 = .ok (.getstatic 191, 3) := by decide +kernel
theorem d17_10 : decode jdk_33_method_22_code 10 = .ok (.if_icmp .gt 13, 3) := by decide +kernel
theorem d17_13 : decode jdk_33_method_22_code 13 = .ok (.getstatic 195, 3) := by decide +kernel
theorem d17_16 : decode jdk_33_method_22_code 16 = .ok (.iload_n 0, 1) := by decide +kernel
theorem d17_17 : decode jdk_33_method_22_code 17 = .ok (.sipush 128, 3) := by decide +kernel
theorem d17_20 : decode jdk_33_method_22_code 20 = .ok (.iadd, 1) := by decide +kernel
theorem d17_21 : decode jdk_33_method_22_code 21 = .ok (.aaload, 1) := by decide +kernel
theorem d17_22 : decode jdk_33_method_22_code 22 = .ok (.areturn, 1) := by decide +kernel
theorem d17_23 : decode jdk_33_method_22_code 23 = .ok (.new 1, 3) := by decide +kernel
theorem d17_26 : decode jdk_33_method_22_code 26 = .ok (.dup, 1) := by decide +kernel
theorem d17_27 : decode jdk_33_method_22_code 27 = .ok (.iload_n 0, 1) := by decide +kernel
theorem d17_28 : decode jdk_33_method_22_code 28 = .ok (.invokespecial 199, 3) := by decide +kernel
theorem d17_31 : decode jdk_33_method_22_code 31 = .ok (.areturn, 1) := by decide +kernel
theorem pn_17 : plainName "java/lang/Integer" = true := by first | (simp [plainName, overriddenIn]; done) | decide +kernel
theorem d18_0 : decode jdk_33_method_23_code 0 = .ok (.aload_n 0, 1) := by decide +kernel
theorem d18_1 : decode jdk_33_method_23_code 1 = .ok (.invokespecial 202, 3) := by decide +kernel
theorem d18_4 : decode jdk_33_method_23_code 4 = .ok (.aload_n 0, 1) := by decide +kernel
theorem d18_5 : decode jdk_33_method_23_code 5 = .ok (.iload_n 1, 1) := by decide +kernel
theorem d18_6 : decode jdk_33_method_23_code 6 = .ok (.putfield 205, 3) := by decide +kernel
theorem d18_9 : decode jdk_33_method_23_code 9 = .ok (.return_, 1) := by decide +kernel
theorem pn_18 : plainName "java/lang/Integer" = true := by first | (simp [plainName, overriddenIn]; done) | decide +kernel
theorem d19_0 : decode jdk_18_method_1_code 0 = .ok (.aload_n 0, 1) := by decide +kernel
theorem d19_1 : decode jdk_18_method_1_code 1 = .ok (.invokespecial 1, 3) := by decide +kernel
theorem d19_4 : decode jdk_18_method_1_code 4 = .ok (.return_, 1) := by decide +kernel
theorem pn_19 : plainName "java/lang/Number" = true := by first | (simp [plainName, overriddenIn]; done) | decide +kernel
theorem pd_0 : parseMethodDescriptor "([CI[BII)I" = some ⟨[(.array .char), .int, (.array .byte), .int, .int], some .int⟩ := by decide +kernel
theorem pd_1 : parseMethodDescriptor "([CII)[B" = some ⟨[(.array .char), .int, .int], some (.array .byte)⟩ := by decide +kernel
theorem pd_2 : parseMethodDescriptor "([BI)B" = some ⟨[(.array .byte), .int], some .byte⟩ := by decide +kernel
theorem la_0 {Z : State} {a0 : Array Value} (hw : ∀ d ∈ tables_1, d.before a0 Z = true) : Laid Z a0 "java/lang/String" "java/lang/String" "value" "[B" := (Or.inr (hw _ (im 31 rfl)))
theorem la_1 {Z : State} {a0 : Array Value} (hw : ∀ d ∈ tables_1, d.before a0 Z = true) : Laid Z a0 "java/lang/String" "java/lang/String" "coder" "B" := (Or.inr (hw _ (im 32 rfl)))
theorem pd_3 : parseMethodDescriptor "([CIILjava/lang/Void;)V" = some ⟨[(.array .char), .int, .int, (.object "java/lang/Void")], none⟩ := by decide +kernel
theorem pd_4 : parseMethodDescriptor "(J)I" = some ⟨[.long], some .int⟩ := by decide +kernel
theorem pd_5 : parseMethodDescriptor "([C)V" = some ⟨[(.array .char)], none⟩ := by decide +kernel
theorem pd_6 : parseMethodDescriptor "(JI)C" = some ⟨[.long, .int], some .char⟩ := by decide +kernel
theorem pd_7 : parseMethodDescriptor "(Ljava/lang/Object;Ljava/lang/String;)Ljava/lang/Object;" = some ⟨[(.object "java/lang/Object"), (.object "java/lang/String")], some (.object "java/lang/Object")⟩ := by decide +kernel
theorem la_2 {Z : State} {a0 : Array Value} (hw : ∀ d ∈ tables_1, d.before a0 Z = true) : Laid Z a0 "com/example/bylaws_for_tables/bylawsfortables/FindingKey" "com/example/bylaws_for_tables/bylawsfortables/FindingKey" "ruleId" "Ljava/lang/String;" := (Or.inr (hw _ (im 51 rfl)))
theorem la_3 {Z : State} {a0 : Array Value} (hw : ∀ d ∈ tables_1, d.before a0 Z = true) : Laid Z a0 "com/example/bylaws_for_tables/bylawsfortables/FindingKey" "com/example/bylaws_for_tables/bylawsfortables/FindingKey" "path" "Ljava/lang/String;" := (Or.inr (hw _ (im 48 rfl)))
theorem la_4 {Z : State} {a0 : Array Value} (hw : ∀ d ∈ tables_1, d.before a0 Z = true) : Laid Z a0 "com/example/bylaws_for_tables/bylawsfortables/FindingKey" "com/example/bylaws_for_tables/bylawsfortables/FindingKey" "message" "Ljava/lang/String;" := (Or.inr (hw _ (im 54 rfl)))
theorem la_5 {Z : State} {a0 : Array Value} (hw : ∀ d ∈ tables_1, d.before a0 Z = true) : Laid Z a0 "com/example/bylaws_for_tables/bylawsfortables/FindingKey" "com/example/bylaws_for_tables/bylawsfortables/FindingKey" "digest" "J" := (Or.inr (hw _ (im 56 rfl)))
theorem pd_8 : parseMethodDescriptor "([B[B)Z" = some ⟨[(.array .byte), (.array .byte)], some .boolean⟩ := by decide +kernel
theorem pd_9 : parseMethodDescriptor "(Ljava/lang/Object;)Z" = some ⟨[(.object "java/lang/Object")], some .boolean⟩ := by decide +kernel
theorem pd_10 : parseMethodDescriptor "()V" = some ⟨[], none⟩ := by decide +kernel
theorem pd_11 : parseMethodDescriptor "(I)V" = some ⟨[.int], none⟩ := by decide +kernel
theorem pd_12 : parseMethodDescriptor "(JI)J" = some ⟨[.long, .int], some .long⟩ := by decide +kernel
theorem pd_13 : parseMethodDescriptor "(J)Ljava/lang/String;" = some ⟨[.long], some (.object "java/lang/String")⟩ := by decide +kernel
theorem pd_14 : parseMethodDescriptor "(Ljava/lang/String;Ljava/lang/String;Ljava/lang/String;J)V" = some ⟨[(.object "java/lang/String"), (.object "java/lang/String"), (.object "java/lang/String"), .long], none⟩ := by decide +kernel
theorem pd_15 : parseMethodDescriptor "(I)Ljava/lang/Integer;" = some ⟨[.int], some (.object "java/lang/Integer")⟩ := by decide +kernel
theorem pd_16 : parseMethodDescriptor "(JJ)Z" = some ⟨[.long, .long], some .boolean⟩ := by decide +kernel
theorem own_atoms {Z : State} {a0 : Array Value} (hw : ∀ d ∈ tables_1, d.before a0 Z = true) : ∀ a ∈ Bundle.stringAtoms, a.before a0 Z = true := fun a ha => hw a ((by decide +kernel : ∀ a ∈ Bundle.stringAtoms, a ∈ tables_1) a ha)
def own_EL : List (String × Nat) := [("java/lang/String", 7)]
theorem own_EW {Z : State} {a0 : Array Value} (hw : ∀ d ∈ tables_1, d.before a0 Z = true) : EW Z a0 own_EL := EW.cons (text := "") (hw _ (List.mem_of_getElem? (i := 29) rfl)) (by decide) EW.nil
theorem own_safe_arv {Z : State} {vm : Vm} {h : Heap} {x : Addr} {k : ClassId} {ty : FieldType} {n : Int32} {vs : List Value} {d : Value} {EL : List (String × Nat)} (hal : Z.vm.Alike vm) (A : Arv Z h x k ty n vs d) (ht : ty ≠ .byte) : Safe Z EL vm h x := by
  obtain ⟨c, A, -⟩ := A
  exact Safe.arr hal A ht
theorem own_safe_null {Z : State} {vm : Vm} {h : Heap} {x : Addr} {EL : List (String × Nat)} (hal : Z.vm.Alike vm) (E : Exa Z h x "java/lang/String") (F : Fld Z h x "java/lang/String" "value" "[B" .null) : Safe Z EL vm h x := fun B => by
  obtain ⟨cell, k, e1, e2, e3, -, -⟩ := E
  obtain ⟨cell', cf, k', i, f, g1, g2, -, -, -, -, g7⟩ := F
  cases e1.symm.trans g1
  obtain ⟨p, -, u, a, -, q, -, F, rfl | rfl⟩ := B
  · have e := (show h[q.sa]? = some q.sC from F.ha).symm.trans e1
    cases e
    obtain ⟨cS, ⟨⟨-, -, -, ⟨c1, k1, i1, f1, -⟩, -, -, -, v1, -⟩, -⟩, -⟩ := F
    obtain ⟨k3, e3, -⟩ := State.fieldFound?_setVm (s := Z) (vm' := vm) hal g2
    have e4 := (show (Wst Z vm h).fieldFound? _ _ _ = _ from e3).symm.trans f1
    simp only [Option.some.injEq, Prod.mk.injEq] at e4
    rw [← e4.2.2.2, g7] at v1
    cases v1
  · have e5 := Option.some.inj ((show h[q.sd]? = some q.SA from F.hd).symm.trans e1)
    obtain ⟨cS, -, -, f, -⟩ := F
    have f' : vm.findClass "[B" = some q.SA.cls := f
    rw [e5] at f'
    rw [hal.findClass] at f'
    obtain ⟨k1, q1, q2⟩ := Vm.findClass_spec f'
    obtain ⟨k2, q3, q4⟩ := Vm.findClass_spec e2
    cases q1.symm.trans q3
    have : ("[B" : String) = "java/lang/String" := q2.symm.trans q4
    exact absurd this (by decide)
def own_Str (Z : State) (h : Heap) (a : Addr) (bs : List Int32) (B : Nat) : Prop := ∃ (v : Addr) (k : ClassId), Exa Z h a "java/lang/String" ∧ Fld Z h a "java/lang/String" "coder" "B" (.int (0 : Int32)) ∧ Fld Z h a "java/lang/String" "value" "[B" (.ref v) ∧ Arv Z h v k .byte (Int32.ofNat bs.length) (bs.map Value.int) (.int (0 : Int32)) ∧ bs.length ≤ 2 ∧ a < B ∧ v < B
theorem own_Str_lt {Z : State} {h : Heap} {a : Addr} {bs : List Int32} {B : Nat} (F : own_Str Z h a bs B) : a < h.size := by
  obtain ⟨v, k, E, r⟩ := F
  exact E.lt
theorem own_Str_exa {Z : State} {h : Heap} {a : Addr} {bs : List Int32} {B : Nat} (F : own_Str Z h a bs B) : Exa Z h a "java/lang/String" := by
  obtain ⟨v, k, E, r⟩ := F
  exact E
theorem own_Str_ext {Z : State} {h h' : Heap} {a : Addr} {bs : List Int32} {B : Nat} (F : own_Str Z h a bs B) (X : Ext h h') : own_Str Z h' a bs B := by
  obtain ⟨v, k, E, C, V, A, r⟩ := F
  exact ⟨v, k, E.ext X, C.ext X, V.ext X, A.ext X, r⟩
def own_far (Z : State) (h : Heap) (B : Nat) (w : Addr) : Prop := B ≤ w ∨ ∃ (C : String) (n : Nat) (a0 : Array Value), Exa Z h w C ∧ (Jvm.Cond.instantiable C n).before a0 Z = true ∧ C ≠ "java/lang/String"
theorem own_Str_keep {Z : State} {h h' : Heap} {a : Addr} {bs : List Int32} {B : Nat} {ws : List Addr} (F : own_Str Z h a bs B) (K : Keep h h' ws) (q : ∀ w ∈ ws, own_far Z h B w) : own_Str Z h' a bs B := by
  obtain ⟨v, k, E, C, V, A, l, ha, hv⟩ := F
  have na : a ∉ ws := fun z => by
    rcases q a z with g | ⟨D, n, a0, ED, wi, hD⟩
    · exact absurd g (Nat.not_le.mpr ha)
    · exact ne_exa ED E hD rfl
  have nv : v ∉ ws := fun z => by
    rcases q v z with g | ⟨D, n, a0, ED, wi, hD⟩
    · exact absurd g (Nat.not_le.mpr hv)
    · obtain ⟨c, A', -⟩ := A
      exact ne_arr ED wi A' rfl
  exact ⟨v, k, E.keep K, C.keep K na, V.keep K na, A.keep K nv, l, ha, hv⟩
theorem own_Str_wr {Z : State} {h h' : Heap} {a w : Addr} {bs : List Int32} {B sl : Nat} {x : Value} (F : own_Str Z h a bs B) (W : Wr h h' w sl x) (q : own_far Z h B w) : own_Str Z h' a bs B := own_Str_keep F (Keep.of_wr W) (allS q all0)
theorem own_three (l : List Int32) (h : l.length ≤ 2) : l = [] ∨ (∃ a, l = [a]) ∨ ∃ a b, l = [a, b] := by
  match l, h with
  | [], _ => exact Or.inl rfl
  | [a], _ => exact Or.inr (Or.inl ⟨a, rfl⟩)
  | [a, b], _ => exact Or.inr (Or.inr ⟨a, b, rfl⟩)
theorem own_NS_root {Z : State} {a0 : Array Value} {O K : String} {n : Nat} (w : (Jvm.Cond.noSuperclass O).before a0 Z = true) (wk : (Jvm.Cond.instantiable K n).before a0 Z = true) (hn : O ≠ K) : NS Z O K := by
  obtain ⟨c, k, h1, h2, h3, -, -⟩ := Cond.noSuperclass_spec w
  obtain ⟨t, kt, g1, -⟩ := Cond.instantiable_spec wk
  have ne := ids_ne h1 g1 hn
  refine ⟨c, t, h1, g1, fun fuel => ?_⟩
  cases fuel with
  | zero => rfl
  | succ f => simp [Vm.isSubclassAux, ne, h2, h3]
theorem own_NS_no {Z : State} {a0 : Array Value} {C S K : String} {n : Nat} (w : (Jvm.Cond.superclass C S).before a0 Z = true) (wk : (Jvm.Cond.instantiable K n).before a0 Z = true) (q : NS Z C K) (hn : C ≠ K) : ∃ c t, Z.vm.findClass C = some c ∧ Z.vm.findClass K = some t ∧ Z.vm.assignable c t = false := by
  obtain ⟨c, t, h0, g0, n3⟩ := q
  obtain ⟨p, k, kp, h1, h2, h3, h4, h5, -, h7⟩ := Cond.superclass_spec h0 w
  obtain ⟨t', k', g1, g2, g5, g7, -, -⟩ := Cond.instantiable_spec wk
  cases g0.symm.trans g1
  have ne := ids_ne h0 g0 hn
  have g8 : k'.isInterface = false := by
    cases hi : k'.isInterface with
    | false => rfl
    | true => simp [hi] at g7
  refine ⟨c, t, h0, g0, ?_⟩
  show Z.vm.assignableAux (255 + 1) c t = false
  simp [Vm.assignableAux, ne, h2, g2, h5, g5, g8, Vm.isSubclass, n3]
theorem own_ch (a : Int32) (h : 0 ≤ a.toInt ∧ a.toInt ≤ 255) : (nar .char a) = a := by
  show a.toUInt32.toUInt16.toUInt32.toInt32 = a
  have c := c_i2c a
  apply Int32.toInt_inj.mp
  omega
theorem own_ch255 (a : Int32) (h : 0 ≤ a.toInt ∧ a.toInt ≤ 255) : ¬ ((255 : Int32) < (nar .char a)) := by
  rw [own_ch a h, Int32.lt_iff_toInt_lt]
  have k : (255 : Int32).toInt = 255 := by decide
  rw [k]; omega
theorem own_rng (y : Int32) : 0 ≤ ((y &&& (255 : Int32)).toUInt32.toUInt16.toUInt32.toInt32).toInt ∧ ((y &&& (255 : Int32)).toUInt32.toUInt16.toUInt32.toInt32).toInt ≤ 255 := by
  rw [i2c_mask]
  have h := c_mask y 255 8 (by decide) (by decide)
  rw [h]; omega
theorem own_inj (a b : Int32) (ha : 0 ≤ a.toInt ∧ a.toInt ≤ 255) (hb : 0 ≤ b.toInt ∧ b.toInt ≤ 255) : ((nar .byte ((nar .char a).toInt8.toInt32)) = (nar .byte ((nar .char b).toInt8.toInt32))) ↔ a = b := by
  rw [own_ch a ha, own_ch b hb]
  constructor
  · intro h
    have h' : (a.toInt8.toInt32).toInt8.toInt32 = (b.toInt8.toInt32).toInt8.toInt32 := h
    have c1 := c_i2b a
    have c2 := c_i2b (a.toInt8.toInt32)
    have c3 := c_i2b b
    have c4 := c_i2b (b.toInt8.toInt32)
    rw [h'] at c2
    apply Int32.toInt_inj.mp
    omega
  · intro h
    rw [h]
def own_field (k : Int64) (i : Int32) : Int64 := (((k.toUInt64 >>> (((18 : Int32) * i) &&& 0x3f).toInt64.toUInt64).toInt64) &&& (262143 : Int64))
def own_len (x : Int64) : Int32 := (((x &&& (3 : Int64)) - ((x &&& (3 : Int64)) / (3 : Int64)) * (3 : Int64)).toInt32)
def own_chr (x : Int64) (i : Int32) : Int32 := (nar .char ((((x.toUInt64 >>> (((2 : Int32) + ((8 : Int32) * i)) &&& 0x3f).toInt64.toUInt64).toInt64) &&& (255 : Int64)).toInt32.toUInt32.toUInt16.toUInt32.toInt32))
def own_str (x : Int64) : List Int32 := if own_len x = (0 : Int32) then [] else if own_len x = (1 : Int32) then [(nar .byte ((nar .char (own_chr x (0 : Int32))).toInt8.toInt32))] else [(nar .byte ((nar .char (own_chr x (0 : Int32))).toInt8.toInt32)), (nar .byte ((nar .char (own_chr x (1 : Int32))).toInt8.toInt32))]
theorem own_rngc (x : Int64) (i : Int32) : 0 ≤ (own_chr x i).toInt ∧ (own_chr x i).toInt ≤ 255 := by
  unfold own_chr
  generalize ((x.toUInt64 >>> (((2 : Int32) + ((8 : Int32) * i)) &&& 0x3f).toInt64.toUInt64).toInt64) = y
  have h := c_maskL y 255 8 (by decide) (by decide)
  have h2 := c_l2i (y &&& 255)
  have r := rng32 ((y &&& 255).toInt32)
  have h3 := c_i2c ((y &&& 255).toInt32)
  have e : ((y &&& 255).toInt32.toUInt32.toUInt16.toUInt32.toInt32).toInt = y.toInt % ((2 ^ 8 : Nat) : Int) := by omega
  rw [own_ch _ (by rw [e]; omega), e]
  omega
theorem own_c255 (x : Int64) (i : Int32) : ¬ ((255 : Int32) < (nar .char (own_chr x i))) := own_ch255 _ (own_rngc x i)
theorem own_len3 (x : Int64) : own_len x = 0 ∨ own_len x = 1 ∨ own_len x = 2 := by
  have h1 := c_maskL x 3 2 (by decide) (by decide)
  have h3 := (c_lrem (x &&& 3) 3 3 (by decide)).1 (by rw [h1]; omega)
  have h5 := c_l2i ((x &&& (3 : Int64)) - ((x &&& (3 : Int64)) / (3 : Int64)) * (3 : Int64))
  have r := rng32 (own_len x)
  have h4 : (own_len x).toInt = 0 ∨ (own_len x).toInt = 1 ∨ (own_len x).toInt = 2 := by
    have e : (own_len x).toInt = (((x &&& (3 : Int64)) - ((x &&& (3 : Int64)) / (3 : Int64)) * (3 : Int64)).toInt32).toInt := rfl
    omega
  have k0 : (0 : Int32).toInt = 0 := by decide
  have k1 : (1 : Int32).toInt = 1 := by decide
  have k2 : (2 : Int32).toInt = 2 := by decide
  rcases h4 with h | h | h
  · exact Or.inl (Int32.toInt_inj.mp (h.trans k0.symm))
  · exact Or.inr (Or.inl (Int32.toInt_inj.mp (h.trans k1.symm)))
  · exact Or.inr (Or.inr (Int32.toInt_inj.mp (h.trans k2.symm)))
theorem own_same (x y : Int64) : (own_str x = own_str y) ↔ (own_len x = own_len y ∧ (own_len x < (1 : Int32) ∨ own_chr x (0 : Int32) = own_chr y (0 : Int32)) ∧ (own_len x < (2 : Int32) ∨ own_chr x (1 : Int32) = own_chr y (1 : Int32))) := by
  have i0 := own_inj _ _ (own_rngc x 0) (own_rngc y 0)
  have i1 := own_inj _ _ (own_rngc x 1) (own_rngc y 1)
  have k1 : ¬ ((1 : Int32) < 1) := by decide
  have k2 : ((1 : Int32) < 2) := by decide
  have k3 : ¬ ((2 : Int32) < 1) := by decide
  have k4 : ¬ ((2 : Int32) < 2) := by decide
  have k5 : ((0 : Int32) < 1) := by decide
  have k6 : ((0 : Int32) < 2) := by decide
  have k7 : ¬ ((1 : Int32) = 0) := by decide
  have k8 : ¬ ((2 : Int32) = 0) := by decide
  have k9 : ¬ ((2 : Int32) = 1) := by decide
  have k10 : ¬ ((0 : Int32) = 1) := by decide
  have k11 : ¬ ((0 : Int32) = 2) := by decide
  have k12 : ¬ ((1 : Int32) = 2) := by decide
  rcases own_len3 x with h | h | h <;> rcases own_len3 y with h' | h' | h' <;> simp [own_str, h, h', k1, k2, k3, k4, k5, k6, k7, k8, k9, k10, k11, k12, i0, i1]
theorem own_idx (x : Int32) (h1 : ¬ (x < (-128 : Int32))) (h2 : ¬ ((127 : Int32) < x)) : ¬ (x + (128 : Int32)) < 0 ∧ (x + (128 : Int32)) < (256 : Int32) := by
  rw [Int32.lt_iff_toInt_lt] at h1 h2
  have k1 : (-128 : Int32).toInt = -128 := by decide
  have k2 : (127 : Int32).toInt = 127 := by decide
  have k3 : (128 : Int32).toInt = 128 := by decide
  have k4 : (256 : Int32).toInt = 256 := by decide
  have k5 : (0 : Int32).toInt = 0 := by decide
  rw [k1] at h1
  rw [k2] at h2
  have c2 := c_iadd x 128
  have r2 := rng32 (x + 128)
  rw [k3] at c2
  rw [Int32.lt_iff_toInt_lt, Int32.lt_iff_toInt_lt, k4, k5]
  omega
theorem own_lenA {args : Array Value} {s : State} {t : Term} {a : Addr} {c : Cell} {z : Int32} (ev : t.eval args s none [] s = some (.ref a)) (ha : s.arrayAt? a = some c) (h : (Term.length t).eval args s none [] s = some (.int z)) : c.slots.size < 2 ^ 31 ∧ c.slots.size.toInt32 = z := by
  by_cases hl : c.slots.size < 2 ^ 31
  · exact ⟨hl, Value.int.inj (Option.some.inj ((len_f ev ha hl).symm.trans h))⟩
  · simp [Term.eval, ev, ha, hl] at h
theorem own_sub {args : Array Value} {first s : State} {o : Option Outcome} {idx : List Nat} {a b : Term} {x y : Int32} (h1 : a.eval args first o idx s = some (.int x)) (h2 : b.eval args first o idx s = some (.int y)) : (Term.sub a b).eval args first o idx s = some (.int (x - y)) := by simp [Term.eval, h1, h2]

def Qc2s1 (Z : State) (x0 : Addr) (x2 : Addr) (kc : ClassId) (kb : ClassId) (c0 : Int32) (h0 : Heap) (n0 : Nat) (v : Option Value) (h : Heap) (L : List Loc) : Prop := v = some (.int 1) ∧ Fr n0 L ∧ Keep h0 h [x2] ∧ Arv Z h x2 kb .byte (1 : Int32) [(.int (nar .byte (c0.toInt8.toInt32)))] (.int 0)
theorem ef_c2s1 (m : MethodId) (x0 : Addr) (x2 : Addr) : entryFrame m #[(.ref x0), (.int 0), (.ref x2), (.int 0), (.int 1)] 7 = mkF m 0 #[rv x0, iv 0, rv x2, iv 0, iv 1, .unset, .unset] [] := by first | (simp [entryFrame, mkF, argsToLocals, Value.category]; done) | rfl
set_option maxRecDepth 65536 in
set_option maxHeartbeats 40000000 in
theorem rmc2s1 (l : Launch) (Z : State) (a0 : Array Value) (hw : ∀ d ∈ tables_1, d.before a0 Z = true) (ws : List Jvm.Cond) (x0 : Addr) (x2 : Addr) (kc : ClassId) (kb : ClassId) (c0 : Int32) (h0 : Heap) (n0 : Nat) (Z0 : n0 ≤ h0.size) (pre_A_x0 : Arv Z h0 x0 kc .char (1 : Int32) [(.int c0)] (.int 0)) (pre_A_x2 : Arv Z h0 x2 kb .byte (1 : Int32) [(.int 0)] (.int 0)) (g_x2 : n0 ≤ x2) (ne_x0_x2 : x0 ≠ x2) (hc0 : ¬ ((255 : Int32) < c0)) :
    MetFree l (⟨"java/lang/StringUTF16", "compress", "([CI[BII)I"⟩ : MethodName) (head1 (Jvm.Cond.code (⟨"java/lang/StringUTF16", "compress", "([CI[BII)I"⟩ : MethodName) jdk_52_method_21_code 7 (some .int) :: ws) ({ frames := 0, cells := 0, slots := 0, locals := 0 } : Room)) (fun a U => a = #[(.ref x0), (.int 0), (.ref x2), (.int 0), (.int 1)] ∧ Z.Warmed39 U.vm ∧ U.heap = h0) (fun _ _ _ _ _ => True) (fun _ U o U' => ∃ v L, o = .returned v ∧ Qc2s1 Z x0 x2 kc kb c0 h0 n0 v U'.heap L ∧ FrameEnd U o U' L ({ frames := 0, cells := 0, slots := 0, locals := 0 } : Room).cells ({ frames := 0, cells := 0, slots := 0, locals := 0 } : Room).slots) := by
  refine MetFree.of_bodySF (plainFor_of_name pn_13) hisR ?_
  intro p e s m args below meth c s₁ Bd hml0 hP hK
  obtain ⟨rfl, hZ, hh⟩ := hP
  have hx := Bd.exec
  have hby := Bd.bytes
  have hml : c.maxLocals = 7 := hml0
  have hown : s.vm.findClass "java/lang/StringUTF16" = some m.cls := findClass_of_methodNamed Bd.named
  have hnm := (name_of_methodNamed Bd.named Bd.method).1
  have X0 : Stand p l e ({ frames := 0, cells := 0, slots := 0, locals := 0 } : Room) s m #[(.ref x0), (.int 0), (.ref x2), (.int 0), (.int 1)] below meth c s₁ [] 0 0 := Stand.of_body Bd
  have e0 : s₁.heap = h0 := by rw [← hh, Bd.state]; rfl
  have N0 := Fr.nil n0
  have Kp0 := Keep.refl h0 [x2]
  have P0 : ∀ t, Steps p.tables e below (s₁.setTop (mkF m 0 #[rv x0, iv 0, rv x2, iv 0, iv 1, .unset, .unset] [])) t → Steps p.tables e below (s₁.setTop (entryFrame m #[(.ref x0), (.int 0), (.ref x2), (.int 0), (.int 1)] 7)) t := fun t k => castTop (ef_c2s1 m x0 x2) k
  obtain ⟨cl2, Ar2, qa2, S2, Nn2, H2, G2⟩ := id pre_A_x0
  have hin2 : ¬ ((0 : Int32) < 0 ∨ cl2.slots.size ≤ ((0 : Int32)).toNatClampNeg) := inb_of S2 ⟨by decide, by decide⟩
  have hat2 : cl2.slots[((0 : Int32)).toNatClampNeg]? = some (.int c0) := Has.at H2 hin2 rfl
  have hc20_3 : ¬ ((255 : Int32) < c0) := hc0
  obtain ⟨cl4, Ar4, qa4, S4, Nn4, H4, G4⟩ := id pre_A_x2
  have hin4 : ¬ ((0 : Int32) < 0 ∨ cl4.slots.size ≤ ((0 : Int32)).toNatClampNeg) := inb_of S4 ⟨by decide, by decide⟩
  obtain ⟨T5, h5, X5, e5, W5, st5⟩ := stB X0 hx hZ e0 Ar4 (j := (0 : Int32)) hin4 (g := (mkF m 31 #[rv x0, iv 0, rv x2, iv 0, iv 1, iv 0, iv c0] [(.int (c0.toInt8.toInt32)), (.int 0), (.ref x2)])) rfl rfl (hb hby d13_31)
  have Z5_ : n0 ≤ h5.size := Nat.le_trans Z0 (Nat.le_of_eq W5.size.symm)
  have N5 := Fr.snoc X5 N0 g_x2
  have KK5 := Kp0.wr W5 (Or.inl (List.mem_of_getElem? (i := 0) rfl))
  have V5 : Arv Z h5 x2 kb .byte (1 : Int32) [(.int (nar .byte (c0.toInt8.toInt32)))] (.int 0) := Arv.set Ar4 qa4 S4 Nn4 H4 G4 (by first | exact fits_nar_byte _ | decide | rfl) W5 0 rfl (Nat.le_of_ble_eq_true rfl)
  have P7 := own_go P0 (S' := T5.setTop (mkF m 46 #[rv x0, iv 1, rv x2, iv 1, iv 1, iv 1, iv c0] [(.int 1)])) (by
    intro t k
    refine XS.iconst X0.here hx rfl (hb hby d13_0) ?_
    refine XS.istore X0.here hx rfl (hb hby d13_1) rfl (l' := #[rv x0, iv 0, rv x2, iv 0, iv 1, iv 0, .unset]) rfl ?_
    refine XS.iload X0.here hx rfl (hb hby d13_3) rfl ?_
    refine XS.iload X0.here hx rfl (hb hby d13_5) rfl ?_
    refine XS.icmpNo X0.here hx rfl (hb hby d13_7) rfl (tlt (by decide)).2.1 ?_
    refine XS.aloadN X0.here hx rfl (hb hby d13_10) rfl rfl ?_
    refine XS.iloadN X0.here hx rfl (hb hby d13_11) rfl ?_
    refine X0.caload hx (j := (0 : Int32)) (v := (.int c0)) (by rw [e0]; exact Ar2.1) (State.isArrayOf_alike hZ.alike Ar2.2.1) Ar2.2.2 hin2 hat2 (g := (mkF m 12 #[rv x0, iv 0, rv x2, iv 0, iv 1, iv 0, .unset] [(.int 0), (.ref x0)])) rfl rfl (hb hby d13_12) _ ?_
    show Steps p.tables e below (s₁.setTop (mkF m 13 #[rv x0, iv 0, rv x2, iv 0, iv 1, iv 0, .unset] [(.int c0)])) _
    refine XS.istore X0.here hx rfl (hb hby d13_13) rfl (l' := #[rv x0, iv 0, rv x2, iv 0, iv 1, iv 0, iv c0]) rfl ?_
    refine XS.iload X0.here hx rfl (hb hby d13_15) rfl ?_
    refine XS.sipush X0.here hx rfl (hb hby d13_17) ?_
    refine XS.icmpYes X0.here hx rfl (pc0 := 20) (pc' := 26) rfl (hb hby d13_20) rfl (flt hc20_3).2.2.2 (by decide) (by decide) ?_
    refine XS.aloadN X0.here hx rfl (hb hby d13_26) rfl rfl ?_
    refine XS.iloadN X0.here hx rfl (hb hby d13_27) rfl ?_
    refine XS.iload X0.here hx rfl (hb hby d13_28) rfl ?_
    refine XS.i2b X0.here hx rfl (hb hby d13_30) rfl ?_
    show Steps p.tables e below (s₁.setTop (mkF m 31 #[rv x0, iv 0, rv x2, iv 0, iv 1, iv 0, iv c0] [(.int (c0.toInt8.toInt32)), (.int 0), (.ref x2)])) _
    refine st5 _ ?_
    refine XS.iinc X5.here hx rfl (hb hby d13_32) rfl (l' := #[rv x0, iv 1, rv x2, iv 0, iv 1, iv 0, iv c0]) rfl ?_
    refine XS.iinc X5.here hx rfl (hb hby d13_35) rfl (l' := #[rv x0, iv 1, rv x2, iv 1, iv 1, iv 0, iv c0]) rfl ?_
    refine XS.iinc X5.here hx rfl (hb hby d13_38) rfl (l' := #[rv x0, iv 1, rv x2, iv 1, iv 1, iv 1, iv c0]) rfl ?_
    refine XS.goto X5.here hx rfl (pc0 := 41) (pc' := 3) rfl (hb hby d13_41) (by decide) (by decide) ?_
    refine XS.iload X5.here hx rfl (hb hby d13_3) rfl ?_
    refine XS.iload X5.here hx rfl (hb hby d13_5) rfl ?_
    refine XS.icmpYes X5.here hx rfl (pc0 := 7) (pc' := 44) rfl (hb hby d13_7) rfl (flt (by decide)).2.1 (by decide) (by decide) ?_
    show Steps p.tables e below (T5.setTop (mkF m 44 #[rv x0, iv 1, rv x2, iv 1, iv 1, iv 1, iv c0] [])) _
    refine XS.iload X5.here hx rfl (hb hby d13_44) rfl ?_
    exact k)
  obtain ⟨fs, hr, hrun, hended, hW, hsame⟩ := X5.leave (v := some (.int 1)) (fun h => by rw [Bd.returns] at h; cases h)
  refine ⟨_, _, P7 _ ?_, hrun, hended, _, _, rfl, ?_, ⟨_, rfl⟩, hW, hsame.mono (by decide) (by decide)⟩
  · show Steps p.tables e below (T5.setTop (mkF m 46 #[rv x0, iv 1, rv x2, iv 1, iv 1, iv 1, iv c0] [(.int 1)])) _
    exact retI X5 hx Bd.returns (hb hby d13_46) hr
  · show Qc2s1 Z x0 x2 kc kb c0 h0 n0 _ T5.heap _
    rw [e5]
    exact ⟨rfl, N5, KK5, V5⟩
def Qc1s1 (Z : State) (x0 : Addr) (kc : ClassId) (c0 : Int32) (h0 : Heap) (n0 : Nat) (v : Option Value) (h : Heap) (L : List Loc) : Prop := ∃ (b : Addr), ∃ (kb : ClassId), v = some (.ref b) ∧ Fr n0 L ∧ Keep h0 h [] ∧ n0 ≤ b ∧ h0.size ≤ b ∧ Arv Z h b kb .byte (1 : Int32) [(.int (nar .byte (c0.toInt8.toInt32)))] (.int 0)
theorem ef_c1s1 (m : MethodId) (x0 : Addr) : entryFrame m #[(.ref x0), (.int 0), (.int 1)] 6 = mkF m 0 #[rv x0, iv 0, iv 1, .unset, .unset, .unset] [] := by first | (simp [entryFrame, mkF, argsToLocals, Value.category]; done) | rfl
set_option maxRecDepth 65536 in
set_option maxHeartbeats 40000000 in
theorem rmc1s1 (l : Launch) (Z : State) (a0 : Array Value) (hw : ∀ d ∈ tables_1, d.before a0 Z = true) (ws : List Jvm.Cond) (x0 : Addr) (kc : ClassId) (c0 : Int32) (h0 : Heap) (n0 : Nat) (Z0 : n0 ≤ h0.size) (pre_A_x0 : Arv Z h0 x0 kc .char (1 : Int32) [(.int c0)] (.int 0)) (hc0 : ¬ ((255 : Int32) < c0)) :
    MetFree l (⟨"java/lang/StringUTF16", "compress", "([CII)[B"⟩ : MethodName) (head1 (Jvm.Cond.code (⟨"java/lang/StringUTF16", "compress", "([CII)[B"⟩ : MethodName) jdk_52_method_16_code 6 (some (.array .byte)) :: ws) ({ frames := 1, cells := 1, slots := 1, locals := 18 } : Room)) (fun a U => a = #[(.ref x0), (.int 0), (.int 1)] ∧ Z.Warmed39 U.vm ∧ U.heap = h0) (fun _ _ _ _ _ => True) (fun _ U o U' => ∃ v L, o = .returned v ∧ Qc1s1 Z x0 kc c0 h0 n0 v U'.heap L ∧ FrameEnd U o U' L ({ frames := 1, cells := 1, slots := 1, locals := 18 } : Room).cells ({ frames := 1, cells := 1, slots := 1, locals := 18 } : Room).slots) := by
  refine MetFree.of_bodySF (plainFor_of_name pn_12) hisR ?_
  intro p e s m args below meth c s₁ Bd hml0 hP hK
  obtain ⟨rfl, hZ, hh⟩ := hP
  have hx := Bd.exec
  have hby := Bd.bytes
  have hml : c.maxLocals = 6 := hml0
  have hown : s.vm.findClass "java/lang/StringUTF16" = some m.cls := findClass_of_methodNamed Bd.named
  have hnm := (name_of_methodNamed Bd.named Bd.method).1
  have X0 : Stand p l e ({ frames := 1, cells := 1, slots := 1, locals := 18 } : Room) s m #[(.ref x0), (.int 0), (.int 1)] below meth c s₁ [] 0 0 := Stand.of_body Bd
  have e0 : s₁.heap = h0 := by rw [← hh, Bd.state]; rfl
  have N0 := Fr.nil n0
  have Kp0 := Keep.refl h0 []
  have P0 : ∀ t, Steps p.tables e below (s₁.setTop (mkF m 0 #[rv x0, iv 0, iv 1, .unset, .unset, .unset] [])) t → Steps p.tables e below (s₁.setTop (entryFrame m #[(.ref x0), (.int 0), (.int 1)] 6)) t := fun t k => castTop (ef_c1s1 m x0) k
  obtain ⟨T1, h1, k1, X1, e1, E1, A1, st1⟩ := newP X0 hx hZ (hw _ (im 30 rfl)) e0 (g := (mkF m 1 #[rv x0, iv 0, iv 1, .unset, .unset, .unset] [(.int 1)])) rfl (hb hby d12_1) rfl (by decide) (cap := 1) (by decide) (by decide) (by decide) (by decide)
  obtain ⟨b1, g1⟩ : ∃ z, z = h0.size := ⟨_, rfl⟩
  rw [← g1] at A1 st1
  have ge_b1 : n0 ≤ b1 := Nat.le_trans Z0 (Nat.le_of_eq g1.symm)
  have sz_b1 : h0.size ≤ b1 := Nat.le_trans Kp0.1 (Nat.le_of_eq g1.symm)
  have Z1_ : n0 ≤ h1.size := Nat.le_trans Z0 E1.1
  have KK1 := Kp0.ext E1
  have V1 : Arv Z h1 b1 k1 .byte (1 : Int32) [(.int 0)] (.int 0) := (Arv.new A1 (by decide)).pad (pad_rep [] (.int 0) 1)
  have q2 := (pre_A_x0.ext E1)
  have ne3 : x0 ≠ b1 := Nat.ne_of_lt (Nat.lt_of_lt_of_le pre_A_x0.lt (Nat.le_of_eq g1.symm))
  obtain ⟨_, _, ⟨T4, L4, k4, n4⟩, -, X4, ⟨Lc4, hQ4, l4, y4, z4⟩, st4⟩ := Jvm.LawKit.callS X1 hx (y := (⟨"java/lang/StringUTF16", "compress", "([CI[BII)I"⟩ : MethodName)) hown (mvT hZ (hw _ (im 78 rfl))) (mvT hZ (hw _ (im 79 rfl))) (mvT hZ (hw _ (im 76 rfl))) (mvT hZ (hw _ (im 80 rfl))) (by decide) (backOf (W := 0) (rmc2s1 l Z a0 hw [] x0 b1 kc k1 c0 h1 n0 Z1_ q2 V1 ge_b1 ne3 (hc0)) hZ (hw _ (im 80 rfl)) (hw _ (im 76 rfl)) (by decide) (by decide)) (g := (mkF m 9 #[rv x0, iv 0, iv 1, rv b1, .unset, .unset] [(.int 1), (.int 0), (.ref b1), (.int 0), (.ref x0)])) rfl (by rw [hml]; rfl) (argsL := [(.ref x0), (.int 0), (.ref b1), (.int 0), (.int 1)]) (rest := []) (lenOf pd_0 rfl) rfl (by show 2 * 0 + _ ≤ _; exact Nat.le_of_eq rfl) (hb hby d12_9) (fun _ _ => ⟨rfl, e1, (by decide : 1 + 0 ≤ _), (by decide : 1 + 0 ≤ _)⟩)
  dsimp only [Pt.U, Pt.locs, Pt.cells, Pt.slots] at X4 l4 y4 z4 st4 hQ4
  subst l4 y4 z4
  obtain ⟨rfl, N4q, K4, r4_0⟩ := hQ4
  have N4 := Fr.app N0 N4q
  have Z4_ : n0 ≤ T4.heap.size := Nat.le_trans Z1_ K4.1
  have KK4 := KK1.trans K4 (allS (Or.inr sz_b1) all0)
  have P6 := own_go P0 (S' := T4.setTop (mkF m 58 #[rv x0, iv 0, iv 1, rv b1, iv 1, .unset] [(.ref b1)])) (by
    intro t k
    refine XS.iloadN X0.here hx rfl (hb hby d12_0) rfl ?_
    refine st1 _ ?_
    refine XS.astoreN X1.here hx rfl (hb hby d12_3) rfl rfl (l' := #[rv x0, iv 0, iv 1, rv b1, .unset, .unset]) rfl ?_
    refine XS.aloadN X1.here hx rfl (hb hby d12_4) rfl rfl ?_
    refine XS.iloadN X1.here hx rfl (hb hby d12_5) rfl ?_
    refine XS.aloadN X1.here hx rfl (hb hby d12_6) rfl rfl ?_
    refine XS.iconst X1.here hx rfl (hb hby d12_7) ?_
    refine XS.iloadN X1.here hx rfl (hb hby d12_8) rfl ?_
    show Steps p.tables e below (T1.setTop (mkF m 9 #[rv x0, iv 0, iv 1, rv b1, .unset, .unset] [(.int 1), (.int 0), (.ref b1), (.int 0), (.ref x0)])) _
    refine st4 _ ?_
    refine XS.istore X4.here hx rfl (hb hby d12_12) rfl (l' := #[rv x0, iv 0, iv 1, rv b1, iv 1, .unset]) rfl ?_
    refine XS.iload X4.here hx rfl (hb hby d12_14) rfl ?_
    refine XS.iloadN X4.here hx rfl (hb hby d12_16) rfl ?_
    refine XS.icmpYes X4.here hx rfl (pc0 := 17) (pc' := 57) rfl (hb hby d12_17) rfl (teq (by decide)).1 (by decide) (by decide) ?_
    refine XS.aloadN X4.here hx rfl (hb hby d12_57) rfl rfl ?_
    exact k)
  obtain ⟨fs, hr, hrun, hended, hW, hsame⟩ := X4.leave (v := some (.ref b1)) (fun h => by rw [Bd.returns] at h; cases h)
  refine ⟨_, _, P6 _ ?_, hrun, hended, _, _, rfl, ?_, ⟨_, rfl⟩, hW, hsame.mono (by decide) (by decide)⟩
  · show Steps p.tables e below (T4.setTop (mkF m 58 #[rv x0, iv 0, iv 1, rv b1, iv 1, .unset] [(.ref b1)])) _
    exact retOut X4 hx (t := (.array .byte)) Bd.returns rfl (Or.inr (Or.inr (Or.inr (Or.inr ⟨rfl, rfl, rfl⟩)))) (hb hby d12_58) hr
  · show Qc1s1 Z x0 kc c0 h0 n0 _ T4.heap _
    exact ⟨b1, k1, rfl, N4, KK4, ge_b1, sz_b1, r4_0⟩
def Qcds1 (Z : State) (x0 : Addr) (kb : ClassId) (y0 : Int32) (h0 : Heap) (n0 : Nat) (v : Option Value) (h : Heap) (L : List Loc) : Prop := v = some (.int 0) ∧ Fr n0 L ∧ h = h0
theorem ef_cds1 (m : MethodId) (x0 : Addr) : entryFrame m #[(.ref x0), (.int 1)] 2 = mkF m 0 #[rv x0, iv 1] [] := by first | (simp [entryFrame, mkF, argsToLocals, Value.category]; done) | rfl
set_option maxRecDepth 65536 in
set_option maxHeartbeats 40000000 in
theorem rmcds1 (l : Launch) (Z : State) (a0 : Array Value) (hw : ∀ d ∈ tables_1, d.before a0 Z = true) (ws : List Jvm.Cond) (x0 : Addr) (kb : ClassId) (y0 : Int32) (h0 : Heap) (n0 : Nat) (Z0 : n0 ≤ h0.size) (pre_A_x0 : Arv Z h0 x0 kb .byte (1 : Int32) [(.int y0)] (.int 0)) :
    MetFree l (⟨"java/lang/StringUTF16", "coderFromArrayLen", "([BI)B"⟩ : MethodName) (head1 (Jvm.Cond.code (⟨"java/lang/StringUTF16", "coderFromArrayLen", "([BI)B"⟩ : MethodName) jdk_52_method_15_code 2 (some .byte) :: ws) ({ frames := 0, cells := 0, slots := 0, locals := 0 } : Room)) (fun a U => a = #[(.ref x0), (.int 1)] ∧ Z.Warmed39 U.vm ∧ U.heap = h0) (fun _ _ _ _ _ => True) (fun _ U o U' => ∃ v L, o = .returned v ∧ Qcds1 Z x0 kb y0 h0 n0 v U'.heap L ∧ FrameEnd U o U' L ({ frames := 0, cells := 0, slots := 0, locals := 0 } : Room).cells ({ frames := 0, cells := 0, slots := 0, locals := 0 } : Room).slots) := by
  refine MetFree.of_bodySF (plainFor_of_name pn_14) hisR ?_
  intro p e s m args below meth c s₁ Bd hml0 hP hK
  obtain ⟨rfl, hZ, hh⟩ := hP
  have hx := Bd.exec
  have hby := Bd.bytes
  have hml : c.maxLocals = 2 := hml0
  have hown : s.vm.findClass "java/lang/StringUTF16" = some m.cls := findClass_of_methodNamed Bd.named
  have hnm := (name_of_methodNamed Bd.named Bd.method).1
  have X0 : Stand p l e ({ frames := 0, cells := 0, slots := 0, locals := 0 } : Room) s m #[(.ref x0), (.int 1)] below meth c s₁ [] 0 0 := Stand.of_body Bd
  have e0 : s₁.heap = h0 := by rw [← hh, Bd.state]; rfl
  have N0 := Fr.nil n0
  have Kp0 := Keep.refl h0 []
  have P0 : ∀ t, Steps p.tables e below (s₁.setTop (mkF m 0 #[rv x0, iv 1] [])) t → Steps p.tables e below (s₁.setTop (entryFrame m #[(.ref x0), (.int 1)] 2)) t := fun t k => castTop (ef_cds1 m x0) k
  obtain ⟨cl1, Ar1, qa1, S1, Nn1, H1, G1⟩ := id pre_A_x0
  have P2 := own_go P0 (S' := s₁.setTop (mkF m 8 #[rv x0, iv 1] [(.int 0)])) (by
    intro t k
    refine XS.iloadN X0.here hx rfl (hb hby d14_0) rfl ?_
    refine XS.aloadN X0.here hx rfl (hb hby d14_1) rfl rfl ?_
    refine X0.arraylength hx (by rw [e0]; exact Ar1.1) (State.isArrayOf_alike hZ.alike Ar1.2.1) (g := (mkF m 2 #[rv x0, iv 1] [(.ref x0), (.int 1)])) rfl rfl (hb hby d14_2) _ ?_
    rw [len_of S1 Nn1]
    refine XS.isub X0.here hx rfl (hb hby d14_3) rfl ?_
    refine XS.bipush X0.here hx rfl (hb hby d14_4) ?_
    refine XS.iushr X0.here hx rfl (hb hby d14_6) rfl ?_
    refine XS.i2b X0.here hx rfl (hb hby d14_7) rfl ?_
    exact k)
  obtain ⟨fs, hr, hrun, hended, hW, hsame⟩ := X0.leave (v := some (.int 0)) (fun h => by rw [Bd.returns] at h; cases h)
  refine ⟨_, _, P2 _ ?_, hrun, hended, _, _, rfl, ?_, ⟨_, rfl⟩, hW, hsame.mono (by decide) (by decide)⟩
  · show Steps p.tables e below (s₁.setTop (mkF m 8 #[rv x0, iv 1] [(.int 0)])) _
    exact retN X0 hx (t := .byte) Bd.returns (by simp) (hb hby d14_8) hr
  · show Qcds1 Z x0 kb y0 h0 n0 _ s₁.heap _
    rw [e0]
    exact ⟨rfl, N0, rfl⟩
def Qi4s1 (Z : State) (x0 : Addr) (x1 : Addr) (cs : Int32) (kc : ClassId) (c0 : Int32) (h0 : Heap) (n0 : Nat) (v : Option Value) (h : Heap) (L : List Loc) : Prop := ∃ (b : Addr), ∃ (kb : ClassId), v = none ∧ Fr n0 L ∧ Keep h0 h [x0] ∧ Exa Z h x0 "java/lang/String" ∧ Fld Z h x0 "java/lang/String" "value" "[B" (.ref b) ∧ Fld Z h x0 "java/lang/String" "coder" "B" (.int 0) ∧ Arv Z h b kb .byte (1 : Int32) [(.int (nar .byte (c0.toInt8.toInt32)))] (.int 0) ∧ n0 ≤ b ∧ h0.size ≤ b
theorem ef_i4s1 (m : MethodId) (x0 : Addr) (x1 : Addr) : entryFrame m #[(.ref x0), (.ref x1), (.int 0), (.int 1), .null] 6 = mkF m 0 #[rv x0, rv x1, iv 0, iv 1, .val .null, .unset] [] := by first | (simp [entryFrame, mkF, argsToLocals, Value.category]; done) | rfl
set_option maxRecDepth 65536 in
set_option maxHeartbeats 40000000 in
theorem rmi4s1 (l : Launch) (Z : State) (a0 : Array Value) (hw : ∀ d ∈ tables_1, d.before a0 Z = true) (ws : List Jvm.Cond) (x0 : Addr) (x1 : Addr) (cs : Int32) (kc : ClassId) (c0 : Int32) (h0 : Heap) (n0 : Nat) (Z0 : n0 ≤ h0.size) (O0 : Old Z n0 h0) (pre_S_COMPACT_STRINGS : Sta Z Z.heap "java/lang/String" "COMPACT_STRINGS" "Z" (.int cs)) (hcs : ¬ (cs = (0 : Int32))) (pre_E_x0 : Exa Z h0 x0 "java/lang/String") (pre_F_x0_value : Fld Z h0 x0 "java/lang/String" "value" "[B" .null) (pre_F_x0_coder : Fld Z h0 x0 "java/lang/String" "coder" "B" (.int 0)) (g_x0 : n0 ≤ x0) (pre_A_x1 : Arv Z h0 x1 kc .char (1 : Int32) [(.int c0)] (.int 0)) (ne_x0_x1 : x0 ≠ x1) (hc0 : ¬ ((255 : Int32) < c0)) :
    MetFree l (⟨"java/lang/String", "<init>", "([CIILjava/lang/Void;)V"⟩ : MethodName) (head1 (Jvm.Cond.code (⟨"java/lang/String", "<init>", "([CIILjava/lang/Void;)V"⟩ : MethodName) jdk_42_method_149_code 6 none :: ws) ({ frames := 2, cells := 1, slots := 1, locals := 35 } : Room)) (fun a U => a = #[(.ref x0), (.ref x1), (.int 0), (.int 1), .null] ∧ Z.Warmed39 U.vm ∧ U.heap = h0) (fun _ _ _ _ _ => True) (fun _ U o U' => ∃ v L, o = .returned v ∧ Qi4s1 Z x0 x1 cs kc c0 h0 n0 v U'.heap L ∧ FrameEnd U o U' L ({ frames := 2, cells := 1, slots := 1, locals := 35 } : Room).cells ({ frames := 2, cells := 1, slots := 1, locals := 35 } : Room).slots) := by
  refine MetFree.of_bodySF (plainFor_of_name pn_5) hisR ?_
  intro p e s m args below meth c s₁ Bd hml0 hP hK
  obtain ⟨rfl, hZ, hh⟩ := hP
  have hx := Bd.exec
  have hby := Bd.bytes
  have hml : c.maxLocals = 6 := hml0
  have hown : s.vm.findClass "java/lang/String" = some m.cls := findClass_of_methodNamed Bd.named
  have hnm := (name_of_methodNamed Bd.named Bd.method).1
  have X0 : Stand p l e ({ frames := 2, cells := 1, slots := 1, locals := 35 } : Room) s m #[(.ref x0), (.ref x1), (.int 0), (.int 1), .null] below meth c s₁ [] 0 0 := Stand.of_body Bd
  have e0 : s₁.heap = h0 := by rw [← hh, Bd.state]; rfl
  have N0 := Fr.nil n0
  have Kp0 := Keep.refl h0 [x0]
  have P0 : ∀ t, Steps p.tables e below (s₁.setTop (mkF m 0 #[rv x0, rv x1, iv 0, iv 1, .val .null, .unset] [])) t → Steps p.tables e below (s₁.setTop (entryFrame m #[(.ref x0), (.ref x1), (.int 0), (.int 1), .null] 6)) t := fun t k => castTop (ef_i4s1 m x0 x1) k
  obtain ⟨T1, X1, e1, st1⟩ := initO X0 hx hZ hown (hw _ (im 26 rfl)) (hw _ (im 27 rfl)) (hw _ (im 28 rfl)) e0 (g := (mkF m 1 #[rv x0, rv x1, iv 0, iv 1, .val .null, .unset] [(.ref x0)])) rfl (by rw [hml]; rfl) rfl (hb hby d5_1) (by decide) (W := 0) (by show 2 * 0 + _ ≤ _; exact Nat.le_of_eq rfl) (by decide)
  obtain ⟨T3, X3, e3, st3⟩ := getS2 X1 hx hZ hown (host := "") (Or.inl (hw _ (im 73 rfl))) Via.refl e1 (pre_S_COMPACT_STRINGS.ext O0.2) (g := (mkF m 27 #[rv x0, rv x1, iv 0, iv 1, .val .null, .unset] [])) rfl (hb hby d5_27)
  have hc30_4 : ¬ (cs = (0 : Int32)) := hcs
  obtain ⟨_, _, ⟨T5, L5, k5, n5⟩, -, X5, ⟨Lc5, hQ5, l5, y5, z5⟩, st5⟩ := Jvm.LawKit.callS X3 hx (y := (⟨"java/lang/StringUTF16", "compress", "([CII)[B"⟩ : MethodName)) hown (mvT hZ (hw _ (im 74 rfl))) (mvT hZ (hw _ (im 75 rfl))) (mvT hZ (hw _ (im 76 rfl))) (mvT hZ (hw _ (im 77 rfl))) (by decide) (backOf (W := 0) (rmc1s1 l Z a0 hw [] x1 kc c0 h0 n0 Z0 pre_A_x1 (hc0)) hZ (hw _ (im 77 rfl)) (hw _ (im 76 rfl)) (by decide) (by decide)) (g := (mkF m 36 #[rv x0, rv x1, iv 0, iv 1, .val .null, .unset] [(.int 1), (.int 0), (.ref x1)])) rfl (by rw [hml]; rfl) (argsL := [(.ref x1), (.int 0), (.int 1)]) (rest := []) (lenOf pd_1 rfl) rfl (by show 2 * 0 + _ ≤ _; exact Nat.le_of_eq rfl) (hb hby d5_36) (fun _ _ => ⟨rfl, e3, (by decide : 0 + 1 ≤ _), (by decide : 0 + 1 ≤ _)⟩)
  dsimp only [Pt.U, Pt.locs, Pt.cells, Pt.slots] at X5 l5 y5 z5 st5 hQ5
  subst l5 y5 z5
  obtain ⟨b_5, kb_5, rfl, N5q, K5, r5_0, r5_1, r5_2⟩ := hQ5
  have N5 := Fr.app N0 N5q
  have Z5_ : n0 ≤ T5.heap.size := Nat.le_trans Z0 K5.1
  have O5_ := O0.keep K5 all0
  have KK5 := Kp0.trans K5 all0
  have szz_b_5 : h0.size ≤ b_5 := Nat.le_trans Kp0.1 r5_1
  obtain ⟨_, _, ⟨T6, L6, k6, n6⟩, -, X6, ⟨Lc6, hQ6, l6, y6, z6⟩, st6⟩ := Jvm.LawKit.callS X5 hx (y := (⟨"java/lang/StringUTF16", "coderFromArrayLen", "([BI)B"⟩ : MethodName)) hown (mvT hZ (hw _ (im 81 rfl))) (mvT hZ (hw _ (im 82 rfl))) (mvT hZ (hw _ (im 76 rfl))) (mvT hZ (hw _ (im 83 rfl))) (by decide) (backOf (W := 1) (rmcds1 l Z a0 hw [] b_5 kb_5 (nar .byte (c0.toInt8.toInt32)) T5.heap n0 Z5_ r5_2) hZ (hw _ (im 83 rfl)) (hw _ (im 76 rfl)) (by decide) (by decide)) (g := (mkF m 45 #[rv x0, rv x1, iv 0, iv 1, .val .null, rv b_5] [(.int 1), (.ref b_5), (.ref x0)])) rfl (by rw [hml]; rfl) (argsL := [(.ref b_5), (.int 1)]) (rest := [(.ref x0)]) (lenOf pd_2 rfl) rfl (by show 2 * 0 + _ ≤ _; exact Nat.le_of_eq rfl) (hb hby d5_45) (fun _ _ => ⟨rfl, rfl, (by decide : 1 + 0 ≤ _), (by decide : 1 + 0 ≤ _)⟩)
  dsimp only [Pt.U, Pt.locs, Pt.cells, Pt.slots] at X6 l6 y6 z6 st6 hQ6
  subst l6 y6 z6
  obtain ⟨rfl, N6q, e6⟩ := hQ6
  have N6 := Fr.app N5 N6q
  have q7 := (pre_F_x0_coder.keep K5 nin0)
  have q8 := (pre_E_x0.keep K5)
  obtain ⟨T9, h9, X9, e9, W9, st9⟩ := putFN X6 hx hZ hown (hw _ (im 36 rfl)) Via.refl e6 q7 q8 (Or.inr ⟨(hw _ (im 32 rfl)), rfl, hnm⟩) (hw _ (im 16 rfl)) (ty := .byte) (v' := (.int 0)) (by decide) rfl (by first | exact fits_nar_byte _ | decide | rfl) (g := (mkF m 48 #[rv x0, rv x1, iv 0, iv 1, .val .null, rv b_5] [(.int 0), (.ref x0)])) rfl rfl (hb hby d5_48)
  have Fw9 := q7.same W9
  have Z9_ : n0 ≤ h9.size := Nat.le_trans Z5_ (Nat.le_of_eq W9.size.symm)
  have O9_ := O5_.wr W9 g_x0
  have N9 := Fr.snoc X9 N6 g_x0
  have KK9 := KK5.wr W9 (Or.inl (List.mem_of_getElem? (i := 0) rfl))
  have q10 := ((pre_F_x0_value.keep K5 nin0).other W9 (Or.inr (own_sn (la_0 hw) (la_1 hw))))
  have q11 := (q8.wr W9)
  obtain ⟨T12, h12, X12, e12, W12, st12⟩ := putF X9 hx hZ hown (host := "") (Or.inl (hw _ (im 35 rfl))) Via.refl e9 q10 q11 (Or.inr ⟨(hw _ (im 31 rfl)), rfl, hnm⟩) (hw _ (im 16 rfl)) (ty := (.array .byte)) (by decide) rfl rfl (g := (mkF m 54 #[rv x0, rv x1, iv 0, iv 1, .val .null, rv b_5] [(.ref b_5), (.ref x0)])) rfl rfl (hb hby d5_54)
  have Fw12 := q10.same W12
  have Z12_ : n0 ≤ h12.size := Nat.le_trans Z9_ (Nat.le_of_eq W12.size.symm)
  have O12_ := O9_.wr W12 g_x0
  have N12 := Fr.snoc X12 N9 g_x0
  have KK12 := KK9.wr W12 (Or.inl (List.mem_of_getElem? (i := 0) rfl))
  have P13 := own_go P0 (S' := T12.setTop (mkF m 57 #[rv x0, rv x1, iv 0, iv 1, .val .null, rv b_5] [])) (by
    intro t k
    refine XS.aloadN X0.here hx rfl (hb hby d5_0) rfl rfl ?_
    refine st1 _ ?_
    refine XS.iloadN X1.here hx rfl (hb hby d5_4) rfl ?_
    refine XS.ifYes X1.here hx rfl (pc0 := 5) (pc' := 27) rfl (hb hby d5_5) rfl ((if0 _ _).trans (feq (by decide)).2) (by decide) (by decide) ?_
    refine st3 _ ?_
    refine XS.ifNo X3.here hx rfl (hb hby d5_30) rfl ((if0 _ _).trans (feq hc30_4).1) ?_
    refine XS.aloadN X3.here hx rfl (hb hby d5_33) rfl rfl ?_
    refine XS.iloadN X3.here hx rfl (hb hby d5_34) rfl ?_
    show Steps p.tables e below (T3.setTop (mkF m 35 #[rv x0, rv x1, iv 0, iv 1, .val .null, .unset] [(.int 0), (.ref x1)])) _
    refine XS.iloadN X3.here hx rfl (hb hby d5_35) rfl ?_
    refine st5 _ ?_
    refine XS.astore X5.here hx rfl (hb hby d5_39) rfl rfl (l' := #[rv x0, rv x1, iv 0, iv 1, .val .null, rv b_5]) rfl ?_
    refine XS.aloadN X5.here hx rfl (hb hby d5_41) rfl rfl ?_
    refine XS.aload X5.here hx rfl (hb hby d5_42) rfl rfl ?_
    refine XS.iloadN X5.here hx rfl (hb hby d5_44) rfl ?_
    refine st6 _ ?_
    refine st9 _ ?_
    show Steps p.tables e below (T9.setTop (mkF m 51 #[rv x0, rv x1, iv 0, iv 1, .val .null, rv b_5] [])) _
    refine XS.aloadN X9.here hx rfl (hb hby d5_51) rfl rfl ?_
    refine XS.aload X9.here hx rfl (hb hby d5_52) rfl rfl ?_
    refine st12 _ ?_
    exact k)
  have q14 := (q11.wr W12)
  have q15 := (Fw9.other W12 (Or.inr (own_sn (la_1 hw) (la_0 hw))))
  have ne16 : x0 ≠ b_5 := Nat.ne_of_lt (Nat.lt_of_lt_of_le pre_E_x0.lt r5_1)
  have q17 := ((r5_2.other W9 (Ne.symm ne16)).other W12 (Ne.symm ne16))
  obtain ⟨fs, hr, hrun, hended, hW, hsame⟩ := X12.leave (v := none) (fun _ => rfl)
  refine ⟨_, _, P13 _ ?_, hrun, hended, _, _, rfl, ?_, ⟨_, rfl⟩, hW, hsame.mono (by decide) (by decide)⟩
  · show Steps p.tables e below (T12.setTop (mkF m 57 #[rv x0, rv x1, iv 0, iv 1, .val .null, rv b_5] [])) _
    exact X12.returnOut hx Bd.returns (hb hby d5_57) hr
  · show Qi4s1 Z x0 x1 cs kc c0 h0 n0 _ T12.heap _
    rw [e12]
    exact ⟨b_5, kb_5, rfl, N12, KK12, q14, Fw12, q15, q17, r5_0, szz_b_5⟩
def Qi1s1 (Z : State) (x0 : Addr) (x1 : Addr) (cs : Int32) (kc : ClassId) (c0 : Int32) (h0 : Heap) (n0 : Nat) (v : Option Value) (h : Heap) (L : List Loc) : Prop := ∃ (b : Addr), ∃ (kb : ClassId), v = none ∧ Fr n0 L ∧ Keep h0 h [x0] ∧ Exa Z h x0 "java/lang/String" ∧ Fld Z h x0 "java/lang/String" "value" "[B" (.ref b) ∧ Fld Z h x0 "java/lang/String" "coder" "B" (.int 0) ∧ Arv Z h b kb .byte (1 : Int32) [(.int (nar .byte (c0.toInt8.toInt32)))] (.int 0) ∧ n0 ≤ b ∧ h0.size ≤ b
theorem ef_i1s1 (m : MethodId) (x0 : Addr) (x1 : Addr) : entryFrame m #[(.ref x0), (.ref x1)] 2 = mkF m 0 #[rv x0, rv x1] [] := by first | (simp [entryFrame, mkF, argsToLocals, Value.category]; done) | rfl
set_option maxRecDepth 65536 in
set_option maxHeartbeats 40000000 in
theorem rmi1s1 (l : Launch) (Z : State) (a0 : Array Value) (hw : ∀ d ∈ tables_1, d.before a0 Z = true) (ws : List Jvm.Cond) (x0 : Addr) (x1 : Addr) (cs : Int32) (kc : ClassId) (c0 : Int32) (h0 : Heap) (n0 : Nat) (Z0 : n0 ≤ h0.size) (O0 : Old Z n0 h0) (pre_S_COMPACT_STRINGS : Sta Z Z.heap "java/lang/String" "COMPACT_STRINGS" "Z" (.int cs)) (hcs : ¬ (cs = (0 : Int32))) (pre_E_x0 : Exa Z h0 x0 "java/lang/String") (pre_F_x0_value : Fld Z h0 x0 "java/lang/String" "value" "[B" .null) (pre_F_x0_coder : Fld Z h0 x0 "java/lang/String" "coder" "B" (.int 0)) (g_x0 : n0 ≤ x0) (pre_A_x1 : Arv Z h0 x1 kc .char (1 : Int32) [(.int c0)] (.int 0)) (ne_x0_x1 : x0 ≠ x1) (hc0 : ¬ ((255 : Int32) < c0)) :
    MetFree l (⟨"java/lang/String", "<init>", "([C)V"⟩ : MethodName) (head1 (Jvm.Cond.code (⟨"java/lang/String", "<init>", "([C)V"⟩ : MethodName) jdk_42_method_3_code 2 none :: ws) ({ frames := 3, cells := 1, slots := 1, locals := 52 } : Room)) (fun a U => a = #[(.ref x0), (.ref x1)] ∧ Z.Warmed39 U.vm ∧ U.heap = h0) (fun _ _ _ _ _ => True) (fun _ U o U' => ∃ v L, o = .returned v ∧ Qi1s1 Z x0 x1 cs kc c0 h0 n0 v U'.heap L ∧ FrameEnd U o U' L ({ frames := 3, cells := 1, slots := 1, locals := 52 } : Room).cells ({ frames := 3, cells := 1, slots := 1, locals := 52 } : Room).slots) := by
  refine MetFree.of_bodySF (plainFor_of_name pn_4) hisR ?_
  intro p e s m args below meth c s₁ Bd hml0 hP hK
  obtain ⟨rfl, hZ, hh⟩ := hP
  have hx := Bd.exec
  have hby := Bd.bytes
  have hml : c.maxLocals = 2 := hml0
  have hown : s.vm.findClass "java/lang/String" = some m.cls := findClass_of_methodNamed Bd.named
  have hnm := (name_of_methodNamed Bd.named Bd.method).1
  have X0 : Stand p l e ({ frames := 3, cells := 1, slots := 1, locals := 52 } : Room) s m #[(.ref x0), (.ref x1)] below meth c s₁ [] 0 0 := Stand.of_body Bd
  have e0 : s₁.heap = h0 := by rw [← hh, Bd.state]; rfl
  have N0 := Fr.nil n0
  have Kp0 := Keep.refl h0 [x0]
  have P0 : ∀ t, Steps p.tables e below (s₁.setTop (mkF m 0 #[rv x0, rv x1] [])) t → Steps p.tables e below (s₁.setTop (entryFrame m #[(.ref x0), (.ref x1)] 2)) t := fun t k => castTop (ef_i1s1 m x0 x1) k
  obtain ⟨cl1, Ar1, qa1, S1, Nn1, H1, G1⟩ := id pre_A_x1
  obtain ⟨_, _, ⟨T2, L2, k2, n2⟩, -, X2, ⟨Lc2, hQ2, l2, y2, z2⟩, st2⟩ := X0.specialBack hx (y := (⟨"java/lang/String", "<init>", "([CIILjava/lang/Void;)V"⟩ : MethodName)) rfl hown (mvT hZ (hw _ (im 22 rfl))) (mvT hZ (hw _ (im 23 rfl))) (mvT hZ (hw _ (im 25 rfl))) (by decide) (backOf (W := 0) (rmi4s1 l Z a0 hw [] x0 x1 cs kc c0 h0 n0 Z0 O0 pre_S_COMPACT_STRINGS (hcs) pre_E_x0 pre_F_x0_value pre_F_x0_coder g_x0 pre_A_x1 ne_x0_x1 (hc0)) hZ (hw _ (im 25 rfl)) (hw _ (im 17 rfl)) (by decide) (by decide)) (g := (mkF m 6 #[rv x0, rv x1] [.null, (.int 1), (.int 0), (.ref x1), (.ref x0)])) rfl (by rw [hml]; rfl) (Steps.refl _) (a := x0) (argsL := [(.ref x1), (.int 0), (.int 1), .null]) (rest := []) (lenOf pd_3 rfl) rfl (by show 2 * 0 + _ ≤ _; exact Nat.le_of_eq rfl) (hb hby d4_6) (fun _ _ => ⟨rfl, e0, (by decide : 0 + 1 ≤ _), (by decide : 0 + 1 ≤ _)⟩)
  dsimp only [Pt.U, Pt.locs, Pt.cells, Pt.slots] at X2 l2 y2 z2 st2 hQ2
  subst l2 y2 z2
  obtain ⟨b_2, kb_2, rfl, N2q, K2, r2_0, r2_1, r2_2, r2_3, r2_4, r2_5⟩ := hQ2
  have N2 := Fr.app N0 N2q
  have Z2_ : n0 ≤ T2.heap.size := Nat.le_trans Z0 K2.1
  have O2_ := O0.keep K2 (allS g_x0 all0)
  have KK2 := Kp0.trans K2 (allS (Or.inl (List.mem_of_getElem? (i := 0) rfl)) all0)
  have szz_b_2 : h0.size ≤ b_2 := Nat.le_trans Kp0.1 r2_5
  have P3 := own_go P0 (S' := T2.setTop (mkF m 9 #[rv x0, rv x1] [])) (by
    intro t k
    refine XS.aloadN X0.here hx rfl (hb hby d4_0) rfl rfl ?_
    refine XS.aloadN X0.here hx rfl (hb hby d4_1) rfl rfl ?_
    refine XS.iconst X0.here hx rfl (hb hby d4_2) ?_
    refine XS.aloadN X0.here hx rfl (hb hby d4_3) rfl rfl ?_
    refine X0.arraylength hx (by rw [e0]; exact Ar1.1) (State.isArrayOf_alike hZ.alike Ar1.2.1) (g := (mkF m 4 #[rv x0, rv x1] [(.ref x1), (.int 0), (.ref x1), (.ref x0)])) rfl rfl (hb hby d4_4) _ ?_
    rw [len_of S1 Nn1]
    refine XS.aconstNull X0.here hx rfl (hb hby d4_5) ?_
    refine st2.trans ?_
    exact k)
  obtain ⟨fs, hr, hrun, hended, hW, hsame⟩ := X2.leave (v := none) (fun _ => rfl)
  refine ⟨_, _, P3 _ ?_, hrun, hended, _, _, rfl, ?_, ⟨_, rfl⟩, hW, hsame.mono (by decide) (by decide)⟩
  · show Steps p.tables e below (T2.setTop (mkF m 9 #[rv x0, rv x1] [])) _
    exact X2.returnOut hx Bd.returns (hb hby d4_9) hr
  · show Qi1s1 Z x0 x1 cs kc c0 h0 n0 _ T2.heap _
    exact ⟨b_2, kb_2, rfl, N2, KK2, r2_0, r2_1, r2_2, r2_3, r2_4, szz_b_2⟩
def Qc2s2 (Z : State) (x0 : Addr) (x2 : Addr) (kc : ClassId) (kb : ClassId) (c0 : Int32) (c1 : Int32) (h0 : Heap) (n0 : Nat) (v : Option Value) (h : Heap) (L : List Loc) : Prop := v = some (.int 2) ∧ Fr n0 L ∧ Keep h0 h [x2] ∧ Arv Z h x2 kb .byte (2 : Int32) [(.int (nar .byte (c0.toInt8.toInt32))), (.int (nar .byte (c1.toInt8.toInt32)))] (.int 0)
theorem ef_c2s2 (m : MethodId) (x0 : Addr) (x2 : Addr) : entryFrame m #[(.ref x0), (.int 0), (.ref x2), (.int 0), (.int 2)] 7 = mkF m 0 #[rv x0, iv 0, rv x2, iv 0, iv 2, .unset, .unset] [] := by first | (simp [entryFrame, mkF, argsToLocals, Value.category]; done) | rfl
set_option maxRecDepth 65536 in
set_option maxHeartbeats 40000000 in
theorem rmc2s2 (l : Launch) (Z : State) (a0 : Array Value) (hw : ∀ d ∈ tables_1, d.before a0 Z = true) (ws : List Jvm.Cond) (x0 : Addr) (x2 : Addr) (kc : ClassId) (kb : ClassId) (c0 : Int32) (c1 : Int32) (h0 : Heap) (n0 : Nat) (Z0 : n0 ≤ h0.size) (pre_A_x0 : Arv Z h0 x0 kc .char (2 : Int32) [(.int c0), (.int c1)] (.int 0)) (pre_A_x2 : Arv Z h0 x2 kb .byte (2 : Int32) [(.int 0), (.int 0)] (.int 0)) (g_x2 : n0 ≤ x2) (ne_x0_x2 : x0 ≠ x2) (hc0 : ¬ ((255 : Int32) < c0)) (hc1 : ¬ ((255 : Int32) < c1)) :
    MetFree l (⟨"java/lang/StringUTF16", "compress", "([CI[BII)I"⟩ : MethodName) (head1 (Jvm.Cond.code (⟨"java/lang/StringUTF16", "compress", "([CI[BII)I"⟩ : MethodName) jdk_52_method_21_code 7 (some .int) :: ws) ({ frames := 0, cells := 0, slots := 0, locals := 0 } : Room)) (fun a U => a = #[(.ref x0), (.int 0), (.ref x2), (.int 0), (.int 2)] ∧ Z.Warmed39 U.vm ∧ U.heap = h0) (fun _ _ _ _ _ => True) (fun _ U o U' => ∃ v L, o = .returned v ∧ Qc2s2 Z x0 x2 kc kb c0 c1 h0 n0 v U'.heap L ∧ FrameEnd U o U' L ({ frames := 0, cells := 0, slots := 0, locals := 0 } : Room).cells ({ frames := 0, cells := 0, slots := 0, locals := 0 } : Room).slots) := by
  refine MetFree.of_bodySF (plainFor_of_name pn_13) hisR ?_
  intro p e s m args below meth c s₁ Bd hml0 hP hK
  obtain ⟨rfl, hZ, hh⟩ := hP
  have hx := Bd.exec
  have hby := Bd.bytes
  have hml : c.maxLocals = 7 := hml0
  have hown : s.vm.findClass "java/lang/StringUTF16" = some m.cls := findClass_of_methodNamed Bd.named
  have hnm := (name_of_methodNamed Bd.named Bd.method).1
  have X0 : Stand p l e ({ frames := 0, cells := 0, slots := 0, locals := 0 } : Room) s m #[(.ref x0), (.int 0), (.ref x2), (.int 0), (.int 2)] below meth c s₁ [] 0 0 := Stand.of_body Bd
  have e0 : s₁.heap = h0 := by rw [← hh, Bd.state]; rfl
  have N0 := Fr.nil n0
  have Kp0 := Keep.refl h0 [x2]
  have P0 : ∀ t, Steps p.tables e below (s₁.setTop (mkF m 0 #[rv x0, iv 0, rv x2, iv 0, iv 2, .unset, .unset] [])) t → Steps p.tables e below (s₁.setTop (entryFrame m #[(.ref x0), (.int 0), (.ref x2), (.int 0), (.int 2)] 7)) t := fun t k => castTop (ef_c2s2 m x0 x2) k
  obtain ⟨cl2, Ar2, qa2, S2, Nn2, H2, G2⟩ := id pre_A_x0
  have hin2 : ¬ ((0 : Int32) < 0 ∨ cl2.slots.size ≤ ((0 : Int32)).toNatClampNeg) := inb_of S2 ⟨by decide, by decide⟩
  have hat2 : cl2.slots[((0 : Int32)).toNatClampNeg]? = some (.int c0) := Has.at H2 hin2 rfl
  have hc20_3 : ¬ ((255 : Int32) < c0) := hc0
  obtain ⟨cl4, Ar4, qa4, S4, Nn4, H4, G4⟩ := id pre_A_x2
  have hin4 : ¬ ((0 : Int32) < 0 ∨ cl4.slots.size ≤ ((0 : Int32)).toNatClampNeg) := inb_of S4 ⟨by decide, by decide⟩
  obtain ⟨T5, h5, X5, e5, W5, st5⟩ := stB X0 hx hZ e0 Ar4 (j := (0 : Int32)) hin4 (g := (mkF m 31 #[rv x0, iv 0, rv x2, iv 0, iv 2, iv 0, iv c0] [(.int (c0.toInt8.toInt32)), (.int 0), (.ref x2)])) rfl rfl (hb hby d13_31)
  have Z5_ : n0 ≤ h5.size := Nat.le_trans Z0 (Nat.le_of_eq W5.size.symm)
  have N5 := Fr.snoc X5 N0 g_x2
  have KK5 := Kp0.wr W5 (Or.inl (List.mem_of_getElem? (i := 0) rfl))
  have V5 : Arv Z h5 x2 kb .byte (2 : Int32) [(.int (nar .byte (c0.toInt8.toInt32))), (.int 0)] (.int 0) := Arv.set Ar4 qa4 S4 Nn4 H4 G4 (by first | exact fits_nar_byte _ | decide | rfl) W5 0 rfl (Nat.le_of_ble_eq_true rfl)
  have q7 := (pre_A_x0.other W5 ne_x0_x2)
  obtain ⟨cl8, Ar8, qa8, S8, Nn8, H8, G8⟩ := id q7
  have hin8 : ¬ ((1 : Int32) < 0 ∨ cl8.slots.size ≤ ((1 : Int32)).toNatClampNeg) := inb_of S8 ⟨by decide, by decide⟩
  have hat8 : cl8.slots[((1 : Int32)).toNatClampNeg]? = some (.int c1) := Has.at H8 hin8 rfl
  have P9 := own_go P0 (S' := T5.setTop (mkF m 15 #[rv x0, iv 1, rv x2, iv 1, iv 2, iv 1, iv c1] [])) (by
    intro t k
    refine XS.iconst X0.here hx rfl (hb hby d13_0) ?_
    refine XS.istore X0.here hx rfl (hb hby d13_1) rfl (l' := #[rv x0, iv 0, rv x2, iv 0, iv 2, iv 0, .unset]) rfl ?_
    refine XS.iload X0.here hx rfl (hb hby d13_3) rfl ?_
    refine XS.iload X0.here hx rfl (hb hby d13_5) rfl ?_
    refine XS.icmpNo X0.here hx rfl (hb hby d13_7) rfl (tlt (by decide)).2.1 ?_
    refine XS.aloadN X0.here hx rfl (hb hby d13_10) rfl rfl ?_
    refine XS.iloadN X0.here hx rfl (hb hby d13_11) rfl ?_
    refine X0.caload hx (j := (0 : Int32)) (v := (.int c0)) (by rw [e0]; exact Ar2.1) (State.isArrayOf_alike hZ.alike Ar2.2.1) Ar2.2.2 hin2 hat2 (g := (mkF m 12 #[rv x0, iv 0, rv x2, iv 0, iv 2, iv 0, .unset] [(.int 0), (.ref x0)])) rfl rfl (hb hby d13_12) _ ?_
    show Steps p.tables e below (s₁.setTop (mkF m 13 #[rv x0, iv 0, rv x2, iv 0, iv 2, iv 0, .unset] [(.int c0)])) _
    refine XS.istore X0.here hx rfl (hb hby d13_13) rfl (l' := #[rv x0, iv 0, rv x2, iv 0, iv 2, iv 0, iv c0]) rfl ?_
    refine XS.iload X0.here hx rfl (hb hby d13_15) rfl ?_
    refine XS.sipush X0.here hx rfl (hb hby d13_17) ?_
    refine XS.icmpYes X0.here hx rfl (pc0 := 20) (pc' := 26) rfl (hb hby d13_20) rfl (flt hc20_3).2.2.2 (by decide) (by decide) ?_
    refine XS.aloadN X0.here hx rfl (hb hby d13_26) rfl rfl ?_
    refine XS.iloadN X0.here hx rfl (hb hby d13_27) rfl ?_
    refine XS.iload X0.here hx rfl (hb hby d13_28) rfl ?_
    refine XS.i2b X0.here hx rfl (hb hby d13_30) rfl ?_
    show Steps p.tables e below (s₁.setTop (mkF m 31 #[rv x0, iv 0, rv x2, iv 0, iv 2, iv 0, iv c0] [(.int (c0.toInt8.toInt32)), (.int 0), (.ref x2)])) _
    refine st5 _ ?_
    refine XS.iinc X5.here hx rfl (hb hby d13_32) rfl (l' := #[rv x0, iv 1, rv x2, iv 0, iv 2, iv 0, iv c0]) rfl ?_
    refine XS.iinc X5.here hx rfl (hb hby d13_35) rfl (l' := #[rv x0, iv 1, rv x2, iv 1, iv 2, iv 0, iv c0]) rfl ?_
    refine XS.iinc X5.here hx rfl (hb hby d13_38) rfl (l' := #[rv x0, iv 1, rv x2, iv 1, iv 2, iv 1, iv c0]) rfl ?_
    refine XS.goto X5.here hx rfl (pc0 := 41) (pc' := 3) rfl (hb hby d13_41) (by decide) (by decide) ?_
    refine XS.iload X5.here hx rfl (hb hby d13_3) rfl ?_
    refine XS.iload X5.here hx rfl (hb hby d13_5) rfl ?_
    refine XS.icmpNo X5.here hx rfl (hb hby d13_7) rfl (tlt (by decide)).2.1 ?_
    show Steps p.tables e below (T5.setTop (mkF m 10 #[rv x0, iv 1, rv x2, iv 1, iv 2, iv 1, iv c0] [])) _
    refine XS.aloadN X5.here hx rfl (hb hby d13_10) rfl rfl ?_
    refine XS.iloadN X5.here hx rfl (hb hby d13_11) rfl ?_
    refine X5.caload hx (j := (1 : Int32)) (v := (.int c1)) (by rw [e5]; exact Ar8.1) (State.isArrayOf_alike hZ.alike Ar8.2.1) Ar8.2.2 hin8 hat8 (g := (mkF m 12 #[rv x0, iv 1, rv x2, iv 1, iv 2, iv 1, iv c0] [(.int 1), (.ref x0)])) rfl rfl (hb hby d13_12) _ ?_
    refine XS.istore X5.here hx rfl (hb hby d13_13) rfl (l' := #[rv x0, iv 1, rv x2, iv 1, iv 2, iv 1, iv c1]) rfl ?_
    exact k)
  have hc20_10 : ¬ ((255 : Int32) < c1) := hc1
  obtain ⟨cl11, Ar11, qa11, S11, Nn11, H11, G11⟩ := id V5
  have hin11 : ¬ ((1 : Int32) < 0 ∨ cl11.slots.size ≤ ((1 : Int32)).toNatClampNeg) := inb_of S11 ⟨by decide, by decide⟩
  obtain ⟨T12, h12, X12, e12, W12, st12⟩ := stB X5 hx hZ e5 Ar11 (j := (1 : Int32)) hin11 (g := (mkF m 31 #[rv x0, iv 1, rv x2, iv 1, iv 2, iv 1, iv c1] [(.int (c1.toInt8.toInt32)), (.int 1), (.ref x2)])) rfl rfl (hb hby d13_31)
  have Z12_ : n0 ≤ h12.size := Nat.le_trans Z5_ (Nat.le_of_eq W12.size.symm)
  have N12 := Fr.snoc X12 N5 g_x2
  have KK12 := KK5.wr W12 (Or.inl (List.mem_of_getElem? (i := 0) rfl))
  have V12 : Arv Z h12 x2 kb .byte (2 : Int32) [(.int (nar .byte (c0.toInt8.toInt32))), (.int (nar .byte (c1.toInt8.toInt32)))] (.int 0) := Arv.set Ar11 qa11 S11 Nn11 H11 G11 (by first | exact fits_nar_byte _ | decide | rfl) W12 1 rfl (Nat.le_of_ble_eq_true rfl)
  have P14 := own_go P9 (S' := T12.setTop (mkF m 46 #[rv x0, iv 2, rv x2, iv 2, iv 2, iv 2, iv c1] [(.int 2)])) (by
    intro t k
    refine XS.iload X5.here hx rfl (hb hby d13_15) rfl ?_
    refine XS.sipush X5.here hx rfl (hb hby d13_17) ?_
    refine XS.icmpYes X5.here hx rfl (pc0 := 20) (pc' := 26) rfl (hb hby d13_20) rfl (flt hc20_10).2.2.2 (by decide) (by decide) ?_
    refine XS.aloadN X5.here hx rfl (hb hby d13_26) rfl rfl ?_
    refine XS.iloadN X5.here hx rfl (hb hby d13_27) rfl ?_
    refine XS.iload X5.here hx rfl (hb hby d13_28) rfl ?_
    refine XS.i2b X5.here hx rfl (hb hby d13_30) rfl ?_
    refine st12 _ ?_
    show Steps p.tables e below (T12.setTop (mkF m 32 #[rv x0, iv 1, rv x2, iv 1, iv 2, iv 1, iv c1] [])) _
    refine XS.iinc X12.here hx rfl (hb hby d13_32) rfl (l' := #[rv x0, iv 2, rv x2, iv 1, iv 2, iv 1, iv c1]) rfl ?_
    refine XS.iinc X12.here hx rfl (hb hby d13_35) rfl (l' := #[rv x0, iv 2, rv x2, iv 2, iv 2, iv 1, iv c1]) rfl ?_
    refine XS.iinc X12.here hx rfl (hb hby d13_38) rfl (l' := #[rv x0, iv 2, rv x2, iv 2, iv 2, iv 2, iv c1]) rfl ?_
    refine XS.goto X12.here hx rfl (pc0 := 41) (pc' := 3) rfl (hb hby d13_41) (by decide) (by decide) ?_
    refine XS.iload X12.here hx rfl (hb hby d13_3) rfl ?_
    refine XS.iload X12.here hx rfl (hb hby d13_5) rfl ?_
    refine XS.icmpYes X12.here hx rfl (pc0 := 7) (pc' := 44) rfl (hb hby d13_7) rfl (flt (by decide)).2.1 (by decide) (by decide) ?_
    refine XS.iload X12.here hx rfl (hb hby d13_44) rfl ?_
    show Steps p.tables e below (T12.setTop (mkF m 46 #[rv x0, iv 2, rv x2, iv 2, iv 2, iv 2, iv c1] [(.int 2)])) _
    exact k)
  obtain ⟨fs, hr, hrun, hended, hW, hsame⟩ := X12.leave (v := some (.int 2)) (fun h => by rw [Bd.returns] at h; cases h)
  refine ⟨_, _, P14 _ ?_, hrun, hended, _, _, rfl, ?_, ⟨_, rfl⟩, hW, hsame.mono (by decide) (by decide)⟩
  · show Steps p.tables e below (T12.setTop (mkF m 46 #[rv x0, iv 2, rv x2, iv 2, iv 2, iv 2, iv c1] [(.int 2)])) _
    exact retI X12 hx Bd.returns (hb hby d13_46) hr
  · show Qc2s2 Z x0 x2 kc kb c0 c1 h0 n0 _ T12.heap _
    rw [e12]
    exact ⟨rfl, N12, KK12, V12⟩
def Qc1s2 (Z : State) (x0 : Addr) (kc : ClassId) (c0 : Int32) (c1 : Int32) (h0 : Heap) (n0 : Nat) (v : Option Value) (h : Heap) (L : List Loc) : Prop := ∃ (b : Addr), ∃ (kb : ClassId), v = some (.ref b) ∧ Fr n0 L ∧ Keep h0 h [] ∧ n0 ≤ b ∧ h0.size ≤ b ∧ Arv Z h b kb .byte (2 : Int32) [(.int (nar .byte (c0.toInt8.toInt32))), (.int (nar .byte (c1.toInt8.toInt32)))] (.int 0)
theorem ef_c1s2 (m : MethodId) (x0 : Addr) : entryFrame m #[(.ref x0), (.int 0), (.int 2)] 6 = mkF m 0 #[rv x0, iv 0, iv 2, .unset, .unset, .unset] [] := by first | (simp [entryFrame, mkF, argsToLocals, Value.category]; done) | rfl
set_option maxRecDepth 65536 in
set_option maxHeartbeats 40000000 in
theorem rmc1s2 (l : Launch) (Z : State) (a0 : Array Value) (hw : ∀ d ∈ tables_1, d.before a0 Z = true) (ws : List Jvm.Cond) (x0 : Addr) (kc : ClassId) (c0 : Int32) (c1 : Int32) (h0 : Heap) (n0 : Nat) (Z0 : n0 ≤ h0.size) (pre_A_x0 : Arv Z h0 x0 kc .char (2 : Int32) [(.int c0), (.int c1)] (.int 0)) (hc0 : ¬ ((255 : Int32) < c0)) (hc1 : ¬ ((255 : Int32) < c1)) :
    MetFree l (⟨"java/lang/StringUTF16", "compress", "([CII)[B"⟩ : MethodName) (head1 (Jvm.Cond.code (⟨"java/lang/StringUTF16", "compress", "([CII)[B"⟩ : MethodName) jdk_52_method_16_code 6 (some (.array .byte)) :: ws) ({ frames := 1, cells := 1, slots := 2, locals := 18 } : Room)) (fun a U => a = #[(.ref x0), (.int 0), (.int 2)] ∧ Z.Warmed39 U.vm ∧ U.heap = h0) (fun _ _ _ _ _ => True) (fun _ U o U' => ∃ v L, o = .returned v ∧ Qc1s2 Z x0 kc c0 c1 h0 n0 v U'.heap L ∧ FrameEnd U o U' L ({ frames := 1, cells := 1, slots := 2, locals := 18 } : Room).cells ({ frames := 1, cells := 1, slots := 2, locals := 18 } : Room).slots) := by
  refine MetFree.of_bodySF (plainFor_of_name pn_12) hisR ?_
  intro p e s m args below meth c s₁ Bd hml0 hP hK
  obtain ⟨rfl, hZ, hh⟩ := hP
  have hx := Bd.exec
  have hby := Bd.bytes
  have hml : c.maxLocals = 6 := hml0
  have hown : s.vm.findClass "java/lang/StringUTF16" = some m.cls := findClass_of_methodNamed Bd.named
  have hnm := (name_of_methodNamed Bd.named Bd.method).1
  have X0 : Stand p l e ({ frames := 1, cells := 1, slots := 2, locals := 18 } : Room) s m #[(.ref x0), (.int 0), (.int 2)] below meth c s₁ [] 0 0 := Stand.of_body Bd
  have e0 : s₁.heap = h0 := by rw [← hh, Bd.state]; rfl
  have N0 := Fr.nil n0
  have Kp0 := Keep.refl h0 []
  have P0 : ∀ t, Steps p.tables e below (s₁.setTop (mkF m 0 #[rv x0, iv 0, iv 2, .unset, .unset, .unset] [])) t → Steps p.tables e below (s₁.setTop (entryFrame m #[(.ref x0), (.int 0), (.int 2)] 6)) t := fun t k => castTop (ef_c1s2 m x0) k
  obtain ⟨T1, h1, k1, X1, e1, E1, A1, st1⟩ := newP X0 hx hZ (hw _ (im 30 rfl)) e0 (g := (mkF m 1 #[rv x0, iv 0, iv 2, .unset, .unset, .unset] [(.int 2)])) rfl (hb hby d12_1) rfl (by decide) (cap := 2) (by decide) (by decide) (by decide) (by decide)
  obtain ⟨b1, g1⟩ : ∃ z, z = h0.size := ⟨_, rfl⟩
  rw [← g1] at A1 st1
  have ge_b1 : n0 ≤ b1 := Nat.le_trans Z0 (Nat.le_of_eq g1.symm)
  have sz_b1 : h0.size ≤ b1 := Nat.le_trans Kp0.1 (Nat.le_of_eq g1.symm)
  have Z1_ : n0 ≤ h1.size := Nat.le_trans Z0 E1.1
  have KK1 := Kp0.ext E1
  have V1 : Arv Z h1 b1 k1 .byte (2 : Int32) [(.int 0), (.int 0)] (.int 0) := (Arv.new A1 (by decide)).pad (pad_rep [] (.int 0) 2)
  have q2 := (pre_A_x0.ext E1)
  have ne3 : x0 ≠ b1 := Nat.ne_of_lt (Nat.lt_of_lt_of_le pre_A_x0.lt (Nat.le_of_eq g1.symm))
  obtain ⟨_, _, ⟨T4, L4, k4, n4⟩, -, X4, ⟨Lc4, hQ4, l4, y4, z4⟩, st4⟩ := Jvm.LawKit.callS X1 hx (y := (⟨"java/lang/StringUTF16", "compress", "([CI[BII)I"⟩ : MethodName)) hown (mvT hZ (hw _ (im 78 rfl))) (mvT hZ (hw _ (im 79 rfl))) (mvT hZ (hw _ (im 76 rfl))) (mvT hZ (hw _ (im 80 rfl))) (by decide) (backOf (W := 0) (rmc2s2 l Z a0 hw [] x0 b1 kc k1 c0 c1 h1 n0 Z1_ q2 V1 ge_b1 ne3 (hc0) (hc1)) hZ (hw _ (im 80 rfl)) (hw _ (im 76 rfl)) (by decide) (by decide)) (g := (mkF m 9 #[rv x0, iv 0, iv 2, rv b1, .unset, .unset] [(.int 2), (.int 0), (.ref b1), (.int 0), (.ref x0)])) rfl (by rw [hml]; rfl) (argsL := [(.ref x0), (.int 0), (.ref b1), (.int 0), (.int 2)]) (rest := []) (lenOf pd_0 rfl) rfl (by show 2 * 0 + _ ≤ _; exact Nat.le_of_eq rfl) (hb hby d12_9) (fun _ _ => ⟨rfl, e1, (by decide : 1 + 0 ≤ _), (by decide : 2 + 0 ≤ _)⟩)
  dsimp only [Pt.U, Pt.locs, Pt.cells, Pt.slots] at X4 l4 y4 z4 st4 hQ4
  subst l4 y4 z4
  obtain ⟨rfl, N4q, K4, r4_0⟩ := hQ4
  have N4 := Fr.app N0 N4q
  have Z4_ : n0 ≤ T4.heap.size := Nat.le_trans Z1_ K4.1
  have KK4 := KK1.trans K4 (allS (Or.inr sz_b1) all0)
  have P6 := own_go P0 (S' := T4.setTop (mkF m 58 #[rv x0, iv 0, iv 2, rv b1, iv 2, .unset] [(.ref b1)])) (by
    intro t k
    refine XS.iloadN X0.here hx rfl (hb hby d12_0) rfl ?_
    refine st1 _ ?_
    refine XS.astoreN X1.here hx rfl (hb hby d12_3) rfl rfl (l' := #[rv x0, iv 0, iv 2, rv b1, .unset, .unset]) rfl ?_
    refine XS.aloadN X1.here hx rfl (hb hby d12_4) rfl rfl ?_
    refine XS.iloadN X1.here hx rfl (hb hby d12_5) rfl ?_
    refine XS.aloadN X1.here hx rfl (hb hby d12_6) rfl rfl ?_
    refine XS.iconst X1.here hx rfl (hb hby d12_7) ?_
    refine XS.iloadN X1.here hx rfl (hb hby d12_8) rfl ?_
    show Steps p.tables e below (T1.setTop (mkF m 9 #[rv x0, iv 0, iv 2, rv b1, .unset, .unset] [(.int 2), (.int 0), (.ref b1), (.int 0), (.ref x0)])) _
    refine st4 _ ?_
    refine XS.istore X4.here hx rfl (hb hby d12_12) rfl (l' := #[rv x0, iv 0, iv 2, rv b1, iv 2, .unset]) rfl ?_
    refine XS.iload X4.here hx rfl (hb hby d12_14) rfl ?_
    refine XS.iloadN X4.here hx rfl (hb hby d12_16) rfl ?_
    refine XS.icmpYes X4.here hx rfl (pc0 := 17) (pc' := 57) rfl (hb hby d12_17) rfl (teq (by decide)).1 (by decide) (by decide) ?_
    refine XS.aloadN X4.here hx rfl (hb hby d12_57) rfl rfl ?_
    exact k)
  obtain ⟨fs, hr, hrun, hended, hW, hsame⟩ := X4.leave (v := some (.ref b1)) (fun h => by rw [Bd.returns] at h; cases h)
  refine ⟨_, _, P6 _ ?_, hrun, hended, _, _, rfl, ?_, ⟨_, rfl⟩, hW, hsame.mono (by decide) (by decide)⟩
  · show Steps p.tables e below (T4.setTop (mkF m 58 #[rv x0, iv 0, iv 2, rv b1, iv 2, .unset] [(.ref b1)])) _
    exact retOut X4 hx (t := (.array .byte)) Bd.returns rfl (Or.inr (Or.inr (Or.inr (Or.inr ⟨rfl, rfl, rfl⟩)))) (hb hby d12_58) hr
  · show Qc1s2 Z x0 kc c0 c1 h0 n0 _ T4.heap _
    exact ⟨b1, k1, rfl, N4, KK4, ge_b1, sz_b1, r4_0⟩
def Qcds2 (Z : State) (x0 : Addr) (kb : ClassId) (y0 : Int32) (y1 : Int32) (h0 : Heap) (n0 : Nat) (v : Option Value) (h : Heap) (L : List Loc) : Prop := v = some (.int 0) ∧ Fr n0 L ∧ h = h0
theorem ef_cds2 (m : MethodId) (x0 : Addr) : entryFrame m #[(.ref x0), (.int 2)] 2 = mkF m 0 #[rv x0, iv 2] [] := by first | (simp [entryFrame, mkF, argsToLocals, Value.category]; done) | rfl
set_option maxRecDepth 65536 in
set_option maxHeartbeats 40000000 in
theorem rmcds2 (l : Launch) (Z : State) (a0 : Array Value) (hw : ∀ d ∈ tables_1, d.before a0 Z = true) (ws : List Jvm.Cond) (x0 : Addr) (kb : ClassId) (y0 : Int32) (y1 : Int32) (h0 : Heap) (n0 : Nat) (Z0 : n0 ≤ h0.size) (pre_A_x0 : Arv Z h0 x0 kb .byte (2 : Int32) [(.int y0), (.int y1)] (.int 0)) :
    MetFree l (⟨"java/lang/StringUTF16", "coderFromArrayLen", "([BI)B"⟩ : MethodName) (head1 (Jvm.Cond.code (⟨"java/lang/StringUTF16", "coderFromArrayLen", "([BI)B"⟩ : MethodName) jdk_52_method_15_code 2 (some .byte) :: ws) ({ frames := 0, cells := 0, slots := 0, locals := 0 } : Room)) (fun a U => a = #[(.ref x0), (.int 2)] ∧ Z.Warmed39 U.vm ∧ U.heap = h0) (fun _ _ _ _ _ => True) (fun _ U o U' => ∃ v L, o = .returned v ∧ Qcds2 Z x0 kb y0 y1 h0 n0 v U'.heap L ∧ FrameEnd U o U' L ({ frames := 0, cells := 0, slots := 0, locals := 0 } : Room).cells ({ frames := 0, cells := 0, slots := 0, locals := 0 } : Room).slots) := by
  refine MetFree.of_bodySF (plainFor_of_name pn_14) hisR ?_
  intro p e s m args below meth c s₁ Bd hml0 hP hK
  obtain ⟨rfl, hZ, hh⟩ := hP
  have hx := Bd.exec
  have hby := Bd.bytes
  have hml : c.maxLocals = 2 := hml0
  have hown : s.vm.findClass "java/lang/StringUTF16" = some m.cls := findClass_of_methodNamed Bd.named
  have hnm := (name_of_methodNamed Bd.named Bd.method).1
  have X0 : Stand p l e ({ frames := 0, cells := 0, slots := 0, locals := 0 } : Room) s m #[(.ref x0), (.int 2)] below meth c s₁ [] 0 0 := Stand.of_body Bd
  have e0 : s₁.heap = h0 := by rw [← hh, Bd.state]; rfl
  have N0 := Fr.nil n0
  have Kp0 := Keep.refl h0 []
  have P0 : ∀ t, Steps p.tables e below (s₁.setTop (mkF m 0 #[rv x0, iv 2] [])) t → Steps p.tables e below (s₁.setTop (entryFrame m #[(.ref x0), (.int 2)] 2)) t := fun t k => castTop (ef_cds2 m x0) k
  obtain ⟨cl1, Ar1, qa1, S1, Nn1, H1, G1⟩ := id pre_A_x0
  have P2 := own_go P0 (S' := s₁.setTop (mkF m 8 #[rv x0, iv 2] [(.int 0)])) (by
    intro t k
    refine XS.iloadN X0.here hx rfl (hb hby d14_0) rfl ?_
    refine XS.aloadN X0.here hx rfl (hb hby d14_1) rfl rfl ?_
    refine X0.arraylength hx (by rw [e0]; exact Ar1.1) (State.isArrayOf_alike hZ.alike Ar1.2.1) (g := (mkF m 2 #[rv x0, iv 2] [(.ref x0), (.int 2)])) rfl rfl (hb hby d14_2) _ ?_
    rw [len_of S1 Nn1]
    refine XS.isub X0.here hx rfl (hb hby d14_3) rfl ?_
    refine XS.bipush X0.here hx rfl (hb hby d14_4) ?_
    refine XS.iushr X0.here hx rfl (hb hby d14_6) rfl ?_
    refine XS.i2b X0.here hx rfl (hb hby d14_7) rfl ?_
    exact k)
  obtain ⟨fs, hr, hrun, hended, hW, hsame⟩ := X0.leave (v := some (.int 0)) (fun h => by rw [Bd.returns] at h; cases h)
  refine ⟨_, _, P2 _ ?_, hrun, hended, _, _, rfl, ?_, ⟨_, rfl⟩, hW, hsame.mono (by decide) (by decide)⟩
  · show Steps p.tables e below (s₁.setTop (mkF m 8 #[rv x0, iv 2] [(.int 0)])) _
    exact retN X0 hx (t := .byte) Bd.returns (by simp) (hb hby d14_8) hr
  · show Qcds2 Z x0 kb y0 y1 h0 n0 _ s₁.heap _
    rw [e0]
    exact ⟨rfl, N0, rfl⟩
def Qi4s2 (Z : State) (x0 : Addr) (x1 : Addr) (cs : Int32) (kc : ClassId) (c0 : Int32) (c1 : Int32) (h0 : Heap) (n0 : Nat) (v : Option Value) (h : Heap) (L : List Loc) : Prop := ∃ (b : Addr), ∃ (kb : ClassId), v = none ∧ Fr n0 L ∧ Keep h0 h [x0] ∧ Exa Z h x0 "java/lang/String" ∧ Fld Z h x0 "java/lang/String" "value" "[B" (.ref b) ∧ Fld Z h x0 "java/lang/String" "coder" "B" (.int 0) ∧ Arv Z h b kb .byte (2 : Int32) [(.int (nar .byte (c0.toInt8.toInt32))), (.int (nar .byte (c1.toInt8.toInt32)))] (.int 0) ∧ n0 ≤ b ∧ h0.size ≤ b
theorem ef_i4s2 (m : MethodId) (x0 : Addr) (x1 : Addr) : entryFrame m #[(.ref x0), (.ref x1), (.int 0), (.int 2), .null] 6 = mkF m 0 #[rv x0, rv x1, iv 0, iv 2, .val .null, .unset] [] := by first | (simp [entryFrame, mkF, argsToLocals, Value.category]; done) | rfl
set_option maxRecDepth 65536 in
set_option maxHeartbeats 40000000 in
theorem rmi4s2 (l : Launch) (Z : State) (a0 : Array Value) (hw : ∀ d ∈ tables_1, d.before a0 Z = true) (ws : List Jvm.Cond) (x0 : Addr) (x1 : Addr) (cs : Int32) (kc : ClassId) (c0 : Int32) (c1 : Int32) (h0 : Heap) (n0 : Nat) (Z0 : n0 ≤ h0.size) (O0 : Old Z n0 h0) (pre_S_COMPACT_STRINGS : Sta Z Z.heap "java/lang/String" "COMPACT_STRINGS" "Z" (.int cs)) (hcs : ¬ (cs = (0 : Int32))) (pre_E_x0 : Exa Z h0 x0 "java/lang/String") (pre_F_x0_value : Fld Z h0 x0 "java/lang/String" "value" "[B" .null) (pre_F_x0_coder : Fld Z h0 x0 "java/lang/String" "coder" "B" (.int 0)) (g_x0 : n0 ≤ x0) (pre_A_x1 : Arv Z h0 x1 kc .char (2 : Int32) [(.int c0), (.int c1)] (.int 0)) (ne_x0_x1 : x0 ≠ x1) (hc0 : ¬ ((255 : Int32) < c0)) (hc1 : ¬ ((255 : Int32) < c1)) :
    MetFree l (⟨"java/lang/String", "<init>", "([CIILjava/lang/Void;)V"⟩ : MethodName) (head1 (Jvm.Cond.code (⟨"java/lang/String", "<init>", "([CIILjava/lang/Void;)V"⟩ : MethodName) jdk_42_method_149_code 6 none :: ws) ({ frames := 2, cells := 1, slots := 2, locals := 35 } : Room)) (fun a U => a = #[(.ref x0), (.ref x1), (.int 0), (.int 2), .null] ∧ Z.Warmed39 U.vm ∧ U.heap = h0) (fun _ _ _ _ _ => True) (fun _ U o U' => ∃ v L, o = .returned v ∧ Qi4s2 Z x0 x1 cs kc c0 c1 h0 n0 v U'.heap L ∧ FrameEnd U o U' L ({ frames := 2, cells := 1, slots := 2, locals := 35 } : Room).cells ({ frames := 2, cells := 1, slots := 2, locals := 35 } : Room).slots) := by
  refine MetFree.of_bodySF (plainFor_of_name pn_5) hisR ?_
  intro p e s m args below meth c s₁ Bd hml0 hP hK
  obtain ⟨rfl, hZ, hh⟩ := hP
  have hx := Bd.exec
  have hby := Bd.bytes
  have hml : c.maxLocals = 6 := hml0
  have hown : s.vm.findClass "java/lang/String" = some m.cls := findClass_of_methodNamed Bd.named
  have hnm := (name_of_methodNamed Bd.named Bd.method).1
  have X0 : Stand p l e ({ frames := 2, cells := 1, slots := 2, locals := 35 } : Room) s m #[(.ref x0), (.ref x1), (.int 0), (.int 2), .null] below meth c s₁ [] 0 0 := Stand.of_body Bd
  have e0 : s₁.heap = h0 := by rw [← hh, Bd.state]; rfl
  have N0 := Fr.nil n0
  have Kp0 := Keep.refl h0 [x0]
  have P0 : ∀ t, Steps p.tables e below (s₁.setTop (mkF m 0 #[rv x0, rv x1, iv 0, iv 2, .val .null, .unset] [])) t → Steps p.tables e below (s₁.setTop (entryFrame m #[(.ref x0), (.ref x1), (.int 0), (.int 2), .null] 6)) t := fun t k => castTop (ef_i4s2 m x0 x1) k
  obtain ⟨T1, X1, e1, st1⟩ := initO X0 hx hZ hown (hw _ (im 26 rfl)) (hw _ (im 27 rfl)) (hw _ (im 28 rfl)) e0 (g := (mkF m 1 #[rv x0, rv x1, iv 0, iv 2, .val .null, .unset] [(.ref x0)])) rfl (by rw [hml]; rfl) rfl (hb hby d5_1) (by decide) (W := 0) (by show 2 * 0 + _ ≤ _; exact Nat.le_of_eq rfl) (by decide)
  obtain ⟨T3, X3, e3, st3⟩ := getS2 X1 hx hZ hown (host := "") (Or.inl (hw _ (im 73 rfl))) Via.refl e1 (pre_S_COMPACT_STRINGS.ext O0.2) (g := (mkF m 27 #[rv x0, rv x1, iv 0, iv 2, .val .null, .unset] [])) rfl (hb hby d5_27)
  have hc30_4 : ¬ (cs = (0 : Int32)) := hcs
  obtain ⟨_, _, ⟨T5, L5, k5, n5⟩, -, X5, ⟨Lc5, hQ5, l5, y5, z5⟩, st5⟩ := Jvm.LawKit.callS X3 hx (y := (⟨"java/lang/StringUTF16", "compress", "([CII)[B"⟩ : MethodName)) hown (mvT hZ (hw _ (im 74 rfl))) (mvT hZ (hw _ (im 75 rfl))) (mvT hZ (hw _ (im 76 rfl))) (mvT hZ (hw _ (im 77 rfl))) (by decide) (backOf (W := 0) (rmc1s2 l Z a0 hw [] x1 kc c0 c1 h0 n0 Z0 pre_A_x1 (hc0) (hc1)) hZ (hw _ (im 77 rfl)) (hw _ (im 76 rfl)) (by decide) (by decide)) (g := (mkF m 36 #[rv x0, rv x1, iv 0, iv 2, .val .null, .unset] [(.int 2), (.int 0), (.ref x1)])) rfl (by rw [hml]; rfl) (argsL := [(.ref x1), (.int 0), (.int 2)]) (rest := []) (lenOf pd_1 rfl) rfl (by show 2 * 0 + _ ≤ _; exact Nat.le_of_eq rfl) (hb hby d5_36) (fun _ _ => ⟨rfl, e3, (by decide : 0 + 1 ≤ _), (by decide : 0 + 2 ≤ _)⟩)
  dsimp only [Pt.U, Pt.locs, Pt.cells, Pt.slots] at X5 l5 y5 z5 st5 hQ5
  subst l5 y5 z5
  obtain ⟨b_5, kb_5, rfl, N5q, K5, r5_0, r5_1, r5_2⟩ := hQ5
  have N5 := Fr.app N0 N5q
  have Z5_ : n0 ≤ T5.heap.size := Nat.le_trans Z0 K5.1
  have O5_ := O0.keep K5 all0
  have KK5 := Kp0.trans K5 all0
  have szz_b_5 : h0.size ≤ b_5 := Nat.le_trans Kp0.1 r5_1
  obtain ⟨_, _, ⟨T6, L6, k6, n6⟩, -, X6, ⟨Lc6, hQ6, l6, y6, z6⟩, st6⟩ := Jvm.LawKit.callS X5 hx (y := (⟨"java/lang/StringUTF16", "coderFromArrayLen", "([BI)B"⟩ : MethodName)) hown (mvT hZ (hw _ (im 81 rfl))) (mvT hZ (hw _ (im 82 rfl))) (mvT hZ (hw _ (im 76 rfl))) (mvT hZ (hw _ (im 83 rfl))) (by decide) (backOf (W := 1) (rmcds2 l Z a0 hw [] b_5 kb_5 (nar .byte (c0.toInt8.toInt32)) (nar .byte (c1.toInt8.toInt32)) T5.heap n0 Z5_ r5_2) hZ (hw _ (im 83 rfl)) (hw _ (im 76 rfl)) (by decide) (by decide)) (g := (mkF m 45 #[rv x0, rv x1, iv 0, iv 2, .val .null, rv b_5] [(.int 2), (.ref b_5), (.ref x0)])) rfl (by rw [hml]; rfl) (argsL := [(.ref b_5), (.int 2)]) (rest := [(.ref x0)]) (lenOf pd_2 rfl) rfl (by show 2 * 0 + _ ≤ _; exact Nat.le_of_eq rfl) (hb hby d5_45) (fun _ _ => ⟨rfl, rfl, (by decide : 1 + 0 ≤ _), (by decide : 2 + 0 ≤ _)⟩)
  dsimp only [Pt.U, Pt.locs, Pt.cells, Pt.slots] at X6 l6 y6 z6 st6 hQ6
  subst l6 y6 z6
  obtain ⟨rfl, N6q, e6⟩ := hQ6
  have N6 := Fr.app N5 N6q
  have q7 := (pre_F_x0_coder.keep K5 nin0)
  have q8 := (pre_E_x0.keep K5)
  obtain ⟨T9, h9, X9, e9, W9, st9⟩ := putFN X6 hx hZ hown (hw _ (im 36 rfl)) Via.refl e6 q7 q8 (Or.inr ⟨(hw _ (im 32 rfl)), rfl, hnm⟩) (hw _ (im 16 rfl)) (ty := .byte) (v' := (.int 0)) (by decide) rfl (by first | exact fits_nar_byte _ | decide | rfl) (g := (mkF m 48 #[rv x0, rv x1, iv 0, iv 2, .val .null, rv b_5] [(.int 0), (.ref x0)])) rfl rfl (hb hby d5_48)
  have Fw9 := q7.same W9
  have Z9_ : n0 ≤ h9.size := Nat.le_trans Z5_ (Nat.le_of_eq W9.size.symm)
  have O9_ := O5_.wr W9 g_x0
  have N9 := Fr.snoc X9 N6 g_x0
  have KK9 := KK5.wr W9 (Or.inl (List.mem_of_getElem? (i := 0) rfl))
  have q10 := ((pre_F_x0_value.keep K5 nin0).other W9 (Or.inr (own_sn (la_0 hw) (la_1 hw))))
  have q11 := (q8.wr W9)
  obtain ⟨T12, h12, X12, e12, W12, st12⟩ := putF X9 hx hZ hown (host := "") (Or.inl (hw _ (im 35 rfl))) Via.refl e9 q10 q11 (Or.inr ⟨(hw _ (im 31 rfl)), rfl, hnm⟩) (hw _ (im 16 rfl)) (ty := (.array .byte)) (by decide) rfl rfl (g := (mkF m 54 #[rv x0, rv x1, iv 0, iv 2, .val .null, rv b_5] [(.ref b_5), (.ref x0)])) rfl rfl (hb hby d5_54)
  have Fw12 := q10.same W12
  have Z12_ : n0 ≤ h12.size := Nat.le_trans Z9_ (Nat.le_of_eq W12.size.symm)
  have O12_ := O9_.wr W12 g_x0
  have N12 := Fr.snoc X12 N9 g_x0
  have KK12 := KK9.wr W12 (Or.inl (List.mem_of_getElem? (i := 0) rfl))
  have P13 := own_go P0 (S' := T12.setTop (mkF m 57 #[rv x0, rv x1, iv 0, iv 2, .val .null, rv b_5] [])) (by
    intro t k
    refine XS.aloadN X0.here hx rfl (hb hby d5_0) rfl rfl ?_
    refine st1 _ ?_
    refine XS.iloadN X1.here hx rfl (hb hby d5_4) rfl ?_
    refine XS.ifYes X1.here hx rfl (pc0 := 5) (pc' := 27) rfl (hb hby d5_5) rfl ((if0 _ _).trans (feq (by decide)).2) (by decide) (by decide) ?_
    refine st3 _ ?_
    refine XS.ifNo X3.here hx rfl (hb hby d5_30) rfl ((if0 _ _).trans (feq hc30_4).1) ?_
    refine XS.aloadN X3.here hx rfl (hb hby d5_33) rfl rfl ?_
    refine XS.iloadN X3.here hx rfl (hb hby d5_34) rfl ?_
    show Steps p.tables e below (T3.setTop (mkF m 35 #[rv x0, rv x1, iv 0, iv 2, .val .null, .unset] [(.int 0), (.ref x1)])) _
    refine XS.iloadN X3.here hx rfl (hb hby d5_35) rfl ?_
    refine st5 _ ?_
    refine XS.astore X5.here hx rfl (hb hby d5_39) rfl rfl (l' := #[rv x0, rv x1, iv 0, iv 2, .val .null, rv b_5]) rfl ?_
    refine XS.aloadN X5.here hx rfl (hb hby d5_41) rfl rfl ?_
    refine XS.aload X5.here hx rfl (hb hby d5_42) rfl rfl ?_
    refine XS.iloadN X5.here hx rfl (hb hby d5_44) rfl ?_
    refine st6 _ ?_
    refine st9 _ ?_
    show Steps p.tables e below (T9.setTop (mkF m 51 #[rv x0, rv x1, iv 0, iv 2, .val .null, rv b_5] [])) _
    refine XS.aloadN X9.here hx rfl (hb hby d5_51) rfl rfl ?_
    refine XS.aload X9.here hx rfl (hb hby d5_52) rfl rfl ?_
    refine st12 _ ?_
    exact k)
  have q14 := (q11.wr W12)
  have q15 := (Fw9.other W12 (Or.inr (own_sn (la_1 hw) (la_0 hw))))
  have ne16 : x0 ≠ b_5 := Nat.ne_of_lt (Nat.lt_of_lt_of_le pre_E_x0.lt r5_1)
  have q17 := ((r5_2.other W9 (Ne.symm ne16)).other W12 (Ne.symm ne16))
  obtain ⟨fs, hr, hrun, hended, hW, hsame⟩ := X12.leave (v := none) (fun _ => rfl)
  refine ⟨_, _, P13 _ ?_, hrun, hended, _, _, rfl, ?_, ⟨_, rfl⟩, hW, hsame.mono (by decide) (by decide)⟩
  · show Steps p.tables e below (T12.setTop (mkF m 57 #[rv x0, rv x1, iv 0, iv 2, .val .null, rv b_5] [])) _
    exact X12.returnOut hx Bd.returns (hb hby d5_57) hr
  · show Qi4s2 Z x0 x1 cs kc c0 c1 h0 n0 _ T12.heap _
    rw [e12]
    exact ⟨b_5, kb_5, rfl, N12, KK12, q14, Fw12, q15, q17, r5_0, szz_b_5⟩
def Qi1s2 (Z : State) (x0 : Addr) (x1 : Addr) (cs : Int32) (kc : ClassId) (c0 : Int32) (c1 : Int32) (h0 : Heap) (n0 : Nat) (v : Option Value) (h : Heap) (L : List Loc) : Prop := ∃ (b : Addr), ∃ (kb : ClassId), v = none ∧ Fr n0 L ∧ Keep h0 h [x0] ∧ Exa Z h x0 "java/lang/String" ∧ Fld Z h x0 "java/lang/String" "value" "[B" (.ref b) ∧ Fld Z h x0 "java/lang/String" "coder" "B" (.int 0) ∧ Arv Z h b kb .byte (2 : Int32) [(.int (nar .byte (c0.toInt8.toInt32))), (.int (nar .byte (c1.toInt8.toInt32)))] (.int 0) ∧ n0 ≤ b ∧ h0.size ≤ b
theorem ef_i1s2 (m : MethodId) (x0 : Addr) (x1 : Addr) : entryFrame m #[(.ref x0), (.ref x1)] 2 = mkF m 0 #[rv x0, rv x1] [] := by first | (simp [entryFrame, mkF, argsToLocals, Value.category]; done) | rfl
set_option maxRecDepth 65536 in
set_option maxHeartbeats 40000000 in
theorem rmi1s2 (l : Launch) (Z : State) (a0 : Array Value) (hw : ∀ d ∈ tables_1, d.before a0 Z = true) (ws : List Jvm.Cond) (x0 : Addr) (x1 : Addr) (cs : Int32) (kc : ClassId) (c0 : Int32) (c1 : Int32) (h0 : Heap) (n0 : Nat) (Z0 : n0 ≤ h0.size) (O0 : Old Z n0 h0) (pre_S_COMPACT_STRINGS : Sta Z Z.heap "java/lang/String" "COMPACT_STRINGS" "Z" (.int cs)) (hcs : ¬ (cs = (0 : Int32))) (pre_E_x0 : Exa Z h0 x0 "java/lang/String") (pre_F_x0_value : Fld Z h0 x0 "java/lang/String" "value" "[B" .null) (pre_F_x0_coder : Fld Z h0 x0 "java/lang/String" "coder" "B" (.int 0)) (g_x0 : n0 ≤ x0) (pre_A_x1 : Arv Z h0 x1 kc .char (2 : Int32) [(.int c0), (.int c1)] (.int 0)) (ne_x0_x1 : x0 ≠ x1) (hc0 : ¬ ((255 : Int32) < c0)) (hc1 : ¬ ((255 : Int32) < c1)) :
    MetFree l (⟨"java/lang/String", "<init>", "([C)V"⟩ : MethodName) (head1 (Jvm.Cond.code (⟨"java/lang/String", "<init>", "([C)V"⟩ : MethodName) jdk_42_method_3_code 2 none :: ws) ({ frames := 3, cells := 1, slots := 2, locals := 52 } : Room)) (fun a U => a = #[(.ref x0), (.ref x1)] ∧ Z.Warmed39 U.vm ∧ U.heap = h0) (fun _ _ _ _ _ => True) (fun _ U o U' => ∃ v L, o = .returned v ∧ Qi1s2 Z x0 x1 cs kc c0 c1 h0 n0 v U'.heap L ∧ FrameEnd U o U' L ({ frames := 3, cells := 1, slots := 2, locals := 52 } : Room).cells ({ frames := 3, cells := 1, slots := 2, locals := 52 } : Room).slots) := by
  refine MetFree.of_bodySF (plainFor_of_name pn_4) hisR ?_
  intro p e s m args below meth c s₁ Bd hml0 hP hK
  obtain ⟨rfl, hZ, hh⟩ := hP
  have hx := Bd.exec
  have hby := Bd.bytes
  have hml : c.maxLocals = 2 := hml0
  have hown : s.vm.findClass "java/lang/String" = some m.cls := findClass_of_methodNamed Bd.named
  have hnm := (name_of_methodNamed Bd.named Bd.method).1
  have X0 : Stand p l e ({ frames := 3, cells := 1, slots := 2, locals := 52 } : Room) s m #[(.ref x0), (.ref x1)] below meth c s₁ [] 0 0 := Stand.of_body Bd
  have e0 : s₁.heap = h0 := by rw [← hh, Bd.state]; rfl
  have N0 := Fr.nil n0
  have Kp0 := Keep.refl h0 [x0]
  have P0 : ∀ t, Steps p.tables e below (s₁.setTop (mkF m 0 #[rv x0, rv x1] [])) t → Steps p.tables e below (s₁.setTop (entryFrame m #[(.ref x0), (.ref x1)] 2)) t := fun t k => castTop (ef_i1s2 m x0 x1) k
  obtain ⟨cl1, Ar1, qa1, S1, Nn1, H1, G1⟩ := id pre_A_x1
  obtain ⟨_, _, ⟨T2, L2, k2, n2⟩, -, X2, ⟨Lc2, hQ2, l2, y2, z2⟩, st2⟩ := X0.specialBack hx (y := (⟨"java/lang/String", "<init>", "([CIILjava/lang/Void;)V"⟩ : MethodName)) rfl hown (mvT hZ (hw _ (im 22 rfl))) (mvT hZ (hw _ (im 23 rfl))) (mvT hZ (hw _ (im 25 rfl))) (by decide) (backOf (W := 0) (rmi4s2 l Z a0 hw [] x0 x1 cs kc c0 c1 h0 n0 Z0 O0 pre_S_COMPACT_STRINGS (hcs) pre_E_x0 pre_F_x0_value pre_F_x0_coder g_x0 pre_A_x1 ne_x0_x1 (hc0) (hc1)) hZ (hw _ (im 25 rfl)) (hw _ (im 17 rfl)) (by decide) (by decide)) (g := (mkF m 6 #[rv x0, rv x1] [.null, (.int 2), (.int 0), (.ref x1), (.ref x0)])) rfl (by rw [hml]; rfl) (Steps.refl _) (a := x0) (argsL := [(.ref x1), (.int 0), (.int 2), .null]) (rest := []) (lenOf pd_3 rfl) rfl (by show 2 * 0 + _ ≤ _; exact Nat.le_of_eq rfl) (hb hby d4_6) (fun _ _ => ⟨rfl, e0, (by decide : 0 + 1 ≤ _), (by decide : 0 + 2 ≤ _)⟩)
  dsimp only [Pt.U, Pt.locs, Pt.cells, Pt.slots] at X2 l2 y2 z2 st2 hQ2
  subst l2 y2 z2
  obtain ⟨b_2, kb_2, rfl, N2q, K2, r2_0, r2_1, r2_2, r2_3, r2_4, r2_5⟩ := hQ2
  have N2 := Fr.app N0 N2q
  have Z2_ : n0 ≤ T2.heap.size := Nat.le_trans Z0 K2.1
  have O2_ := O0.keep K2 (allS g_x0 all0)
  have KK2 := Kp0.trans K2 (allS (Or.inl (List.mem_of_getElem? (i := 0) rfl)) all0)
  have szz_b_2 : h0.size ≤ b_2 := Nat.le_trans Kp0.1 r2_5
  have P3 := own_go P0 (S' := T2.setTop (mkF m 9 #[rv x0, rv x1] [])) (by
    intro t k
    refine XS.aloadN X0.here hx rfl (hb hby d4_0) rfl rfl ?_
    refine XS.aloadN X0.here hx rfl (hb hby d4_1) rfl rfl ?_
    refine XS.iconst X0.here hx rfl (hb hby d4_2) ?_
    refine XS.aloadN X0.here hx rfl (hb hby d4_3) rfl rfl ?_
    refine X0.arraylength hx (by rw [e0]; exact Ar1.1) (State.isArrayOf_alike hZ.alike Ar1.2.1) (g := (mkF m 4 #[rv x0, rv x1] [(.ref x1), (.int 0), (.ref x1), (.ref x0)])) rfl rfl (hb hby d4_4) _ ?_
    rw [len_of S1 Nn1]
    refine XS.aconstNull X0.here hx rfl (hb hby d4_5) ?_
    refine st2.trans ?_
    exact k)
  obtain ⟨fs, hr, hrun, hended, hW, hsame⟩ := X2.leave (v := none) (fun _ => rfl)
  refine ⟨_, _, P3 _ ?_, hrun, hended, _, _, rfl, ?_, ⟨_, rfl⟩, hW, hsame.mono (by decide) (by decide)⟩
  · show Steps p.tables e below (T2.setTop (mkF m 9 #[rv x0, rv x1] [])) _
    exact X2.returnOut hx Bd.returns (hb hby d4_9) hr
  · show Qi1s2 Z x0 x1 cs kc c0 c1 h0 n0 _ T2.heap _
    exact ⟨b_2, kb_2, rfl, N2, KK2, r2_0, r2_1, r2_2, r2_3, r2_4, szz_b_2⟩
def Qi4s0 (Z : State) (x0 : Addr) (x1 : Addr) (kc : ClassId) (h0 : Heap) (n0 : Nat) (v : Option Value) (h : Heap) (L : List Loc) : Prop := ∃ (b : Addr), ∃ (kb : ClassId), v = none ∧ Fr n0 L ∧ Keep h0 h [x0] ∧ Exa Z h x0 "java/lang/String" ∧ Fld Z h x0 "java/lang/String" "value" "[B" (.ref b) ∧ Fld Z h x0 "java/lang/String" "coder" "B" (.int 0) ∧ Arv Z h b kb .byte (0 : Int32) [] (.int 0)
theorem ef_i4s0 (m : MethodId) (x0 : Addr) (x1 : Addr) : entryFrame m #[(.ref x0), (.ref x1), (.int 0), (.int 0), .null] 6 = mkF m 0 #[rv x0, rv x1, iv 0, iv 0, .val .null, .unset] [] := by first | (simp [entryFrame, mkF, argsToLocals, Value.category]; done) | rfl
set_option maxRecDepth 65536 in
set_option maxHeartbeats 40000000 in
theorem rmi4s0 (l : Launch) (Z : State) (a0 : Array Value) (hw : ∀ d ∈ tables_1, d.before a0 Z = true) (ws : List Jvm.Cond) (x0 : Addr) (x1 : Addr) (kc : ClassId) (h0 : Heap) (n0 : Nat) (Z0 : n0 ≤ h0.size) (pre_E_x0 : Exa Z h0 x0 "java/lang/String") (pre_F_x0_value : Fld Z h0 x0 "java/lang/String" "value" "[B" .null) (pre_F_x0_coder : Fld Z h0 x0 "java/lang/String" "coder" "B" (.int 0)) (g_x0 : n0 ≤ x0) (pre_A_x1 : Arv Z h0 x1 kc .char (0 : Int32) [] (.int 0)) :
    MetFree l (⟨"java/lang/String", "<init>", "([CIILjava/lang/Void;)V"⟩ : MethodName) (head1 (Jvm.Cond.code (⟨"java/lang/String", "<init>", "([CIILjava/lang/Void;)V"⟩ : MethodName) jdk_42_method_149_code 6 none :: ws) ({ frames := 1, cells := 4, slots := 8, locals := 12 } : Room)) (fun a U => a = #[(.ref x0), (.ref x1), (.int 0), (.int 0), .null] ∧ Z.Warmed39 U.vm ∧ U.heap = h0 ∧ CHv Z own_EL U.vm h0) (fun _ _ _ _ _ => True) (fun _ U o U' => ∃ v L, o = .returned v ∧ Qi4s0 Z x0 x1 kc h0 n0 v U'.heap L ∧ CHr Z own_EL U.vm U.heap U'.vm U'.heap ∧ ReturnedEndW U o U' L ({ frames := 1, cells := 4, slots := 8, locals := 12 } : Room).cells ({ frames := 1, cells := 4, slots := 8, locals := 12 } : Room).slots) := by
  refine MetFree.of_bodySF (plainFor_of_name pn_5) hisR ?_
  intro p e s m args below meth c s₁ Bd hml0 hP hK
  obtain ⟨rfl, hZ, hh, CH0⟩ := hP
  have hx := Bd.exec
  have hby := Bd.bytes
  have hml : c.maxLocals = 6 := hml0
  have hown : s.vm.findClass "java/lang/String" = some m.cls := findClass_of_methodNamed Bd.named
  have hnm := (name_of_methodNamed Bd.named Bd.method).1
  have X0 : Stand p l e ({ frames := 1, cells := 4, slots := 8, locals := 12 } : Room) (s.setVm s.vm) m #[(.ref x0), (.ref x1), (.int 0), (.int 0), .null] below meth c s₁ [] 0 0 := Stand.of_body Bd
  have e0 : s₁.heap = h0 := by rw [← hh, Bd.state]; rfl
  have N0 := Fr.nil n0
  have Kp0 := Keep.refl h0 [x0]
  have hS0 : s.Since s.vm 0 := (State.WarmedH.refl s).since 0
  have hk0 : 0 ≤ h0.size := Nat.zero_le _
  replace hZ : Z.Warmed39 (s.setVm s.vm).vm := hZ
  replace hown : (s.setVm s.vm).vm.findClass "java/lang/String" = some m.cls := hown
  have CR0 := CHr.refl CH0
  have hEW := own_EW hw
  have P0 : ∀ t, Steps p.tables e below (s₁.setTop (mkF m 0 #[rv x0, rv x1, iv 0, iv 0, .val .null, .unset] [])) t → Steps p.tables e below (s₁.setTop (entryFrame m #[(.ref x0), (.ref x1), (.int 0), (.int 0), .null] 6)) t := fun t k => castTop (ef_i4s0 m x0 x1) k
  obtain ⟨T1, X1, e1, st1⟩ := initO X0 hx hZ hown (hw _ (im 26 rfl)) (hw _ (im 27 rfl)) (hw _ (im 28 rfl)) e0 (g := (mkF m 1 #[rv x0, rv x1, iv 0, iv 0, .val .null, .unset] [(.ref x0)])) rfl (by rw [hml]; rfl) rfl (hb hby d5_1) (by decide) (W := 0) (by show 2 * 0 + _ ≤ _; exact Nat.le_of_eq rfl) (by decide)
  obtain ⟨la3, T3, h3, k3, lv3, lk3, X3, e3, E3, hS3, hk3, hZ3, hown3, Ex3, Fc3, Fv3, Av3, lta3, ltv3, cr3, -, hne3, st3⟩ := ldcCH X1 hx hZ hown (hw _ (im 29 rfl)) (own_atoms hw) e1 hS0 hk0 hEW (List.mem_of_getElem? (i := 0) rfl) CH0 (vs := []) (z := 0) ⟨by decide, rfl⟩ (by decide) rfl (g := (mkF m 9 #[rv x0, rv x1, iv 0, iv 0, .val .null, .unset] [(.ref x0)])) rfl (hb hby d5_9) (n := 0) (by decide) (by decide) (by decide) (by decide)
  have Z3_ : n0 ≤ h3.size := Nat.le_trans Z0 E3.1
  have hk3_ := Nat.le_trans hk0 E3.1
  have CH3 := cr3.1
  have CR3 := CR0.trans cr3
  have KK3 := Kp0.ext E3
  have q5 := (pre_E_x0.ext E3)
  have q6 := (pre_F_x0_value.ext E3)
  have sf4 : Safe Z own_EL T3.vm h3 x0 := own_safe_null hZ3.alike q5 q6
  have nn3 := hne3 x0 sf4
  obtain ⟨T7, X7, e7, st7⟩ := getF X3 hx hZ3 hown3 (host := "") (Or.inl (hw _ (im 35 rfl))) Via.refl e3 Fv3 (g := (mkF m 11 #[rv x0, rv x1, iv 0, iv 0, .val .null, .unset] [(.ref la3), (.ref x0)])) rfl rfl (hb hby d5_11)
  obtain ⟨T8, h8, X8, e8, W8, st8⟩ := putF X7 hx hZ3 hown3 (host := "") (Or.inl (hw _ (im 35 rfl))) Via.refl e7 q6 q5 (Or.inr ⟨(hw _ (im 31 rfl)), rfl, hnm⟩) (hw _ (im 16 rfl)) (ty := (.array .byte)) (by decide) rfl rfl (g := (mkF m 14 #[rv x0, rv x1, iv 0, iv 0, .val .null, .unset] [(.ref lv3), (.ref x0)])) rfl rfl (hb hby d5_14)
  have Fw8 := q6.same W8
  have Z8_ : n0 ≤ h8.size := Nat.le_trans Z3_ (Nat.le_of_eq W8.size.symm)
  have hk8_ := Nat.le_trans hk3 (Nat.le_of_eq W8.size.symm)
  have CH8 := CHv.wr W8 sf4 CH3
  have CR8 := CR3.trans (CHr.wr W8 sf4 CH3)
  have sf9 := Safe.wr W8 sf4 CH3 sf4
  have N8 := Fr.snoc X8 N0 g_x0
  have KK8 := KK3.wr W8 (Or.inl (List.mem_of_getElem? (i := 0) rfl))
  obtain ⟨la10, T10, h10, k10, lv10, lk10, X10, e10, E10, hS10, hk10, hZ10, hown10, Ex10, Fc10, Fv10, Av10, lta10, ltv10, cr10, -, hne10, st10⟩ := ldcCH X8 hx hZ3 hown3 (hw _ (im 29 rfl)) (own_atoms hw) e8 hS3 hk8_ hEW (List.mem_of_getElem? (i := 0) rfl) CH8 (vs := []) (z := 0) ⟨by decide, rfl⟩ (by decide) rfl (g := (mkF m 18 #[rv x0, rv x1, iv 0, iv 0, .val .null, .unset] [(.ref x0)])) rfl (hb hby d5_18) (n := 0) (by decide) (by decide) (by decide) (by decide)
  have Z10_ : n0 ≤ h10.size := Nat.le_trans Z8_ E10.1
  have hk10_ := Nat.le_trans hk8_ E10.1
  have CH10 := cr10.1
  have CR10 := CR8.trans cr10
  have q12 := (Nat.lt_of_lt_of_le (Nat.lt_of_lt_of_le pre_E_x0.lt E3.1) (Nat.le_of_eq W8.size.symm))
  have sf11 := CHr.safe cr10 q12 sf9
  have KK10 := KK8.ext E10
  have nn10 := hne10 x0 sf11
  obtain ⟨T13, X13, e13, st13⟩ := getF X10 hx hZ10 hown10 (host := "") (Or.inl (hw _ (im 36 rfl))) Via.refl e10 Fc10 (g := (mkF m 20 #[rv x0, rv x1, iv 0, iv 0, .val .null, .unset] [(.ref la10), (.ref x0)])) rfl rfl (hb hby d5_20)
  have q14 := (((pre_F_x0_coder.ext E3).other W8 (Or.inr (own_sn (la_1 hw) (la_0 hw)))).ext E10)
  have q15 := ((q5.wr W8).ext E10)
  obtain ⟨T16, h16, X16, e16, W16, st16⟩ := putFN X13 hx hZ10 hown10 (hw _ (im 36 rfl)) Via.refl e13 q14 q15 (Or.inr ⟨(hw _ (im 32 rfl)), rfl, hnm⟩) (hw _ (im 16 rfl)) (ty := .byte) (v' := (.int 0)) (by decide) rfl (by first | exact fits_nar_byte _ | decide | rfl) (g := (mkF m 23 #[rv x0, rv x1, iv 0, iv 0, .val .null, .unset] [(.int 0), (.ref x0)])) rfl rfl (hb hby d5_23)
  have Fw16 := q14.same W16
  have Z16_ : n0 ≤ h16.size := Nat.le_trans Z10_ (Nat.le_of_eq W16.size.symm)
  have hk16_ := Nat.le_trans hk10 (Nat.le_of_eq W16.size.symm)
  have CH16 := CHv.wr W16 sf11 CH10
  have CR16 := CR10.trans (CHr.wr W16 sf11 CH10)
  have sf17 := Safe.wr W16 sf11 CH10 sf11
  have N16 := Fr.snoc X16 N8 g_x0
  have KK16 := KK10.wr W16 (Or.inl (List.mem_of_getElem? (i := 0) rfl))
  have P18 := own_go P0 (S' := T16.setTop (mkF m 26 #[rv x0, rv x1, iv 0, iv 0, .val .null, .unset] [])) (by
    intro t k
    refine XS.aloadN X0.here hx rfl (hb hby d5_0) rfl rfl ?_
    refine st1 _ ?_
    refine XS.iloadN X1.here hx rfl (hb hby d5_4) rfl ?_
    refine XS.ifNo X1.here hx rfl (hb hby d5_5) rfl ((if0 _ _).trans (teq (by decide)).2) ?_
    refine XS.aloadN X1.here hx rfl (hb hby d5_8) rfl rfl ?_
    refine st3 _ ?_
    refine st7 _ ?_
    refine st8 _ ?_
    show Steps p.tables e below (T8.setTop (mkF m 17 #[rv x0, rv x1, iv 0, iv 0, .val .null, .unset] [])) _
    refine XS.aloadN X8.here hx rfl (hb hby d5_17) rfl rfl ?_
    refine st10 _ ?_
    refine st13 _ ?_
    refine st16 _ ?_
    exact k)
  have q19 := (q15.wr W16)
  have q20 := ((Fw8.ext E10).other W16 (Or.inr (own_sn (la_0 hw) (la_1 hw))))
  have q21 := (((Av3.other W8 (Ne.symm nn3.2)).ext E10).other W16 (Ne.symm nn3.2))
  obtain ⟨fs, hr, hrun, hended, hend⟩ := X16.leaveW hS10 (by rw [e16]; exact hk16_) (v := none) (fun _ => rfl)
  refine ⟨_, _, P18 _ ?_, hrun, hended, _, _, rfl, ?_, ?_, hend.1, hend.2.1, hend.2.2.1, hend.2.2.2.mono (by decide) (by decide)⟩
  · show Steps p.tables e below (T16.setTop (mkF m 26 #[rv x0, rv x1, iv 0, iv 0, .val .null, .unset] [])) _
    exact X16.returnOut hx Bd.returns (hb hby d5_26) hr
  · show Qi4s0 Z x0 x1 kc h0 n0 _ T16.heap _
    rw [e16]
    exact ⟨lv3, lk3, rfl, N16, KK16, q19, q20, Fw16, q21⟩
  · have q := CR16.trans (CHv.at X16 hZ10 hEW CH16)
    rw [hh]
    show CHr Z own_EL s.vm h0 T16.vm T16.heap
    rw [e16]
    exact q
def Qi1s0 (Z : State) (x0 : Addr) (x1 : Addr) (kc : ClassId) (h0 : Heap) (n0 : Nat) (v : Option Value) (h : Heap) (L : List Loc) : Prop := ∃ (b : Addr), ∃ (kb : ClassId), v = none ∧ Fr n0 L ∧ Keep h0 h [x0] ∧ Exa Z h x0 "java/lang/String" ∧ Fld Z h x0 "java/lang/String" "value" "[B" (.ref b) ∧ Fld Z h x0 "java/lang/String" "coder" "B" (.int 0) ∧ Arv Z h b kb .byte (0 : Int32) [] (.int 0)
theorem ef_i1s0 (m : MethodId) (x0 : Addr) (x1 : Addr) : entryFrame m #[(.ref x0), (.ref x1)] 2 = mkF m 0 #[rv x0, rv x1] [] := by first | (simp [entryFrame, mkF, argsToLocals, Value.category]; done) | rfl
set_option maxRecDepth 65536 in
set_option maxHeartbeats 40000000 in
theorem rmi1s0 (l : Launch) (Z : State) (a0 : Array Value) (hw : ∀ d ∈ tables_1, d.before a0 Z = true) (ws : List Jvm.Cond) (x0 : Addr) (x1 : Addr) (kc : ClassId) (h0 : Heap) (n0 : Nat) (Z0 : n0 ≤ h0.size) (pre_E_x0 : Exa Z h0 x0 "java/lang/String") (pre_F_x0_value : Fld Z h0 x0 "java/lang/String" "value" "[B" .null) (pre_F_x0_coder : Fld Z h0 x0 "java/lang/String" "coder" "B" (.int 0)) (g_x0 : n0 ≤ x0) (pre_A_x1 : Arv Z h0 x1 kc .char (0 : Int32) [] (.int 0)) :
    MetFree l (⟨"java/lang/String", "<init>", "([C)V"⟩ : MethodName) (head1 (Jvm.Cond.code (⟨"java/lang/String", "<init>", "([C)V"⟩ : MethodName) jdk_42_method_3_code 2 none :: ws) ({ frames := 2, cells := 4, slots := 8, locals := 29 } : Room)) (fun a U => a = #[(.ref x0), (.ref x1)] ∧ Z.Warmed39 U.vm ∧ U.heap = h0 ∧ CHv Z own_EL U.vm h0) (fun _ _ _ _ _ => True) (fun _ U o U' => ∃ v L, o = .returned v ∧ Qi1s0 Z x0 x1 kc h0 n0 v U'.heap L ∧ CHr Z own_EL U.vm U.heap U'.vm U'.heap ∧ ReturnedEndW U o U' L ({ frames := 2, cells := 4, slots := 8, locals := 29 } : Room).cells ({ frames := 2, cells := 4, slots := 8, locals := 29 } : Room).slots) := by
  refine MetFree.of_bodySF (plainFor_of_name pn_4) hisR ?_
  intro p e s m args below meth c s₁ Bd hml0 hP hK
  obtain ⟨rfl, hZ, hh, CH0⟩ := hP
  have hx := Bd.exec
  have hby := Bd.bytes
  have hml : c.maxLocals = 2 := hml0
  have hown : s.vm.findClass "java/lang/String" = some m.cls := findClass_of_methodNamed Bd.named
  have hnm := (name_of_methodNamed Bd.named Bd.method).1
  have X0 : Stand p l e ({ frames := 2, cells := 4, slots := 8, locals := 29 } : Room) (s.setVm s.vm) m #[(.ref x0), (.ref x1)] below meth c s₁ [] 0 0 := Stand.of_body Bd
  have e0 : s₁.heap = h0 := by rw [← hh, Bd.state]; rfl
  have N0 := Fr.nil n0
  have Kp0 := Keep.refl h0 [x0]
  have hS0 : s.Since s.vm 0 := (State.WarmedH.refl s).since 0
  have hk0 : 0 ≤ h0.size := Nat.zero_le _
  replace hZ : Z.Warmed39 (s.setVm s.vm).vm := hZ
  replace hown : (s.setVm s.vm).vm.findClass "java/lang/String" = some m.cls := hown
  have CR0 := CHr.refl CH0
  have hEW := own_EW hw
  have P0 : ∀ t, Steps p.tables e below (s₁.setTop (mkF m 0 #[rv x0, rv x1] [])) t → Steps p.tables e below (s₁.setTop (entryFrame m #[(.ref x0), (.ref x1)] 2)) t := fun t k => castTop (ef_i1s0 m x0 x1) k
  obtain ⟨cl1, Ar1, qa1, S1, Nn1, H1, G1⟩ := id pre_A_x1
  obtain ⟨_, _, ⟨T2, L2, k2, n2⟩, -, X2, hS2, hg2, ⟨Lc2, hQ2, l2, y2, z2, cr2⟩, st2⟩ := X0.specialBackS hx (y := (⟨"java/lang/String", "<init>", "([CIILjava/lang/Void;)V"⟩ : MethodName)) rfl hown (mvT hZ (hw _ (im 22 rfl))) (mvT hZ (hw _ (im 23 rfl))) (mvT hZ (hw _ (im 25 rfl))) (by decide) (backOfSH (W := 0) (rmi4s0 l Z a0 hw [] x0 x1 kc h0 n0 Z0 pre_E_x0 pre_F_x0_value pre_F_x0_coder g_x0 pre_A_x1) hZ (hw _ (im 25 rfl)) (hw _ (im 17 rfl)) (by decide) (by decide) hEW CH0) (g := (mkF m 6 #[rv x0, rv x1] [.null, (.int 0), (.int 0), (.ref x1), (.ref x0)])) rfl (by rw [hml]; rfl) (Steps.refl _) (a := x0) (argsL := [(.ref x1), (.int 0), (.int 0), .null]) (rest := []) (lenOf pd_3 rfl) rfl (by show 2 * 0 + _ ≤ _; exact Nat.le_of_eq rfl) (hb hby d4_6) (fun _ _ => ⟨rfl, e0, (by decide : 0 + 4 ≤ _), (by decide : 0 + 8 ≤ _)⟩)
  dsimp only [Pt.U, Pt.locs, Pt.cells, Pt.slots] at X2 l2 y2 z2 st2 hQ2 hS2 hg2 cr2
  subst l2 y2 z2
  obtain ⟨X2, hS2, hZ2, hown2⟩ := rebS hS0 (by rw [e0]; exact hk0) X2 hS2 hg2 hZ hown
  obtain ⟨b_2, kb_2, rfl, N2q, K2, r2_0, r2_1, r2_2, r2_3⟩ := hQ2
  have N2 := Fr.app N0 N2q
  have Z2_ : n0 ≤ T2.heap.size := Nat.le_trans Z0 K2.1
  have hk2_ := Nat.le_trans hk0 K2.1
  have CH2 := cr2.1
  have CR2 := CR0.trans cr2
  have hk2w : T2.heap.size ≤ T2.heap.size := Nat.le_refl _
  have KK2 := Kp0.trans K2 (allS (Or.inl (List.mem_of_getElem? (i := 0) rfl)) all0)
  have P3 := own_go P0 (S' := T2.setTop (mkF m 9 #[rv x0, rv x1] [])) (by
    intro t k
    refine XS.aloadN X0.here hx rfl (hb hby d4_0) rfl rfl ?_
    refine XS.aloadN X0.here hx rfl (hb hby d4_1) rfl rfl ?_
    refine XS.iconst X0.here hx rfl (hb hby d4_2) ?_
    refine XS.aloadN X0.here hx rfl (hb hby d4_3) rfl rfl ?_
    refine X0.arraylength hx (by rw [e0]; exact Ar1.1) (State.isArrayOf_alike hZ.alike Ar1.2.1) (g := (mkF m 4 #[rv x0, rv x1] [(.ref x1), (.int 0), (.ref x1), (.ref x0)])) rfl rfl (hb hby d4_4) _ ?_
    rw [len_of S1 Nn1]
    refine XS.aconstNull X0.here hx rfl (hb hby d4_5) ?_
    refine st2.trans ?_
    exact k)
  obtain ⟨fs, hr, hrun, hended, hend⟩ := X2.leaveW hS2 (hk2w) (v := none) (fun _ => rfl)
  refine ⟨_, _, P3 _ ?_, hrun, hended, _, _, rfl, ?_, ?_, hend.1, hend.2.1, hend.2.2.1, hend.2.2.2.mono (by decide) (by decide)⟩
  · show Steps p.tables e below (T2.setTop (mkF m 9 #[rv x0, rv x1] [])) _
    exact X2.returnOut hx Bd.returns (hb hby d4_9) hr
  · show Qi1s0 Z x0 x1 kc h0 n0 _ T2.heap _
    exact ⟨b_2, kb_2, rfl, N2, KK2, r2_0, r2_1, r2_2, r2_3⟩
  · have q := CR2.trans (CHv.at X2 hZ2 hEW CH2)
    rw [hh]
    show CHr Z own_EL s.vm h0 T2.vm T2.heap
    exact q
def Q1 (Z : State) (x0 : Int64) (x1 : Int32) (h0 : Heap) (n0 : Nat) (v : Option Value) (h : Heap) (L : List Loc) : Prop := v = some (.long (own_field x0 x1)) ∧ Fr n0 L ∧ h = h0
theorem ef_1 (m : MethodId) (x0 : Int64) (x1 : Int32) : entryFrame m #[(.long x0), (.int x1)] 3 = mkF m 0 #[lv x0, .second, iv x1] [] := by first | (simp [entryFrame, mkF, argsToLocals, Value.category]; done) | rfl
set_option maxRecDepth 65536 in
set_option maxHeartbeats 40000000 in
theorem rm1 (l : Launch) (Z : State) (a0 : Array Value) (hw : ∀ d ∈ tables_1, d.before a0 Z = true) (ws : List Jvm.Cond) (x0 : Int64) (x1 : Int32) (h0 : Heap) (n0 : Nat) (Z0 : n0 ≤ h0.size) :
    MetFree l (⟨"com/example/bylaws_for_tables/bylawsfortables/FindingKeyEqualsPinLaw", "field", "(JI)J"⟩ : MethodName) (head1 (Jvm.Cond.code (⟨"com/example/bylaws_for_tables/bylawsfortables/FindingKeyEqualsPinLaw", "field", "(JI)J"⟩ : MethodName) method_6_code 3 (some .long) :: ws) ({ frames := 0, cells := 0, slots := 0, locals := 0 } : Room)) (fun a U => a = #[(.long x0), (.int x1)] ∧ Z.Warmed39 U.vm ∧ U.heap = h0) (fun _ _ _ _ _ => True) (fun _ U o U' => ∃ v L, o = .returned v ∧ Q1 Z x0 x1 h0 n0 v U'.heap L ∧ FrameEnd U o U' L ({ frames := 0, cells := 0, slots := 0, locals := 0 } : Room).cells ({ frames := 0, cells := 0, slots := 0, locals := 0 } : Room).slots) := by
  refine MetFree.of_bodySF (plainFor_of_name pn_1) hisR ?_
  intro p e s m args below meth c s₁ Bd hml0 hP hK
  obtain ⟨rfl, hZ, hh⟩ := hP
  have hx := Bd.exec
  have hby := Bd.bytes
  have hml : c.maxLocals = 3 := hml0
  have hown : s.vm.findClass "com/example/bylaws_for_tables/bylawsfortables/FindingKeyEqualsPinLaw" = some m.cls := findClass_of_methodNamed Bd.named
  have hnm := (name_of_methodNamed Bd.named Bd.method).1
  have X0 : Stand p l e ({ frames := 0, cells := 0, slots := 0, locals := 0 } : Room) s m #[(.long x0), (.int x1)] below meth c s₁ [] 0 0 := Stand.of_body Bd
  have e0 : s₁.heap = h0 := by rw [← hh, Bd.state]; rfl
  have N0 := Fr.nil n0
  have Kp0 := Keep.refl h0 []
  have P0 : ∀ t, Steps p.tables e below (s₁.setTop (mkF m 0 #[lv x0, .second, iv x1] [])) t → Steps p.tables e below (s₁.setTop (entryFrame m #[(.long x0), (.int x1)] 3)) t := fun t k => castTop (ef_1 m x0 x1) k
  have P1 := own_go P0 (S' := s₁.setTop (mkF m 10 #[lv x0, .second, iv x1] [(.long (((x0.toUInt64 >>> (((18 : Int32) * x1) &&& 0x3f).toInt64.toUInt64).toInt64) &&& (262143 : Int64)))])) (by
    intro t k
    refine XS.lloadN X0.here hx rfl (hb hby d1_0) rfl ?_
    refine XS.bipush X0.here hx rfl (hb hby d1_1) ?_
    refine XS.iloadN X0.here hx rfl (hb hby d1_3) rfl ?_
    refine XS.imul X0.here hx rfl (hb hby d1_4) rfl ?_
    refine XS.lushr X0.here hx rfl (hb hby d1_5) rfl ?_
    refine X0.ldc2Long hx hown (mvT hZ (hw _ (im 4 rfl))) (g := (mkF m 6 #[lv x0, .second, iv x1] [(.long ((x0.toUInt64 >>> (((18 : Int32) * x1) &&& 0x3f).toInt64.toUInt64).toInt64))])) rfl (hb hby d1_6) _ ?_
    refine XS.land X0.here hx rfl (hb hby d1_9) rfl ?_
    exact k)
  obtain ⟨fs, hr, hrun, hended, hW, hsame⟩ := X0.leave (v := some (.long (((x0.toUInt64 >>> (((18 : Int32) * x1) &&& 0x3f).toInt64.toUInt64).toInt64) &&& (262143 : Int64)))) (fun h => by rw [Bd.returns] at h; cases h)
  refine ⟨_, _, P1 _ ?_, hrun, hended, _, _, rfl, ?_, ⟨_, rfl⟩, hW, hsame.mono (by decide) (by decide)⟩
  · show Steps p.tables e below (s₁.setTop (mkF m 10 #[lv x0, .second, iv x1] [(.long (((x0.toUInt64 >>> (((18 : Int32) * x1) &&& 0x3f).toInt64.toUInt64).toInt64) &&& (262143 : Int64)))])) _
    exact retOut X0 hx (t := .long) Bd.returns rfl (Or.inr (Or.inl ⟨rfl, rfl, _, rfl⟩)) (hb hby d1_10) hr
  · show Q1 Z x0 x1 h0 n0 _ s₁.heap _
    rw [e0]
    exact ⟨(rfl), N0, rfl⟩
def Q3 (Z : State) (x0 : Int64) (h0 : Heap) (n0 : Nat) (v : Option Value) (h : Heap) (L : List Loc) : Prop := v = some (.int (own_len x0)) ∧ Fr n0 L ∧ h = h0
theorem ef_3 (m : MethodId) (x0 : Int64) : entryFrame m #[(.long x0)] 2 = mkF m 0 #[lv x0, .second] [] := by first | (simp [entryFrame, mkF, argsToLocals, Value.category]; done) | rfl
set_option maxRecDepth 65536 in
set_option maxHeartbeats 40000000 in
theorem rm3 (l : Launch) (Z : State) (a0 : Array Value) (hw : ∀ d ∈ tables_1, d.before a0 Z = true) (ws : List Jvm.Cond) (x0 : Int64) (h0 : Heap) (n0 : Nat) (Z0 : n0 ≤ h0.size) :
    MetFree l (⟨"com/example/bylaws_for_tables/bylawsfortables/FindingKeyEqualsPinLaw", "len", "(J)I"⟩ : MethodName) (head1 (Jvm.Cond.code (⟨"com/example/bylaws_for_tables/bylawsfortables/FindingKeyEqualsPinLaw", "len", "(J)I"⟩ : MethodName) method_2_code 2 (some .int) :: ws) ({ frames := 0, cells := 0, slots := 0, locals := 0 } : Room)) (fun a U => a = #[(.long x0)] ∧ Z.Warmed39 U.vm ∧ U.heap = h0) (fun _ _ _ _ _ => True) (fun _ U o U' => ∃ v L, o = .returned v ∧ Q3 Z x0 h0 n0 v U'.heap L ∧ FrameEnd U o U' L ({ frames := 0, cells := 0, slots := 0, locals := 0 } : Room).cells ({ frames := 0, cells := 0, slots := 0, locals := 0 } : Room).slots) := by
  refine MetFree.of_bodySF (plainFor_of_name pn_3) hisR ?_
  intro p e s m args below meth c s₁ Bd hml0 hP hK
  obtain ⟨rfl, hZ, hh⟩ := hP
  have hx := Bd.exec
  have hby := Bd.bytes
  have hml : c.maxLocals = 2 := hml0
  have hown : s.vm.findClass "com/example/bylaws_for_tables/bylawsfortables/FindingKeyEqualsPinLaw" = some m.cls := findClass_of_methodNamed Bd.named
  have hnm := (name_of_methodNamed Bd.named Bd.method).1
  have X0 : Stand p l e ({ frames := 0, cells := 0, slots := 0, locals := 0 } : Room) s m #[(.long x0)] below meth c s₁ [] 0 0 := Stand.of_body Bd
  have e0 : s₁.heap = h0 := by rw [← hh, Bd.state]; rfl
  have N0 := Fr.nil n0
  have Kp0 := Keep.refl h0 []
  have P0 : ∀ t, Steps p.tables e below (s₁.setTop (mkF m 0 #[lv x0, .second] [])) t → Steps p.tables e below (s₁.setTop (entryFrame m #[(.long x0)] 2)) t := fun t k => castTop (ef_3 m x0) k
  have P1 := own_go P0 (S' := s₁.setTop (mkF m 10 #[lv x0, .second] [(.int (((x0 &&& (3 : Int64)) - ((x0 &&& (3 : Int64)) / (3 : Int64)) * (3 : Int64)).toInt32))])) (by
    intro t k
    refine XS.lloadN X0.here hx rfl (hb hby d3_0) rfl ?_
    refine X0.ldc2Long hx hown (mvT hZ (hw _ (im 14 rfl))) (g := (mkF m 1 #[lv x0, .second] [(.long x0)])) rfl (hb hby d3_1) _ ?_
    refine XS.land X0.here hx rfl (hb hby d3_4) rfl ?_
    refine X0.ldc2Long hx hown (mvT hZ (hw _ (im 14 rfl))) (g := (mkF m 5 #[lv x0, .second] [(.long (x0 &&& (3 : Int64)))])) rfl (hb hby d3_5) _ ?_
    refine XS.lrem X0.here hx rfl (hb hby d3_8) rfl (by decide) ?_
    refine XS.l2i X0.here hx rfl (hb hby d3_9) rfl ?_
    exact k)
  obtain ⟨fs, hr, hrun, hended, hW, hsame⟩ := X0.leave (v := some (.int (((x0 &&& (3 : Int64)) - ((x0 &&& (3 : Int64)) / (3 : Int64)) * (3 : Int64)).toInt32))) (fun h => by rw [Bd.returns] at h; cases h)
  refine ⟨_, _, P1 _ ?_, hrun, hended, _, _, rfl, ?_, ⟨_, rfl⟩, hW, hsame.mono (by decide) (by decide)⟩
  · show Steps p.tables e below (s₁.setTop (mkF m 10 #[lv x0, .second] [(.int (((x0 &&& (3 : Int64)) - ((x0 &&& (3 : Int64)) / (3 : Int64)) * (3 : Int64)).toInt32))])) _
    exact retI X0 hx Bd.returns (hb hby d3_10) hr
  · show Q3 Z x0 h0 n0 _ s₁.heap _
    rw [e0]
    exact ⟨(rfl), N0, rfl⟩
def Q11 (Z : State) (x0 : Int64) (x1 : Int32) (h0 : Heap) (n0 : Nat) (v : Option Value) (h : Heap) (L : List Loc) : Prop := v = some (.int (own_chr x0 x1)) ∧ Fr n0 L ∧ h = h0
theorem ef_11 (m : MethodId) (x0 : Int64) (x1 : Int32) : entryFrame m #[(.long x0), (.int x1)] 3 = mkF m 0 #[lv x0, .second, iv x1] [] := by first | (simp [entryFrame, mkF, argsToLocals, Value.category]; done) | rfl
set_option maxRecDepth 65536 in
set_option maxHeartbeats 40000000 in
theorem rm11 (l : Launch) (Z : State) (a0 : Array Value) (hw : ∀ d ∈ tables_1, d.before a0 Z = true) (ws : List Jvm.Cond) (x0 : Int64) (x1 : Int32) (h0 : Heap) (n0 : Nat) (Z0 : n0 ≤ h0.size) :
    MetFree l (⟨"com/example/bylaws_for_tables/bylawsfortables/FindingKeyEqualsPinLaw", "ch", "(JI)C"⟩ : MethodName) (head1 (Jvm.Cond.code (⟨"com/example/bylaws_for_tables/bylawsfortables/FindingKeyEqualsPinLaw", "ch", "(JI)C"⟩ : MethodName) method_3_code 3 (some .char) :: ws) ({ frames := 0, cells := 0, slots := 0, locals := 0 } : Room)) (fun a U => a = #[(.long x0), (.int x1)] ∧ Z.Warmed39 U.vm ∧ U.heap = h0) (fun _ _ _ _ _ => True) (fun _ U o U' => ∃ v L, o = .returned v ∧ Q11 Z x0 x1 h0 n0 v U'.heap L ∧ FrameEnd U o U' L ({ frames := 0, cells := 0, slots := 0, locals := 0 } : Room).cells ({ frames := 0, cells := 0, slots := 0, locals := 0 } : Room).slots) := by
  refine MetFree.of_bodySF (plainFor_of_name pn_11) hisR ?_
  intro p e s m args below meth c s₁ Bd hml0 hP hK
  obtain ⟨rfl, hZ, hh⟩ := hP
  have hx := Bd.exec
  have hby := Bd.bytes
  have hml : c.maxLocals = 3 := hml0
  have hown : s.vm.findClass "com/example/bylaws_for_tables/bylawsfortables/FindingKeyEqualsPinLaw" = some m.cls := findClass_of_methodNamed Bd.named
  have hnm := (name_of_methodNamed Bd.named Bd.method).1
  have X0 : Stand p l e ({ frames := 0, cells := 0, slots := 0, locals := 0 } : Room) s m #[(.long x0), (.int x1)] below meth c s₁ [] 0 0 := Stand.of_body Bd
  have e0 : s₁.heap = h0 := by rw [← hh, Bd.state]; rfl
  have N0 := Fr.nil n0
  have Kp0 := Keep.refl h0 []
  have P0 : ∀ t, Steps p.tables e below (s₁.setTop (mkF m 0 #[lv x0, .second, iv x1] [])) t → Steps p.tables e below (s₁.setTop (entryFrame m #[(.long x0), (.int x1)] 3)) t := fun t k => castTop (ef_11 m x0 x1) k
  have P1 := own_go P0 (S' := s₁.setTop (mkF m 14 #[lv x0, .second, iv x1] [(.int (((((x0.toUInt64 >>> (((2 : Int32) + ((8 : Int32) * x1)) &&& 0x3f).toInt64.toUInt64).toInt64) &&& (255 : Int64)).toInt32).toUInt32.toUInt16.toUInt32.toInt32))])) (by
    intro t k
    refine XS.lloadN X0.here hx rfl (hb hby d11_0) rfl ?_
    refine XS.iconst X0.here hx rfl (hb hby d11_1) ?_
    refine XS.bipush X0.here hx rfl (hb hby d11_2) ?_
    refine XS.iloadN X0.here hx rfl (hb hby d11_4) rfl ?_
    refine XS.imul X0.here hx rfl (hb hby d11_5) rfl ?_
    refine XS.iadd X0.here hx rfl (hb hby d11_6) rfl ?_
    refine XS.lushr X0.here hx rfl (hb hby d11_7) rfl ?_
    refine X0.ldc2Long hx hown (mvT hZ (hw _ (im 72 rfl))) (g := (mkF m 8 #[lv x0, .second, iv x1] [(.long ((x0.toUInt64 >>> (((2 : Int32) + ((8 : Int32) * x1)) &&& 0x3f).toInt64.toUInt64).toInt64))])) rfl (hb hby d11_8) _ ?_
    show Steps p.tables e below (s₁.setTop (mkF m 11 #[lv x0, .second, iv x1] [(.long 255), (.long ((x0.toUInt64 >>> (((2 : Int32) + ((8 : Int32) * x1)) &&& 0x3f).toInt64.toUInt64).toInt64))])) _
    refine XS.land X0.here hx rfl (hb hby d11_11) rfl ?_
    refine XS.l2i X0.here hx rfl (hb hby d11_12) rfl ?_
    refine XS.i2c X0.here hx rfl (hb hby d11_13) rfl ?_
    exact k)
  obtain ⟨fs, hr, hrun, hended, hW, hsame⟩ := X0.leave (v := some (.int (nar .char (((((x0.toUInt64 >>> (((2 : Int32) + ((8 : Int32) * x1)) &&& 0x3f).toInt64.toUInt64).toInt64) &&& (255 : Int64)).toInt32).toUInt32.toUInt16.toUInt32.toInt32)))) (fun h => by rw [Bd.returns] at h; cases h)
  refine ⟨_, _, P1 _ ?_, hrun, hended, _, _, rfl, ?_, ⟨_, rfl⟩, hW, hsame.mono (by decide) (by decide)⟩
  · show Steps p.tables e below (s₁.setTop (mkF m 14 #[lv x0, .second, iv x1] [(.int (((((x0.toUInt64 >>> (((2 : Int32) + ((8 : Int32) * x1)) &&& 0x3f).toInt64.toUInt64).toInt64) &&& (255 : Int64)).toInt32).toUInt32.toUInt16.toUInt32.toInt32))])) _
    exact retN X0 hx (t := .char) Bd.returns (by simp) (hb hby d11_14) hr
  · show Q11 Z x0 x1 h0 n0 _ s₁.heap _
    rw [e0]
    exact ⟨(rfl), N0, rfl⟩
def Q2 (Z : State) (x0 : Int64) (cs : Int32) (h0 : Heap) (n0 : Nat) (v : Option Value) (h : Heap) (L : List Loc) : Prop := ∃ (b : Addr), v = some (.ref b) ∧ Fr n0 L ∧ Keep h0 h [] ∧ n0 ≤ b ∧ h0.size ≤ b ∧ own_Str Z h b (own_str x0) h.size
theorem ef_2 (m : MethodId) (x0 : Int64) : entryFrame m #[(.long x0)] 4 = mkF m 0 #[lv x0, .second, .unset, .unset] [] := by first | (simp [entryFrame, mkF, argsToLocals, Value.category]; done) | rfl
set_option maxRecDepth 65536 in
set_option maxHeartbeats 40000000 in
theorem rm2 (l : Launch) (Z : State) (a0 : Array Value) (hw : ∀ d ∈ tables_1, d.before a0 Z = true) (ws : List Jvm.Cond) (x0 : Int64) (cs : Int32) (h0 : Heap) (n0 : Nat) (Z0 : n0 ≤ h0.size) (O0 : Old Z n0 h0) (pre_S_COMPACT_STRINGS : Sta Z Z.heap "java/lang/String" "COMPACT_STRINGS" "Z" (.int cs)) (hcs : ¬ (cs = (0 : Int32))) :
    MetFree l (⟨"com/example/bylaws_for_tables/bylawsfortables/FindingKeyEqualsPinLaw", "str", "(J)Ljava/lang/String;"⟩ : MethodName) (head1 (Jvm.Cond.code (⟨"com/example/bylaws_for_tables/bylawsfortables/FindingKeyEqualsPinLaw", "str", "(J)Ljava/lang/String;"⟩ : MethodName) method_4_code 4 (some (.object "java/lang/String")) :: ws) ({ frames := 4, cells := 6, slots := 12, locals := 66 } : Room)) (fun a U => a = #[(.long x0)] ∧ Z.Warmed39 U.vm ∧ U.heap = h0 ∧ CHv Z own_EL U.vm h0) (fun _ _ _ _ _ => True) (fun _ U o U' => ∃ v L, o = .returned v ∧ Q2 Z x0 cs h0 n0 v U'.heap L ∧ CHr Z own_EL U.vm U.heap U'.vm U'.heap ∧ ReturnedEndW U o U' L ({ frames := 4, cells := 6, slots := 12, locals := 66 } : Room).cells ({ frames := 4, cells := 6, slots := 12, locals := 66 } : Room).slots) := by
  refine MetFree.of_bodySF (plainFor_of_name pn_2) hisR ?_
  intro p e s m args below meth c s₁ Bd hml0 hP hK
  obtain ⟨rfl, hZ, hh, CH0⟩ := hP
  have hx := Bd.exec
  have hby := Bd.bytes
  have hml : c.maxLocals = 4 := hml0
  have hown : s.vm.findClass "com/example/bylaws_for_tables/bylawsfortables/FindingKeyEqualsPinLaw" = some m.cls := findClass_of_methodNamed Bd.named
  have hnm := (name_of_methodNamed Bd.named Bd.method).1
  have X0 : Stand p l e ({ frames := 4, cells := 6, slots := 12, locals := 66 } : Room) (s.setVm s.vm) m #[(.long x0)] below meth c s₁ [] 0 0 := Stand.of_body Bd
  have e0 : s₁.heap = h0 := by rw [← hh, Bd.state]; rfl
  have N0 := Fr.nil n0
  have Kp0 := Keep.refl h0 []
  have hS0 : s.Since s.vm 0 := (State.WarmedH.refl s).since 0
  have hk0 : 0 ≤ h0.size := Nat.zero_le _
  replace hZ : Z.Warmed39 (s.setVm s.vm).vm := hZ
  replace hown : (s.setVm s.vm).vm.findClass "com/example/bylaws_for_tables/bylawsfortables/FindingKeyEqualsPinLaw" = some m.cls := hown
  have CR0 := CHr.refl CH0
  have hEW := own_EW hw
  have P0 : ∀ t, Steps p.tables e below (s₁.setTop (mkF m 0 #[lv x0, .second, .unset, .unset] [])) t → Steps p.tables e below (s₁.setTop (entryFrame m #[(.long x0)] 4)) t := fun t k => castTop (ef_2 m x0) k
  obtain ⟨_, _, ⟨T1, L1, k1, n1⟩, -, X1, ⟨Lc1, hQ1, l1, y1, z1⟩, st1⟩ := Jvm.LawKit.callS X0 hx (y := (⟨"com/example/bylaws_for_tables/bylawsfortables/FindingKeyEqualsPinLaw", "len", "(J)I"⟩ : MethodName)) hown (mvT hZ (hw _ (im 11 rfl))) (mvT hZ (hw _ (im 12 rfl))) (mvT hZ (hw _ (im 2 rfl))) (mvT hZ (hw _ (im 13 rfl))) (by decide) (backOf (W := 0) (rm3 l Z a0 hw [] x0 h0 n0 Z0 ) hZ (hw _ (im 13 rfl)) (hw _ (im 2 rfl)) (by decide) (by decide)) (g := (mkF m 1 #[lv x0, .second, .unset, .unset] [(.long x0)])) rfl (by rw [hml]; rfl) (argsL := [(.long x0)]) (rest := []) (lenOf pd_4 rfl) rfl (by show 2 * 0 + _ ≤ _; exact Nat.le_of_eq rfl) (hb hby d2_1) (fun _ _ => ⟨rfl, e0, (by decide : 0 + 0 ≤ _), (by decide : 0 + 0 ≤ _)⟩)
  dsimp only [Pt.U, Pt.locs, Pt.cells, Pt.slots] at X1 l1 y1 z1 st1 hQ1
  subst l1 y1 z1
  obtain ⟨rfl, N1q, e1⟩ := hQ1
  have N1 := Fr.app N0 N1q
  have P3 := own_go P0 (S' := T1.setTop (mkF m 6 #[lv x0, .second, iv (own_len x0), .unset] [(.int (own_len x0))])) (by
    intro t k
    refine XS.lloadN X0.here hx rfl (hb hby d2_0) rfl ?_
    refine st1 _ ?_
    refine XS.istoreN X1.here hx rfl (hb hby d2_4) rfl (l' := #[lv x0, .second, iv (own_len x0), .unset]) rfl ?_
    refine XS.iloadN X1.here hx rfl (hb hby d2_5) rfl ?_
    exact k)
  by_cases hc6_2 : (own_len x0) = (0 : Int32)
  · obtain ⟨T4, h4, X4, e4, E4, A4, D4, -, st4⟩ := newO X1 hx hZ hown (hw _ (im 15 rfl)) (hw _ (im 16 rfl)) (hw _ (im 17 rfl)) e1 (g := (mkF m 9 #[lv x0, .second, iv (own_len x0), .unset] [])) rfl (hb hby d2_9) (by decide) (by decide)
    obtain ⟨b4, g4⟩ : ∃ z, z = h0.size := ⟨_, rfl⟩
    rw [← g4] at A4 D4 st4
    have ge_b4 : n0 ≤ b4 := Nat.le_trans Z0 (Nat.le_of_eq g4.symm)
    have sz_b4 : h0.size ≤ b4 := Nat.le_trans Kp0.1 (Nat.le_of_eq g4.symm)
    have Z4_ : n0 ≤ h4.size := Nat.le_trans Z0 E4.1
    have hk4_ := Nat.le_trans hk0 E4.1
    have CH4 := CHv.ext E4 CH0
    have CR4 := CR0.trans (CHr.ext E4 CH0)
    have O4_ := O0.ext E4
    have KK4 := Kp0.ext E4
    have F4_value : Fld Z h4 b4 "java/lang/String" "value" "[B" .null := D4 (Or.inr (hw _ (im 31 rfl))) (ty := (.array .byte)) (by decide)
    have F4_coder : Fld Z h4 b4 "java/lang/String" "coder" "B" (.int 0) := D4 (Or.inr (hw _ (im 32 rfl))) (ty := .byte) (by decide)
    obtain ⟨T5, h5, k5, X5, e5, E5, A5, st5⟩ := newP X4 hx hZ (hw _ (im 18 rfl)) e4 (g := (mkF m 14 #[lv x0, .second, iv (own_len x0), .unset] [(.int 0), (.ref b4), (.ref b4)])) rfl (hb hby d2_14) rfl (by decide) (cap := 0) (by decide) (by decide) (by decide) (by decide)
    obtain ⟨b5, g5⟩ : ∃ z, z = h4.size := ⟨_, rfl⟩
    rw [← g5] at A5 st5
    have ge_b5 : n0 ≤ b5 := Nat.le_trans Z4_ (Nat.le_of_eq g5.symm)
    have sz_b5 : h0.size ≤ b5 := Nat.le_trans KK4.1 (Nat.le_of_eq g5.symm)
    have Z5_ : n0 ≤ h5.size := Nat.le_trans Z4_ E5.1
    have hk5_ := Nat.le_trans hk4_ E5.1
    have CH5 := CHv.ext E5 CH4
    have CR5 := CR4.trans (CHr.ext E5 CH4)
    have O5_ := O4_.ext E5
    have KK5 := KK4.ext E5
    have V5 : Arv Z h5 b5 k5 .char (0 : Int32) [] (.int 0) := (Arv.new A5 (by decide)).pad (pad_rep [] (.int 0) 0)
    have q6 := (A4.ext E5)
    have q7 := (F4_value.ext E5)
    have q8 := (F4_coder.ext E5)
    obtain ⟨_, _, ⟨T9, L9, k9, n9⟩, -, X9, hS9, hg9, ⟨Lc9, hQ9, l9, y9, z9, cr9⟩, st9⟩ := X5.specialBackS hx (y := (⟨"java/lang/String", "<init>", "([C)V"⟩ : MethodName)) rfl hown (mvT hZ (hw _ (im 19 rfl))) (mvT hZ (hw _ (im 20 rfl))) (mvT hZ (hw _ (im 21 rfl))) (by decide) (backOfSH (W := 1) (rmi1s0 l Z a0 hw [] b4 b5 k5 h5 n0 Z5_ q6 q7 q8 ge_b4 V5) hZ (hw _ (im 21 rfl)) (hw _ (im 17 rfl)) (by decide) (by decide) hEW CH5) (g := (mkF m 16 #[lv x0, .second, iv (own_len x0), .unset] [(.ref b5), (.ref b4), (.ref b4)])) rfl (by rw [hml]; rfl) (Steps.refl _) (a := b4) (argsL := [(.ref b5)]) (rest := [(.ref b4)]) (lenOf pd_5 rfl) rfl (by show 2 * 0 + _ ≤ _; exact Nat.le_of_eq rfl) (hb hby d2_16) (fun _ _ => ⟨rfl, e5, (by decide : 2 + 4 ≤ _), (by decide : 4 + 8 ≤ _)⟩)
    dsimp only [Pt.U, Pt.locs, Pt.cells, Pt.slots] at X9 l9 y9 z9 st9 hQ9 hS9 hg9 cr9
    subst l9 y9 z9
    obtain ⟨X9, hS9, hZ9, hown9⟩ := rebS hS0 (by rw [e5]; exact hk5_) X9 hS9 hg9 hZ hown
    obtain ⟨b_9, kb_9, rfl, N9q, K9, r9_0, r9_1, r9_2, r9_3⟩ := hQ9
    have N9 := Fr.app N1 N9q
    have Z9_ : n0 ≤ T9.heap.size := Nat.le_trans Z5_ K9.1
    have hk9_ := Nat.le_trans hk5_ K9.1
    have CH9 := cr9.1
    have CR9 := CR5.trans cr9
    have O9_ := O5_.keep K9 (allS ge_b4 all0)
    have hk9w : T9.heap.size ≤ T9.heap.size := Nat.le_refl _
    have KK9 := KK5.trans K9 (allS (Or.inr sz_b4) all0)
    have P10 := own_go P3 (S' := T9.setTop (mkF m 19 #[lv x0, .second, iv (own_len x0), .unset] [(.ref b4)])) (by
      intro t k
      refine XS.ifNo X1.here hx rfl (hb hby d2_6) rfl ((if0 _ _).trans (teq hc6_2).2) ?_
      refine st4 _ ?_
      refine XS.dup X4.here hx rfl (hb hby d2_12) rfl rfl ?_
      refine XS.iconst X4.here hx rfl (hb hby d2_13) ?_
      refine st5 _ ?_
      refine st9.trans ?_
      exact k)
    obtain ⟨fs, hr, hrun, hended, hend⟩ := X9.leaveW hS9 (hk9w) (v := some (.ref b4)) (fun h => by rw [Bd.returns] at h; cases h)
    refine ⟨_, _, P10 _ ?_, hrun, hended, _, _, rfl, ?_, ?_, hend.1, hend.2.1, hend.2.2.1, hend.2.2.2.mono (by decide) (by decide)⟩
    · show Steps p.tables e below (T9.setTop (mkF m 19 #[lv x0, .second, iv (own_len x0), .unset] [(.ref b4)])) _
      exact retOut X9 hx (t := (.object "java/lang/String")) Bd.returns rfl (Or.inr (Or.inr (Or.inr (Or.inr ⟨rfl, rfl, rfl⟩)))) (hb hby d2_19) hr
    · show Q2 Z x0 cs h0 n0 _ T9.heap _
      exact ⟨b4, rfl, N9, KK9, ge_b4, sz_b4, (by rw [show own_str x0 = [] from by simp [own_str, hc6_2]]; exact ⟨b_9, kb_9, r9_0, r9_2, r9_1, r9_3, Nat.le_of_ble_eq_true rfl, r9_0.lt, r9_3.lt⟩)⟩
    · have q := CR9.trans (CHv.at X9 hZ9 hEW CH9)
      rw [hh]
      show CHr Z own_EL s.vm h0 T9.vm T9.heap
      exact q
  · have P12 := own_go P3 (S' := T1.setTop (mkF m 22 #[lv x0, .second, iv (own_len x0), .unset] [(.int 1), (.int (own_len x0))])) (by
      intro t k
      refine XS.ifYes X1.here hx rfl (pc0 := 6) (pc' := 20) rfl (hb hby d2_6) rfl ((if0 _ _).trans (feq hc6_2).2) (by decide) (by decide) ?_
      refine XS.iloadN X1.here hx rfl (hb hby d2_20) rfl ?_
      refine XS.iconst X1.here hx rfl (hb hby d2_21) ?_
      exact k)
    by_cases hc22_11 : (own_len x0) = (1 : Int32)
    · obtain ⟨T13, h13, k13, X13, e13, E13, A13, st13⟩ := newP X1 hx hZ (hw _ (im 18 rfl)) e1 (g := (mkF m 26 #[lv x0, .second, iv (own_len x0), .unset] [(.int 1)])) rfl (hb hby d2_26) rfl (by decide) (cap := 1) (by decide) (by decide) (by decide) (by decide)
      obtain ⟨b13, g13⟩ : ∃ z, z = h0.size := ⟨_, rfl⟩
      rw [← g13] at A13 st13
      have ge_b13 : n0 ≤ b13 := Nat.le_trans Z0 (Nat.le_of_eq g13.symm)
      have sz_b13 : h0.size ≤ b13 := Nat.le_trans Kp0.1 (Nat.le_of_eq g13.symm)
      have Z13_ : n0 ≤ h13.size := Nat.le_trans Z0 E13.1
      have hk13_ := Nat.le_trans hk0 E13.1
      have CH13 := CHv.ext E13 CH0
      have CR13 := CR0.trans (CHr.ext E13 CH0)
      have O13_ := O0.ext E13
      have KK13 := Kp0.ext E13
      have V13 : Arv Z h13 b13 k13 .char (1 : Int32) [(.int 0)] (.int 0) := (Arv.new A13 (by decide)).pad (pad_rep [] (.int 0) 1)
      obtain ⟨_, _, ⟨T14, L14, k14, n14⟩, -, X14, ⟨Lc14, hQ14, l14, y14, z14⟩, st14⟩ := Jvm.LawKit.callS X13 hx (y := (⟨"com/example/bylaws_for_tables/bylawsfortables/FindingKeyEqualsPinLaw", "ch", "(JI)C"⟩ : MethodName)) hown (mvT hZ (hw _ (im 69 rfl))) (mvT hZ (hw _ (im 70 rfl))) (mvT hZ (hw _ (im 2 rfl))) (mvT hZ (hw _ (im 71 rfl))) (by decide) (backOf (W := 2) (rm11 l Z a0 hw [] x0 (0 : Int32) h13 n0 Z13_ ) hZ (hw _ (im 71 rfl)) (hw _ (im 2 rfl)) (by decide) (by decide)) (g := (mkF m 33 #[lv x0, .second, iv (own_len x0), rv b13] [(.int 0), (.long x0), (.int 0), (.ref b13)])) rfl (by rw [hml]; rfl) (argsL := [(.long x0), (.int 0)]) (rest := [(.int 0), (.ref b13)]) (lenOf pd_6 rfl) rfl (by show 2 * 0 + _ ≤ _; exact Nat.le_of_eq rfl) (hb hby d2_33) (fun _ _ => ⟨rfl, e13, (by decide : 1 + 0 ≤ _), (by decide : 1 + 0 ≤ _)⟩)
      dsimp only [Pt.U, Pt.locs, Pt.cells, Pt.slots] at X14 l14 y14 z14 st14 hQ14
      subst l14 y14 z14
      obtain ⟨rfl, N14q, e14⟩ := hQ14
      have N14 := Fr.app N1 N14q
      obtain ⟨cl15, Ar15, qa15, S15, Nn15, H15, G15⟩ := id V13
      have hin15 : ¬ ((0 : Int32) < 0 ∨ cl15.slots.size ≤ ((0 : Int32)).toNatClampNeg) := inb_of S15 ⟨by decide, by decide⟩
      obtain ⟨T16, h16, X16, e16, W16, st16⟩ := stC X14 hx hZ e14 Ar15 (j := (0 : Int32)) hin15 (g := (mkF m 36 #[lv x0, .second, iv (own_len x0), rv b13] [(.int (own_chr x0 (0 : Int32))), (.int 0), (.ref b13)])) rfl rfl (hb hby d2_36)
      have Z16_ : n0 ≤ h16.size := Nat.le_trans Z13_ (Nat.le_of_eq W16.size.symm)
      have hk16_ := Nat.le_trans hk13_ (Nat.le_of_eq W16.size.symm)
      have CH16 := CHv.wr W16 (own_safe_arv hZ.alike V13 (by decide)) CH13
      have CR16 := CR13.trans (CHr.wr W16 (own_safe_arv hZ.alike V13 (by decide)) CH13)
      have O16_ := O13_.wr W16 ge_b13
      have N16 := Fr.snoc X16 N14 ge_b13
      have KK16 := KK13.wr W16 (Or.inr sz_b13)
      have V16 : Arv Z h16 b13 k13 .char (1 : Int32) [(.int (nar .char (own_chr x0 (0 : Int32))))] (.int 0) := Arv.set Ar15 qa15 S15 Nn15 H15 G15 (by first | exact fits_nar_char _ | decide | rfl) W16 0 rfl (Nat.le_of_ble_eq_true rfl)
      obtain ⟨T17, h17, X17, e17, E17, A17, D17, -, st17⟩ := newO X16 hx hZ hown (hw _ (im 15 rfl)) (hw _ (im 16 rfl)) (hw _ (im 17 rfl)) e16 (g := (mkF m 37 #[lv x0, .second, iv (own_len x0), rv b13] [])) rfl (hb hby d2_37) (by decide) (by decide)
      obtain ⟨b17, g17⟩ : ∃ z, z = h16.size := ⟨_, rfl⟩
      rw [← g17] at A17 D17 st17
      have ge_b17 : n0 ≤ b17 := Nat.le_trans Z16_ (Nat.le_of_eq g17.symm)
      have sz_b17 : h0.size ≤ b17 := Nat.le_trans KK16.1 (Nat.le_of_eq g17.symm)
      have Z17_ : n0 ≤ h17.size := Nat.le_trans Z16_ E17.1
      have hk17_ := Nat.le_trans hk16_ E17.1
      have CH17 := CHv.ext E17 CH16
      have CR17 := CR16.trans (CHr.ext E17 CH16)
      have O17_ := O16_.ext E17
      have KK17 := KK16.ext E17
      have F17_value : Fld Z h17 b17 "java/lang/String" "value" "[B" .null := D17 (Or.inr (hw _ (im 31 rfl))) (ty := (.array .byte)) (by decide)
      have F17_coder : Fld Z h17 b17 "java/lang/String" "coder" "B" (.int 0) := D17 (Or.inr (hw _ (im 32 rfl))) (ty := .byte) (by decide)
      have q18 := (V16.ext E17)
      have q20 := (Nat.lt_of_lt_of_le V13.lt (Nat.le_of_eq W16.size.symm))
      have ne19 : b13 ≠ b17 := Nat.ne_of_lt (Nat.lt_of_lt_of_le q20 (Nat.le_of_eq g17.symm))
      have sf21 : Safe Z own_EL s.vm h17 b17 := own_safe_null hZ.alike A17 F17_value
      obtain ⟨_, _, ⟨T22, L22, k22, n22⟩, -, X22, ⟨Lc22, hQ22, l22, y22, z22⟩, st22⟩ := X17.specialBack hx (y := (⟨"java/lang/String", "<init>", "([C)V"⟩ : MethodName)) rfl hown (mvT hZ (hw _ (im 19 rfl))) (mvT hZ (hw _ (im 20 rfl))) (mvT hZ (hw _ (im 21 rfl))) (by decide) (backOf (W := 1) (rmi1s1 l Z a0 hw [] b17 b13 cs k13 (nar .char (own_chr x0 (0 : Int32))) h17 n0 Z17_ O17_ pre_S_COMPACT_STRINGS (hcs) A17 F17_value F17_coder ge_b17 q18 (Ne.symm ne19) (own_c255 _ _)) hZ (hw _ (im 21 rfl)) (hw _ (im 17 rfl)) (by decide) (by decide)) (g := (mkF m 42 #[lv x0, .second, iv (own_len x0), rv b13] [(.ref b13), (.ref b17), (.ref b17)])) rfl (by rw [hml]; rfl) (Steps.refl _) (a := b17) (argsL := [(.ref b13)]) (rest := [(.ref b17)]) (lenOf pd_5 rfl) rfl (by show 2 * 0 + _ ≤ _; exact Nat.le_of_eq rfl) (hb hby d2_42) (fun _ _ => ⟨rfl, e17, (by decide : 2 + 1 ≤ _), (by decide : 5 + 1 ≤ _)⟩)
      dsimp only [Pt.U, Pt.locs, Pt.cells, Pt.slots] at X22 l22 y22 z22 st22 hQ22
      subst l22 y22 z22
      obtain ⟨b_22, kb_22, rfl, N22q, K22, r22_0, r22_1, r22_2, r22_3, r22_4, r22_5⟩ := hQ22
      have N22 := Fr.app N16 N22q
      have Z22_ : n0 ≤ T22.heap.size := Nat.le_trans Z17_ K22.1
      have hk22_ := Nat.le_trans hk17_ K22.1
      have CH22 := CHv.keep K22 (allS sf21 all0) CH17
      have CR22 := CR17.trans (CHr.keep K22 (allS sf21 all0) CH17)
      have sf23 := Safe.keep K22 (allS sf21 all0) CH17 sf21
      have O22_ := O17_.keep K22 (allS ge_b17 all0)
      have KK22 := KK17.trans K22 (allS (Or.inr sz_b17) all0)
      have szz_b_22 : h0.size ≤ b_22 := Nat.le_trans KK17.1 r22_5
      have P24 := own_go P12 (S' := T22.setTop (mkF m 45 #[lv x0, .second, iv (own_len x0), rv b13] [(.ref b17)])) (by
        intro t k
        refine XS.icmpNo X1.here hx rfl (hb hby d2_22) rfl (teq hc22_11).2 ?_
        refine XS.iconst X1.here hx rfl (hb hby d2_25) ?_
        refine st13 _ ?_
        refine XS.astoreN X13.here hx rfl (hb hby d2_28) rfl rfl (l' := #[lv x0, .second, iv (own_len x0), rv b13]) rfl ?_
        refine XS.aloadN X13.here hx rfl (hb hby d2_29) rfl rfl ?_
        refine XS.iconst X13.here hx rfl (hb hby d2_30) ?_
        refine XS.lloadN X13.here hx rfl (hb hby d2_31) rfl ?_
        refine XS.iconst X13.here hx rfl (hb hby d2_32) ?_
        show Steps p.tables e below (T13.setTop (mkF m 33 #[lv x0, .second, iv (own_len x0), rv b13] [(.int 0), (.long x0), (.int 0), (.ref b13)])) _
        refine st14 _ ?_
        refine st16 _ ?_
        refine st17 _ ?_
        refine XS.dup X17.here hx rfl (hb hby d2_40) rfl rfl ?_
        refine XS.aloadN X17.here hx rfl (hb hby d2_41) rfl rfl ?_
        refine st22.trans ?_
        exact k)
      obtain ⟨fs, hr, hrun, hended, hend⟩ := X22.leaveW hS0 (hk22_) (v := some (.ref b17)) (fun h => by rw [Bd.returns] at h; cases h)
      refine ⟨_, _, P24 _ ?_, hrun, hended, _, _, rfl, ?_, ?_, hend.1, hend.2.1, hend.2.2.1, hend.2.2.2.mono (by decide) (by decide)⟩
      · show Steps p.tables e below (T22.setTop (mkF m 45 #[lv x0, .second, iv (own_len x0), rv b13] [(.ref b17)])) _
        exact retOut X22 hx (t := (.object "java/lang/String")) Bd.returns rfl (Or.inr (Or.inr (Or.inr (Or.inr ⟨rfl, rfl, rfl⟩)))) (hb hby d2_45) hr
      · show Q2 Z x0 cs h0 n0 _ T22.heap _
        exact ⟨b17, rfl, N22, KK22, ge_b17, sz_b17, (by rw [show own_str x0 = [(nar .byte ((nar .char (own_chr x0 (0 : Int32))).toInt8.toInt32))] from by simp [own_str, hc6_2, hc22_11]]; exact ⟨b_22, kb_22, r22_0, r22_2, r22_1, r22_3, Nat.le_of_ble_eq_true rfl, r22_0.lt, r22_3.lt⟩)⟩
      · have q := CR22.trans (CHv.at X22 hZ hEW CH22)
        rw [hh]
        show CHr Z own_EL s.vm h0 T22.vm T22.heap
        exact q
    · obtain ⟨T25, h25, k25, X25, e25, E25, A25, st25⟩ := newP X1 hx hZ (hw _ (im 18 rfl)) e1 (g := (mkF m 47 #[lv x0, .second, iv (own_len x0), .unset] [(.int 2)])) rfl (hb hby d2_47) rfl (by decide) (cap := 2) (by decide) (by decide) (by decide) (by decide)
      obtain ⟨b25, g25⟩ : ∃ z, z = h0.size := ⟨_, rfl⟩
      rw [← g25] at A25 st25
      have ge_b25 : n0 ≤ b25 := Nat.le_trans Z0 (Nat.le_of_eq g25.symm)
      have sz_b25 : h0.size ≤ b25 := Nat.le_trans Kp0.1 (Nat.le_of_eq g25.symm)
      have Z25_ : n0 ≤ h25.size := Nat.le_trans Z0 E25.1
      have hk25_ := Nat.le_trans hk0 E25.1
      have CH25 := CHv.ext E25 CH0
      have CR25 := CR0.trans (CHr.ext E25 CH0)
      have O25_ := O0.ext E25
      have KK25 := Kp0.ext E25
      have V25 : Arv Z h25 b25 k25 .char (2 : Int32) [(.int 0), (.int 0)] (.int 0) := (Arv.new A25 (by decide)).pad (pad_rep [] (.int 0) 2)
      obtain ⟨_, _, ⟨T26, L26, k26, n26⟩, -, X26, ⟨Lc26, hQ26, l26, y26, z26⟩, st26⟩ := Jvm.LawKit.callS X25 hx (y := (⟨"com/example/bylaws_for_tables/bylawsfortables/FindingKeyEqualsPinLaw", "ch", "(JI)C"⟩ : MethodName)) hown (mvT hZ (hw _ (im 69 rfl))) (mvT hZ (hw _ (im 70 rfl))) (mvT hZ (hw _ (im 2 rfl))) (mvT hZ (hw _ (im 71 rfl))) (by decide) (backOf (W := 2) (rm11 l Z a0 hw [] x0 (0 : Int32) h25 n0 Z25_ ) hZ (hw _ (im 71 rfl)) (hw _ (im 2 rfl)) (by decide) (by decide)) (g := (mkF m 54 #[lv x0, .second, iv (own_len x0), rv b25] [(.int 0), (.long x0), (.int 0), (.ref b25)])) rfl (by rw [hml]; rfl) (argsL := [(.long x0), (.int 0)]) (rest := [(.int 0), (.ref b25)]) (lenOf pd_6 rfl) rfl (by show 2 * 0 + _ ≤ _; exact Nat.le_of_eq rfl) (hb hby d2_54) (fun _ _ => ⟨rfl, e25, (by decide : 1 + 0 ≤ _), (by decide : 2 + 0 ≤ _)⟩)
      dsimp only [Pt.U, Pt.locs, Pt.cells, Pt.slots] at X26 l26 y26 z26 st26 hQ26
      subst l26 y26 z26
      obtain ⟨rfl, N26q, e26⟩ := hQ26
      have N26 := Fr.app N1 N26q
      obtain ⟨cl27, Ar27, qa27, S27, Nn27, H27, G27⟩ := id V25
      have hin27 : ¬ ((0 : Int32) < 0 ∨ cl27.slots.size ≤ ((0 : Int32)).toNatClampNeg) := inb_of S27 ⟨by decide, by decide⟩
      obtain ⟨T28, h28, X28, e28, W28, st28⟩ := stC X26 hx hZ e26 Ar27 (j := (0 : Int32)) hin27 (g := (mkF m 57 #[lv x0, .second, iv (own_len x0), rv b25] [(.int (own_chr x0 (0 : Int32))), (.int 0), (.ref b25)])) rfl rfl (hb hby d2_57)
      have Z28_ : n0 ≤ h28.size := Nat.le_trans Z25_ (Nat.le_of_eq W28.size.symm)
      have hk28_ := Nat.le_trans hk25_ (Nat.le_of_eq W28.size.symm)
      have CH28 := CHv.wr W28 (own_safe_arv hZ.alike V25 (by decide)) CH25
      have CR28 := CR25.trans (CHr.wr W28 (own_safe_arv hZ.alike V25 (by decide)) CH25)
      have O28_ := O25_.wr W28 ge_b25
      have N28 := Fr.snoc X28 N26 ge_b25
      have KK28 := KK25.wr W28 (Or.inr sz_b25)
      have V28 : Arv Z h28 b25 k25 .char (2 : Int32) [(.int (nar .char (own_chr x0 (0 : Int32)))), (.int 0)] (.int 0) := Arv.set Ar27 qa27 S27 Nn27 H27 G27 (by first | exact fits_nar_char _ | decide | rfl) W28 0 rfl (Nat.le_of_ble_eq_true rfl)
      obtain ⟨_, _, ⟨T29, L29, k29, n29⟩, -, X29, ⟨Lc29, hQ29, l29, y29, z29⟩, st29⟩ := Jvm.LawKit.callS X28 hx (y := (⟨"com/example/bylaws_for_tables/bylawsfortables/FindingKeyEqualsPinLaw", "ch", "(JI)C"⟩ : MethodName)) hown (mvT hZ (hw _ (im 69 rfl))) (mvT hZ (hw _ (im 70 rfl))) (mvT hZ (hw _ (im 2 rfl))) (mvT hZ (hw _ (im 71 rfl))) (by decide) (backOf (W := 2) (rm11 l Z a0 hw [] x0 (1 : Int32) h28 n0 Z28_ ) hZ (hw _ (im 71 rfl)) (hw _ (im 2 rfl)) (by decide) (by decide)) (g := (mkF m 62 #[lv x0, .second, iv (own_len x0), rv b25] [(.int 1), (.long x0), (.int 1), (.ref b25)])) rfl (by rw [hml]; rfl) (argsL := [(.long x0), (.int 1)]) (rest := [(.int 1), (.ref b25)]) (lenOf pd_6 rfl) rfl (by show 2 * 0 + _ ≤ _; exact Nat.le_of_eq rfl) (hb hby d2_62) (fun _ _ => ⟨rfl, e28, (by decide : 1 + 0 ≤ _), (by decide : 2 + 0 ≤ _)⟩)
      dsimp only [Pt.U, Pt.locs, Pt.cells, Pt.slots] at X29 l29 y29 z29 st29 hQ29
      subst l29 y29 z29
      obtain ⟨rfl, N29q, e29⟩ := hQ29
      have N29 := Fr.app N28 N29q
      obtain ⟨cl30, Ar30, qa30, S30, Nn30, H30, G30⟩ := id V28
      have hin30 : ¬ ((1 : Int32) < 0 ∨ cl30.slots.size ≤ ((1 : Int32)).toNatClampNeg) := inb_of S30 ⟨by decide, by decide⟩
      obtain ⟨T31, h31, X31, e31, W31, st31⟩ := stC X29 hx hZ e29 Ar30 (j := (1 : Int32)) hin30 (g := (mkF m 65 #[lv x0, .second, iv (own_len x0), rv b25] [(.int (own_chr x0 (1 : Int32))), (.int 1), (.ref b25)])) rfl rfl (hb hby d2_65)
      have Z31_ : n0 ≤ h31.size := Nat.le_trans Z28_ (Nat.le_of_eq W31.size.symm)
      have hk31_ := Nat.le_trans hk28_ (Nat.le_of_eq W31.size.symm)
      have CH31 := CHv.wr W31 (own_safe_arv hZ.alike V28 (by decide)) CH28
      have CR31 := CR28.trans (CHr.wr W31 (own_safe_arv hZ.alike V28 (by decide)) CH28)
      have O31_ := O28_.wr W31 ge_b25
      have N31 := Fr.snoc X31 N29 ge_b25
      have KK31 := KK28.wr W31 (Or.inr sz_b25)
      have V31 : Arv Z h31 b25 k25 .char (2 : Int32) [(.int (nar .char (own_chr x0 (0 : Int32)))), (.int (nar .char (own_chr x0 (1 : Int32))))] (.int 0) := Arv.set Ar30 qa30 S30 Nn30 H30 G30 (by first | exact fits_nar_char _ | decide | rfl) W31 1 rfl (Nat.le_of_ble_eq_true rfl)
      obtain ⟨T32, h32, X32, e32, E32, A32, D32, -, st32⟩ := newO X31 hx hZ hown (hw _ (im 15 rfl)) (hw _ (im 16 rfl)) (hw _ (im 17 rfl)) e31 (g := (mkF m 66 #[lv x0, .second, iv (own_len x0), rv b25] [])) rfl (hb hby d2_66) (by decide) (by decide)
      obtain ⟨b32, g32⟩ : ∃ z, z = h31.size := ⟨_, rfl⟩
      rw [← g32] at A32 D32 st32
      have ge_b32 : n0 ≤ b32 := Nat.le_trans Z31_ (Nat.le_of_eq g32.symm)
      have sz_b32 : h0.size ≤ b32 := Nat.le_trans KK31.1 (Nat.le_of_eq g32.symm)
      have Z32_ : n0 ≤ h32.size := Nat.le_trans Z31_ E32.1
      have hk32_ := Nat.le_trans hk31_ E32.1
      have CH32 := CHv.ext E32 CH31
      have CR32 := CR31.trans (CHr.ext E32 CH31)
      have O32_ := O31_.ext E32
      have KK32 := KK31.ext E32
      have F32_value : Fld Z h32 b32 "java/lang/String" "value" "[B" .null := D32 (Or.inr (hw _ (im 31 rfl))) (ty := (.array .byte)) (by decide)
      have F32_coder : Fld Z h32 b32 "java/lang/String" "coder" "B" (.int 0) := D32 (Or.inr (hw _ (im 32 rfl))) (ty := .byte) (by decide)
      have q33 := (V31.ext E32)
      have q35 := (Nat.lt_of_lt_of_le (Nat.lt_of_lt_of_le V25.lt (Nat.le_of_eq W28.size.symm)) (Nat.le_of_eq W31.size.symm))
      have ne34 : b25 ≠ b32 := Nat.ne_of_lt (Nat.lt_of_lt_of_le q35 (Nat.le_of_eq g32.symm))
      have sf36 : Safe Z own_EL s.vm h32 b32 := own_safe_null hZ.alike A32 F32_value
      obtain ⟨_, _, ⟨T37, L37, k37, n37⟩, -, X37, ⟨Lc37, hQ37, l37, y37, z37⟩, st37⟩ := X32.specialBack hx (y := (⟨"java/lang/String", "<init>", "([C)V"⟩ : MethodName)) rfl hown (mvT hZ (hw _ (im 19 rfl))) (mvT hZ (hw _ (im 20 rfl))) (mvT hZ (hw _ (im 21 rfl))) (by decide) (backOf (W := 1) (rmi1s2 l Z a0 hw [] b32 b25 cs k25 (nar .char (own_chr x0 (0 : Int32))) (nar .char (own_chr x0 (1 : Int32))) h32 n0 Z32_ O32_ pre_S_COMPACT_STRINGS (hcs) A32 F32_value F32_coder ge_b32 q33 (Ne.symm ne34) (own_c255 _ _) (own_c255 _ _)) hZ (hw _ (im 21 rfl)) (hw _ (im 17 rfl)) (by decide) (by decide)) (g := (mkF m 71 #[lv x0, .second, iv (own_len x0), rv b25] [(.ref b25), (.ref b32), (.ref b32)])) rfl (by rw [hml]; rfl) (Steps.refl _) (a := b32) (argsL := [(.ref b25)]) (rest := [(.ref b32)]) (lenOf pd_5 rfl) rfl (by show 2 * 0 + _ ≤ _; exact Nat.le_of_eq rfl) (hb hby d2_71) (fun _ _ => ⟨rfl, e32, (by decide : 2 + 1 ≤ _), (by decide : 6 + 2 ≤ _)⟩)
      dsimp only [Pt.U, Pt.locs, Pt.cells, Pt.slots] at X37 l37 y37 z37 st37 hQ37
      subst l37 y37 z37
      obtain ⟨b_37, kb_37, rfl, N37q, K37, r37_0, r37_1, r37_2, r37_3, r37_4, r37_5⟩ := hQ37
      have N37 := Fr.app N31 N37q
      have Z37_ : n0 ≤ T37.heap.size := Nat.le_trans Z32_ K37.1
      have hk37_ := Nat.le_trans hk32_ K37.1
      have CH37 := CHv.keep K37 (allS sf36 all0) CH32
      have CR37 := CR32.trans (CHr.keep K37 (allS sf36 all0) CH32)
      have sf38 := Safe.keep K37 (allS sf36 all0) CH32 sf36
      have O37_ := O32_.keep K37 (allS ge_b32 all0)
      have KK37 := KK32.trans K37 (allS (Or.inr sz_b32) all0)
      have szz_b_37 : h0.size ≤ b_37 := Nat.le_trans KK32.1 r37_5
      have P39 := own_go P12 (S' := T37.setTop (mkF m 74 #[lv x0, .second, iv (own_len x0), rv b25] [(.ref b32)])) (by
        intro t k
        refine XS.icmpYes X1.here hx rfl (pc0 := 22) (pc' := 46) rfl (hb hby d2_22) rfl (feq hc22_11).2 (by decide) (by decide) ?_
        refine XS.iconst X1.here hx rfl (hb hby d2_46) ?_
        refine st25 _ ?_
        refine XS.astoreN X25.here hx rfl (hb hby d2_49) rfl rfl (l' := #[lv x0, .second, iv (own_len x0), rv b25]) rfl ?_
        refine XS.aloadN X25.here hx rfl (hb hby d2_50) rfl rfl ?_
        refine XS.iconst X25.here hx rfl (hb hby d2_51) ?_
        refine XS.lloadN X25.here hx rfl (hb hby d2_52) rfl ?_
        refine XS.iconst X25.here hx rfl (hb hby d2_53) ?_
        show Steps p.tables e below (T25.setTop (mkF m 54 #[lv x0, .second, iv (own_len x0), rv b25] [(.int 0), (.long x0), (.int 0), (.ref b25)])) _
        refine st26 _ ?_
        refine st28 _ ?_
        refine XS.aloadN X28.here hx rfl (hb hby d2_58) rfl rfl ?_
        refine XS.iconst X28.here hx rfl (hb hby d2_59) ?_
        refine XS.lloadN X28.here hx rfl (hb hby d2_60) rfl ?_
        refine XS.iconst X28.here hx rfl (hb hby d2_61) ?_
        refine st29 _ ?_
        refine st31 _ ?_
        show Steps p.tables e below (T31.setTop (mkF m 66 #[lv x0, .second, iv (own_len x0), rv b25] [])) _
        refine st32 _ ?_
        refine XS.dup X32.here hx rfl (hb hby d2_69) rfl rfl ?_
        refine XS.aloadN X32.here hx rfl (hb hby d2_70) rfl rfl ?_
        refine st37.trans ?_
        exact k)
      obtain ⟨fs, hr, hrun, hended, hend⟩ := X37.leaveW hS0 (hk37_) (v := some (.ref b32)) (fun h => by rw [Bd.returns] at h; cases h)
      refine ⟨_, _, P39 _ ?_, hrun, hended, _, _, rfl, ?_, ?_, hend.1, hend.2.1, hend.2.2.1, hend.2.2.2.mono (by decide) (by decide)⟩
      · show Steps p.tables e below (T37.setTop (mkF m 74 #[lv x0, .second, iv (own_len x0), rv b25] [(.ref b32)])) _
        exact retOut X37 hx (t := (.object "java/lang/String")) Bd.returns rfl (Or.inr (Or.inr (Or.inr (Or.inr ⟨rfl, rfl, rfl⟩)))) (hb hby d2_74) hr
      · show Q2 Z x0 cs h0 n0 _ T37.heap _
        exact ⟨b32, rfl, N37, KK37, ge_b32, sz_b32, (by rw [show own_str x0 = [(nar .byte ((nar .char (own_chr x0 (0 : Int32))).toInt8.toInt32)), (nar .byte ((nar .char (own_chr x0 (1 : Int32))).toInt8.toInt32))] from by simp [own_str, hc6_2, hc22_11]]; exact ⟨b_37, kb_37, r37_0, r37_2, r37_1, r37_3, Nat.le_of_ble_eq_true rfl, r37_0.lt, r37_3.lt⟩)⟩
      · have q := CR37.trans (CHv.at X37 hZ hEW CH37)
        rw [hh]
        show CHr Z own_EL s.vm h0 T37.vm T37.heap
        exact q
def Q8 (Z : State) (x0 : Addr) (x1 : Addr) (h0 : Heap) (n0 : Nat) (v : Option Value) (h : Heap) (L : List Loc) : Prop := v = some (.ref x0) ∧ Fr n0 L ∧ h = h0
theorem ef_8 (m : MethodId) (x0 : Addr) (x1 : Addr) : entryFrame m #[(.ref x0), (.ref x1)] 2 = mkF m 0 #[rv x0, rv x1] [] := by first | (simp [entryFrame, mkF, argsToLocals, Value.category]; done) | rfl
set_option maxRecDepth 65536 in
set_option maxHeartbeats 40000000 in
theorem rm8 (l : Launch) (Z : State) (a0 : Array Value) (hw : ∀ d ∈ tables_1, d.before a0 Z = true) (ws : List Jvm.Cond) (x0 : Addr) (x1 : Addr) (h0 : Heap) (n0 : Nat) (Z0 : n0 ≤ h0.size) :
    MetFree l (⟨"java/util/Objects", "requireNonNull", "(Ljava/lang/Object;Ljava/lang/String;)Ljava/lang/Object;"⟩ : MethodName) (head1 (Jvm.Cond.code (⟨"java/util/Objects", "requireNonNull", "(Ljava/lang/Object;Ljava/lang/String;)Ljava/lang/Object;"⟩ : MethodName) jdk_31_method_11_code 2 (some (.object "java/lang/Object")) :: ws) ({ frames := 0, cells := 0, slots := 0, locals := 0 } : Room)) (fun a U => a = #[(.ref x0), (.ref x1)] ∧ Z.Warmed39 U.vm ∧ U.heap = h0) (fun _ _ _ _ _ => True) (fun _ U o U' => ∃ v L, o = .returned v ∧ Q8 Z x0 x1 h0 n0 v U'.heap L ∧ FrameEnd U o U' L ({ frames := 0, cells := 0, slots := 0, locals := 0 } : Room).cells ({ frames := 0, cells := 0, slots := 0, locals := 0 } : Room).slots) := by
  refine MetFree.of_bodySF (plainFor_of_name pn_8) hisR ?_
  intro p e s m args below meth c s₁ Bd hml0 hP hK
  obtain ⟨rfl, hZ, hh⟩ := hP
  have hx := Bd.exec
  have hby := Bd.bytes
  have hml : c.maxLocals = 2 := hml0
  have hown : s.vm.findClass "java/util/Objects" = some m.cls := findClass_of_methodNamed Bd.named
  have hnm := (name_of_methodNamed Bd.named Bd.method).1
  have X0 : Stand p l e ({ frames := 0, cells := 0, slots := 0, locals := 0 } : Room) s m #[(.ref x0), (.ref x1)] below meth c s₁ [] 0 0 := Stand.of_body Bd
  have e0 : s₁.heap = h0 := by rw [← hh, Bd.state]; rfl
  have N0 := Fr.nil n0
  have Kp0 := Keep.refl h0 []
  have P0 : ∀ t, Steps p.tables e below (s₁.setTop (mkF m 0 #[rv x0, rv x1] [])) t → Steps p.tables e below (s₁.setTop (entryFrame m #[(.ref x0), (.ref x1)] 2)) t := fun t k => castTop (ef_8 m x0 x1) k
  have P1 := own_go P0 (S' := s₁.setTop (mkF m 14 #[rv x0, rv x1] [(.ref x0)])) (by
    intro t k
    refine XS.aloadN X0.here hx rfl (hb hby d8_0) rfl rfl ?_
    refine XS.ifnonnullYes X0.here hx rfl (pc0 := 1) (pc' := 13) rfl (hb hby d8_1) rfl (by decide) (by decide) ?_
    refine XS.aloadN X0.here hx rfl (hb hby d8_13) rfl rfl ?_
    exact k)
  obtain ⟨fs, hr, hrun, hended, hW, hsame⟩ := X0.leave (v := some (.ref x0)) (fun h => by rw [Bd.returns] at h; cases h)
  refine ⟨_, _, P1 _ ?_, hrun, hended, _, _, rfl, ?_, ⟨_, rfl⟩, hW, hsame.mono (by decide) (by decide)⟩
  · show Steps p.tables e below (s₁.setTop (mkF m 14 #[rv x0, rv x1] [(.ref x0)])) _
    exact retOut X0 hx (t := (.object "java/lang/Object")) Bd.returns rfl (Or.inr (Or.inr (Or.inr (Or.inr ⟨rfl, rfl, rfl⟩)))) (hb hby d8_14) hr
  · show Q8 Z x0 x1 h0 n0 _ s₁.heap _
    rw [e0]
    exact ⟨rfl, N0, rfl⟩
def Q7 (Z : State) (x0 : Addr) (x1 : Addr) (x2 : Addr) (x3 : Addr) (x4 : Int64) (h0 : Heap) (n0 : Nat) (v : Option Value) (h : Heap) (L : List Loc) : Prop := v = none ∧ Fr n0 L ∧ Keep h0 h [x0] ∧ Exa Z h x0 "com/example/bylaws_for_tables/bylawsfortables/FindingKey" ∧ Fld Z h x0 "com/example/bylaws_for_tables/bylawsfortables/FindingKey" "path" "Ljava/lang/String;" (.ref x1) ∧ Fld Z h x0 "com/example/bylaws_for_tables/bylawsfortables/FindingKey" "ruleId" "Ljava/lang/String;" (.ref x2) ∧ Fld Z h x0 "com/example/bylaws_for_tables/bylawsfortables/FindingKey" "message" "Ljava/lang/String;" (.ref x3) ∧ Fld Z h x0 "com/example/bylaws_for_tables/bylawsfortables/FindingKey" "digest" "J" (.long x4)
theorem ef_7 (m : MethodId) (x0 : Addr) (x1 : Addr) (x2 : Addr) (x3 : Addr) (x4 : Int64) : entryFrame m #[(.ref x0), (.ref x1), (.ref x2), (.ref x3), (.long x4)] 6 = mkF m 0 #[rv x0, rv x1, rv x2, rv x3, lv x4, .second] [] := by first | (simp [entryFrame, mkF, argsToLocals, Value.category]; done) | rfl
set_option maxRecDepth 65536 in
set_option maxHeartbeats 40000000 in
theorem rm7 (l : Launch) (Z : State) (a0 : Array Value) (hw : ∀ d ∈ tables_1, d.before a0 Z = true) (ws : List Jvm.Cond) (x0 : Addr) (x1 : Addr) (x2 : Addr) (x3 : Addr) (x4 : Int64) (h0 : Heap) (n0 : Nat) (Z0 : n0 ≤ h0.size) (pre_E_x0 : Exa Z h0 x0 "com/example/bylaws_for_tables/bylawsfortables/FindingKey") (pre_F_x0_path : Fld Z h0 x0 "com/example/bylaws_for_tables/bylawsfortables/FindingKey" "path" "Ljava/lang/String;" .null) (pre_F_x0_ruleId : Fld Z h0 x0 "com/example/bylaws_for_tables/bylawsfortables/FindingKey" "ruleId" "Ljava/lang/String;" .null) (pre_F_x0_message : Fld Z h0 x0 "com/example/bylaws_for_tables/bylawsfortables/FindingKey" "message" "Ljava/lang/String;" .null) (pre_F_x0_digest : Fld Z h0 x0 "com/example/bylaws_for_tables/bylawsfortables/FindingKey" "digest" "J" (.long 0)) (g_x0 : n0 ≤ x0) (pre_E_x1 : Exa Z h0 x1 "java/lang/String") (pre_E_x2 : Exa Z h0 x2 "java/lang/String") (pre_E_x3 : Exa Z h0 x3 "java/lang/String") :
    MetFree l (⟨"com/example/bylaws_for_tables/bylawsfortables/FindingKey", "<init>", "(Ljava/lang/String;Ljava/lang/String;Ljava/lang/String;J)V"⟩ : MethodName) (head1 (Jvm.Cond.code (⟨"com/example/bylaws_for_tables/bylawsfortables/FindingKey", "<init>", "(Ljava/lang/String;Ljava/lang/String;Ljava/lang/String;J)V"⟩ : MethodName) prog_8_method_1_code 6 none :: ws) ({ frames := 1, cells := 6, slots := 80, locals := 14 } : Room)) (fun a U => a = #[(.ref x0), (.ref x1), (.ref x2), (.ref x3), (.long x4)] ∧ Z.Warmed39 U.vm ∧ U.heap = h0 ∧ CHv Z own_EL U.vm h0) (fun _ _ _ _ _ => True) (fun _ U o U' => ∃ v L, o = .returned v ∧ Q7 Z x0 x1 x2 x3 x4 h0 n0 v U'.heap L ∧ CHr Z own_EL U.vm U.heap U'.vm U'.heap ∧ ReturnedEndW U o U' L ({ frames := 1, cells := 6, slots := 80, locals := 14 } : Room).cells ({ frames := 1, cells := 6, slots := 80, locals := 14 } : Room).slots) := by
  refine MetFree.of_bodySF (plainFor_of_name pn_7) hisR ?_
  intro p e s m args below meth c s₁ Bd hml0 hP hK
  obtain ⟨rfl, hZ, hh, CH0⟩ := hP
  have hx := Bd.exec
  have hby := Bd.bytes
  have hml : c.maxLocals = 6 := hml0
  have hown : s.vm.findClass "com/example/bylaws_for_tables/bylawsfortables/FindingKey" = some m.cls := findClass_of_methodNamed Bd.named
  have hnm := (name_of_methodNamed Bd.named Bd.method).1
  have X0 : Stand p l e ({ frames := 1, cells := 6, slots := 80, locals := 14 } : Room) (s.setVm s.vm) m #[(.ref x0), (.ref x1), (.ref x2), (.ref x3), (.long x4)] below meth c s₁ [] 0 0 := Stand.of_body Bd
  have e0 : s₁.heap = h0 := by rw [← hh, Bd.state]; rfl
  have N0 := Fr.nil n0
  have Kp0 := Keep.refl h0 [x0]
  have hS0 : s.Since s.vm 0 := (State.WarmedH.refl s).since 0
  have hk0 : 0 ≤ h0.size := Nat.zero_le _
  replace hZ : Z.Warmed39 (s.setVm s.vm).vm := hZ
  replace hown : (s.setVm s.vm).vm.findClass "com/example/bylaws_for_tables/bylawsfortables/FindingKey" = some m.cls := hown
  have CR0 := CHr.refl CH0
  have hEW := own_EW hw
  have P0 : ∀ t, Steps p.tables e below (s₁.setTop (mkF m 0 #[rv x0, rv x1, rv x2, rv x3, lv x4, .second] [])) t → Steps p.tables e below (s₁.setTop (entryFrame m #[(.ref x0), (.ref x1), (.ref x2), (.ref x3), (.long x4)] 6)) t := fun t k => castTop (ef_7 m x0 x1 x2 x3 x4) k
  obtain ⟨T1, X1, e1, st1⟩ := initO X0 hx hZ hown (hw _ (im 40 rfl)) (hw _ (im 27 rfl)) (hw _ (im 28 rfl)) e0 (g := (mkF m 1 #[rv x0, rv x1, rv x2, rv x3, lv x4, .second] [(.ref x0)])) rfl (by rw [hml]; rfl) rfl (hb hby d7_1) (by decide) (W := 0) (by show 2 * 0 + _ ≤ _; exact Nat.le_of_eq rfl) (by decide)
  obtain ⟨b2, T2, h2, k2, X2, e2, E2, hS2, hk2, hZ2, hown2, cr2, -, st2⟩ := ldcOH X1 hx hZ hown (hw _ (im 41 rfl)) (own_atoms hw) e1 hS0 hk0 hEW CH0 (g := (mkF m 6 #[rv x0, rv x1, rv x2, rv x3, lv x4, .second] [(.ref x1), (.ref x0)])) rfl (hb hby d7_6) (n := 16) (by decide) (by decide) (by decide) (by decide)
  have Z2_ : n0 ≤ h2.size := Nat.le_trans Z0 E2.1
  have hk2_ := Nat.le_trans hk0 E2.1
  have CH2 := cr2.1
  have CR2 := CR0.trans cr2
  have KK2 := Kp0.ext E2
  obtain ⟨_, _, ⟨T3, L3, k3, n3⟩, -, X3, ⟨Lc3, hQ3, l3, y3, z3⟩, st3⟩ := Jvm.LawKit.callS X2 hx (y := (⟨"java/util/Objects", "requireNonNull", "(Ljava/lang/Object;Ljava/lang/String;)Ljava/lang/Object;"⟩ : MethodName)) hown2 (mvT hZ2 (hw _ (im 42 rfl))) (mvT hZ2 (hw _ (im 43 rfl))) (mvT hZ2 (hw _ (im 44 rfl))) (mvT hZ2 (hw _ (im 45 rfl))) (by decide) (backOf (W := 1) (rm8 l Z a0 hw [] x1 b2 h2 n0 Z2_ ) hZ2 (hw _ (im 45 rfl)) (hw _ (im 44 rfl)) (by decide) (by decide)) (g := (mkF m 8 #[rv x0, rv x1, rv x2, rv x3, lv x4, .second] [(.ref b2), (.ref x1), (.ref x0)])) rfl (by rw [hml]; rfl) (argsL := [(.ref x1), (.ref b2)]) (rest := [(.ref x0)]) (lenOf pd_7 rfl) rfl (by show 2 * 0 + _ ≤ _; exact Nat.le_of_eq rfl) (hb hby d7_8) (fun _ _ => ⟨rfl, e2, (by decide : 2 + 0 ≤ _), (by decide : 20 + 0 ≤ _)⟩)
  dsimp only [Pt.U, Pt.locs, Pt.cells, Pt.slots] at X3 l3 y3 z3 st3 hQ3
  subst l3 y3 z3
  obtain ⟨rfl, N3q, e3⟩ := hQ3
  have N3 := Fr.app N0 N3q
  have q4 := (pre_E_x1.ext E2)
  obtain ⟨T5, X5, e5, st5⟩ := castY X3 hx hZ2 hown2 (hw _ (im 46 rfl)) e3 (Ins.self q4) (g := (mkF m 11 #[rv x0, rv x1, rv x2, rv x3, lv x4, .second] [(.ref x1), (.ref x0)])) rfl rfl (hb hby d7_11)
  have q6 := (pre_F_x0_path.ext E2)
  have q7 := (pre_E_x0.ext E2)
  obtain ⟨T8, h8, X8, e8, W8, st8⟩ := putF X5 hx hZ2 hown2 (host := "") (Or.inl (hw _ (im 47 rfl))) Via.refl e5 q6 q7 (Or.inr ⟨(hw _ (im 48 rfl)), rfl, hnm⟩) (hw _ (im 6 rfl)) (ty := (.object "java/lang/String")) (by decide) rfl rfl (g := (mkF m 14 #[rv x0, rv x1, rv x2, rv x3, lv x4, .second] [(.ref x1), (.ref x0)])) rfl rfl (hb hby d7_14)
  have Fw8 := q6.same W8
  have Z8_ : n0 ≤ h8.size := Nat.le_trans Z2_ (Nat.le_of_eq W8.size.symm)
  have hk8_ := Nat.le_trans hk2 (Nat.le_of_eq W8.size.symm)
  have CH8 := CHv.wr W8 (Safe.exa hZ2.alike q7 (by decide) (by decide)) CH2
  have CR8 := CR2.trans (CHr.wr W8 (Safe.exa hZ2.alike q7 (by decide) (by decide)) CH2)
  have N8 := Fr.snoc X8 N3 g_x0
  have KK8 := KK2.wr W8 (Or.inl (List.mem_of_getElem? (i := 0) rfl))
  obtain ⟨b9, T9, h9, k9, X9, e9, E9, hS9, hk9, hZ9, hown9, cr9, -, st9⟩ := ldcOH X8 hx hZ2 hown2 (hw _ (im 49 rfl)) (own_atoms hw) e8 hS2 hk8_ hEW CH8 (g := (mkF m 19 #[rv x0, rv x1, rv x2, rv x3, lv x4, .second] [(.ref x2), (.ref x0)])) rfl (hb hby d7_19) (n := 24) (by decide) (by decide) (by decide) (by decide)
  have Z9_ : n0 ≤ h9.size := Nat.le_trans Z8_ E9.1
  have hk9_ := Nat.le_trans hk8_ E9.1
  have CH9 := cr9.1
  have CR9 := CR8.trans cr9
  have KK9 := KK8.ext E9
  obtain ⟨_, _, ⟨T10, L10, k10, n10⟩, -, X10, ⟨Lc10, hQ10, l10, y10, z10⟩, st10⟩ := Jvm.LawKit.callS X9 hx (y := (⟨"java/util/Objects", "requireNonNull", "(Ljava/lang/Object;Ljava/lang/String;)Ljava/lang/Object;"⟩ : MethodName)) hown9 (mvT hZ9 (hw _ (im 42 rfl))) (mvT hZ9 (hw _ (im 43 rfl))) (mvT hZ9 (hw _ (im 44 rfl))) (mvT hZ9 (hw _ (im 45 rfl))) (by decide) (backOf (W := 1) (rm8 l Z a0 hw [] x2 b9 h9 n0 Z9_ ) hZ9 (hw _ (im 45 rfl)) (hw _ (im 44 rfl)) (by decide) (by decide)) (g := (mkF m 21 #[rv x0, rv x1, rv x2, rv x3, lv x4, .second] [(.ref b9), (.ref x2), (.ref x0)])) rfl (by rw [hml]; rfl) (argsL := [(.ref x2), (.ref b9)]) (rest := [(.ref x0)]) (lenOf pd_7 rfl) rfl (by show 2 * 0 + _ ≤ _; exact Nat.le_of_eq rfl) (hb hby d7_21) (fun _ _ => ⟨rfl, e9, (by decide : 4 + 0 ≤ _), (by decide : 48 + 0 ≤ _)⟩)
  dsimp only [Pt.U, Pt.locs, Pt.cells, Pt.slots] at X10 l10 y10 z10 st10 hQ10
  subst l10 y10 z10
  obtain ⟨rfl, N10q, e10⟩ := hQ10
  have N10 := Fr.app N8 N10q
  have q11 := (((pre_E_x2.ext E2).wr W8).ext E9)
  obtain ⟨T12, X12, e12, st12⟩ := castY X10 hx hZ9 hown9 (hw _ (im 46 rfl)) e10 (Ins.self q11) (g := (mkF m 24 #[rv x0, rv x1, rv x2, rv x3, lv x4, .second] [(.ref x2), (.ref x0)])) rfl rfl (hb hby d7_24)
  have q13 := (((pre_F_x0_ruleId.ext E2).other W8 (Or.inr (own_sn (la_2 hw) (la_3 hw)))).ext E9)
  have q14 := ((q7.wr W8).ext E9)
  obtain ⟨T15, h15, X15, e15, W15, st15⟩ := putF X12 hx hZ9 hown9 (host := "") (Or.inl (hw _ (im 50 rfl))) Via.refl e12 q13 q14 (Or.inr ⟨(hw _ (im 51 rfl)), rfl, hnm⟩) (hw _ (im 6 rfl)) (ty := (.object "java/lang/String")) (by decide) rfl rfl (g := (mkF m 27 #[rv x0, rv x1, rv x2, rv x3, lv x4, .second] [(.ref x2), (.ref x0)])) rfl rfl (hb hby d7_27)
  have Fw15 := q13.same W15
  have Z15_ : n0 ≤ h15.size := Nat.le_trans Z9_ (Nat.le_of_eq W15.size.symm)
  have hk15_ := Nat.le_trans hk9 (Nat.le_of_eq W15.size.symm)
  have CH15 := CHv.wr W15 (Safe.exa hZ9.alike q14 (by decide) (by decide)) CH9
  have CR15 := CR9.trans (CHr.wr W15 (Safe.exa hZ9.alike q14 (by decide) (by decide)) CH9)
  have N15 := Fr.snoc X15 N10 g_x0
  have KK15 := KK9.wr W15 (Or.inl (List.mem_of_getElem? (i := 0) rfl))
  obtain ⟨b16, T16, h16, k16, X16, e16, E16, hS16, hk16, hZ16, hown16, cr16, -, st16⟩ := ldcOH X15 hx hZ9 hown9 (hw _ (im 52 rfl)) (own_atoms hw) e15 hS9 hk15_ hEW CH15 (g := (mkF m 32 #[rv x0, rv x1, rv x2, rv x3, lv x4, .second] [(.ref x3), (.ref x0)])) rfl (hb hby d7_32) (n := 28) (by decide) (by decide) (by decide) (by decide)
  have Z16_ : n0 ≤ h16.size := Nat.le_trans Z15_ E16.1
  have hk16_ := Nat.le_trans hk15_ E16.1
  have CH16 := cr16.1
  have CR16 := CR15.trans cr16
  have KK16 := KK15.ext E16
  obtain ⟨_, _, ⟨T17, L17, k17, n17⟩, -, X17, ⟨Lc17, hQ17, l17, y17, z17⟩, st17⟩ := Jvm.LawKit.callS X16 hx (y := (⟨"java/util/Objects", "requireNonNull", "(Ljava/lang/Object;Ljava/lang/String;)Ljava/lang/Object;"⟩ : MethodName)) hown16 (mvT hZ16 (hw _ (im 42 rfl))) (mvT hZ16 (hw _ (im 43 rfl))) (mvT hZ16 (hw _ (im 44 rfl))) (mvT hZ16 (hw _ (im 45 rfl))) (by decide) (backOf (W := 1) (rm8 l Z a0 hw [] x3 b16 h16 n0 Z16_ ) hZ16 (hw _ (im 45 rfl)) (hw _ (im 44 rfl)) (by decide) (by decide)) (g := (mkF m 34 #[rv x0, rv x1, rv x2, rv x3, lv x4, .second] [(.ref b16), (.ref x3), (.ref x0)])) rfl (by rw [hml]; rfl) (argsL := [(.ref x3), (.ref b16)]) (rest := [(.ref x0)]) (lenOf pd_7 rfl) rfl (by show 2 * 0 + _ ≤ _; exact Nat.le_of_eq rfl) (hb hby d7_34) (fun _ _ => ⟨rfl, e16, (by decide : 6 + 0 ≤ _), (by decide : 80 + 0 ≤ _)⟩)
  dsimp only [Pt.U, Pt.locs, Pt.cells, Pt.slots] at X17 l17 y17 z17 st17 hQ17
  subst l17 y17 z17
  obtain ⟨rfl, N17q, e17⟩ := hQ17
  have N17 := Fr.app N15 N17q
  have q18 := (((((pre_E_x3.ext E2).wr W8).ext E9).wr W15).ext E16)
  obtain ⟨T19, X19, e19, st19⟩ := castY X17 hx hZ16 hown16 (hw _ (im 46 rfl)) e17 (Ins.self q18) (g := (mkF m 37 #[rv x0, rv x1, rv x2, rv x3, lv x4, .second] [(.ref x3), (.ref x0)])) rfl rfl (hb hby d7_37)
  have q20 := (((((pre_F_x0_message.ext E2).other W8 (Or.inr (own_sn (la_4 hw) (la_3 hw)))).ext E9).other W15 (Or.inr (own_sn (la_4 hw) (la_2 hw)))).ext E16)
  have q21 := ((q14.wr W15).ext E16)
  obtain ⟨T22, h22, X22, e22, W22, st22⟩ := putF X19 hx hZ16 hown16 (host := "") (Or.inl (hw _ (im 53 rfl))) Via.refl e19 q20 q21 (Or.inr ⟨(hw _ (im 54 rfl)), rfl, hnm⟩) (hw _ (im 6 rfl)) (ty := (.object "java/lang/String")) (by decide) rfl rfl (g := (mkF m 40 #[rv x0, rv x1, rv x2, rv x3, lv x4, .second] [(.ref x3), (.ref x0)])) rfl rfl (hb hby d7_40)
  have Fw22 := q20.same W22
  have Z22_ : n0 ≤ h22.size := Nat.le_trans Z16_ (Nat.le_of_eq W22.size.symm)
  have hk22_ := Nat.le_trans hk16 (Nat.le_of_eq W22.size.symm)
  have CH22 := CHv.wr W22 (Safe.exa hZ16.alike q21 (by decide) (by decide)) CH16
  have CR22 := CR16.trans (CHr.wr W22 (Safe.exa hZ16.alike q21 (by decide) (by decide)) CH16)
  have N22 := Fr.snoc X22 N17 g_x0
  have KK22 := KK16.wr W22 (Or.inl (List.mem_of_getElem? (i := 0) rfl))
  have q23 := ((((((pre_F_x0_digest.ext E2).other W8 (Or.inr (own_sn (la_5 hw) (la_3 hw)))).ext E9).other W15 (Or.inr (own_sn (la_5 hw) (la_2 hw)))).ext E16).other W22 (Or.inr (own_sn (la_5 hw) (la_4 hw))))
  have q24 := (q21.wr W22)
  obtain ⟨T25, h25, X25, e25, W25, st25⟩ := putF X22 hx hZ16 hown16 (host := "") (Or.inl (hw _ (im 55 rfl))) Via.refl e22 q23 q24 (Or.inr ⟨(hw _ (im 56 rfl)), rfl, hnm⟩) (hw _ (im 6 rfl)) (ty := .long) (by decide) rfl rfl (g := (mkF m 46 #[rv x0, rv x1, rv x2, rv x3, lv x4, .second] [(.long x4), (.ref x0)])) rfl rfl (hb hby d7_46)
  have Fw25 := q23.same W25
  have Z25_ : n0 ≤ h25.size := Nat.le_trans Z22_ (Nat.le_of_eq W25.size.symm)
  have hk25_ := Nat.le_trans hk22_ (Nat.le_of_eq W25.size.symm)
  have CH25 := CHv.wr W25 (Safe.exa hZ16.alike q24 (by decide) (by decide)) CH22
  have CR25 := CR22.trans (CHr.wr W25 (Safe.exa hZ16.alike q24 (by decide) (by decide)) CH22)
  have N25 := Fr.snoc X25 N22 g_x0
  have KK25 := KK22.wr W25 (Or.inl (List.mem_of_getElem? (i := 0) rfl))
  have P26 := own_go P0 (S' := T25.setTop (mkF m 49 #[rv x0, rv x1, rv x2, rv x3, lv x4, .second] [])) (by
    intro t k
    refine XS.aloadN X0.here hx rfl (hb hby d7_0) rfl rfl ?_
    refine st1 _ ?_
    refine XS.aloadN X1.here hx rfl (hb hby d7_4) rfl rfl ?_
    refine XS.aloadN X1.here hx rfl (hb hby d7_5) rfl rfl ?_
    refine st2 _ ?_
    refine st3 _ ?_
    refine st5 _ ?_
    refine st8 _ ?_
    show Steps p.tables e below (T8.setTop (mkF m 17 #[rv x0, rv x1, rv x2, rv x3, lv x4, .second] [])) _
    refine XS.aloadN X8.here hx rfl (hb hby d7_17) rfl rfl ?_
    refine XS.aloadN X8.here hx rfl (hb hby d7_18) rfl rfl ?_
    refine st9 _ ?_
    refine st10 _ ?_
    refine st12 _ ?_
    refine st15 _ ?_
    refine XS.aloadN X15.here hx rfl (hb hby d7_30) rfl rfl ?_
    refine XS.aloadN X15.here hx rfl (hb hby d7_31) rfl rfl ?_
    show Steps p.tables e below (T15.setTop (mkF m 32 #[rv x0, rv x1, rv x2, rv x3, lv x4, .second] [(.ref x3), (.ref x0)])) _
    refine st16 _ ?_
    refine st17 _ ?_
    refine st19 _ ?_
    refine st22 _ ?_
    refine XS.aloadN X22.here hx rfl (hb hby d7_43) rfl rfl ?_
    refine XS.lload X22.here hx rfl (hb hby d7_44) rfl ?_
    refine st25 _ ?_
    exact k)
  have q27 := (q24.wr W25)
  have q28 := (((((Fw8.ext E9).other W15 (Or.inr (own_sn (la_3 hw) (la_2 hw)))).ext E16).other W22 (Or.inr (own_sn (la_3 hw) (la_4 hw)))).other W25 (Or.inr (own_sn (la_3 hw) (la_5 hw))))
  have q29 := (((Fw15.ext E16).other W22 (Or.inr (own_sn (la_2 hw) (la_4 hw)))).other W25 (Or.inr (own_sn (la_2 hw) (la_5 hw))))
  have q30 := (Fw22.other W25 (Or.inr (own_sn (la_4 hw) (la_5 hw))))
  obtain ⟨fs, hr, hrun, hended, hend⟩ := X25.leaveW hS16 (by rw [e25]; exact hk25_) (v := none) (fun _ => rfl)
  refine ⟨_, _, P26 _ ?_, hrun, hended, _, _, rfl, ?_, ?_, hend.1, hend.2.1, hend.2.2.1, hend.2.2.2.mono (by decide) (by decide)⟩
  · show Steps p.tables e below (T25.setTop (mkF m 49 #[rv x0, rv x1, rv x2, rv x3, lv x4, .second] [])) _
    exact X25.returnOut hx Bd.returns (hb hby d7_49) hr
  · show Q7 Z x0 x1 x2 x3 x4 h0 n0 _ T25.heap _
    rw [e25]
    exact ⟨rfl, N25, KK25, q27, q28, q29, q30, Fw25⟩
  · have q := CR25.trans (CHv.at X25 hZ16 hEW CH25)
    rw [hh]
    show CHr Z own_EL s.vm h0 T25.vm T25.heap
    rw [e25]
    exact q
def Qleq00 (Z : State) (x0 : Addr) (x1 : Addr) (ka : ClassId) (kb : ClassId) (h0 : Heap) (n0 : Nat) (v : Option Value) (h : Heap) (L : List Loc) : Prop := v = some (.int 1) ∧ Fr n0 L ∧ h = h0
theorem ef_leq00 (m : MethodId) (x0 : Addr) (x1 : Addr) : entryFrame m #[(.ref x0), (.ref x1)] 3 = mkF m 0 #[rv x0, rv x1, .unset] [] := by first | (simp [entryFrame, mkF, argsToLocals, Value.category]; done) | rfl
set_option maxRecDepth 65536 in
set_option maxHeartbeats 40000000 in
theorem rmleq00 (l : Launch) (Z : State) (a0 : Array Value) (hw : ∀ d ∈ tables_1, d.before a0 Z = true) (ws : List Jvm.Cond) (x0 : Addr) (x1 : Addr) (ka : ClassId) (kb : ClassId) (h0 : Heap) (n0 : Nat) (Z0 : n0 ≤ h0.size) (pre_A_x0 : Arv Z h0 x0 ka .byte (0 : Int32) [] (.int 0)) (pre_A_x1 : Arv Z h0 x1 kb .byte (0 : Int32) [] (.int 0)) :
    MetFree l (⟨"java/lang/StringLatin1", "equals", "([B[B)Z"⟩ : MethodName) (head1 (Jvm.Cond.code (⟨"java/lang/StringLatin1", "equals", "([B[B)Z"⟩ : MethodName) jdk_43_method_13_code 3 (some .boolean) :: ws) ({ frames := 0, cells := 0, slots := 0, locals := 0 } : Room)) (fun a U => a = #[(.ref x0), (.ref x1)] ∧ Z.Warmed39 U.vm ∧ U.heap = h0) (fun _ _ _ _ _ => True) (fun _ U o U' => ∃ v L, o = .returned v ∧ Qleq00 Z x0 x1 ka kb h0 n0 v U'.heap L ∧ FrameEnd U o U' L ({ frames := 0, cells := 0, slots := 0, locals := 0 } : Room).cells ({ frames := 0, cells := 0, slots := 0, locals := 0 } : Room).slots) := by
  refine MetFree.of_bodySF (plainFor_of_name pn_16) hisR ?_
  intro p e s m args below meth c s₁ Bd hml0 hP hK
  obtain ⟨rfl, hZ, hh⟩ := hP
  have hx := Bd.exec
  have hby := Bd.bytes
  have hml : c.maxLocals = 3 := hml0
  have hown : s.vm.findClass "java/lang/StringLatin1" = some m.cls := findClass_of_methodNamed Bd.named
  have hnm := (name_of_methodNamed Bd.named Bd.method).1
  have X0 : Stand p l e ({ frames := 0, cells := 0, slots := 0, locals := 0 } : Room) s m #[(.ref x0), (.ref x1)] below meth c s₁ [] 0 0 := Stand.of_body Bd
  have e0 : s₁.heap = h0 := by rw [← hh, Bd.state]; rfl
  have N0 := Fr.nil n0
  have Kp0 := Keep.refl h0 []
  have P0 : ∀ t, Steps p.tables e below (s₁.setTop (mkF m 0 #[rv x0, rv x1, .unset] [])) t → Steps p.tables e below (s₁.setTop (entryFrame m #[(.ref x0), (.ref x1)] 3)) t := fun t k => castTop (ef_leq00 m x0 x1) k
  obtain ⟨cl1, Ar1, qa1, S1, Nn1, H1, G1⟩ := id pre_A_x0
  obtain ⟨cl2, Ar2, qa2, S2, Nn2, H2, G2⟩ := id pre_A_x1
  obtain ⟨cl4, Ar4, qa4, S4, Nn4, H4, G4⟩ := id pre_A_x0
  have P6 := own_go P0 (S' := s₁.setTop (mkF m 33 #[rv x0, rv x1, iv 0] [(.int 1)])) (by
    intro t k
    refine XS.aloadN X0.here hx rfl (hb hby d16_0) rfl rfl ?_
    refine X0.arraylength hx (by rw [e0]; exact Ar1.1) (State.isArrayOf_alike hZ.alike Ar1.2.1) (g := (mkF m 1 #[rv x0, rv x1, .unset] [(.ref x0)])) rfl rfl (hb hby d16_1) _ ?_
    rw [len_of S1 Nn1]
    refine XS.aloadN X0.here hx rfl (hb hby d16_2) rfl rfl ?_
    refine X0.arraylength hx (by rw [e0]; exact Ar2.1) (State.isArrayOf_alike hZ.alike Ar2.2.1) (g := (mkF m 3 #[rv x0, rv x1, .unset] [(.ref x1), (.int 0)])) rfl rfl (hb hby d16_3) _ ?_
    rw [len_of S2 Nn2]
    refine XS.icmpNo X0.here hx rfl (hb hby d16_4) rfl (teq (by decide)).2 ?_
    refine XS.iconst X0.here hx rfl (hb hby d16_7) ?_
    refine XS.istoreN X0.here hx rfl (hb hby d16_8) rfl (l' := #[rv x0, rv x1, iv 0]) rfl ?_
    refine XS.iloadN X0.here hx rfl (hb hby d16_9) rfl ?_
    show Steps p.tables e below (s₁.setTop (mkF m 10 #[rv x0, rv x1, iv 0] [(.int 0)])) _
    refine XS.aloadN X0.here hx rfl (hb hby d16_10) rfl rfl ?_
    refine X0.arraylength hx (by rw [e0]; exact Ar4.1) (State.isArrayOf_alike hZ.alike Ar4.2.1) (g := (mkF m 11 #[rv x0, rv x1, iv 0] [(.ref x0), (.int 0)])) rfl rfl (hb hby d16_11) _ ?_
    rw [len_of S4 Nn4]
    refine XS.icmpYes X0.here hx rfl (pc0 := 12) (pc' := 32) rfl (hb hby d16_12) rfl (flt (by decide)).2.1 (by decide) (by decide) ?_
    refine XS.iconst X0.here hx rfl (hb hby d16_32) ?_
    exact k)
  obtain ⟨fs, hr, hrun, hended, hW, hsame⟩ := X0.leave (v := some (.int 1)) (fun h => by rw [Bd.returns] at h; cases h)
  refine ⟨_, _, P6 _ ?_, hrun, hended, _, _, rfl, ?_, ⟨_, rfl⟩, hW, hsame.mono (by decide) (by decide)⟩
  · show Steps p.tables e below (s₁.setTop (mkF m 33 #[rv x0, rv x1, iv 0] [(.int 1)])) _
    exact retN X0 hx (t := .boolean) Bd.returns (by simp) (hb hby d16_33) hr
  · show Qleq00 Z x0 x1 ka kb h0 n0 _ s₁.heap _
    rw [e0]
    exact ⟨rfl, N0, rfl⟩
def Qleq01 (Z : State) (x0 : Addr) (x1 : Addr) (ka : ClassId) (kb : ClassId) (z0 : Int32) (h0 : Heap) (n0 : Nat) (v : Option Value) (h : Heap) (L : List Loc) : Prop := v = some (.int 0) ∧ Fr n0 L ∧ h = h0
theorem ef_leq01 (m : MethodId) (x0 : Addr) (x1 : Addr) : entryFrame m #[(.ref x0), (.ref x1)] 3 = mkF m 0 #[rv x0, rv x1, .unset] [] := by first | (simp [entryFrame, mkF, argsToLocals, Value.category]; done) | rfl
set_option maxRecDepth 65536 in
set_option maxHeartbeats 40000000 in
theorem rmleq01 (l : Launch) (Z : State) (a0 : Array Value) (hw : ∀ d ∈ tables_1, d.before a0 Z = true) (ws : List Jvm.Cond) (x0 : Addr) (x1 : Addr) (ka : ClassId) (kb : ClassId) (z0 : Int32) (h0 : Heap) (n0 : Nat) (Z0 : n0 ≤ h0.size) (pre_A_x0 : Arv Z h0 x0 ka .byte (0 : Int32) [] (.int 0)) (pre_A_x1 : Arv Z h0 x1 kb .byte (1 : Int32) [(.int z0)] (.int 0)) :
    MetFree l (⟨"java/lang/StringLatin1", "equals", "([B[B)Z"⟩ : MethodName) (head1 (Jvm.Cond.code (⟨"java/lang/StringLatin1", "equals", "([B[B)Z"⟩ : MethodName) jdk_43_method_13_code 3 (some .boolean) :: ws) ({ frames := 0, cells := 0, slots := 0, locals := 0 } : Room)) (fun a U => a = #[(.ref x0), (.ref x1)] ∧ Z.Warmed39 U.vm ∧ U.heap = h0) (fun _ _ _ _ _ => True) (fun _ U o U' => ∃ v L, o = .returned v ∧ Qleq01 Z x0 x1 ka kb z0 h0 n0 v U'.heap L ∧ FrameEnd U o U' L ({ frames := 0, cells := 0, slots := 0, locals := 0 } : Room).cells ({ frames := 0, cells := 0, slots := 0, locals := 0 } : Room).slots) := by
  refine MetFree.of_bodySF (plainFor_of_name pn_16) hisR ?_
  intro p e s m args below meth c s₁ Bd hml0 hP hK
  obtain ⟨rfl, hZ, hh⟩ := hP
  have hx := Bd.exec
  have hby := Bd.bytes
  have hml : c.maxLocals = 3 := hml0
  have hown : s.vm.findClass "java/lang/StringLatin1" = some m.cls := findClass_of_methodNamed Bd.named
  have hnm := (name_of_methodNamed Bd.named Bd.method).1
  have X0 : Stand p l e ({ frames := 0, cells := 0, slots := 0, locals := 0 } : Room) s m #[(.ref x0), (.ref x1)] below meth c s₁ [] 0 0 := Stand.of_body Bd
  have e0 : s₁.heap = h0 := by rw [← hh, Bd.state]; rfl
  have N0 := Fr.nil n0
  have Kp0 := Keep.refl h0 []
  have P0 : ∀ t, Steps p.tables e below (s₁.setTop (mkF m 0 #[rv x0, rv x1, .unset] [])) t → Steps p.tables e below (s₁.setTop (entryFrame m #[(.ref x0), (.ref x1)] 3)) t := fun t k => castTop (ef_leq01 m x0 x1) k
  obtain ⟨cl1, Ar1, qa1, S1, Nn1, H1, G1⟩ := id pre_A_x0
  obtain ⟨cl2, Ar2, qa2, S2, Nn2, H2, G2⟩ := id pre_A_x1
  have P4 := own_go P0 (S' := s₁.setTop (mkF m 35 #[rv x0, rv x1, .unset] [(.int 0)])) (by
    intro t k
    refine XS.aloadN X0.here hx rfl (hb hby d16_0) rfl rfl ?_
    refine X0.arraylength hx (by rw [e0]; exact Ar1.1) (State.isArrayOf_alike hZ.alike Ar1.2.1) (g := (mkF m 1 #[rv x0, rv x1, .unset] [(.ref x0)])) rfl rfl (hb hby d16_1) _ ?_
    rw [len_of S1 Nn1]
    refine XS.aloadN X0.here hx rfl (hb hby d16_2) rfl rfl ?_
    refine X0.arraylength hx (by rw [e0]; exact Ar2.1) (State.isArrayOf_alike hZ.alike Ar2.2.1) (g := (mkF m 3 #[rv x0, rv x1, .unset] [(.ref x1), (.int 0)])) rfl rfl (hb hby d16_3) _ ?_
    rw [len_of S2 Nn2]
    refine XS.icmpYes X0.here hx rfl (pc0 := 4) (pc' := 34) rfl (hb hby d16_4) rfl (feq (by decide)).2 (by decide) (by decide) ?_
    refine XS.iconst X0.here hx rfl (hb hby d16_34) ?_
    exact k)
  obtain ⟨fs, hr, hrun, hended, hW, hsame⟩ := X0.leave (v := some (.int 0)) (fun h => by rw [Bd.returns] at h; cases h)
  refine ⟨_, _, P4 _ ?_, hrun, hended, _, _, rfl, ?_, ⟨_, rfl⟩, hW, hsame.mono (by decide) (by decide)⟩
  · show Steps p.tables e below (s₁.setTop (mkF m 35 #[rv x0, rv x1, .unset] [(.int 0)])) _
    exact retN X0 hx (t := .boolean) Bd.returns (by simp) (hb hby d16_35) hr
  · show Qleq01 Z x0 x1 ka kb z0 h0 n0 _ s₁.heap _
    rw [e0]
    exact ⟨rfl, N0, rfl⟩
def Qleq02 (Z : State) (x0 : Addr) (x1 : Addr) (ka : ClassId) (kb : ClassId) (z0 : Int32) (z1 : Int32) (h0 : Heap) (n0 : Nat) (v : Option Value) (h : Heap) (L : List Loc) : Prop := v = some (.int 0) ∧ Fr n0 L ∧ h = h0
theorem ef_leq02 (m : MethodId) (x0 : Addr) (x1 : Addr) : entryFrame m #[(.ref x0), (.ref x1)] 3 = mkF m 0 #[rv x0, rv x1, .unset] [] := by first | (simp [entryFrame, mkF, argsToLocals, Value.category]; done) | rfl
set_option maxRecDepth 65536 in
set_option maxHeartbeats 40000000 in
theorem rmleq02 (l : Launch) (Z : State) (a0 : Array Value) (hw : ∀ d ∈ tables_1, d.before a0 Z = true) (ws : List Jvm.Cond) (x0 : Addr) (x1 : Addr) (ka : ClassId) (kb : ClassId) (z0 : Int32) (z1 : Int32) (h0 : Heap) (n0 : Nat) (Z0 : n0 ≤ h0.size) (pre_A_x0 : Arv Z h0 x0 ka .byte (0 : Int32) [] (.int 0)) (pre_A_x1 : Arv Z h0 x1 kb .byte (2 : Int32) [(.int z0), (.int z1)] (.int 0)) :
    MetFree l (⟨"java/lang/StringLatin1", "equals", "([B[B)Z"⟩ : MethodName) (head1 (Jvm.Cond.code (⟨"java/lang/StringLatin1", "equals", "([B[B)Z"⟩ : MethodName) jdk_43_method_13_code 3 (some .boolean) :: ws) ({ frames := 0, cells := 0, slots := 0, locals := 0 } : Room)) (fun a U => a = #[(.ref x0), (.ref x1)] ∧ Z.Warmed39 U.vm ∧ U.heap = h0) (fun _ _ _ _ _ => True) (fun _ U o U' => ∃ v L, o = .returned v ∧ Qleq02 Z x0 x1 ka kb z0 z1 h0 n0 v U'.heap L ∧ FrameEnd U o U' L ({ frames := 0, cells := 0, slots := 0, locals := 0 } : Room).cells ({ frames := 0, cells := 0, slots := 0, locals := 0 } : Room).slots) := by
  refine MetFree.of_bodySF (plainFor_of_name pn_16) hisR ?_
  intro p e s m args below meth c s₁ Bd hml0 hP hK
  obtain ⟨rfl, hZ, hh⟩ := hP
  have hx := Bd.exec
  have hby := Bd.bytes
  have hml : c.maxLocals = 3 := hml0
  have hown : s.vm.findClass "java/lang/StringLatin1" = some m.cls := findClass_of_methodNamed Bd.named
  have hnm := (name_of_methodNamed Bd.named Bd.method).1
  have X0 : Stand p l e ({ frames := 0, cells := 0, slots := 0, locals := 0 } : Room) s m #[(.ref x0), (.ref x1)] below meth c s₁ [] 0 0 := Stand.of_body Bd
  have e0 : s₁.heap = h0 := by rw [← hh, Bd.state]; rfl
  have N0 := Fr.nil n0
  have Kp0 := Keep.refl h0 []
  have P0 : ∀ t, Steps p.tables e below (s₁.setTop (mkF m 0 #[rv x0, rv x1, .unset] [])) t → Steps p.tables e below (s₁.setTop (entryFrame m #[(.ref x0), (.ref x1)] 3)) t := fun t k => castTop (ef_leq02 m x0 x1) k
  obtain ⟨cl1, Ar1, qa1, S1, Nn1, H1, G1⟩ := id pre_A_x0
  obtain ⟨cl2, Ar2, qa2, S2, Nn2, H2, G2⟩ := id pre_A_x1
  have P4 := own_go P0 (S' := s₁.setTop (mkF m 35 #[rv x0, rv x1, .unset] [(.int 0)])) (by
    intro t k
    refine XS.aloadN X0.here hx rfl (hb hby d16_0) rfl rfl ?_
    refine X0.arraylength hx (by rw [e0]; exact Ar1.1) (State.isArrayOf_alike hZ.alike Ar1.2.1) (g := (mkF m 1 #[rv x0, rv x1, .unset] [(.ref x0)])) rfl rfl (hb hby d16_1) _ ?_
    rw [len_of S1 Nn1]
    refine XS.aloadN X0.here hx rfl (hb hby d16_2) rfl rfl ?_
    refine X0.arraylength hx (by rw [e0]; exact Ar2.1) (State.isArrayOf_alike hZ.alike Ar2.2.1) (g := (mkF m 3 #[rv x0, rv x1, .unset] [(.ref x1), (.int 0)])) rfl rfl (hb hby d16_3) _ ?_
    rw [len_of S2 Nn2]
    refine XS.icmpYes X0.here hx rfl (pc0 := 4) (pc' := 34) rfl (hb hby d16_4) rfl (feq (by decide)).2 (by decide) (by decide) ?_
    refine XS.iconst X0.here hx rfl (hb hby d16_34) ?_
    exact k)
  obtain ⟨fs, hr, hrun, hended, hW, hsame⟩ := X0.leave (v := some (.int 0)) (fun h => by rw [Bd.returns] at h; cases h)
  refine ⟨_, _, P4 _ ?_, hrun, hended, _, _, rfl, ?_, ⟨_, rfl⟩, hW, hsame.mono (by decide) (by decide)⟩
  · show Steps p.tables e below (s₁.setTop (mkF m 35 #[rv x0, rv x1, .unset] [(.int 0)])) _
    exact retN X0 hx (t := .boolean) Bd.returns (by simp) (hb hby d16_35) hr
  · show Qleq02 Z x0 x1 ka kb z0 z1 h0 n0 _ s₁.heap _
    rw [e0]
    exact ⟨rfl, N0, rfl⟩
def Qleq10 (Z : State) (x0 : Addr) (x1 : Addr) (ka : ClassId) (kb : ClassId) (y0 : Int32) (h0 : Heap) (n0 : Nat) (v : Option Value) (h : Heap) (L : List Loc) : Prop := v = some (.int 0) ∧ Fr n0 L ∧ h = h0
theorem ef_leq10 (m : MethodId) (x0 : Addr) (x1 : Addr) : entryFrame m #[(.ref x0), (.ref x1)] 3 = mkF m 0 #[rv x0, rv x1, .unset] [] := by first | (simp [entryFrame, mkF, argsToLocals, Value.category]; done) | rfl
set_option maxRecDepth 65536 in
set_option maxHeartbeats 40000000 in
theorem rmleq10 (l : Launch) (Z : State) (a0 : Array Value) (hw : ∀ d ∈ tables_1, d.before a0 Z = true) (ws : List Jvm.Cond) (x0 : Addr) (x1 : Addr) (ka : ClassId) (kb : ClassId) (y0 : Int32) (h0 : Heap) (n0 : Nat) (Z0 : n0 ≤ h0.size) (pre_A_x0 : Arv Z h0 x0 ka .byte (1 : Int32) [(.int y0)] (.int 0)) (pre_A_x1 : Arv Z h0 x1 kb .byte (0 : Int32) [] (.int 0)) :
    MetFree l (⟨"java/lang/StringLatin1", "equals", "([B[B)Z"⟩ : MethodName) (head1 (Jvm.Cond.code (⟨"java/lang/StringLatin1", "equals", "([B[B)Z"⟩ : MethodName) jdk_43_method_13_code 3 (some .boolean) :: ws) ({ frames := 0, cells := 0, slots := 0, locals := 0 } : Room)) (fun a U => a = #[(.ref x0), (.ref x1)] ∧ Z.Warmed39 U.vm ∧ U.heap = h0) (fun _ _ _ _ _ => True) (fun _ U o U' => ∃ v L, o = .returned v ∧ Qleq10 Z x0 x1 ka kb y0 h0 n0 v U'.heap L ∧ FrameEnd U o U' L ({ frames := 0, cells := 0, slots := 0, locals := 0 } : Room).cells ({ frames := 0, cells := 0, slots := 0, locals := 0 } : Room).slots) := by
  refine MetFree.of_bodySF (plainFor_of_name pn_16) hisR ?_
  intro p e s m args below meth c s₁ Bd hml0 hP hK
  obtain ⟨rfl, hZ, hh⟩ := hP
  have hx := Bd.exec
  have hby := Bd.bytes
  have hml : c.maxLocals = 3 := hml0
  have hown : s.vm.findClass "java/lang/StringLatin1" = some m.cls := findClass_of_methodNamed Bd.named
  have hnm := (name_of_methodNamed Bd.named Bd.method).1
  have X0 : Stand p l e ({ frames := 0, cells := 0, slots := 0, locals := 0 } : Room) s m #[(.ref x0), (.ref x1)] below meth c s₁ [] 0 0 := Stand.of_body Bd
  have e0 : s₁.heap = h0 := by rw [← hh, Bd.state]; rfl
  have N0 := Fr.nil n0
  have Kp0 := Keep.refl h0 []
  have P0 : ∀ t, Steps p.tables e below (s₁.setTop (mkF m 0 #[rv x0, rv x1, .unset] [])) t → Steps p.tables e below (s₁.setTop (entryFrame m #[(.ref x0), (.ref x1)] 3)) t := fun t k => castTop (ef_leq10 m x0 x1) k
  obtain ⟨cl1, Ar1, qa1, S1, Nn1, H1, G1⟩ := id pre_A_x0
  obtain ⟨cl2, Ar2, qa2, S2, Nn2, H2, G2⟩ := id pre_A_x1
  have P4 := own_go P0 (S' := s₁.setTop (mkF m 35 #[rv x0, rv x1, .unset] [(.int 0)])) (by
    intro t k
    refine XS.aloadN X0.here hx rfl (hb hby d16_0) rfl rfl ?_
    refine X0.arraylength hx (by rw [e0]; exact Ar1.1) (State.isArrayOf_alike hZ.alike Ar1.2.1) (g := (mkF m 1 #[rv x0, rv x1, .unset] [(.ref x0)])) rfl rfl (hb hby d16_1) _ ?_
    rw [len_of S1 Nn1]
    refine XS.aloadN X0.here hx rfl (hb hby d16_2) rfl rfl ?_
    refine X0.arraylength hx (by rw [e0]; exact Ar2.1) (State.isArrayOf_alike hZ.alike Ar2.2.1) (g := (mkF m 3 #[rv x0, rv x1, .unset] [(.ref x1), (.int 1)])) rfl rfl (hb hby d16_3) _ ?_
    rw [len_of S2 Nn2]
    refine XS.icmpYes X0.here hx rfl (pc0 := 4) (pc' := 34) rfl (hb hby d16_4) rfl (feq (by decide)).2 (by decide) (by decide) ?_
    refine XS.iconst X0.here hx rfl (hb hby d16_34) ?_
    exact k)
  obtain ⟨fs, hr, hrun, hended, hW, hsame⟩ := X0.leave (v := some (.int 0)) (fun h => by rw [Bd.returns] at h; cases h)
  refine ⟨_, _, P4 _ ?_, hrun, hended, _, _, rfl, ?_, ⟨_, rfl⟩, hW, hsame.mono (by decide) (by decide)⟩
  · show Steps p.tables e below (s₁.setTop (mkF m 35 #[rv x0, rv x1, .unset] [(.int 0)])) _
    exact retN X0 hx (t := .boolean) Bd.returns (by simp) (hb hby d16_35) hr
  · show Qleq10 Z x0 x1 ka kb y0 h0 n0 _ s₁.heap _
    rw [e0]
    exact ⟨rfl, N0, rfl⟩
def Qleq11 (Z : State) (x0 : Addr) (x1 : Addr) (ka : ClassId) (kb : ClassId) (y0 : Int32) (z0 : Int32) (h0 : Heap) (n0 : Nat) (v : Option Value) (h : Heap) (L : List Loc) : Prop := v = some (.int (if y0 = z0 then (1 : Int32) else (0 : Int32))) ∧ Fr n0 L ∧ h = h0
theorem ef_leq11 (m : MethodId) (x0 : Addr) (x1 : Addr) : entryFrame m #[(.ref x0), (.ref x1)] 3 = mkF m 0 #[rv x0, rv x1, .unset] [] := by first | (simp [entryFrame, mkF, argsToLocals, Value.category]; done) | rfl
set_option maxRecDepth 65536 in
set_option maxHeartbeats 40000000 in
theorem rmleq11 (l : Launch) (Z : State) (a0 : Array Value) (hw : ∀ d ∈ tables_1, d.before a0 Z = true) (ws : List Jvm.Cond) (x0 : Addr) (x1 : Addr) (ka : ClassId) (kb : ClassId) (y0 : Int32) (z0 : Int32) (h0 : Heap) (n0 : Nat) (Z0 : n0 ≤ h0.size) (pre_A_x0 : Arv Z h0 x0 ka .byte (1 : Int32) [(.int y0)] (.int 0)) (pre_A_x1 : Arv Z h0 x1 kb .byte (1 : Int32) [(.int z0)] (.int 0)) :
    MetFree l (⟨"java/lang/StringLatin1", "equals", "([B[B)Z"⟩ : MethodName) (head1 (Jvm.Cond.code (⟨"java/lang/StringLatin1", "equals", "([B[B)Z"⟩ : MethodName) jdk_43_method_13_code 3 (some .boolean) :: ws) ({ frames := 0, cells := 0, slots := 0, locals := 0 } : Room)) (fun a U => a = #[(.ref x0), (.ref x1)] ∧ Z.Warmed39 U.vm ∧ U.heap = h0) (fun _ _ _ _ _ => True) (fun _ U o U' => ∃ v L, o = .returned v ∧ Qleq11 Z x0 x1 ka kb y0 z0 h0 n0 v U'.heap L ∧ FrameEnd U o U' L ({ frames := 0, cells := 0, slots := 0, locals := 0 } : Room).cells ({ frames := 0, cells := 0, slots := 0, locals := 0 } : Room).slots) := by
  refine MetFree.of_bodySF (plainFor_of_name pn_16) hisR ?_
  intro p e s m args below meth c s₁ Bd hml0 hP hK
  obtain ⟨rfl, hZ, hh⟩ := hP
  have hx := Bd.exec
  have hby := Bd.bytes
  have hml : c.maxLocals = 3 := hml0
  have hown : s.vm.findClass "java/lang/StringLatin1" = some m.cls := findClass_of_methodNamed Bd.named
  have hnm := (name_of_methodNamed Bd.named Bd.method).1
  have X0 : Stand p l e ({ frames := 0, cells := 0, slots := 0, locals := 0 } : Room) s m #[(.ref x0), (.ref x1)] below meth c s₁ [] 0 0 := Stand.of_body Bd
  have e0 : s₁.heap = h0 := by rw [← hh, Bd.state]; rfl
  have N0 := Fr.nil n0
  have Kp0 := Keep.refl h0 []
  have P0 : ∀ t, Steps p.tables e below (s₁.setTop (mkF m 0 #[rv x0, rv x1, .unset] [])) t → Steps p.tables e below (s₁.setTop (entryFrame m #[(.ref x0), (.ref x1)] 3)) t := fun t k => castTop (ef_leq11 m x0 x1) k
  obtain ⟨cl1, Ar1, qa1, S1, Nn1, H1, G1⟩ := id pre_A_x0
  obtain ⟨cl2, Ar2, qa2, S2, Nn2, H2, G2⟩ := id pre_A_x1
  obtain ⟨cl4, Ar4, qa4, S4, Nn4, H4, G4⟩ := id pre_A_x0
  obtain ⟨cl6, Ar6, qa6, S6, Nn6, H6, G6⟩ := id pre_A_x0
  have hin6 : ¬ ((0 : Int32) < 0 ∨ cl6.slots.size ≤ ((0 : Int32)).toNatClampNeg) := inb_of S6 ⟨by decide, by decide⟩
  have hat6 : cl6.slots[((0 : Int32)).toNatClampNeg]? = some (.int y0) := Has.at H6 hin6 rfl
  obtain ⟨cl7, Ar7, qa7, S7, Nn7, H7, G7⟩ := id pre_A_x1
  have hin7 : ¬ ((0 : Int32) < 0 ∨ cl7.slots.size ≤ ((0 : Int32)).toNatClampNeg) := inb_of S7 ⟨by decide, by decide⟩
  have hat7 : cl7.slots[((0 : Int32)).toNatClampNeg]? = some (.int z0) := Has.at H7 hin7 rfl
  have P9 := own_go P0 (S' := s₁.setTop (mkF m 21 #[rv x0, rv x1, iv 0] [(.int z0), (.int y0)])) (by
    intro t k
    refine XS.aloadN X0.here hx rfl (hb hby d16_0) rfl rfl ?_
    refine X0.arraylength hx (by rw [e0]; exact Ar1.1) (State.isArrayOf_alike hZ.alike Ar1.2.1) (g := (mkF m 1 #[rv x0, rv x1, .unset] [(.ref x0)])) rfl rfl (hb hby d16_1) _ ?_
    rw [len_of S1 Nn1]
    refine XS.aloadN X0.here hx rfl (hb hby d16_2) rfl rfl ?_
    refine X0.arraylength hx (by rw [e0]; exact Ar2.1) (State.isArrayOf_alike hZ.alike Ar2.2.1) (g := (mkF m 3 #[rv x0, rv x1, .unset] [(.ref x1), (.int 1)])) rfl rfl (hb hby d16_3) _ ?_
    rw [len_of S2 Nn2]
    refine XS.icmpNo X0.here hx rfl (hb hby d16_4) rfl (teq (by decide)).2 ?_
    refine XS.iconst X0.here hx rfl (hb hby d16_7) ?_
    refine XS.istoreN X0.here hx rfl (hb hby d16_8) rfl (l' := #[rv x0, rv x1, iv 0]) rfl ?_
    refine XS.iloadN X0.here hx rfl (hb hby d16_9) rfl ?_
    show Steps p.tables e below (s₁.setTop (mkF m 10 #[rv x0, rv x1, iv 0] [(.int 0)])) _
    refine XS.aloadN X0.here hx rfl (hb hby d16_10) rfl rfl ?_
    refine X0.arraylength hx (by rw [e0]; exact Ar4.1) (State.isArrayOf_alike hZ.alike Ar4.2.1) (g := (mkF m 11 #[rv x0, rv x1, iv 0] [(.ref x0), (.int 0)])) rfl rfl (hb hby d16_11) _ ?_
    rw [len_of S4 Nn4]
    refine XS.icmpNo X0.here hx rfl (hb hby d16_12) rfl (tlt (by decide)).2.1 ?_
    refine XS.aloadN X0.here hx rfl (hb hby d16_15) rfl rfl ?_
    refine XS.iloadN X0.here hx rfl (hb hby d16_16) rfl ?_
    refine X0.baloadBytes hx (j := (0 : Int32)) (v := (.int y0)) (by rw [e0]; exact Ar6.1) (State.isArrayOf_alike hZ.alike Ar6.2.1) Ar6.2.2 hin6 hat6 (g := (mkF m 17 #[rv x0, rv x1, iv 0] [(.int 0), (.ref x0)])) rfl rfl (hb hby d16_17) _ ?_
    refine XS.aloadN X0.here hx rfl (hb hby d16_18) rfl rfl ?_
    refine XS.iloadN X0.here hx rfl (hb hby d16_19) rfl ?_
    show Steps p.tables e below (s₁.setTop (mkF m 20 #[rv x0, rv x1, iv 0] [(.int 0), (.ref x1), (.int y0)])) _
    refine X0.baloadBytes hx (j := (0 : Int32)) (v := (.int z0)) (by rw [e0]; exact Ar7.1) (State.isArrayOf_alike hZ.alike Ar7.2.1) Ar7.2.2 hin7 hat7 (g := (mkF m 20 #[rv x0, rv x1, iv 0] [(.int 0), (.ref x1), (.int y0)])) rfl rfl (hb hby d16_20) _ ?_
    exact k)
  by_cases hc21_8 : y0 = z0
  · obtain ⟨cl10, Ar10, qa10, S10, Nn10, H10, G10⟩ := id pre_A_x0
    have P12 := own_go P9 (S' := s₁.setTop (mkF m 33 #[rv x0, rv x1, iv 1] [(.int 1)])) (by
      intro t k
      refine XS.icmpYes X0.here hx rfl (pc0 := 21) (pc' := 26) rfl (hb hby d16_21) rfl (teq hc21_8).1 (by decide) (by decide) ?_
      refine XS.iinc X0.here hx rfl (hb hby d16_26) rfl (l' := #[rv x0, rv x1, iv 1]) rfl ?_
      refine XS.goto X0.here hx rfl (pc0 := 29) (pc' := 9) rfl (hb hby d16_29) (by decide) (by decide) ?_
      refine XS.iloadN X0.here hx rfl (hb hby d16_9) rfl ?_
      refine XS.aloadN X0.here hx rfl (hb hby d16_10) rfl rfl ?_
      refine X0.arraylength hx (by rw [e0]; exact Ar10.1) (State.isArrayOf_alike hZ.alike Ar10.2.1) (g := (mkF m 11 #[rv x0, rv x1, iv 1] [(.ref x0), (.int 1)])) rfl rfl (hb hby d16_11) _ ?_
      rw [len_of S10 Nn10]
      refine XS.icmpYes X0.here hx rfl (pc0 := 12) (pc' := 32) rfl (hb hby d16_12) rfl (flt (by decide)).2.1 (by decide) (by decide) ?_
      refine XS.iconst X0.here hx rfl (hb hby d16_32) ?_
      show Steps p.tables e below (s₁.setTop (mkF m 33 #[rv x0, rv x1, iv 1] [(.int 1)])) _
      exact k)
    obtain ⟨fs, hr, hrun, hended, hW, hsame⟩ := X0.leave (v := some (.int 1)) (fun h => by rw [Bd.returns] at h; cases h)
    refine ⟨_, _, P12 _ ?_, hrun, hended, _, _, rfl, ?_, ⟨_, rfl⟩, hW, hsame.mono (by decide) (by decide)⟩
    · show Steps p.tables e below (s₁.setTop (mkF m 33 #[rv x0, rv x1, iv 1] [(.int 1)])) _
      exact retN X0 hx (t := .boolean) Bd.returns (by simp) (hb hby d16_33) hr
    · show Qleq11 Z x0 x1 ka kb y0 z0 h0 n0 _ s₁.heap _
      rw [e0]
      exact ⟨(by first | rfl | rw [if_pos hc21_8] | rw [if_neg hc21_8] | rw [if_neg (not_not_intro hc21_8)] | simp [hc21_8]), N0, rfl⟩
  · have P13 := own_go P9 (S' := s₁.setTop (mkF m 25 #[rv x0, rv x1, iv 0] [(.int 0)])) (by
      intro t k
      refine XS.icmpNo X0.here hx rfl (hb hby d16_21) rfl (feq hc21_8).1 ?_
      refine XS.iconst X0.here hx rfl (hb hby d16_24) ?_
      exact k)
    obtain ⟨fs, hr, hrun, hended, hW, hsame⟩ := X0.leave (v := some (.int 0)) (fun h => by rw [Bd.returns] at h; cases h)
    refine ⟨_, _, P13 _ ?_, hrun, hended, _, _, rfl, ?_, ⟨_, rfl⟩, hW, hsame.mono (by decide) (by decide)⟩
    · show Steps p.tables e below (s₁.setTop (mkF m 25 #[rv x0, rv x1, iv 0] [(.int 0)])) _
      exact retN X0 hx (t := .boolean) Bd.returns (by simp) (hb hby d16_25) hr
    · show Qleq11 Z x0 x1 ka kb y0 z0 h0 n0 _ s₁.heap _
      rw [e0]
      exact ⟨(by first | rfl | rw [if_pos hc21_8] | rw [if_neg hc21_8] | rw [if_neg (not_not_intro hc21_8)] | simp [hc21_8]), N0, rfl⟩
def Qleq12 (Z : State) (x0 : Addr) (x1 : Addr) (ka : ClassId) (kb : ClassId) (y0 : Int32) (z0 : Int32) (z1 : Int32) (h0 : Heap) (n0 : Nat) (v : Option Value) (h : Heap) (L : List Loc) : Prop := v = some (.int 0) ∧ Fr n0 L ∧ h = h0
theorem ef_leq12 (m : MethodId) (x0 : Addr) (x1 : Addr) : entryFrame m #[(.ref x0), (.ref x1)] 3 = mkF m 0 #[rv x0, rv x1, .unset] [] := by first | (simp [entryFrame, mkF, argsToLocals, Value.category]; done) | rfl
set_option maxRecDepth 65536 in
set_option maxHeartbeats 40000000 in
theorem rmleq12 (l : Launch) (Z : State) (a0 : Array Value) (hw : ∀ d ∈ tables_1, d.before a0 Z = true) (ws : List Jvm.Cond) (x0 : Addr) (x1 : Addr) (ka : ClassId) (kb : ClassId) (y0 : Int32) (z0 : Int32) (z1 : Int32) (h0 : Heap) (n0 : Nat) (Z0 : n0 ≤ h0.size) (pre_A_x0 : Arv Z h0 x0 ka .byte (1 : Int32) [(.int y0)] (.int 0)) (pre_A_x1 : Arv Z h0 x1 kb .byte (2 : Int32) [(.int z0), (.int z1)] (.int 0)) :
    MetFree l (⟨"java/lang/StringLatin1", "equals", "([B[B)Z"⟩ : MethodName) (head1 (Jvm.Cond.code (⟨"java/lang/StringLatin1", "equals", "([B[B)Z"⟩ : MethodName) jdk_43_method_13_code 3 (some .boolean) :: ws) ({ frames := 0, cells := 0, slots := 0, locals := 0 } : Room)) (fun a U => a = #[(.ref x0), (.ref x1)] ∧ Z.Warmed39 U.vm ∧ U.heap = h0) (fun _ _ _ _ _ => True) (fun _ U o U' => ∃ v L, o = .returned v ∧ Qleq12 Z x0 x1 ka kb y0 z0 z1 h0 n0 v U'.heap L ∧ FrameEnd U o U' L ({ frames := 0, cells := 0, slots := 0, locals := 0 } : Room).cells ({ frames := 0, cells := 0, slots := 0, locals := 0 } : Room).slots) := by
  refine MetFree.of_bodySF (plainFor_of_name pn_16) hisR ?_
  intro p e s m args below meth c s₁ Bd hml0 hP hK
  obtain ⟨rfl, hZ, hh⟩ := hP
  have hx := Bd.exec
  have hby := Bd.bytes
  have hml : c.maxLocals = 3 := hml0
  have hown : s.vm.findClass "java/lang/StringLatin1" = some m.cls := findClass_of_methodNamed Bd.named
  have hnm := (name_of_methodNamed Bd.named Bd.method).1
  have X0 : Stand p l e ({ frames := 0, cells := 0, slots := 0, locals := 0 } : Room) s m #[(.ref x0), (.ref x1)] below meth c s₁ [] 0 0 := Stand.of_body Bd
  have e0 : s₁.heap = h0 := by rw [← hh, Bd.state]; rfl
  have N0 := Fr.nil n0
  have Kp0 := Keep.refl h0 []
  have P0 : ∀ t, Steps p.tables e below (s₁.setTop (mkF m 0 #[rv x0, rv x1, .unset] [])) t → Steps p.tables e below (s₁.setTop (entryFrame m #[(.ref x0), (.ref x1)] 3)) t := fun t k => castTop (ef_leq12 m x0 x1) k
  obtain ⟨cl1, Ar1, qa1, S1, Nn1, H1, G1⟩ := id pre_A_x0
  obtain ⟨cl2, Ar2, qa2, S2, Nn2, H2, G2⟩ := id pre_A_x1
  have P4 := own_go P0 (S' := s₁.setTop (mkF m 35 #[rv x0, rv x1, .unset] [(.int 0)])) (by
    intro t k
    refine XS.aloadN X0.here hx rfl (hb hby d16_0) rfl rfl ?_
    refine X0.arraylength hx (by rw [e0]; exact Ar1.1) (State.isArrayOf_alike hZ.alike Ar1.2.1) (g := (mkF m 1 #[rv x0, rv x1, .unset] [(.ref x0)])) rfl rfl (hb hby d16_1) _ ?_
    rw [len_of S1 Nn1]
    refine XS.aloadN X0.here hx rfl (hb hby d16_2) rfl rfl ?_
    refine X0.arraylength hx (by rw [e0]; exact Ar2.1) (State.isArrayOf_alike hZ.alike Ar2.2.1) (g := (mkF m 3 #[rv x0, rv x1, .unset] [(.ref x1), (.int 1)])) rfl rfl (hb hby d16_3) _ ?_
    rw [len_of S2 Nn2]
    refine XS.icmpYes X0.here hx rfl (pc0 := 4) (pc' := 34) rfl (hb hby d16_4) rfl (feq (by decide)).2 (by decide) (by decide) ?_
    refine XS.iconst X0.here hx rfl (hb hby d16_34) ?_
    exact k)
  obtain ⟨fs, hr, hrun, hended, hW, hsame⟩ := X0.leave (v := some (.int 0)) (fun h => by rw [Bd.returns] at h; cases h)
  refine ⟨_, _, P4 _ ?_, hrun, hended, _, _, rfl, ?_, ⟨_, rfl⟩, hW, hsame.mono (by decide) (by decide)⟩
  · show Steps p.tables e below (s₁.setTop (mkF m 35 #[rv x0, rv x1, .unset] [(.int 0)])) _
    exact retN X0 hx (t := .boolean) Bd.returns (by simp) (hb hby d16_35) hr
  · show Qleq12 Z x0 x1 ka kb y0 z0 z1 h0 n0 _ s₁.heap _
    rw [e0]
    exact ⟨rfl, N0, rfl⟩
def Qleq20 (Z : State) (x0 : Addr) (x1 : Addr) (ka : ClassId) (kb : ClassId) (y0 : Int32) (y1 : Int32) (h0 : Heap) (n0 : Nat) (v : Option Value) (h : Heap) (L : List Loc) : Prop := v = some (.int 0) ∧ Fr n0 L ∧ h = h0
theorem ef_leq20 (m : MethodId) (x0 : Addr) (x1 : Addr) : entryFrame m #[(.ref x0), (.ref x1)] 3 = mkF m 0 #[rv x0, rv x1, .unset] [] := by first | (simp [entryFrame, mkF, argsToLocals, Value.category]; done) | rfl
set_option maxRecDepth 65536 in
set_option maxHeartbeats 40000000 in
theorem rmleq20 (l : Launch) (Z : State) (a0 : Array Value) (hw : ∀ d ∈ tables_1, d.before a0 Z = true) (ws : List Jvm.Cond) (x0 : Addr) (x1 : Addr) (ka : ClassId) (kb : ClassId) (y0 : Int32) (y1 : Int32) (h0 : Heap) (n0 : Nat) (Z0 : n0 ≤ h0.size) (pre_A_x0 : Arv Z h0 x0 ka .byte (2 : Int32) [(.int y0), (.int y1)] (.int 0)) (pre_A_x1 : Arv Z h0 x1 kb .byte (0 : Int32) [] (.int 0)) :
    MetFree l (⟨"java/lang/StringLatin1", "equals", "([B[B)Z"⟩ : MethodName) (head1 (Jvm.Cond.code (⟨"java/lang/StringLatin1", "equals", "([B[B)Z"⟩ : MethodName) jdk_43_method_13_code 3 (some .boolean) :: ws) ({ frames := 0, cells := 0, slots := 0, locals := 0 } : Room)) (fun a U => a = #[(.ref x0), (.ref x1)] ∧ Z.Warmed39 U.vm ∧ U.heap = h0) (fun _ _ _ _ _ => True) (fun _ U o U' => ∃ v L, o = .returned v ∧ Qleq20 Z x0 x1 ka kb y0 y1 h0 n0 v U'.heap L ∧ FrameEnd U o U' L ({ frames := 0, cells := 0, slots := 0, locals := 0 } : Room).cells ({ frames := 0, cells := 0, slots := 0, locals := 0 } : Room).slots) := by
  refine MetFree.of_bodySF (plainFor_of_name pn_16) hisR ?_
  intro p e s m args below meth c s₁ Bd hml0 hP hK
  obtain ⟨rfl, hZ, hh⟩ := hP
  have hx := Bd.exec
  have hby := Bd.bytes
  have hml : c.maxLocals = 3 := hml0
  have hown : s.vm.findClass "java/lang/StringLatin1" = some m.cls := findClass_of_methodNamed Bd.named
  have hnm := (name_of_methodNamed Bd.named Bd.method).1
  have X0 : Stand p l e ({ frames := 0, cells := 0, slots := 0, locals := 0 } : Room) s m #[(.ref x0), (.ref x1)] below meth c s₁ [] 0 0 := Stand.of_body Bd
  have e0 : s₁.heap = h0 := by rw [← hh, Bd.state]; rfl
  have N0 := Fr.nil n0
  have Kp0 := Keep.refl h0 []
  have P0 : ∀ t, Steps p.tables e below (s₁.setTop (mkF m 0 #[rv x0, rv x1, .unset] [])) t → Steps p.tables e below (s₁.setTop (entryFrame m #[(.ref x0), (.ref x1)] 3)) t := fun t k => castTop (ef_leq20 m x0 x1) k
  obtain ⟨cl1, Ar1, qa1, S1, Nn1, H1, G1⟩ := id pre_A_x0
  obtain ⟨cl2, Ar2, qa2, S2, Nn2, H2, G2⟩ := id pre_A_x1
  have P4 := own_go P0 (S' := s₁.setTop (mkF m 35 #[rv x0, rv x1, .unset] [(.int 0)])) (by
    intro t k
    refine XS.aloadN X0.here hx rfl (hb hby d16_0) rfl rfl ?_
    refine X0.arraylength hx (by rw [e0]; exact Ar1.1) (State.isArrayOf_alike hZ.alike Ar1.2.1) (g := (mkF m 1 #[rv x0, rv x1, .unset] [(.ref x0)])) rfl rfl (hb hby d16_1) _ ?_
    rw [len_of S1 Nn1]
    refine XS.aloadN X0.here hx rfl (hb hby d16_2) rfl rfl ?_
    refine X0.arraylength hx (by rw [e0]; exact Ar2.1) (State.isArrayOf_alike hZ.alike Ar2.2.1) (g := (mkF m 3 #[rv x0, rv x1, .unset] [(.ref x1), (.int 2)])) rfl rfl (hb hby d16_3) _ ?_
    rw [len_of S2 Nn2]
    refine XS.icmpYes X0.here hx rfl (pc0 := 4) (pc' := 34) rfl (hb hby d16_4) rfl (feq (by decide)).2 (by decide) (by decide) ?_
    refine XS.iconst X0.here hx rfl (hb hby d16_34) ?_
    exact k)
  obtain ⟨fs, hr, hrun, hended, hW, hsame⟩ := X0.leave (v := some (.int 0)) (fun h => by rw [Bd.returns] at h; cases h)
  refine ⟨_, _, P4 _ ?_, hrun, hended, _, _, rfl, ?_, ⟨_, rfl⟩, hW, hsame.mono (by decide) (by decide)⟩
  · show Steps p.tables e below (s₁.setTop (mkF m 35 #[rv x0, rv x1, .unset] [(.int 0)])) _
    exact retN X0 hx (t := .boolean) Bd.returns (by simp) (hb hby d16_35) hr
  · show Qleq20 Z x0 x1 ka kb y0 y1 h0 n0 _ s₁.heap _
    rw [e0]
    exact ⟨rfl, N0, rfl⟩
def Qleq21 (Z : State) (x0 : Addr) (x1 : Addr) (ka : ClassId) (kb : ClassId) (y0 : Int32) (y1 : Int32) (z0 : Int32) (h0 : Heap) (n0 : Nat) (v : Option Value) (h : Heap) (L : List Loc) : Prop := v = some (.int 0) ∧ Fr n0 L ∧ h = h0
theorem ef_leq21 (m : MethodId) (x0 : Addr) (x1 : Addr) : entryFrame m #[(.ref x0), (.ref x1)] 3 = mkF m 0 #[rv x0, rv x1, .unset] [] := by first | (simp [entryFrame, mkF, argsToLocals, Value.category]; done) | rfl
set_option maxRecDepth 65536 in
set_option maxHeartbeats 40000000 in
theorem rmleq21 (l : Launch) (Z : State) (a0 : Array Value) (hw : ∀ d ∈ tables_1, d.before a0 Z = true) (ws : List Jvm.Cond) (x0 : Addr) (x1 : Addr) (ka : ClassId) (kb : ClassId) (y0 : Int32) (y1 : Int32) (z0 : Int32) (h0 : Heap) (n0 : Nat) (Z0 : n0 ≤ h0.size) (pre_A_x0 : Arv Z h0 x0 ka .byte (2 : Int32) [(.int y0), (.int y1)] (.int 0)) (pre_A_x1 : Arv Z h0 x1 kb .byte (1 : Int32) [(.int z0)] (.int 0)) :
    MetFree l (⟨"java/lang/StringLatin1", "equals", "([B[B)Z"⟩ : MethodName) (head1 (Jvm.Cond.code (⟨"java/lang/StringLatin1", "equals", "([B[B)Z"⟩ : MethodName) jdk_43_method_13_code 3 (some .boolean) :: ws) ({ frames := 0, cells := 0, slots := 0, locals := 0 } : Room)) (fun a U => a = #[(.ref x0), (.ref x1)] ∧ Z.Warmed39 U.vm ∧ U.heap = h0) (fun _ _ _ _ _ => True) (fun _ U o U' => ∃ v L, o = .returned v ∧ Qleq21 Z x0 x1 ka kb y0 y1 z0 h0 n0 v U'.heap L ∧ FrameEnd U o U' L ({ frames := 0, cells := 0, slots := 0, locals := 0 } : Room).cells ({ frames := 0, cells := 0, slots := 0, locals := 0 } : Room).slots) := by
  refine MetFree.of_bodySF (plainFor_of_name pn_16) hisR ?_
  intro p e s m args below meth c s₁ Bd hml0 hP hK
  obtain ⟨rfl, hZ, hh⟩ := hP
  have hx := Bd.exec
  have hby := Bd.bytes
  have hml : c.maxLocals = 3 := hml0
  have hown : s.vm.findClass "java/lang/StringLatin1" = some m.cls := findClass_of_methodNamed Bd.named
  have hnm := (name_of_methodNamed Bd.named Bd.method).1
  have X0 : Stand p l e ({ frames := 0, cells := 0, slots := 0, locals := 0 } : Room) s m #[(.ref x0), (.ref x1)] below meth c s₁ [] 0 0 := Stand.of_body Bd
  have e0 : s₁.heap = h0 := by rw [← hh, Bd.state]; rfl
  have N0 := Fr.nil n0
  have Kp0 := Keep.refl h0 []
  have P0 : ∀ t, Steps p.tables e below (s₁.setTop (mkF m 0 #[rv x0, rv x1, .unset] [])) t → Steps p.tables e below (s₁.setTop (entryFrame m #[(.ref x0), (.ref x1)] 3)) t := fun t k => castTop (ef_leq21 m x0 x1) k
  obtain ⟨cl1, Ar1, qa1, S1, Nn1, H1, G1⟩ := id pre_A_x0
  obtain ⟨cl2, Ar2, qa2, S2, Nn2, H2, G2⟩ := id pre_A_x1
  have P4 := own_go P0 (S' := s₁.setTop (mkF m 35 #[rv x0, rv x1, .unset] [(.int 0)])) (by
    intro t k
    refine XS.aloadN X0.here hx rfl (hb hby d16_0) rfl rfl ?_
    refine X0.arraylength hx (by rw [e0]; exact Ar1.1) (State.isArrayOf_alike hZ.alike Ar1.2.1) (g := (mkF m 1 #[rv x0, rv x1, .unset] [(.ref x0)])) rfl rfl (hb hby d16_1) _ ?_
    rw [len_of S1 Nn1]
    refine XS.aloadN X0.here hx rfl (hb hby d16_2) rfl rfl ?_
    refine X0.arraylength hx (by rw [e0]; exact Ar2.1) (State.isArrayOf_alike hZ.alike Ar2.2.1) (g := (mkF m 3 #[rv x0, rv x1, .unset] [(.ref x1), (.int 2)])) rfl rfl (hb hby d16_3) _ ?_
    rw [len_of S2 Nn2]
    refine XS.icmpYes X0.here hx rfl (pc0 := 4) (pc' := 34) rfl (hb hby d16_4) rfl (feq (by decide)).2 (by decide) (by decide) ?_
    refine XS.iconst X0.here hx rfl (hb hby d16_34) ?_
    exact k)
  obtain ⟨fs, hr, hrun, hended, hW, hsame⟩ := X0.leave (v := some (.int 0)) (fun h => by rw [Bd.returns] at h; cases h)
  refine ⟨_, _, P4 _ ?_, hrun, hended, _, _, rfl, ?_, ⟨_, rfl⟩, hW, hsame.mono (by decide) (by decide)⟩
  · show Steps p.tables e below (s₁.setTop (mkF m 35 #[rv x0, rv x1, .unset] [(.int 0)])) _
    exact retN X0 hx (t := .boolean) Bd.returns (by simp) (hb hby d16_35) hr
  · show Qleq21 Z x0 x1 ka kb y0 y1 z0 h0 n0 _ s₁.heap _
    rw [e0]
    exact ⟨rfl, N0, rfl⟩
def Qleq22 (Z : State) (x0 : Addr) (x1 : Addr) (ka : ClassId) (kb : ClassId) (y0 : Int32) (y1 : Int32) (z0 : Int32) (z1 : Int32) (h0 : Heap) (n0 : Nat) (v : Option Value) (h : Heap) (L : List Loc) : Prop := v = some (.int (if (y0 = z0 ∧ y1 = z1) then (1 : Int32) else (0 : Int32))) ∧ Fr n0 L ∧ h = h0
theorem ef_leq22 (m : MethodId) (x0 : Addr) (x1 : Addr) : entryFrame m #[(.ref x0), (.ref x1)] 3 = mkF m 0 #[rv x0, rv x1, .unset] [] := by first | (simp [entryFrame, mkF, argsToLocals, Value.category]; done) | rfl
set_option maxRecDepth 65536 in
set_option maxHeartbeats 40000000 in
theorem rmleq22 (l : Launch) (Z : State) (a0 : Array Value) (hw : ∀ d ∈ tables_1, d.before a0 Z = true) (ws : List Jvm.Cond) (x0 : Addr) (x1 : Addr) (ka : ClassId) (kb : ClassId) (y0 : Int32) (y1 : Int32) (z0 : Int32) (z1 : Int32) (h0 : Heap) (n0 : Nat) (Z0 : n0 ≤ h0.size) (pre_A_x0 : Arv Z h0 x0 ka .byte (2 : Int32) [(.int y0), (.int y1)] (.int 0)) (pre_A_x1 : Arv Z h0 x1 kb .byte (2 : Int32) [(.int z0), (.int z1)] (.int 0)) :
    MetFree l (⟨"java/lang/StringLatin1", "equals", "([B[B)Z"⟩ : MethodName) (head1 (Jvm.Cond.code (⟨"java/lang/StringLatin1", "equals", "([B[B)Z"⟩ : MethodName) jdk_43_method_13_code 3 (some .boolean) :: ws) ({ frames := 0, cells := 0, slots := 0, locals := 0 } : Room)) (fun a U => a = #[(.ref x0), (.ref x1)] ∧ Z.Warmed39 U.vm ∧ U.heap = h0) (fun _ _ _ _ _ => True) (fun _ U o U' => ∃ v L, o = .returned v ∧ Qleq22 Z x0 x1 ka kb y0 y1 z0 z1 h0 n0 v U'.heap L ∧ FrameEnd U o U' L ({ frames := 0, cells := 0, slots := 0, locals := 0 } : Room).cells ({ frames := 0, cells := 0, slots := 0, locals := 0 } : Room).slots) := by
  refine MetFree.of_bodySF (plainFor_of_name pn_16) hisR ?_
  intro p e s m args below meth c s₁ Bd hml0 hP hK
  obtain ⟨rfl, hZ, hh⟩ := hP
  have hx := Bd.exec
  have hby := Bd.bytes
  have hml : c.maxLocals = 3 := hml0
  have hown : s.vm.findClass "java/lang/StringLatin1" = some m.cls := findClass_of_methodNamed Bd.named
  have hnm := (name_of_methodNamed Bd.named Bd.method).1
  have X0 : Stand p l e ({ frames := 0, cells := 0, slots := 0, locals := 0 } : Room) s m #[(.ref x0), (.ref x1)] below meth c s₁ [] 0 0 := Stand.of_body Bd
  have e0 : s₁.heap = h0 := by rw [← hh, Bd.state]; rfl
  have N0 := Fr.nil n0
  have Kp0 := Keep.refl h0 []
  have P0 : ∀ t, Steps p.tables e below (s₁.setTop (mkF m 0 #[rv x0, rv x1, .unset] [])) t → Steps p.tables e below (s₁.setTop (entryFrame m #[(.ref x0), (.ref x1)] 3)) t := fun t k => castTop (ef_leq22 m x0 x1) k
  obtain ⟨cl1, Ar1, qa1, S1, Nn1, H1, G1⟩ := id pre_A_x0
  obtain ⟨cl2, Ar2, qa2, S2, Nn2, H2, G2⟩ := id pre_A_x1
  obtain ⟨cl4, Ar4, qa4, S4, Nn4, H4, G4⟩ := id pre_A_x0
  obtain ⟨cl6, Ar6, qa6, S6, Nn6, H6, G6⟩ := id pre_A_x0
  have hin6 : ¬ ((0 : Int32) < 0 ∨ cl6.slots.size ≤ ((0 : Int32)).toNatClampNeg) := inb_of S6 ⟨by decide, by decide⟩
  have hat6 : cl6.slots[((0 : Int32)).toNatClampNeg]? = some (.int y0) := Has.at H6 hin6 rfl
  obtain ⟨cl7, Ar7, qa7, S7, Nn7, H7, G7⟩ := id pre_A_x1
  have hin7 : ¬ ((0 : Int32) < 0 ∨ cl7.slots.size ≤ ((0 : Int32)).toNatClampNeg) := inb_of S7 ⟨by decide, by decide⟩
  have hat7 : cl7.slots[((0 : Int32)).toNatClampNeg]? = some (.int z0) := Has.at H7 hin7 rfl
  have P9 := own_go P0 (S' := s₁.setTop (mkF m 21 #[rv x0, rv x1, iv 0] [(.int z0), (.int y0)])) (by
    intro t k
    refine XS.aloadN X0.here hx rfl (hb hby d16_0) rfl rfl ?_
    refine X0.arraylength hx (by rw [e0]; exact Ar1.1) (State.isArrayOf_alike hZ.alike Ar1.2.1) (g := (mkF m 1 #[rv x0, rv x1, .unset] [(.ref x0)])) rfl rfl (hb hby d16_1) _ ?_
    rw [len_of S1 Nn1]
    refine XS.aloadN X0.here hx rfl (hb hby d16_2) rfl rfl ?_
    refine X0.arraylength hx (by rw [e0]; exact Ar2.1) (State.isArrayOf_alike hZ.alike Ar2.2.1) (g := (mkF m 3 #[rv x0, rv x1, .unset] [(.ref x1), (.int 2)])) rfl rfl (hb hby d16_3) _ ?_
    rw [len_of S2 Nn2]
    refine XS.icmpNo X0.here hx rfl (hb hby d16_4) rfl (teq (by decide)).2 ?_
    refine XS.iconst X0.here hx rfl (hb hby d16_7) ?_
    refine XS.istoreN X0.here hx rfl (hb hby d16_8) rfl (l' := #[rv x0, rv x1, iv 0]) rfl ?_
    refine XS.iloadN X0.here hx rfl (hb hby d16_9) rfl ?_
    show Steps p.tables e below (s₁.setTop (mkF m 10 #[rv x0, rv x1, iv 0] [(.int 0)])) _
    refine XS.aloadN X0.here hx rfl (hb hby d16_10) rfl rfl ?_
    refine X0.arraylength hx (by rw [e0]; exact Ar4.1) (State.isArrayOf_alike hZ.alike Ar4.2.1) (g := (mkF m 11 #[rv x0, rv x1, iv 0] [(.ref x0), (.int 0)])) rfl rfl (hb hby d16_11) _ ?_
    rw [len_of S4 Nn4]
    refine XS.icmpNo X0.here hx rfl (hb hby d16_12) rfl (tlt (by decide)).2.1 ?_
    refine XS.aloadN X0.here hx rfl (hb hby d16_15) rfl rfl ?_
    refine XS.iloadN X0.here hx rfl (hb hby d16_16) rfl ?_
    refine X0.baloadBytes hx (j := (0 : Int32)) (v := (.int y0)) (by rw [e0]; exact Ar6.1) (State.isArrayOf_alike hZ.alike Ar6.2.1) Ar6.2.2 hin6 hat6 (g := (mkF m 17 #[rv x0, rv x1, iv 0] [(.int 0), (.ref x0)])) rfl rfl (hb hby d16_17) _ ?_
    refine XS.aloadN X0.here hx rfl (hb hby d16_18) rfl rfl ?_
    refine XS.iloadN X0.here hx rfl (hb hby d16_19) rfl ?_
    show Steps p.tables e below (s₁.setTop (mkF m 20 #[rv x0, rv x1, iv 0] [(.int 0), (.ref x1), (.int y0)])) _
    refine X0.baloadBytes hx (j := (0 : Int32)) (v := (.int z0)) (by rw [e0]; exact Ar7.1) (State.isArrayOf_alike hZ.alike Ar7.2.1) Ar7.2.2 hin7 hat7 (g := (mkF m 20 #[rv x0, rv x1, iv 0] [(.int 0), (.ref x1), (.int y0)])) rfl rfl (hb hby d16_20) _ ?_
    exact k)
  by_cases hc21_8 : y0 = z0
  · obtain ⟨cl10, Ar10, qa10, S10, Nn10, H10, G10⟩ := id pre_A_x0
    obtain ⟨cl12, Ar12, qa12, S12, Nn12, H12, G12⟩ := id pre_A_x0
    have hin12 : ¬ ((1 : Int32) < 0 ∨ cl12.slots.size ≤ ((1 : Int32)).toNatClampNeg) := inb_of S12 ⟨by decide, by decide⟩
    have hat12 : cl12.slots[((1 : Int32)).toNatClampNeg]? = some (.int y1) := Has.at H12 hin12 rfl
    obtain ⟨cl13, Ar13, qa13, S13, Nn13, H13, G13⟩ := id pre_A_x1
    have hin13 : ¬ ((1 : Int32) < 0 ∨ cl13.slots.size ≤ ((1 : Int32)).toNatClampNeg) := inb_of S13 ⟨by decide, by decide⟩
    have hat13 : cl13.slots[((1 : Int32)).toNatClampNeg]? = some (.int z1) := Has.at H13 hin13 rfl
    have P15 := own_go P9 (S' := s₁.setTop (mkF m 21 #[rv x0, rv x1, iv 1] [(.int z1), (.int y1)])) (by
      intro t k
      refine XS.icmpYes X0.here hx rfl (pc0 := 21) (pc' := 26) rfl (hb hby d16_21) rfl (teq hc21_8).1 (by decide) (by decide) ?_
      refine XS.iinc X0.here hx rfl (hb hby d16_26) rfl (l' := #[rv x0, rv x1, iv 1]) rfl ?_
      refine XS.goto X0.here hx rfl (pc0 := 29) (pc' := 9) rfl (hb hby d16_29) (by decide) (by decide) ?_
      refine XS.iloadN X0.here hx rfl (hb hby d16_9) rfl ?_
      refine XS.aloadN X0.here hx rfl (hb hby d16_10) rfl rfl ?_
      refine X0.arraylength hx (by rw [e0]; exact Ar10.1) (State.isArrayOf_alike hZ.alike Ar10.2.1) (g := (mkF m 11 #[rv x0, rv x1, iv 1] [(.ref x0), (.int 1)])) rfl rfl (hb hby d16_11) _ ?_
      rw [len_of S10 Nn10]
      refine XS.icmpNo X0.here hx rfl (hb hby d16_12) rfl (tlt (by decide)).2.1 ?_
      refine XS.aloadN X0.here hx rfl (hb hby d16_15) rfl rfl ?_
      show Steps p.tables e below (s₁.setTop (mkF m 16 #[rv x0, rv x1, iv 1] [(.ref x0)])) _
      refine XS.iloadN X0.here hx rfl (hb hby d16_16) rfl ?_
      refine X0.baloadBytes hx (j := (1 : Int32)) (v := (.int y1)) (by rw [e0]; exact Ar12.1) (State.isArrayOf_alike hZ.alike Ar12.2.1) Ar12.2.2 hin12 hat12 (g := (mkF m 17 #[rv x0, rv x1, iv 1] [(.int 1), (.ref x0)])) rfl rfl (hb hby d16_17) _ ?_
      refine XS.aloadN X0.here hx rfl (hb hby d16_18) rfl rfl ?_
      refine XS.iloadN X0.here hx rfl (hb hby d16_19) rfl ?_
      refine X0.baloadBytes hx (j := (1 : Int32)) (v := (.int z1)) (by rw [e0]; exact Ar13.1) (State.isArrayOf_alike hZ.alike Ar13.2.1) Ar13.2.2 hin13 hat13 (g := (mkF m 20 #[rv x0, rv x1, iv 1] [(.int 1), (.ref x1), (.int y1)])) rfl rfl (hb hby d16_20) _ ?_
      exact k)
    by_cases hc21_14 : y1 = z1
    · obtain ⟨cl16, Ar16, qa16, S16, Nn16, H16, G16⟩ := id pre_A_x0
      have P18 := own_go P15 (S' := s₁.setTop (mkF m 33 #[rv x0, rv x1, iv 2] [(.int 1)])) (by
        intro t k
        refine XS.icmpYes X0.here hx rfl (pc0 := 21) (pc' := 26) rfl (hb hby d16_21) rfl (teq hc21_14).1 (by decide) (by decide) ?_
        refine XS.iinc X0.here hx rfl (hb hby d16_26) rfl (l' := #[rv x0, rv x1, iv 2]) rfl ?_
        refine XS.goto X0.here hx rfl (pc0 := 29) (pc' := 9) rfl (hb hby d16_29) (by decide) (by decide) ?_
        refine XS.iloadN X0.here hx rfl (hb hby d16_9) rfl ?_
        refine XS.aloadN X0.here hx rfl (hb hby d16_10) rfl rfl ?_
        refine X0.arraylength hx (by rw [e0]; exact Ar16.1) (State.isArrayOf_alike hZ.alike Ar16.2.1) (g := (mkF m 11 #[rv x0, rv x1, iv 2] [(.ref x0), (.int 2)])) rfl rfl (hb hby d16_11) _ ?_
        rw [len_of S16 Nn16]
        refine XS.icmpYes X0.here hx rfl (pc0 := 12) (pc' := 32) rfl (hb hby d16_12) rfl (flt (by decide)).2.1 (by decide) (by decide) ?_
        refine XS.iconst X0.here hx rfl (hb hby d16_32) ?_
        show Steps p.tables e below (s₁.setTop (mkF m 33 #[rv x0, rv x1, iv 2] [(.int 1)])) _
        exact k)
      obtain ⟨fs, hr, hrun, hended, hW, hsame⟩ := X0.leave (v := some (.int 1)) (fun h => by rw [Bd.returns] at h; cases h)
      refine ⟨_, _, P18 _ ?_, hrun, hended, _, _, rfl, ?_, ⟨_, rfl⟩, hW, hsame.mono (by decide) (by decide)⟩
      · show Steps p.tables e below (s₁.setTop (mkF m 33 #[rv x0, rv x1, iv 2] [(.int 1)])) _
        exact retN X0 hx (t := .boolean) Bd.returns (by simp) (hb hby d16_33) hr
      · show Qleq22 Z x0 x1 ka kb y0 y1 z0 z1 h0 n0 _ s₁.heap _
        rw [e0]
        exact ⟨(by first | rfl | rw [if_pos hc21_14] | rw [if_neg hc21_14] | rw [if_neg (not_not_intro hc21_14)] | simp [hc21_8, hc21_14]), N0, rfl⟩
    · have P19 := own_go P15 (S' := s₁.setTop (mkF m 25 #[rv x0, rv x1, iv 1] [(.int 0)])) (by
        intro t k
        refine XS.icmpNo X0.here hx rfl (hb hby d16_21) rfl (feq hc21_14).1 ?_
        refine XS.iconst X0.here hx rfl (hb hby d16_24) ?_
        exact k)
      obtain ⟨fs, hr, hrun, hended, hW, hsame⟩ := X0.leave (v := some (.int 0)) (fun h => by rw [Bd.returns] at h; cases h)
      refine ⟨_, _, P19 _ ?_, hrun, hended, _, _, rfl, ?_, ⟨_, rfl⟩, hW, hsame.mono (by decide) (by decide)⟩
      · show Steps p.tables e below (s₁.setTop (mkF m 25 #[rv x0, rv x1, iv 1] [(.int 0)])) _
        exact retN X0 hx (t := .boolean) Bd.returns (by simp) (hb hby d16_25) hr
      · show Qleq22 Z x0 x1 ka kb y0 y1 z0 z1 h0 n0 _ s₁.heap _
        rw [e0]
        exact ⟨(by first | rfl | rw [if_pos hc21_14] | rw [if_neg hc21_14] | rw [if_neg (not_not_intro hc21_14)] | simp [hc21_8, hc21_14]), N0, rfl⟩
  · have P20 := own_go P9 (S' := s₁.setTop (mkF m 25 #[rv x0, rv x1, iv 0] [(.int 0)])) (by
      intro t k
      refine XS.icmpNo X0.here hx rfl (hb hby d16_21) rfl (feq hc21_8).1 ?_
      refine XS.iconst X0.here hx rfl (hb hby d16_24) ?_
      exact k)
    obtain ⟨fs, hr, hrun, hended, hW, hsame⟩ := X0.leave (v := some (.int 0)) (fun h => by rw [Bd.returns] at h; cases h)
    refine ⟨_, _, P20 _ ?_, hrun, hended, _, _, rfl, ?_, ⟨_, rfl⟩, hW, hsame.mono (by decide) (by decide)⟩
    · show Steps p.tables e below (s₁.setTop (mkF m 25 #[rv x0, rv x1, iv 0] [(.int 0)])) _
      exact retN X0 hx (t := .boolean) Bd.returns (by simp) (hb hby d16_25) hr
    · show Qleq22 Z x0 x1 ka kb y0 y1 z0 z1 h0 n0 _ s₁.heap _
      rw [e0]
      exact ⟨(by first | rfl | rw [if_pos hc21_8] | rw [if_neg hc21_8] | rw [if_neg (not_not_intro hc21_8)] | simp [hc21_8]), N0, rfl⟩
def QeqP (Z : State) (x0 : Addr) (x1 : Addr) (cs : Int32) (as : List Int32) (bs : List Int32) (B1 : Nat) (B2 : Nat) (h0 : Heap) (n0 : Nat) (v : Option Value) (h : Heap) (L : List Loc) : Prop := v = some (.int (if as = bs then (1 : Int32) else (0 : Int32))) ∧ Fr n0 L ∧ h = h0
theorem ef_eqP (m : MethodId) (x0 : Addr) (x1 : Addr) : entryFrame m #[(.ref x0), (.ref x1)] 3 = mkF m 0 #[rv x0, rv x1, .unset] [] := by first | (simp [entryFrame, mkF, argsToLocals, Value.category]; done) | rfl
set_option maxRecDepth 65536 in
set_option maxHeartbeats 40000000 in
theorem rmeqP (l : Launch) (Z : State) (a0 : Array Value) (hw : ∀ d ∈ tables_1, d.before a0 Z = true) (ws : List Jvm.Cond) (x0 : Addr) (x1 : Addr) (cs : Int32) (as : List Int32) (bs : List Int32) (B1 : Nat) (B2 : Nat) (h0 : Heap) (n0 : Nat) (Z0 : n0 ≤ h0.size) (O0 : Old Z n0 h0) (pre_S_COMPACT_STRINGS : Sta Z Z.heap "java/lang/String" "COMPACT_STRINGS" "Z" (.int cs)) (hcs : ¬ (cs = (0 : Int32))) (ne_x0_x1 : x0 ≠ x1) (pre_P_x0 : own_Str Z h0 x0 as B1) (pre_P_x1 : own_Str Z h0 x1 bs B2) :
    MetFree l (⟨"java/lang/String", "equals", "(Ljava/lang/Object;)Z"⟩ : MethodName) (head1 (Jvm.Cond.code (⟨"java/lang/String", "equals", "(Ljava/lang/Object;)Z"⟩ : MethodName) jdk_42_method_66_code 3 (some .boolean) :: ws) ({ frames := 1, cells := 0, slots := 0, locals := 14 } : Room)) (fun a U => a = #[(.ref x0), (.ref x1)] ∧ Z.Warmed39 U.vm ∧ U.heap = h0) (fun _ _ _ _ _ => True) (fun _ U o U' => ∃ v L, o = .returned v ∧ QeqP Z x0 x1 cs as bs B1 B2 h0 n0 v U'.heap L ∧ FrameEnd U o U' L ({ frames := 1, cells := 0, slots := 0, locals := 14 } : Room).cells ({ frames := 1, cells := 0, slots := 0, locals := 14 } : Room).slots) := by
  refine MetFree.of_bodySF (plainFor_of_name pn_10) hisR ?_
  intro p e s m args below meth c s₁ Bd hml0 hP hK
  obtain ⟨rfl, hZ, hh⟩ := hP
  have hx := Bd.exec
  have hby := Bd.bytes
  have hml : c.maxLocals = 3 := hml0
  have hown : s.vm.findClass "java/lang/String" = some m.cls := findClass_of_methodNamed Bd.named
  have hnm := (name_of_methodNamed Bd.named Bd.method).1
  have X0 : Stand p l e ({ frames := 1, cells := 0, slots := 0, locals := 14 } : Room) s m #[(.ref x0), (.ref x1)] below meth c s₁ [] 0 0 := Stand.of_body Bd
  have e0 : s₁.heap = h0 := by rw [← hh, Bd.state]; rfl
  have N0 := Fr.nil n0
  have Kp0 := Keep.refl h0 []
  have P0 : ∀ t, Steps p.tables e below (s₁.setTop (mkF m 0 #[rv x0, rv x1, .unset] [])) t → Steps p.tables e below (s₁.setTop (entryFrame m #[(.ref x0), (.ref x1)] 3)) t := fun t k => castTop (ef_eqP m x0 x1) k
  obtain ⟨va, ka, Ea, Ca, Va, Aa, la, -, -⟩ := id pre_P_x0
  obtain ⟨vb, kb, Eb, Cb, Vb, Ab, lb, -, -⟩ := id pre_P_x1
  rcases own_three as la with ea | ⟨y0, ea⟩ | ⟨y0, y1, ea⟩
  · rw [ea] at Aa
    replace Aa : Arv Z h0 va ka .byte (0 : Int32) [] (.int 0) := Aa
    rcases own_three bs lb with eb | ⟨z0, eb⟩ | ⟨z0, z1, eb⟩
    · rw [eb] at Ab
      replace Ab : Arv Z h0 vb kb .byte (0 : Int32) [] (.int 0) := Ab
      obtain ⟨T1, X1, e1, st1⟩ := instY X0 hx hZ hown (hw _ (im 87 rfl)) e0 (Ins.self Eb) (g := (mkF m 8 #[rv x0, rv x1, .unset] [(.ref x1)])) rfl rfl (hb hby d10_8)
      obtain ⟨T3, X3, e3, st3⟩ := castY X1 hx hZ hown (hw _ (im 87 rfl)) e1 (Ins.self Eb) (g := (mkF m 15 #[rv x0, rv x1, .unset] [(.ref x1)])) rfl rfl (hb hby d10_15)
      obtain ⟨T4, X4, e4, st4⟩ := getS2 X3 hx hZ hown (host := "") (Or.inl (hw _ (im 73 rfl))) Via.refl e3 (pre_S_COMPACT_STRINGS.ext O0.2) (g := (mkF m 19 #[rv x0, rv x1, rv x1] [])) rfl (hb hby d10_19)
      have hc22_5 : ¬ (cs = (0 : Int32)) := hcs
      obtain ⟨T6, X6, e6, st6⟩ := getF X4 hx hZ hown (host := "") (Or.inl (hw _ (im 36 rfl))) Via.refl e4 Ca (g := (mkF m 26 #[rv x0, rv x1, rv x1] [(.ref x0)])) rfl rfl (hb hby d10_26)
      obtain ⟨T7, X7, e7, st7⟩ := getF X6 hx hZ hown (host := "") (Or.inl (hw _ (im 36 rfl))) Via.refl e6 Cb (g := (mkF m 30 #[rv x0, rv x1, rv x1] [(.ref x1), (.int 0)])) rfl rfl (hb hby d10_30)
      obtain ⟨T9, X9, e9, st9⟩ := getF X7 hx hZ hown (host := "") (Or.inl (hw _ (im 35 rfl))) Via.refl e7 Va (g := (mkF m 37 #[rv x0, rv x1, rv x1] [(.ref x0)])) rfl rfl (hb hby d10_37)
      obtain ⟨T10, X10, e10, st10⟩ := getF X9 hx hZ hown (host := "") (Or.inl (hw _ (im 35 rfl))) Via.refl e9 Vb (g := (mkF m 41 #[rv x0, rv x1, rv x1] [(.ref x1), (.ref va)])) rfl rfl (hb hby d10_41)
      obtain ⟨_, _, ⟨T11, L11, k11, n11⟩, -, X11, ⟨Lc11, hQ11, l11, y11, z11⟩, st11⟩ := Jvm.LawKit.callS X10 hx (y := (⟨"java/lang/StringLatin1", "equals", "([B[B)Z"⟩ : MethodName)) hown (mvT hZ (hw _ (im 88 rfl))) (mvT hZ (hw _ (im 89 rfl))) (mvT hZ (hw _ (im 90 rfl))) (mvT hZ (hw _ (im 91 rfl))) (by decide) (backOf (W := 0) (rmleq00 l Z a0 hw [] va vb ka kb h0 n0 Z0 Aa Ab) hZ (hw _ (im 91 rfl)) (hw _ (im 90 rfl)) (by decide) (by decide)) (g := (mkF m 44 #[rv x0, rv x1, rv x1] [(.ref vb), (.ref va)])) rfl (by rw [hml]; rfl) (argsL := [(.ref va), (.ref vb)]) (rest := []) (lenOf pd_8 rfl) rfl (by show 2 * 0 + _ ≤ _; exact Nat.le_of_eq rfl) (hb hby d10_44) (fun _ _ => ⟨rfl, e10, (by decide : 0 + 0 ≤ _), (by decide : 0 + 0 ≤ _)⟩)
      dsimp only [Pt.U, Pt.locs, Pt.cells, Pt.slots] at X11 l11 y11 z11 st11 hQ11
      subst l11 y11 z11
      obtain ⟨rfl, N11q, e11⟩ := hQ11
      have N11 := Fr.app N0 N11q
      have P13 := own_go P0 (S' := T11.setTop (mkF m 55 #[rv x0, rv x1, rv x1] [(.int 1)])) (by
        intro t k
        refine XS.aloadN X0.here hx rfl (hb hby d10_0) rfl rfl ?_
        refine XS.aloadN X0.here hx rfl (hb hby d10_1) rfl rfl ?_
        refine Jvm.RoadKit.acmp (g := (mkF m 2 #[rv x0, rv x1, .unset] [(.ref x1), (.ref x0)])) X0 hx rfl rfl rfl (pc0 := 2) (pc' := 7) (same := false) rfl (hb hby d10_2) rfl (decide_eq_false fun q => ne_x0_x1 (Value.ref.inj q)) (by decide) (by decide) ?_
        refine XS.aloadN X0.here hx rfl (hb hby d10_7) rfl rfl ?_
        refine st1 _ ?_
        refine XS.ifNo X1.here hx rfl (hb hby d10_11) rfl ((if0 _ _).trans (feq (by decide)).1) ?_
        refine XS.aloadN X1.here hx rfl (hb hby d10_14) rfl rfl ?_
        refine st3 _ ?_
        show Steps p.tables e below (T3.setTop (mkF m 18 #[rv x0, rv x1, .unset] [(.ref x1)])) _
        refine XS.astoreN X3.here hx rfl (hb hby d10_18) rfl rfl (l' := #[rv x0, rv x1, rv x1]) rfl ?_
        refine st4 _ ?_
        refine XS.ifNo X4.here hx rfl (hb hby d10_22) rfl ((if0 _ _).trans (feq hc22_5).1) ?_
        refine XS.aloadN X4.here hx rfl (hb hby d10_25) rfl rfl ?_
        refine st6 _ ?_
        refine XS.aloadN X6.here hx rfl (hb hby d10_29) rfl rfl ?_
        refine st7 _ ?_
        refine XS.icmpNo X7.here hx rfl (hb hby d10_33) rfl (teq (by decide)).2 ?_
        show Steps p.tables e below (T7.setTop (mkF m 36 #[rv x0, rv x1, rv x1] [])) _
        refine XS.aloadN X7.here hx rfl (hb hby d10_36) rfl rfl ?_
        refine st9 _ ?_
        refine XS.aloadN X9.here hx rfl (hb hby d10_40) rfl rfl ?_
        refine st10 _ ?_
        refine st11 _ ?_
        refine XS.ifNo X11.here hx rfl (hb hby d10_47) rfl ((if0 _ _).trans (feq (by decide)).1) ?_
        refine XS.iconst X11.here hx rfl (hb hby d10_50) ?_
        refine XS.goto X11.here hx rfl (pc0 := 51) (pc' := 55) rfl (hb hby d10_51) (by decide) (by decide) ?_
        show Steps p.tables e below (T11.setTop (mkF m 55 #[rv x0, rv x1, rv x1] [(.int 1)])) _
        exact k)
      obtain ⟨fs, hr, hrun, hended, hW, hsame⟩ := X11.leave (v := some (.int 1)) (fun h => by rw [Bd.returns] at h; cases h)
      refine ⟨_, _, P13 _ ?_, hrun, hended, _, _, rfl, ?_, ⟨_, rfl⟩, hW, hsame.mono (by decide) (by decide)⟩
      · show Steps p.tables e below (T11.setTop (mkF m 55 #[rv x0, rv x1, rv x1] [(.int 1)])) _
        exact retN X11 hx (t := .boolean) Bd.returns (by simp) (hb hby d10_55) hr
      · show QeqP Z x0 x1 cs as bs B1 B2 h0 n0 _ T11.heap _
        rw [e11]
        exact ⟨(by rw [ea, eb]; simp), N11, rfl⟩
    · rw [eb] at Ab
      replace Ab : Arv Z h0 vb kb .byte (1 : Int32) [(.int z0)] (.int 0) := Ab
      obtain ⟨T14, X14, e14, st14⟩ := instY X0 hx hZ hown (hw _ (im 87 rfl)) e0 (Ins.self Eb) (g := (mkF m 8 #[rv x0, rv x1, .unset] [(.ref x1)])) rfl rfl (hb hby d10_8)
      obtain ⟨T16, X16, e16, st16⟩ := castY X14 hx hZ hown (hw _ (im 87 rfl)) e14 (Ins.self Eb) (g := (mkF m 15 #[rv x0, rv x1, .unset] [(.ref x1)])) rfl rfl (hb hby d10_15)
      obtain ⟨T17, X17, e17, st17⟩ := getS2 X16 hx hZ hown (host := "") (Or.inl (hw _ (im 73 rfl))) Via.refl e16 (pre_S_COMPACT_STRINGS.ext O0.2) (g := (mkF m 19 #[rv x0, rv x1, rv x1] [])) rfl (hb hby d10_19)
      have hc22_18 : ¬ (cs = (0 : Int32)) := hcs
      obtain ⟨T19, X19, e19, st19⟩ := getF X17 hx hZ hown (host := "") (Or.inl (hw _ (im 36 rfl))) Via.refl e17 Ca (g := (mkF m 26 #[rv x0, rv x1, rv x1] [(.ref x0)])) rfl rfl (hb hby d10_26)
      obtain ⟨T20, X20, e20, st20⟩ := getF X19 hx hZ hown (host := "") (Or.inl (hw _ (im 36 rfl))) Via.refl e19 Cb (g := (mkF m 30 #[rv x0, rv x1, rv x1] [(.ref x1), (.int 0)])) rfl rfl (hb hby d10_30)
      obtain ⟨T22, X22, e22, st22⟩ := getF X20 hx hZ hown (host := "") (Or.inl (hw _ (im 35 rfl))) Via.refl e20 Va (g := (mkF m 37 #[rv x0, rv x1, rv x1] [(.ref x0)])) rfl rfl (hb hby d10_37)
      obtain ⟨T23, X23, e23, st23⟩ := getF X22 hx hZ hown (host := "") (Or.inl (hw _ (im 35 rfl))) Via.refl e22 Vb (g := (mkF m 41 #[rv x0, rv x1, rv x1] [(.ref x1), (.ref va)])) rfl rfl (hb hby d10_41)
      obtain ⟨_, _, ⟨T24, L24, k24, n24⟩, -, X24, ⟨Lc24, hQ24, l24, y24, z24⟩, st24⟩ := Jvm.LawKit.callS X23 hx (y := (⟨"java/lang/StringLatin1", "equals", "([B[B)Z"⟩ : MethodName)) hown (mvT hZ (hw _ (im 88 rfl))) (mvT hZ (hw _ (im 89 rfl))) (mvT hZ (hw _ (im 90 rfl))) (mvT hZ (hw _ (im 91 rfl))) (by decide) (backOf (W := 0) (rmleq01 l Z a0 hw [] va vb ka kb z0 h0 n0 Z0 Aa Ab) hZ (hw _ (im 91 rfl)) (hw _ (im 90 rfl)) (by decide) (by decide)) (g := (mkF m 44 #[rv x0, rv x1, rv x1] [(.ref vb), (.ref va)])) rfl (by rw [hml]; rfl) (argsL := [(.ref va), (.ref vb)]) (rest := []) (lenOf pd_8 rfl) rfl (by show 2 * 0 + _ ≤ _; exact Nat.le_of_eq rfl) (hb hby d10_44) (fun _ _ => ⟨rfl, e23, (by decide : 0 + 0 ≤ _), (by decide : 0 + 0 ≤ _)⟩)
      dsimp only [Pt.U, Pt.locs, Pt.cells, Pt.slots] at X24 l24 y24 z24 st24 hQ24
      subst l24 y24 z24
      obtain ⟨rfl, N24q, e24⟩ := hQ24
      have N24 := Fr.app N0 N24q
      have P26 := own_go P0 (S' := T24.setTop (mkF m 55 #[rv x0, rv x1, rv x1] [(.int 0)])) (by
        intro t k
        refine XS.aloadN X0.here hx rfl (hb hby d10_0) rfl rfl ?_
        refine XS.aloadN X0.here hx rfl (hb hby d10_1) rfl rfl ?_
        refine Jvm.RoadKit.acmp (g := (mkF m 2 #[rv x0, rv x1, .unset] [(.ref x1), (.ref x0)])) X0 hx rfl rfl rfl (pc0 := 2) (pc' := 7) (same := false) rfl (hb hby d10_2) rfl (decide_eq_false fun q => ne_x0_x1 (Value.ref.inj q)) (by decide) (by decide) ?_
        refine XS.aloadN X0.here hx rfl (hb hby d10_7) rfl rfl ?_
        refine st14 _ ?_
        refine XS.ifNo X14.here hx rfl (hb hby d10_11) rfl ((if0 _ _).trans (feq (by decide)).1) ?_
        refine XS.aloadN X14.here hx rfl (hb hby d10_14) rfl rfl ?_
        refine st16 _ ?_
        show Steps p.tables e below (T16.setTop (mkF m 18 #[rv x0, rv x1, .unset] [(.ref x1)])) _
        refine XS.astoreN X16.here hx rfl (hb hby d10_18) rfl rfl (l' := #[rv x0, rv x1, rv x1]) rfl ?_
        refine st17 _ ?_
        refine XS.ifNo X17.here hx rfl (hb hby d10_22) rfl ((if0 _ _).trans (feq hc22_18).1) ?_
        refine XS.aloadN X17.here hx rfl (hb hby d10_25) rfl rfl ?_
        refine st19 _ ?_
        refine XS.aloadN X19.here hx rfl (hb hby d10_29) rfl rfl ?_
        refine st20 _ ?_
        refine XS.icmpNo X20.here hx rfl (hb hby d10_33) rfl (teq (by decide)).2 ?_
        show Steps p.tables e below (T20.setTop (mkF m 36 #[rv x0, rv x1, rv x1] [])) _
        refine XS.aloadN X20.here hx rfl (hb hby d10_36) rfl rfl ?_
        refine st22 _ ?_
        refine XS.aloadN X22.here hx rfl (hb hby d10_40) rfl rfl ?_
        refine st23 _ ?_
        refine st24 _ ?_
        refine XS.ifYes X24.here hx rfl (pc0 := 47) (pc' := 54) rfl (hb hby d10_47) rfl ((if0 _ _).trans (teq (by decide)).1) (by decide) (by decide) ?_
        refine XS.iconst X24.here hx rfl (hb hby d10_54) ?_
        exact k)
      obtain ⟨fs, hr, hrun, hended, hW, hsame⟩ := X24.leave (v := some (.int 0)) (fun h => by rw [Bd.returns] at h; cases h)
      refine ⟨_, _, P26 _ ?_, hrun, hended, _, _, rfl, ?_, ⟨_, rfl⟩, hW, hsame.mono (by decide) (by decide)⟩
      · show Steps p.tables e below (T24.setTop (mkF m 55 #[rv x0, rv x1, rv x1] [(.int 0)])) _
        exact retN X24 hx (t := .boolean) Bd.returns (by simp) (hb hby d10_55) hr
      · show QeqP Z x0 x1 cs as bs B1 B2 h0 n0 _ T24.heap _
        rw [e24]
        exact ⟨(by rw [ea, eb]; simp), N24, rfl⟩
    · rw [eb] at Ab
      replace Ab : Arv Z h0 vb kb .byte (2 : Int32) [(.int z0), (.int z1)] (.int 0) := Ab
      obtain ⟨T27, X27, e27, st27⟩ := instY X0 hx hZ hown (hw _ (im 87 rfl)) e0 (Ins.self Eb) (g := (mkF m 8 #[rv x0, rv x1, .unset] [(.ref x1)])) rfl rfl (hb hby d10_8)
      obtain ⟨T29, X29, e29, st29⟩ := castY X27 hx hZ hown (hw _ (im 87 rfl)) e27 (Ins.self Eb) (g := (mkF m 15 #[rv x0, rv x1, .unset] [(.ref x1)])) rfl rfl (hb hby d10_15)
      obtain ⟨T30, X30, e30, st30⟩ := getS2 X29 hx hZ hown (host := "") (Or.inl (hw _ (im 73 rfl))) Via.refl e29 (pre_S_COMPACT_STRINGS.ext O0.2) (g := (mkF m 19 #[rv x0, rv x1, rv x1] [])) rfl (hb hby d10_19)
      have hc22_31 : ¬ (cs = (0 : Int32)) := hcs
      obtain ⟨T32, X32, e32, st32⟩ := getF X30 hx hZ hown (host := "") (Or.inl (hw _ (im 36 rfl))) Via.refl e30 Ca (g := (mkF m 26 #[rv x0, rv x1, rv x1] [(.ref x0)])) rfl rfl (hb hby d10_26)
      obtain ⟨T33, X33, e33, st33⟩ := getF X32 hx hZ hown (host := "") (Or.inl (hw _ (im 36 rfl))) Via.refl e32 Cb (g := (mkF m 30 #[rv x0, rv x1, rv x1] [(.ref x1), (.int 0)])) rfl rfl (hb hby d10_30)
      obtain ⟨T35, X35, e35, st35⟩ := getF X33 hx hZ hown (host := "") (Or.inl (hw _ (im 35 rfl))) Via.refl e33 Va (g := (mkF m 37 #[rv x0, rv x1, rv x1] [(.ref x0)])) rfl rfl (hb hby d10_37)
      obtain ⟨T36, X36, e36, st36⟩ := getF X35 hx hZ hown (host := "") (Or.inl (hw _ (im 35 rfl))) Via.refl e35 Vb (g := (mkF m 41 #[rv x0, rv x1, rv x1] [(.ref x1), (.ref va)])) rfl rfl (hb hby d10_41)
      obtain ⟨_, _, ⟨T37, L37, k37, n37⟩, -, X37, ⟨Lc37, hQ37, l37, y37, z37⟩, st37⟩ := Jvm.LawKit.callS X36 hx (y := (⟨"java/lang/StringLatin1", "equals", "([B[B)Z"⟩ : MethodName)) hown (mvT hZ (hw _ (im 88 rfl))) (mvT hZ (hw _ (im 89 rfl))) (mvT hZ (hw _ (im 90 rfl))) (mvT hZ (hw _ (im 91 rfl))) (by decide) (backOf (W := 0) (rmleq02 l Z a0 hw [] va vb ka kb z0 z1 h0 n0 Z0 Aa Ab) hZ (hw _ (im 91 rfl)) (hw _ (im 90 rfl)) (by decide) (by decide)) (g := (mkF m 44 #[rv x0, rv x1, rv x1] [(.ref vb), (.ref va)])) rfl (by rw [hml]; rfl) (argsL := [(.ref va), (.ref vb)]) (rest := []) (lenOf pd_8 rfl) rfl (by show 2 * 0 + _ ≤ _; exact Nat.le_of_eq rfl) (hb hby d10_44) (fun _ _ => ⟨rfl, e36, (by decide : 0 + 0 ≤ _), (by decide : 0 + 0 ≤ _)⟩)
      dsimp only [Pt.U, Pt.locs, Pt.cells, Pt.slots] at X37 l37 y37 z37 st37 hQ37
      subst l37 y37 z37
      obtain ⟨rfl, N37q, e37⟩ := hQ37
      have N37 := Fr.app N0 N37q
      have P39 := own_go P0 (S' := T37.setTop (mkF m 55 #[rv x0, rv x1, rv x1] [(.int 0)])) (by
        intro t k
        refine XS.aloadN X0.here hx rfl (hb hby d10_0) rfl rfl ?_
        refine XS.aloadN X0.here hx rfl (hb hby d10_1) rfl rfl ?_
        refine Jvm.RoadKit.acmp (g := (mkF m 2 #[rv x0, rv x1, .unset] [(.ref x1), (.ref x0)])) X0 hx rfl rfl rfl (pc0 := 2) (pc' := 7) (same := false) rfl (hb hby d10_2) rfl (decide_eq_false fun q => ne_x0_x1 (Value.ref.inj q)) (by decide) (by decide) ?_
        refine XS.aloadN X0.here hx rfl (hb hby d10_7) rfl rfl ?_
        refine st27 _ ?_
        refine XS.ifNo X27.here hx rfl (hb hby d10_11) rfl ((if0 _ _).trans (feq (by decide)).1) ?_
        refine XS.aloadN X27.here hx rfl (hb hby d10_14) rfl rfl ?_
        refine st29 _ ?_
        show Steps p.tables e below (T29.setTop (mkF m 18 #[rv x0, rv x1, .unset] [(.ref x1)])) _
        refine XS.astoreN X29.here hx rfl (hb hby d10_18) rfl rfl (l' := #[rv x0, rv x1, rv x1]) rfl ?_
        refine st30 _ ?_
        refine XS.ifNo X30.here hx rfl (hb hby d10_22) rfl ((if0 _ _).trans (feq hc22_31).1) ?_
        refine XS.aloadN X30.here hx rfl (hb hby d10_25) rfl rfl ?_
        refine st32 _ ?_
        refine XS.aloadN X32.here hx rfl (hb hby d10_29) rfl rfl ?_
        refine st33 _ ?_
        refine XS.icmpNo X33.here hx rfl (hb hby d10_33) rfl (teq (by decide)).2 ?_
        show Steps p.tables e below (T33.setTop (mkF m 36 #[rv x0, rv x1, rv x1] [])) _
        refine XS.aloadN X33.here hx rfl (hb hby d10_36) rfl rfl ?_
        refine st35 _ ?_
        refine XS.aloadN X35.here hx rfl (hb hby d10_40) rfl rfl ?_
        refine st36 _ ?_
        refine st37 _ ?_
        refine XS.ifYes X37.here hx rfl (pc0 := 47) (pc' := 54) rfl (hb hby d10_47) rfl ((if0 _ _).trans (teq (by decide)).1) (by decide) (by decide) ?_
        refine XS.iconst X37.here hx rfl (hb hby d10_54) ?_
        exact k)
      obtain ⟨fs, hr, hrun, hended, hW, hsame⟩ := X37.leave (v := some (.int 0)) (fun h => by rw [Bd.returns] at h; cases h)
      refine ⟨_, _, P39 _ ?_, hrun, hended, _, _, rfl, ?_, ⟨_, rfl⟩, hW, hsame.mono (by decide) (by decide)⟩
      · show Steps p.tables e below (T37.setTop (mkF m 55 #[rv x0, rv x1, rv x1] [(.int 0)])) _
        exact retN X37 hx (t := .boolean) Bd.returns (by simp) (hb hby d10_55) hr
      · show QeqP Z x0 x1 cs as bs B1 B2 h0 n0 _ T37.heap _
        rw [e37]
        exact ⟨(by rw [ea, eb]; simp), N37, rfl⟩
  · rw [ea] at Aa
    replace Aa : Arv Z h0 va ka .byte (1 : Int32) [(.int y0)] (.int 0) := Aa
    rcases own_three bs lb with eb | ⟨z0, eb⟩ | ⟨z0, z1, eb⟩
    · rw [eb] at Ab
      replace Ab : Arv Z h0 vb kb .byte (0 : Int32) [] (.int 0) := Ab
      obtain ⟨T40, X40, e40, st40⟩ := instY X0 hx hZ hown (hw _ (im 87 rfl)) e0 (Ins.self Eb) (g := (mkF m 8 #[rv x0, rv x1, .unset] [(.ref x1)])) rfl rfl (hb hby d10_8)
      obtain ⟨T42, X42, e42, st42⟩ := castY X40 hx hZ hown (hw _ (im 87 rfl)) e40 (Ins.self Eb) (g := (mkF m 15 #[rv x0, rv x1, .unset] [(.ref x1)])) rfl rfl (hb hby d10_15)
      obtain ⟨T43, X43, e43, st43⟩ := getS2 X42 hx hZ hown (host := "") (Or.inl (hw _ (im 73 rfl))) Via.refl e42 (pre_S_COMPACT_STRINGS.ext O0.2) (g := (mkF m 19 #[rv x0, rv x1, rv x1] [])) rfl (hb hby d10_19)
      have hc22_44 : ¬ (cs = (0 : Int32)) := hcs
      obtain ⟨T45, X45, e45, st45⟩ := getF X43 hx hZ hown (host := "") (Or.inl (hw _ (im 36 rfl))) Via.refl e43 Ca (g := (mkF m 26 #[rv x0, rv x1, rv x1] [(.ref x0)])) rfl rfl (hb hby d10_26)
      obtain ⟨T46, X46, e46, st46⟩ := getF X45 hx hZ hown (host := "") (Or.inl (hw _ (im 36 rfl))) Via.refl e45 Cb (g := (mkF m 30 #[rv x0, rv x1, rv x1] [(.ref x1), (.int 0)])) rfl rfl (hb hby d10_30)
      obtain ⟨T48, X48, e48, st48⟩ := getF X46 hx hZ hown (host := "") (Or.inl (hw _ (im 35 rfl))) Via.refl e46 Va (g := (mkF m 37 #[rv x0, rv x1, rv x1] [(.ref x0)])) rfl rfl (hb hby d10_37)
      obtain ⟨T49, X49, e49, st49⟩ := getF X48 hx hZ hown (host := "") (Or.inl (hw _ (im 35 rfl))) Via.refl e48 Vb (g := (mkF m 41 #[rv x0, rv x1, rv x1] [(.ref x1), (.ref va)])) rfl rfl (hb hby d10_41)
      obtain ⟨_, _, ⟨T50, L50, k50, n50⟩, -, X50, ⟨Lc50, hQ50, l50, y50, z50⟩, st50⟩ := Jvm.LawKit.callS X49 hx (y := (⟨"java/lang/StringLatin1", "equals", "([B[B)Z"⟩ : MethodName)) hown (mvT hZ (hw _ (im 88 rfl))) (mvT hZ (hw _ (im 89 rfl))) (mvT hZ (hw _ (im 90 rfl))) (mvT hZ (hw _ (im 91 rfl))) (by decide) (backOf (W := 0) (rmleq10 l Z a0 hw [] va vb ka kb y0 h0 n0 Z0 Aa Ab) hZ (hw _ (im 91 rfl)) (hw _ (im 90 rfl)) (by decide) (by decide)) (g := (mkF m 44 #[rv x0, rv x1, rv x1] [(.ref vb), (.ref va)])) rfl (by rw [hml]; rfl) (argsL := [(.ref va), (.ref vb)]) (rest := []) (lenOf pd_8 rfl) rfl (by show 2 * 0 + _ ≤ _; exact Nat.le_of_eq rfl) (hb hby d10_44) (fun _ _ => ⟨rfl, e49, (by decide : 0 + 0 ≤ _), (by decide : 0 + 0 ≤ _)⟩)
      dsimp only [Pt.U, Pt.locs, Pt.cells, Pt.slots] at X50 l50 y50 z50 st50 hQ50
      subst l50 y50 z50
      obtain ⟨rfl, N50q, e50⟩ := hQ50
      have N50 := Fr.app N0 N50q
      have P52 := own_go P0 (S' := T50.setTop (mkF m 55 #[rv x0, rv x1, rv x1] [(.int 0)])) (by
        intro t k
        refine XS.aloadN X0.here hx rfl (hb hby d10_0) rfl rfl ?_
        refine XS.aloadN X0.here hx rfl (hb hby d10_1) rfl rfl ?_
        refine Jvm.RoadKit.acmp (g := (mkF m 2 #[rv x0, rv x1, .unset] [(.ref x1), (.ref x0)])) X0 hx rfl rfl rfl (pc0 := 2) (pc' := 7) (same := false) rfl (hb hby d10_2) rfl (decide_eq_false fun q => ne_x0_x1 (Value.ref.inj q)) (by decide) (by decide) ?_
        refine XS.aloadN X0.here hx rfl (hb hby d10_7) rfl rfl ?_
        refine st40 _ ?_
        refine XS.ifNo X40.here hx rfl (hb hby d10_11) rfl ((if0 _ _).trans (feq (by decide)).1) ?_
        refine XS.aloadN X40.here hx rfl (hb hby d10_14) rfl rfl ?_
        refine st42 _ ?_
        show Steps p.tables e below (T42.setTop (mkF m 18 #[rv x0, rv x1, .unset] [(.ref x1)])) _
        refine XS.astoreN X42.here hx rfl (hb hby d10_18) rfl rfl (l' := #[rv x0, rv x1, rv x1]) rfl ?_
        refine st43 _ ?_
        refine XS.ifNo X43.here hx rfl (hb hby d10_22) rfl ((if0 _ _).trans (feq hc22_44).1) ?_
        refine XS.aloadN X43.here hx rfl (hb hby d10_25) rfl rfl ?_
        refine st45 _ ?_
        refine XS.aloadN X45.here hx rfl (hb hby d10_29) rfl rfl ?_
        refine st46 _ ?_
        refine XS.icmpNo X46.here hx rfl (hb hby d10_33) rfl (teq (by decide)).2 ?_
        show Steps p.tables e below (T46.setTop (mkF m 36 #[rv x0, rv x1, rv x1] [])) _
        refine XS.aloadN X46.here hx rfl (hb hby d10_36) rfl rfl ?_
        refine st48 _ ?_
        refine XS.aloadN X48.here hx rfl (hb hby d10_40) rfl rfl ?_
        refine st49 _ ?_
        refine st50 _ ?_
        refine XS.ifYes X50.here hx rfl (pc0 := 47) (pc' := 54) rfl (hb hby d10_47) rfl ((if0 _ _).trans (teq (by decide)).1) (by decide) (by decide) ?_
        refine XS.iconst X50.here hx rfl (hb hby d10_54) ?_
        exact k)
      obtain ⟨fs, hr, hrun, hended, hW, hsame⟩ := X50.leave (v := some (.int 0)) (fun h => by rw [Bd.returns] at h; cases h)
      refine ⟨_, _, P52 _ ?_, hrun, hended, _, _, rfl, ?_, ⟨_, rfl⟩, hW, hsame.mono (by decide) (by decide)⟩
      · show Steps p.tables e below (T50.setTop (mkF m 55 #[rv x0, rv x1, rv x1] [(.int 0)])) _
        exact retN X50 hx (t := .boolean) Bd.returns (by simp) (hb hby d10_55) hr
      · show QeqP Z x0 x1 cs as bs B1 B2 h0 n0 _ T50.heap _
        rw [e50]
        exact ⟨(by rw [ea, eb]; simp), N50, rfl⟩
    · rw [eb] at Ab
      replace Ab : Arv Z h0 vb kb .byte (1 : Int32) [(.int z0)] (.int 0) := Ab
      obtain ⟨T53, X53, e53, st53⟩ := instY X0 hx hZ hown (hw _ (im 87 rfl)) e0 (Ins.self Eb) (g := (mkF m 8 #[rv x0, rv x1, .unset] [(.ref x1)])) rfl rfl (hb hby d10_8)
      obtain ⟨T55, X55, e55, st55⟩ := castY X53 hx hZ hown (hw _ (im 87 rfl)) e53 (Ins.self Eb) (g := (mkF m 15 #[rv x0, rv x1, .unset] [(.ref x1)])) rfl rfl (hb hby d10_15)
      obtain ⟨T56, X56, e56, st56⟩ := getS2 X55 hx hZ hown (host := "") (Or.inl (hw _ (im 73 rfl))) Via.refl e55 (pre_S_COMPACT_STRINGS.ext O0.2) (g := (mkF m 19 #[rv x0, rv x1, rv x1] [])) rfl (hb hby d10_19)
      have hc22_57 : ¬ (cs = (0 : Int32)) := hcs
      obtain ⟨T58, X58, e58, st58⟩ := getF X56 hx hZ hown (host := "") (Or.inl (hw _ (im 36 rfl))) Via.refl e56 Ca (g := (mkF m 26 #[rv x0, rv x1, rv x1] [(.ref x0)])) rfl rfl (hb hby d10_26)
      obtain ⟨T59, X59, e59, st59⟩ := getF X58 hx hZ hown (host := "") (Or.inl (hw _ (im 36 rfl))) Via.refl e58 Cb (g := (mkF m 30 #[rv x0, rv x1, rv x1] [(.ref x1), (.int 0)])) rfl rfl (hb hby d10_30)
      obtain ⟨T61, X61, e61, st61⟩ := getF X59 hx hZ hown (host := "") (Or.inl (hw _ (im 35 rfl))) Via.refl e59 Va (g := (mkF m 37 #[rv x0, rv x1, rv x1] [(.ref x0)])) rfl rfl (hb hby d10_37)
      obtain ⟨T62, X62, e62, st62⟩ := getF X61 hx hZ hown (host := "") (Or.inl (hw _ (im 35 rfl))) Via.refl e61 Vb (g := (mkF m 41 #[rv x0, rv x1, rv x1] [(.ref x1), (.ref va)])) rfl rfl (hb hby d10_41)
      obtain ⟨_, _, ⟨T63, L63, k63, n63⟩, -, X63, ⟨Lc63, hQ63, l63, y63, z63⟩, st63⟩ := Jvm.LawKit.callS X62 hx (y := (⟨"java/lang/StringLatin1", "equals", "([B[B)Z"⟩ : MethodName)) hown (mvT hZ (hw _ (im 88 rfl))) (mvT hZ (hw _ (im 89 rfl))) (mvT hZ (hw _ (im 90 rfl))) (mvT hZ (hw _ (im 91 rfl))) (by decide) (backOf (W := 0) (rmleq11 l Z a0 hw [] va vb ka kb y0 z0 h0 n0 Z0 Aa Ab) hZ (hw _ (im 91 rfl)) (hw _ (im 90 rfl)) (by decide) (by decide)) (g := (mkF m 44 #[rv x0, rv x1, rv x1] [(.ref vb), (.ref va)])) rfl (by rw [hml]; rfl) (argsL := [(.ref va), (.ref vb)]) (rest := []) (lenOf pd_8 rfl) rfl (by show 2 * 0 + _ ≤ _; exact Nat.le_of_eq rfl) (hb hby d10_44) (fun _ _ => ⟨rfl, e62, (by decide : 0 + 0 ≤ _), (by decide : 0 + 0 ≤ _)⟩)
      dsimp only [Pt.U, Pt.locs, Pt.cells, Pt.slots] at X63 l63 y63 z63 st63 hQ63
      subst l63 y63 z63
      obtain ⟨rfl, N63q, e63⟩ := hQ63
      have N63 := Fr.app N0 N63q
      have P65 := own_go P0 (S' := T63.setTop (mkF m 47 #[rv x0, rv x1, rv x1] [(.int (if y0 = z0 then (1 : Int32) else (0 : Int32)))])) (by
        intro t k
        refine XS.aloadN X0.here hx rfl (hb hby d10_0) rfl rfl ?_
        refine XS.aloadN X0.here hx rfl (hb hby d10_1) rfl rfl ?_
        refine Jvm.RoadKit.acmp (g := (mkF m 2 #[rv x0, rv x1, .unset] [(.ref x1), (.ref x0)])) X0 hx rfl rfl rfl (pc0 := 2) (pc' := 7) (same := false) rfl (hb hby d10_2) rfl (decide_eq_false fun q => ne_x0_x1 (Value.ref.inj q)) (by decide) (by decide) ?_
        refine XS.aloadN X0.here hx rfl (hb hby d10_7) rfl rfl ?_
        refine st53 _ ?_
        refine XS.ifNo X53.here hx rfl (hb hby d10_11) rfl ((if0 _ _).trans (feq (by decide)).1) ?_
        refine XS.aloadN X53.here hx rfl (hb hby d10_14) rfl rfl ?_
        refine st55 _ ?_
        show Steps p.tables e below (T55.setTop (mkF m 18 #[rv x0, rv x1, .unset] [(.ref x1)])) _
        refine XS.astoreN X55.here hx rfl (hb hby d10_18) rfl rfl (l' := #[rv x0, rv x1, rv x1]) rfl ?_
        refine st56 _ ?_
        refine XS.ifNo X56.here hx rfl (hb hby d10_22) rfl ((if0 _ _).trans (feq hc22_57).1) ?_
        refine XS.aloadN X56.here hx rfl (hb hby d10_25) rfl rfl ?_
        refine st58 _ ?_
        refine XS.aloadN X58.here hx rfl (hb hby d10_29) rfl rfl ?_
        refine st59 _ ?_
        refine XS.icmpNo X59.here hx rfl (hb hby d10_33) rfl (teq (by decide)).2 ?_
        show Steps p.tables e below (T59.setTop (mkF m 36 #[rv x0, rv x1, rv x1] [])) _
        refine XS.aloadN X59.here hx rfl (hb hby d10_36) rfl rfl ?_
        refine st61 _ ?_
        refine XS.aloadN X61.here hx rfl (hb hby d10_40) rfl rfl ?_
        refine st62 _ ?_
        refine st63 _ ?_
        exact k)
      by_cases hc47_64 : y0 = z0
      · have P66 := own_go P65 (S' := T63.setTop (mkF m 55 #[rv x0, rv x1, rv x1] [(.int 1)])) (by
          intro t k
          refine XS.ifNo X63.here hx rfl (hb hby d10_47) rfl ((if0 _ _).trans (feq (by rw [if_pos hc47_64]; decide)).1) ?_
          refine XS.iconst X63.here hx rfl (hb hby d10_50) ?_
          refine XS.goto X63.here hx rfl (pc0 := 51) (pc' := 55) rfl (hb hby d10_51) (by decide) (by decide) ?_
          exact k)
        obtain ⟨fs, hr, hrun, hended, hW, hsame⟩ := X63.leave (v := some (.int 1)) (fun h => by rw [Bd.returns] at h; cases h)
        refine ⟨_, _, P66 _ ?_, hrun, hended, _, _, rfl, ?_, ⟨_, rfl⟩, hW, hsame.mono (by decide) (by decide)⟩
        · show Steps p.tables e below (T63.setTop (mkF m 55 #[rv x0, rv x1, rv x1] [(.int 1)])) _
          exact retN X63 hx (t := .boolean) Bd.returns (by simp) (hb hby d10_55) hr
        · show QeqP Z x0 x1 cs as bs B1 B2 h0 n0 _ T63.heap _
          rw [e63]
          exact ⟨(by rw [ea, eb]; simp [hc47_64]), N63, rfl⟩
      · have P67 := own_go P65 (S' := T63.setTop (mkF m 55 #[rv x0, rv x1, rv x1] [(.int 0)])) (by
          intro t k
          refine XS.ifYes X63.here hx rfl (pc0 := 47) (pc' := 54) rfl (hb hby d10_47) rfl ((if0 _ _).trans (teq (if_neg hc47_64)).1) (by decide) (by decide) ?_
          refine XS.iconst X63.here hx rfl (hb hby d10_54) ?_
          exact k)
        obtain ⟨fs, hr, hrun, hended, hW, hsame⟩ := X63.leave (v := some (.int 0)) (fun h => by rw [Bd.returns] at h; cases h)
        refine ⟨_, _, P67 _ ?_, hrun, hended, _, _, rfl, ?_, ⟨_, rfl⟩, hW, hsame.mono (by decide) (by decide)⟩
        · show Steps p.tables e below (T63.setTop (mkF m 55 #[rv x0, rv x1, rv x1] [(.int 0)])) _
          exact retN X63 hx (t := .boolean) Bd.returns (by simp) (hb hby d10_55) hr
        · show QeqP Z x0 x1 cs as bs B1 B2 h0 n0 _ T63.heap _
          rw [e63]
          exact ⟨(by rw [ea, eb]; simp [hc47_64]), N63, rfl⟩
    · rw [eb] at Ab
      replace Ab : Arv Z h0 vb kb .byte (2 : Int32) [(.int z0), (.int z1)] (.int 0) := Ab
      obtain ⟨T68, X68, e68, st68⟩ := instY X0 hx hZ hown (hw _ (im 87 rfl)) e0 (Ins.self Eb) (g := (mkF m 8 #[rv x0, rv x1, .unset] [(.ref x1)])) rfl rfl (hb hby d10_8)
      obtain ⟨T70, X70, e70, st70⟩ := castY X68 hx hZ hown (hw _ (im 87 rfl)) e68 (Ins.self Eb) (g := (mkF m 15 #[rv x0, rv x1, .unset] [(.ref x1)])) rfl rfl (hb hby d10_15)
      obtain ⟨T71, X71, e71, st71⟩ := getS2 X70 hx hZ hown (host := "") (Or.inl (hw _ (im 73 rfl))) Via.refl e70 (pre_S_COMPACT_STRINGS.ext O0.2) (g := (mkF m 19 #[rv x0, rv x1, rv x1] [])) rfl (hb hby d10_19)
      have hc22_72 : ¬ (cs = (0 : Int32)) := hcs
      obtain ⟨T73, X73, e73, st73⟩ := getF X71 hx hZ hown (host := "") (Or.inl (hw _ (im 36 rfl))) Via.refl e71 Ca (g := (mkF m 26 #[rv x0, rv x1, rv x1] [(.ref x0)])) rfl rfl (hb hby d10_26)
      obtain ⟨T74, X74, e74, st74⟩ := getF X73 hx hZ hown (host := "") (Or.inl (hw _ (im 36 rfl))) Via.refl e73 Cb (g := (mkF m 30 #[rv x0, rv x1, rv x1] [(.ref x1), (.int 0)])) rfl rfl (hb hby d10_30)
      obtain ⟨T76, X76, e76, st76⟩ := getF X74 hx hZ hown (host := "") (Or.inl (hw _ (im 35 rfl))) Via.refl e74 Va (g := (mkF m 37 #[rv x0, rv x1, rv x1] [(.ref x0)])) rfl rfl (hb hby d10_37)
      obtain ⟨T77, X77, e77, st77⟩ := getF X76 hx hZ hown (host := "") (Or.inl (hw _ (im 35 rfl))) Via.refl e76 Vb (g := (mkF m 41 #[rv x0, rv x1, rv x1] [(.ref x1), (.ref va)])) rfl rfl (hb hby d10_41)
      obtain ⟨_, _, ⟨T78, L78, k78, n78⟩, -, X78, ⟨Lc78, hQ78, l78, y78, z78⟩, st78⟩ := Jvm.LawKit.callS X77 hx (y := (⟨"java/lang/StringLatin1", "equals", "([B[B)Z"⟩ : MethodName)) hown (mvT hZ (hw _ (im 88 rfl))) (mvT hZ (hw _ (im 89 rfl))) (mvT hZ (hw _ (im 90 rfl))) (mvT hZ (hw _ (im 91 rfl))) (by decide) (backOf (W := 0) (rmleq12 l Z a0 hw [] va vb ka kb y0 z0 z1 h0 n0 Z0 Aa Ab) hZ (hw _ (im 91 rfl)) (hw _ (im 90 rfl)) (by decide) (by decide)) (g := (mkF m 44 #[rv x0, rv x1, rv x1] [(.ref vb), (.ref va)])) rfl (by rw [hml]; rfl) (argsL := [(.ref va), (.ref vb)]) (rest := []) (lenOf pd_8 rfl) rfl (by show 2 * 0 + _ ≤ _; exact Nat.le_of_eq rfl) (hb hby d10_44) (fun _ _ => ⟨rfl, e77, (by decide : 0 + 0 ≤ _), (by decide : 0 + 0 ≤ _)⟩)
      dsimp only [Pt.U, Pt.locs, Pt.cells, Pt.slots] at X78 l78 y78 z78 st78 hQ78
      subst l78 y78 z78
      obtain ⟨rfl, N78q, e78⟩ := hQ78
      have N78 := Fr.app N0 N78q
      have P80 := own_go P0 (S' := T78.setTop (mkF m 55 #[rv x0, rv x1, rv x1] [(.int 0)])) (by
        intro t k
        refine XS.aloadN X0.here hx rfl (hb hby d10_0) rfl rfl ?_
        refine XS.aloadN X0.here hx rfl (hb hby d10_1) rfl rfl ?_
        refine Jvm.RoadKit.acmp (g := (mkF m 2 #[rv x0, rv x1, .unset] [(.ref x1), (.ref x0)])) X0 hx rfl rfl rfl (pc0 := 2) (pc' := 7) (same := false) rfl (hb hby d10_2) rfl (decide_eq_false fun q => ne_x0_x1 (Value.ref.inj q)) (by decide) (by decide) ?_
        refine XS.aloadN X0.here hx rfl (hb hby d10_7) rfl rfl ?_
        refine st68 _ ?_
        refine XS.ifNo X68.here hx rfl (hb hby d10_11) rfl ((if0 _ _).trans (feq (by decide)).1) ?_
        refine XS.aloadN X68.here hx rfl (hb hby d10_14) rfl rfl ?_
        refine st70 _ ?_
        show Steps p.tables e below (T70.setTop (mkF m 18 #[rv x0, rv x1, .unset] [(.ref x1)])) _
        refine XS.astoreN X70.here hx rfl (hb hby d10_18) rfl rfl (l' := #[rv x0, rv x1, rv x1]) rfl ?_
        refine st71 _ ?_
        refine XS.ifNo X71.here hx rfl (hb hby d10_22) rfl ((if0 _ _).trans (feq hc22_72).1) ?_
        refine XS.aloadN X71.here hx rfl (hb hby d10_25) rfl rfl ?_
        refine st73 _ ?_
        refine XS.aloadN X73.here hx rfl (hb hby d10_29) rfl rfl ?_
        refine st74 _ ?_
        refine XS.icmpNo X74.here hx rfl (hb hby d10_33) rfl (teq (by decide)).2 ?_
        show Steps p.tables e below (T74.setTop (mkF m 36 #[rv x0, rv x1, rv x1] [])) _
        refine XS.aloadN X74.here hx rfl (hb hby d10_36) rfl rfl ?_
        refine st76 _ ?_
        refine XS.aloadN X76.here hx rfl (hb hby d10_40) rfl rfl ?_
        refine st77 _ ?_
        refine st78 _ ?_
        refine XS.ifYes X78.here hx rfl (pc0 := 47) (pc' := 54) rfl (hb hby d10_47) rfl ((if0 _ _).trans (teq (by decide)).1) (by decide) (by decide) ?_
        refine XS.iconst X78.here hx rfl (hb hby d10_54) ?_
        exact k)
      obtain ⟨fs, hr, hrun, hended, hW, hsame⟩ := X78.leave (v := some (.int 0)) (fun h => by rw [Bd.returns] at h; cases h)
      refine ⟨_, _, P80 _ ?_, hrun, hended, _, _, rfl, ?_, ⟨_, rfl⟩, hW, hsame.mono (by decide) (by decide)⟩
      · show Steps p.tables e below (T78.setTop (mkF m 55 #[rv x0, rv x1, rv x1] [(.int 0)])) _
        exact retN X78 hx (t := .boolean) Bd.returns (by simp) (hb hby d10_55) hr
      · show QeqP Z x0 x1 cs as bs B1 B2 h0 n0 _ T78.heap _
        rw [e78]
        exact ⟨(by rw [ea, eb]; simp), N78, rfl⟩
  · rw [ea] at Aa
    replace Aa : Arv Z h0 va ka .byte (2 : Int32) [(.int y0), (.int y1)] (.int 0) := Aa
    rcases own_three bs lb with eb | ⟨z0, eb⟩ | ⟨z0, z1, eb⟩
    · rw [eb] at Ab
      replace Ab : Arv Z h0 vb kb .byte (0 : Int32) [] (.int 0) := Ab
      obtain ⟨T81, X81, e81, st81⟩ := instY X0 hx hZ hown (hw _ (im 87 rfl)) e0 (Ins.self Eb) (g := (mkF m 8 #[rv x0, rv x1, .unset] [(.ref x1)])) rfl rfl (hb hby d10_8)
      obtain ⟨T83, X83, e83, st83⟩ := castY X81 hx hZ hown (hw _ (im 87 rfl)) e81 (Ins.self Eb) (g := (mkF m 15 #[rv x0, rv x1, .unset] [(.ref x1)])) rfl rfl (hb hby d10_15)
      obtain ⟨T84, X84, e84, st84⟩ := getS2 X83 hx hZ hown (host := "") (Or.inl (hw _ (im 73 rfl))) Via.refl e83 (pre_S_COMPACT_STRINGS.ext O0.2) (g := (mkF m 19 #[rv x0, rv x1, rv x1] [])) rfl (hb hby d10_19)
      have hc22_85 : ¬ (cs = (0 : Int32)) := hcs
      obtain ⟨T86, X86, e86, st86⟩ := getF X84 hx hZ hown (host := "") (Or.inl (hw _ (im 36 rfl))) Via.refl e84 Ca (g := (mkF m 26 #[rv x0, rv x1, rv x1] [(.ref x0)])) rfl rfl (hb hby d10_26)
      obtain ⟨T87, X87, e87, st87⟩ := getF X86 hx hZ hown (host := "") (Or.inl (hw _ (im 36 rfl))) Via.refl e86 Cb (g := (mkF m 30 #[rv x0, rv x1, rv x1] [(.ref x1), (.int 0)])) rfl rfl (hb hby d10_30)
      obtain ⟨T89, X89, e89, st89⟩ := getF X87 hx hZ hown (host := "") (Or.inl (hw _ (im 35 rfl))) Via.refl e87 Va (g := (mkF m 37 #[rv x0, rv x1, rv x1] [(.ref x0)])) rfl rfl (hb hby d10_37)
      obtain ⟨T90, X90, e90, st90⟩ := getF X89 hx hZ hown (host := "") (Or.inl (hw _ (im 35 rfl))) Via.refl e89 Vb (g := (mkF m 41 #[rv x0, rv x1, rv x1] [(.ref x1), (.ref va)])) rfl rfl (hb hby d10_41)
      obtain ⟨_, _, ⟨T91, L91, k91, n91⟩, -, X91, ⟨Lc91, hQ91, l91, y91, z91⟩, st91⟩ := Jvm.LawKit.callS X90 hx (y := (⟨"java/lang/StringLatin1", "equals", "([B[B)Z"⟩ : MethodName)) hown (mvT hZ (hw _ (im 88 rfl))) (mvT hZ (hw _ (im 89 rfl))) (mvT hZ (hw _ (im 90 rfl))) (mvT hZ (hw _ (im 91 rfl))) (by decide) (backOf (W := 0) (rmleq20 l Z a0 hw [] va vb ka kb y0 y1 h0 n0 Z0 Aa Ab) hZ (hw _ (im 91 rfl)) (hw _ (im 90 rfl)) (by decide) (by decide)) (g := (mkF m 44 #[rv x0, rv x1, rv x1] [(.ref vb), (.ref va)])) rfl (by rw [hml]; rfl) (argsL := [(.ref va), (.ref vb)]) (rest := []) (lenOf pd_8 rfl) rfl (by show 2 * 0 + _ ≤ _; exact Nat.le_of_eq rfl) (hb hby d10_44) (fun _ _ => ⟨rfl, e90, (by decide : 0 + 0 ≤ _), (by decide : 0 + 0 ≤ _)⟩)
      dsimp only [Pt.U, Pt.locs, Pt.cells, Pt.slots] at X91 l91 y91 z91 st91 hQ91
      subst l91 y91 z91
      obtain ⟨rfl, N91q, e91⟩ := hQ91
      have N91 := Fr.app N0 N91q
      have P93 := own_go P0 (S' := T91.setTop (mkF m 55 #[rv x0, rv x1, rv x1] [(.int 0)])) (by
        intro t k
        refine XS.aloadN X0.here hx rfl (hb hby d10_0) rfl rfl ?_
        refine XS.aloadN X0.here hx rfl (hb hby d10_1) rfl rfl ?_
        refine Jvm.RoadKit.acmp (g := (mkF m 2 #[rv x0, rv x1, .unset] [(.ref x1), (.ref x0)])) X0 hx rfl rfl rfl (pc0 := 2) (pc' := 7) (same := false) rfl (hb hby d10_2) rfl (decide_eq_false fun q => ne_x0_x1 (Value.ref.inj q)) (by decide) (by decide) ?_
        refine XS.aloadN X0.here hx rfl (hb hby d10_7) rfl rfl ?_
        refine st81 _ ?_
        refine XS.ifNo X81.here hx rfl (hb hby d10_11) rfl ((if0 _ _).trans (feq (by decide)).1) ?_
        refine XS.aloadN X81.here hx rfl (hb hby d10_14) rfl rfl ?_
        refine st83 _ ?_
        show Steps p.tables e below (T83.setTop (mkF m 18 #[rv x0, rv x1, .unset] [(.ref x1)])) _
        refine XS.astoreN X83.here hx rfl (hb hby d10_18) rfl rfl (l' := #[rv x0, rv x1, rv x1]) rfl ?_
        refine st84 _ ?_
        refine XS.ifNo X84.here hx rfl (hb hby d10_22) rfl ((if0 _ _).trans (feq hc22_85).1) ?_
        refine XS.aloadN X84.here hx rfl (hb hby d10_25) rfl rfl ?_
        refine st86 _ ?_
        refine XS.aloadN X86.here hx rfl (hb hby d10_29) rfl rfl ?_
        refine st87 _ ?_
        refine XS.icmpNo X87.here hx rfl (hb hby d10_33) rfl (teq (by decide)).2 ?_
        show Steps p.tables e below (T87.setTop (mkF m 36 #[rv x0, rv x1, rv x1] [])) _
        refine XS.aloadN X87.here hx rfl (hb hby d10_36) rfl rfl ?_
        refine st89 _ ?_
        refine XS.aloadN X89.here hx rfl (hb hby d10_40) rfl rfl ?_
        refine st90 _ ?_
        refine st91 _ ?_
        refine XS.ifYes X91.here hx rfl (pc0 := 47) (pc' := 54) rfl (hb hby d10_47) rfl ((if0 _ _).trans (teq (by decide)).1) (by decide) (by decide) ?_
        refine XS.iconst X91.here hx rfl (hb hby d10_54) ?_
        exact k)
      obtain ⟨fs, hr, hrun, hended, hW, hsame⟩ := X91.leave (v := some (.int 0)) (fun h => by rw [Bd.returns] at h; cases h)
      refine ⟨_, _, P93 _ ?_, hrun, hended, _, _, rfl, ?_, ⟨_, rfl⟩, hW, hsame.mono (by decide) (by decide)⟩
      · show Steps p.tables e below (T91.setTop (mkF m 55 #[rv x0, rv x1, rv x1] [(.int 0)])) _
        exact retN X91 hx (t := .boolean) Bd.returns (by simp) (hb hby d10_55) hr
      · show QeqP Z x0 x1 cs as bs B1 B2 h0 n0 _ T91.heap _
        rw [e91]
        exact ⟨(by rw [ea, eb]; simp), N91, rfl⟩
    · rw [eb] at Ab
      replace Ab : Arv Z h0 vb kb .byte (1 : Int32) [(.int z0)] (.int 0) := Ab
      obtain ⟨T94, X94, e94, st94⟩ := instY X0 hx hZ hown (hw _ (im 87 rfl)) e0 (Ins.self Eb) (g := (mkF m 8 #[rv x0, rv x1, .unset] [(.ref x1)])) rfl rfl (hb hby d10_8)
      obtain ⟨T96, X96, e96, st96⟩ := castY X94 hx hZ hown (hw _ (im 87 rfl)) e94 (Ins.self Eb) (g := (mkF m 15 #[rv x0, rv x1, .unset] [(.ref x1)])) rfl rfl (hb hby d10_15)
      obtain ⟨T97, X97, e97, st97⟩ := getS2 X96 hx hZ hown (host := "") (Or.inl (hw _ (im 73 rfl))) Via.refl e96 (pre_S_COMPACT_STRINGS.ext O0.2) (g := (mkF m 19 #[rv x0, rv x1, rv x1] [])) rfl (hb hby d10_19)
      have hc22_98 : ¬ (cs = (0 : Int32)) := hcs
      obtain ⟨T99, X99, e99, st99⟩ := getF X97 hx hZ hown (host := "") (Or.inl (hw _ (im 36 rfl))) Via.refl e97 Ca (g := (mkF m 26 #[rv x0, rv x1, rv x1] [(.ref x0)])) rfl rfl (hb hby d10_26)
      obtain ⟨T100, X100, e100, st100⟩ := getF X99 hx hZ hown (host := "") (Or.inl (hw _ (im 36 rfl))) Via.refl e99 Cb (g := (mkF m 30 #[rv x0, rv x1, rv x1] [(.ref x1), (.int 0)])) rfl rfl (hb hby d10_30)
      obtain ⟨T102, X102, e102, st102⟩ := getF X100 hx hZ hown (host := "") (Or.inl (hw _ (im 35 rfl))) Via.refl e100 Va (g := (mkF m 37 #[rv x0, rv x1, rv x1] [(.ref x0)])) rfl rfl (hb hby d10_37)
      obtain ⟨T103, X103, e103, st103⟩ := getF X102 hx hZ hown (host := "") (Or.inl (hw _ (im 35 rfl))) Via.refl e102 Vb (g := (mkF m 41 #[rv x0, rv x1, rv x1] [(.ref x1), (.ref va)])) rfl rfl (hb hby d10_41)
      obtain ⟨_, _, ⟨T104, L104, k104, n104⟩, -, X104, ⟨Lc104, hQ104, l104, y104, z104⟩, st104⟩ := Jvm.LawKit.callS X103 hx (y := (⟨"java/lang/StringLatin1", "equals", "([B[B)Z"⟩ : MethodName)) hown (mvT hZ (hw _ (im 88 rfl))) (mvT hZ (hw _ (im 89 rfl))) (mvT hZ (hw _ (im 90 rfl))) (mvT hZ (hw _ (im 91 rfl))) (by decide) (backOf (W := 0) (rmleq21 l Z a0 hw [] va vb ka kb y0 y1 z0 h0 n0 Z0 Aa Ab) hZ (hw _ (im 91 rfl)) (hw _ (im 90 rfl)) (by decide) (by decide)) (g := (mkF m 44 #[rv x0, rv x1, rv x1] [(.ref vb), (.ref va)])) rfl (by rw [hml]; rfl) (argsL := [(.ref va), (.ref vb)]) (rest := []) (lenOf pd_8 rfl) rfl (by show 2 * 0 + _ ≤ _; exact Nat.le_of_eq rfl) (hb hby d10_44) (fun _ _ => ⟨rfl, e103, (by decide : 0 + 0 ≤ _), (by decide : 0 + 0 ≤ _)⟩)
      dsimp only [Pt.U, Pt.locs, Pt.cells, Pt.slots] at X104 l104 y104 z104 st104 hQ104
      subst l104 y104 z104
      obtain ⟨rfl, N104q, e104⟩ := hQ104
      have N104 := Fr.app N0 N104q
      have P106 := own_go P0 (S' := T104.setTop (mkF m 55 #[rv x0, rv x1, rv x1] [(.int 0)])) (by
        intro t k
        refine XS.aloadN X0.here hx rfl (hb hby d10_0) rfl rfl ?_
        refine XS.aloadN X0.here hx rfl (hb hby d10_1) rfl rfl ?_
        refine Jvm.RoadKit.acmp (g := (mkF m 2 #[rv x0, rv x1, .unset] [(.ref x1), (.ref x0)])) X0 hx rfl rfl rfl (pc0 := 2) (pc' := 7) (same := false) rfl (hb hby d10_2) rfl (decide_eq_false fun q => ne_x0_x1 (Value.ref.inj q)) (by decide) (by decide) ?_
        refine XS.aloadN X0.here hx rfl (hb hby d10_7) rfl rfl ?_
        refine st94 _ ?_
        refine XS.ifNo X94.here hx rfl (hb hby d10_11) rfl ((if0 _ _).trans (feq (by decide)).1) ?_
        refine XS.aloadN X94.here hx rfl (hb hby d10_14) rfl rfl ?_
        refine st96 _ ?_
        show Steps p.tables e below (T96.setTop (mkF m 18 #[rv x0, rv x1, .unset] [(.ref x1)])) _
        refine XS.astoreN X96.here hx rfl (hb hby d10_18) rfl rfl (l' := #[rv x0, rv x1, rv x1]) rfl ?_
        refine st97 _ ?_
        refine XS.ifNo X97.here hx rfl (hb hby d10_22) rfl ((if0 _ _).trans (feq hc22_98).1) ?_
        refine XS.aloadN X97.here hx rfl (hb hby d10_25) rfl rfl ?_
        refine st99 _ ?_
        refine XS.aloadN X99.here hx rfl (hb hby d10_29) rfl rfl ?_
        refine st100 _ ?_
        refine XS.icmpNo X100.here hx rfl (hb hby d10_33) rfl (teq (by decide)).2 ?_
        show Steps p.tables e below (T100.setTop (mkF m 36 #[rv x0, rv x1, rv x1] [])) _
        refine XS.aloadN X100.here hx rfl (hb hby d10_36) rfl rfl ?_
        refine st102 _ ?_
        refine XS.aloadN X102.here hx rfl (hb hby d10_40) rfl rfl ?_
        refine st103 _ ?_
        refine st104 _ ?_
        refine XS.ifYes X104.here hx rfl (pc0 := 47) (pc' := 54) rfl (hb hby d10_47) rfl ((if0 _ _).trans (teq (by decide)).1) (by decide) (by decide) ?_
        refine XS.iconst X104.here hx rfl (hb hby d10_54) ?_
        exact k)
      obtain ⟨fs, hr, hrun, hended, hW, hsame⟩ := X104.leave (v := some (.int 0)) (fun h => by rw [Bd.returns] at h; cases h)
      refine ⟨_, _, P106 _ ?_, hrun, hended, _, _, rfl, ?_, ⟨_, rfl⟩, hW, hsame.mono (by decide) (by decide)⟩
      · show Steps p.tables e below (T104.setTop (mkF m 55 #[rv x0, rv x1, rv x1] [(.int 0)])) _
        exact retN X104 hx (t := .boolean) Bd.returns (by simp) (hb hby d10_55) hr
      · show QeqP Z x0 x1 cs as bs B1 B2 h0 n0 _ T104.heap _
        rw [e104]
        exact ⟨(by rw [ea, eb]; simp), N104, rfl⟩
    · rw [eb] at Ab
      replace Ab : Arv Z h0 vb kb .byte (2 : Int32) [(.int z0), (.int z1)] (.int 0) := Ab
      obtain ⟨T107, X107, e107, st107⟩ := instY X0 hx hZ hown (hw _ (im 87 rfl)) e0 (Ins.self Eb) (g := (mkF m 8 #[rv x0, rv x1, .unset] [(.ref x1)])) rfl rfl (hb hby d10_8)
      obtain ⟨T109, X109, e109, st109⟩ := castY X107 hx hZ hown (hw _ (im 87 rfl)) e107 (Ins.self Eb) (g := (mkF m 15 #[rv x0, rv x1, .unset] [(.ref x1)])) rfl rfl (hb hby d10_15)
      obtain ⟨T110, X110, e110, st110⟩ := getS2 X109 hx hZ hown (host := "") (Or.inl (hw _ (im 73 rfl))) Via.refl e109 (pre_S_COMPACT_STRINGS.ext O0.2) (g := (mkF m 19 #[rv x0, rv x1, rv x1] [])) rfl (hb hby d10_19)
      have hc22_111 : ¬ (cs = (0 : Int32)) := hcs
      obtain ⟨T112, X112, e112, st112⟩ := getF X110 hx hZ hown (host := "") (Or.inl (hw _ (im 36 rfl))) Via.refl e110 Ca (g := (mkF m 26 #[rv x0, rv x1, rv x1] [(.ref x0)])) rfl rfl (hb hby d10_26)
      obtain ⟨T113, X113, e113, st113⟩ := getF X112 hx hZ hown (host := "") (Or.inl (hw _ (im 36 rfl))) Via.refl e112 Cb (g := (mkF m 30 #[rv x0, rv x1, rv x1] [(.ref x1), (.int 0)])) rfl rfl (hb hby d10_30)
      obtain ⟨T115, X115, e115, st115⟩ := getF X113 hx hZ hown (host := "") (Or.inl (hw _ (im 35 rfl))) Via.refl e113 Va (g := (mkF m 37 #[rv x0, rv x1, rv x1] [(.ref x0)])) rfl rfl (hb hby d10_37)
      obtain ⟨T116, X116, e116, st116⟩ := getF X115 hx hZ hown (host := "") (Or.inl (hw _ (im 35 rfl))) Via.refl e115 Vb (g := (mkF m 41 #[rv x0, rv x1, rv x1] [(.ref x1), (.ref va)])) rfl rfl (hb hby d10_41)
      obtain ⟨_, _, ⟨T117, L117, k117, n117⟩, -, X117, ⟨Lc117, hQ117, l117, y117, z117⟩, st117⟩ := Jvm.LawKit.callS X116 hx (y := (⟨"java/lang/StringLatin1", "equals", "([B[B)Z"⟩ : MethodName)) hown (mvT hZ (hw _ (im 88 rfl))) (mvT hZ (hw _ (im 89 rfl))) (mvT hZ (hw _ (im 90 rfl))) (mvT hZ (hw _ (im 91 rfl))) (by decide) (backOf (W := 0) (rmleq22 l Z a0 hw [] va vb ka kb y0 y1 z0 z1 h0 n0 Z0 Aa Ab) hZ (hw _ (im 91 rfl)) (hw _ (im 90 rfl)) (by decide) (by decide)) (g := (mkF m 44 #[rv x0, rv x1, rv x1] [(.ref vb), (.ref va)])) rfl (by rw [hml]; rfl) (argsL := [(.ref va), (.ref vb)]) (rest := []) (lenOf pd_8 rfl) rfl (by show 2 * 0 + _ ≤ _; exact Nat.le_of_eq rfl) (hb hby d10_44) (fun _ _ => ⟨rfl, e116, (by decide : 0 + 0 ≤ _), (by decide : 0 + 0 ≤ _)⟩)
      dsimp only [Pt.U, Pt.locs, Pt.cells, Pt.slots] at X117 l117 y117 z117 st117 hQ117
      subst l117 y117 z117
      obtain ⟨rfl, N117q, e117⟩ := hQ117
      have N117 := Fr.app N0 N117q
      have P119 := own_go P0 (S' := T117.setTop (mkF m 47 #[rv x0, rv x1, rv x1] [(.int (if (y0 = z0 ∧ y1 = z1) then (1 : Int32) else (0 : Int32)))])) (by
        intro t k
        refine XS.aloadN X0.here hx rfl (hb hby d10_0) rfl rfl ?_
        refine XS.aloadN X0.here hx rfl (hb hby d10_1) rfl rfl ?_
        refine Jvm.RoadKit.acmp (g := (mkF m 2 #[rv x0, rv x1, .unset] [(.ref x1), (.ref x0)])) X0 hx rfl rfl rfl (pc0 := 2) (pc' := 7) (same := false) rfl (hb hby d10_2) rfl (decide_eq_false fun q => ne_x0_x1 (Value.ref.inj q)) (by decide) (by decide) ?_
        refine XS.aloadN X0.here hx rfl (hb hby d10_7) rfl rfl ?_
        refine st107 _ ?_
        refine XS.ifNo X107.here hx rfl (hb hby d10_11) rfl ((if0 _ _).trans (feq (by decide)).1) ?_
        refine XS.aloadN X107.here hx rfl (hb hby d10_14) rfl rfl ?_
        refine st109 _ ?_
        show Steps p.tables e below (T109.setTop (mkF m 18 #[rv x0, rv x1, .unset] [(.ref x1)])) _
        refine XS.astoreN X109.here hx rfl (hb hby d10_18) rfl rfl (l' := #[rv x0, rv x1, rv x1]) rfl ?_
        refine st110 _ ?_
        refine XS.ifNo X110.here hx rfl (hb hby d10_22) rfl ((if0 _ _).trans (feq hc22_111).1) ?_
        refine XS.aloadN X110.here hx rfl (hb hby d10_25) rfl rfl ?_
        refine st112 _ ?_
        refine XS.aloadN X112.here hx rfl (hb hby d10_29) rfl rfl ?_
        refine st113 _ ?_
        refine XS.icmpNo X113.here hx rfl (hb hby d10_33) rfl (teq (by decide)).2 ?_
        show Steps p.tables e below (T113.setTop (mkF m 36 #[rv x0, rv x1, rv x1] [])) _
        refine XS.aloadN X113.here hx rfl (hb hby d10_36) rfl rfl ?_
        refine st115 _ ?_
        refine XS.aloadN X115.here hx rfl (hb hby d10_40) rfl rfl ?_
        refine st116 _ ?_
        refine st117 _ ?_
        exact k)
      by_cases hc47_118 : (y0 = z0 ∧ y1 = z1)
      · have P120 := own_go P119 (S' := T117.setTop (mkF m 55 #[rv x0, rv x1, rv x1] [(.int 1)])) (by
          intro t k
          refine XS.ifNo X117.here hx rfl (hb hby d10_47) rfl ((if0 _ _).trans (feq (by rw [if_pos hc47_118]; decide)).1) ?_
          refine XS.iconst X117.here hx rfl (hb hby d10_50) ?_
          refine XS.goto X117.here hx rfl (pc0 := 51) (pc' := 55) rfl (hb hby d10_51) (by decide) (by decide) ?_
          exact k)
        obtain ⟨fs, hr, hrun, hended, hW, hsame⟩ := X117.leave (v := some (.int 1)) (fun h => by rw [Bd.returns] at h; cases h)
        refine ⟨_, _, P120 _ ?_, hrun, hended, _, _, rfl, ?_, ⟨_, rfl⟩, hW, hsame.mono (by decide) (by decide)⟩
        · show Steps p.tables e below (T117.setTop (mkF m 55 #[rv x0, rv x1, rv x1] [(.int 1)])) _
          exact retN X117 hx (t := .boolean) Bd.returns (by simp) (hb hby d10_55) hr
        · show QeqP Z x0 x1 cs as bs B1 B2 h0 n0 _ T117.heap _
          rw [e117]
          exact ⟨(by rw [ea, eb]; simp [hc47_118]), N117, rfl⟩
      · have P121 := own_go P119 (S' := T117.setTop (mkF m 55 #[rv x0, rv x1, rv x1] [(.int 0)])) (by
          intro t k
          refine XS.ifYes X117.here hx rfl (pc0 := 47) (pc' := 54) rfl (hb hby d10_47) rfl ((if0 _ _).trans (teq (if_neg hc47_118)).1) (by decide) (by decide) ?_
          refine XS.iconst X117.here hx rfl (hb hby d10_54) ?_
          exact k)
        obtain ⟨fs, hr, hrun, hended, hW, hsame⟩ := X117.leave (v := some (.int 0)) (fun h => by rw [Bd.returns] at h; cases h)
        refine ⟨_, _, P121 _ ?_, hrun, hended, _, _, rfl, ?_, ⟨_, rfl⟩, hW, hsame.mono (by decide) (by decide)⟩
        · show Steps p.tables e below (T117.setTop (mkF m 55 #[rv x0, rv x1, rv x1] [(.int 0)])) _
          exact retN X117 hx (t := .boolean) Bd.returns (by simp) (hb hby d10_55) hr
        · show QeqP Z x0 x1 cs as bs B1 B2 h0 n0 _ T117.heap _
          rw [e117]
          exact ⟨(by rw [ea, eb]; simp [hc47_118]), N117, rfl⟩
def QeqS (Z : State) (x0 : Addr) (h0 : Heap) (n0 : Nat) (v : Option Value) (h : Heap) (L : List Loc) : Prop := v = some (.int 1) ∧ Fr n0 L ∧ h = h0
theorem ef_eqS (m : MethodId) (x0 : Addr) : entryFrame m #[(.ref x0), (.ref x0)] 3 = mkF m 0 #[rv x0, rv x0, .unset] [] := by first | (simp [entryFrame, mkF, argsToLocals, Value.category]; done) | rfl
set_option maxRecDepth 65536 in
set_option maxHeartbeats 40000000 in
theorem rmeqS (l : Launch) (Z : State) (a0 : Array Value) (hw : ∀ d ∈ tables_1, d.before a0 Z = true) (ws : List Jvm.Cond) (x0 : Addr) (h0 : Heap) (n0 : Nat) (Z0 : n0 ≤ h0.size) :
    MetFree l (⟨"java/lang/String", "equals", "(Ljava/lang/Object;)Z"⟩ : MethodName) (head1 (Jvm.Cond.code (⟨"java/lang/String", "equals", "(Ljava/lang/Object;)Z"⟩ : MethodName) jdk_42_method_66_code 3 (some .boolean) :: ws) ({ frames := 0, cells := 0, slots := 0, locals := 0 } : Room)) (fun a U => a = #[(.ref x0), (.ref x0)] ∧ Z.Warmed39 U.vm ∧ U.heap = h0) (fun _ _ _ _ _ => True) (fun _ U o U' => ∃ v L, o = .returned v ∧ QeqS Z x0 h0 n0 v U'.heap L ∧ FrameEnd U o U' L ({ frames := 0, cells := 0, slots := 0, locals := 0 } : Room).cells ({ frames := 0, cells := 0, slots := 0, locals := 0 } : Room).slots) := by
  refine MetFree.of_bodySF (plainFor_of_name pn_10) hisR ?_
  intro p e s m args below meth c s₁ Bd hml0 hP hK
  obtain ⟨rfl, hZ, hh⟩ := hP
  have hx := Bd.exec
  have hby := Bd.bytes
  have hml : c.maxLocals = 3 := hml0
  have hown : s.vm.findClass "java/lang/String" = some m.cls := findClass_of_methodNamed Bd.named
  have hnm := (name_of_methodNamed Bd.named Bd.method).1
  have X0 : Stand p l e ({ frames := 0, cells := 0, slots := 0, locals := 0 } : Room) s m #[(.ref x0), (.ref x0)] below meth c s₁ [] 0 0 := Stand.of_body Bd
  have e0 : s₁.heap = h0 := by rw [← hh, Bd.state]; rfl
  have N0 := Fr.nil n0
  have Kp0 := Keep.refl h0 []
  have P0 : ∀ t, Steps p.tables e below (s₁.setTop (mkF m 0 #[rv x0, rv x0, .unset] [])) t → Steps p.tables e below (s₁.setTop (entryFrame m #[(.ref x0), (.ref x0)] 3)) t := fun t k => castTop (ef_eqS m x0) k
  have P1 := own_go P0 (S' := s₁.setTop (mkF m 6 #[rv x0, rv x0, .unset] [(.int 1)])) (by
    intro t k
    refine XS.aloadN X0.here hx rfl (hb hby d10_0) rfl rfl ?_
    refine XS.aloadN X0.here hx rfl (hb hby d10_1) rfl rfl ?_
    refine Jvm.RoadKit.acmp (g := (mkF m 2 #[rv x0, rv x0, .unset] [(.ref x0), (.ref x0)])) X0 hx rfl rfl rfl (pc0 := 2) (pc' := 5) (same := true) rfl (hb hby d10_2) rfl (decide_eq_true rfl) (by decide) (by decide) ?_
    refine XS.iconst X0.here hx rfl (hb hby d10_5) ?_
    exact k)
  obtain ⟨fs, hr, hrun, hended, hW, hsame⟩ := X0.leave (v := some (.int 1)) (fun h => by rw [Bd.returns] at h; cases h)
  refine ⟨_, _, P1 _ ?_, hrun, hended, _, _, rfl, ?_, ⟨_, rfl⟩, hW, hsame.mono (by decide) (by decide)⟩
  · show Steps p.tables e below (s₁.setTop (mkF m 6 #[rv x0, rv x0, .unset] [(.int 1)])) _
    exact retN X0 hx (t := .boolean) Bd.returns (by simp) (hb hby d10_6) hr
  · show QeqS Z x0 h0 n0 _ s₁.heap _
    rw [e0]
    exact ⟨rfl, N0, rfl⟩
def QfkS (Z : State) (x0 : Addr) (d1 : Int64) (p1 : Addr) (p2 : Addr) (p3 : Addr) (h0 : Heap) (n0 : Nat) (v : Option Value) (h : Heap) (L : List Loc) : Prop := v = some (.int 1) ∧ Fr n0 L ∧ h = h0
theorem ef_fkS (m : MethodId) (x0 : Addr) : entryFrame m #[(.ref x0), (.ref x0)] 3 = mkF m 0 #[rv x0, rv x0, .unset] [] := by first | (simp [entryFrame, mkF, argsToLocals, Value.category]; done) | rfl
set_option maxRecDepth 65536 in
set_option maxHeartbeats 40000000 in
theorem rmfkS (l : Launch) (Z : State) (a0 : Array Value) (hw : ∀ d ∈ tables_1, d.before a0 Z = true) (ws : List Jvm.Cond) (x0 : Addr) (d1 : Int64) (p1 : Addr) (p2 : Addr) (p3 : Addr) (h0 : Heap) (n0 : Nat) (Z0 : n0 ≤ h0.size) (pre_E_x0 : Exa Z h0 x0 "com/example/bylaws_for_tables/bylawsfortables/FindingKey") (pre_F_x0_digest : Fld Z h0 x0 "com/example/bylaws_for_tables/bylawsfortables/FindingKey" "digest" "J" (.long d1)) (pre_F_x0_path : Fld Z h0 x0 "com/example/bylaws_for_tables/bylawsfortables/FindingKey" "path" "Ljava/lang/String;" (.ref p1)) (pre_F_x0_ruleId : Fld Z h0 x0 "com/example/bylaws_for_tables/bylawsfortables/FindingKey" "ruleId" "Ljava/lang/String;" (.ref p2)) (pre_F_x0_message : Fld Z h0 x0 "com/example/bylaws_for_tables/bylawsfortables/FindingKey" "message" "Ljava/lang/String;" (.ref p3)) (pre_E_p1 : Exa Z h0 p1 "java/lang/String") (pre_E_p2 : Exa Z h0 p2 "java/lang/String") (pre_E_p3 : Exa Z h0 p3 "java/lang/String") :
    MetFree l (⟨"com/example/bylaws_for_tables/bylawsfortables/FindingKey", "equals", "(Ljava/lang/Object;)Z"⟩ : MethodName) (head1 (Jvm.Cond.code (⟨"com/example/bylaws_for_tables/bylawsfortables/FindingKey", "equals", "(Ljava/lang/Object;)Z"⟩ : MethodName) prog_8_method_9_code 3 (some .boolean) :: ws) ({ frames := 1, cells := 0, slots := 0, locals := 14 } : Room)) (fun a U => a = #[(.ref x0), (.ref x0)] ∧ Z.Warmed39 U.vm ∧ U.heap = h0) (fun _ _ _ _ _ => True) (fun _ U o U' => ∃ v L, o = .returned v ∧ QfkS Z x0 d1 p1 p2 p3 h0 n0 v U'.heap L ∧ FrameEnd U o U' L ({ frames := 1, cells := 0, slots := 0, locals := 14 } : Room).cells ({ frames := 1, cells := 0, slots := 0, locals := 14 } : Room).slots) := by
  refine MetFree.of_bodySF (plainFor_of_name pn_9) hisR ?_
  intro p e s m args below meth c s₁ Bd hml0 hP hK
  obtain ⟨rfl, hZ, hh⟩ := hP
  have hx := Bd.exec
  have hby := Bd.bytes
  have hml : c.maxLocals = 3 := hml0
  have hown : s.vm.findClass "com/example/bylaws_for_tables/bylawsfortables/FindingKey" = some m.cls := findClass_of_methodNamed Bd.named
  have hnm := (name_of_methodNamed Bd.named Bd.method).1
  have X0 : Stand p l e ({ frames := 1, cells := 0, slots := 0, locals := 14 } : Room) s m #[(.ref x0), (.ref x0)] below meth c s₁ [] 0 0 := Stand.of_body Bd
  have e0 : s₁.heap = h0 := by rw [← hh, Bd.state]; rfl
  have N0 := Fr.nil n0
  have Kp0 := Keep.refl h0 []
  have P0 : ∀ t, Steps p.tables e below (s₁.setTop (mkF m 0 #[rv x0, rv x0, .unset] [])) t → Steps p.tables e below (s₁.setTop (entryFrame m #[(.ref x0), (.ref x0)] 3)) t := fun t k => castTop (ef_fkS m x0) k
  obtain ⟨T1, X1, e1, st1⟩ := instY X0 hx hZ hown (hw _ (im 62 rfl)) e0 (Ins.self pre_E_x0) (g := (mkF m 1 #[rv x0, rv x0, .unset] [(.ref x0)])) rfl rfl (hb hby d9_1)
  obtain ⟨T3, X3, e3, st3⟩ := castY X1 hx hZ hown (hw _ (im 62 rfl)) e1 (Ins.self pre_E_x0) (g := (mkF m 8 #[rv x0, rv x0, .unset] [(.ref x0)])) rfl rfl (hb hby d9_8)
  obtain ⟨T4, X4, e4, st4⟩ := getF X3 hx hZ hown (host := "") (Or.inl (hw _ (im 55 rfl))) Via.refl e3 pre_F_x0_digest (g := (mkF m 13 #[rv x0, rv x0, rv x0] [(.ref x0)])) rfl rfl (hb hby d9_13)
  obtain ⟨T5, X5, e5, st5⟩ := getF X4 hx hZ hown (host := "") (Or.inl (hw _ (im 55 rfl))) Via.refl e4 pre_F_x0_digest (g := (mkF m 17 #[rv x0, rv x0, rv x0] [(.ref x0), (.long d1)])) rfl rfl (hb hby d9_17)
  have hc21_6 : d1 = d1 := rfl
  obtain ⟨T7, X7, e7, st7⟩ := getF X5 hx hZ hown (host := "") (Or.inl (hw _ (im 47 rfl))) Via.refl e5 pre_F_x0_path (g := (mkF m 25 #[rv x0, rv x0, rv x0] [(.ref x0)])) rfl rfl (hb hby d9_25)
  obtain ⟨T8, X8, e8, st8⟩ := getF X7 hx hZ hown (host := "") (Or.inl (hw _ (im 47 rfl))) Via.refl e7 pre_F_x0_path (g := (mkF m 29 #[rv x0, rv x0, rv x0] [(.ref x0), (.ref p1)])) rfl rfl (hb hby d9_29)
  obtain ⟨cq9, kq9, q9a, q9b, q9c⟩ := isOf hZ e8 pre_E_p1
  obtain ⟨_, _, ⟨T9, L9, k9, n9⟩, -, X9, ⟨Lc9, hQ9, l9, y9, z9⟩, st9⟩ := X8.virtualBack hx (y := (⟨"java/lang/String", "equals", "(Ljava/lang/Object;)Z"⟩ : MethodName)) (z := (⟨"java/lang/String", "equals", "(Ljava/lang/Object;)Z"⟩ : MethodName)) hown (mvT hZ (hw _ (im 64 rfl))) (mvT hZ (hw _ (im 65 rfl))) (notFace_of_selects (args := #[]) (mvT hZ (hw _ (im 67 rfl)))) (mvT hZ (hw _ (im 67 rfl))) (mvT hZ (hw _ (im 66 rfl))) (by decide) (backOf (W := 0) (rmeqS l Z a0 hw [] p1 h0 n0 Z0 ) hZ (hw _ (im 68 rfl)) (hw _ (im 17 rfl)) (by decide) (by decide)) q9a q9c (g := (mkF m 32 #[rv x0, rv x0, rv x0] [(.ref p1), (.ref p1)])) rfl (by rw [hml]; rfl) (Steps.refl _) (argsL := [(.ref p1)]) (rest := []) (lenOf pd_9 rfl) rfl (by show 2 * 0 + _ ≤ _; exact Nat.le_of_eq rfl) (hb hby d9_32) (fun _ _ => ⟨rfl, e8, (by decide : 0 + 0 ≤ _), (by decide : 0 + 0 ≤ _)⟩)
  dsimp only [Pt.U, Pt.locs, Pt.cells, Pt.slots] at X9 l9 y9 z9 st9 hQ9
  subst l9 y9 z9
  obtain ⟨rfl, N9q, e9⟩ := hQ9
  have N9 := Fr.app N0 N9q
  obtain ⟨T11, X11, e11, st11⟩ := getF X9 hx hZ hown (host := "") (Or.inl (hw _ (im 50 rfl))) Via.refl e9 pre_F_x0_ruleId (g := (mkF m 39 #[rv x0, rv x0, rv x0] [(.ref x0)])) rfl rfl (hb hby d9_39)
  obtain ⟨T12, X12, e12, st12⟩ := getF X11 hx hZ hown (host := "") (Or.inl (hw _ (im 50 rfl))) Via.refl e11 pre_F_x0_ruleId (g := (mkF m 43 #[rv x0, rv x0, rv x0] [(.ref x0), (.ref p2)])) rfl rfl (hb hby d9_43)
  obtain ⟨cq13, kq13, q13a, q13b, q13c⟩ := isOf hZ e12 pre_E_p2
  obtain ⟨_, _, ⟨T13, L13, k13, n13⟩, -, X13, ⟨Lc13, hQ13, l13, y13, z13⟩, st13⟩ := X12.virtualBack hx (y := (⟨"java/lang/String", "equals", "(Ljava/lang/Object;)Z"⟩ : MethodName)) (z := (⟨"java/lang/String", "equals", "(Ljava/lang/Object;)Z"⟩ : MethodName)) hown (mvT hZ (hw _ (im 64 rfl))) (mvT hZ (hw _ (im 65 rfl))) (notFace_of_selects (args := #[]) (mvT hZ (hw _ (im 67 rfl)))) (mvT hZ (hw _ (im 67 rfl))) (mvT hZ (hw _ (im 66 rfl))) (by decide) (backOf (W := 0) (rmeqS l Z a0 hw [] p2 h0 n0 Z0 ) hZ (hw _ (im 68 rfl)) (hw _ (im 17 rfl)) (by decide) (by decide)) q13a q13c (g := (mkF m 46 #[rv x0, rv x0, rv x0] [(.ref p2), (.ref p2)])) rfl (by rw [hml]; rfl) (Steps.refl _) (argsL := [(.ref p2)]) (rest := []) (lenOf pd_9 rfl) rfl (by show 2 * 0 + _ ≤ _; exact Nat.le_of_eq rfl) (hb hby d9_46) (fun _ _ => ⟨rfl, e12, (by decide : 0 + 0 ≤ _), (by decide : 0 + 0 ≤ _)⟩)
  dsimp only [Pt.U, Pt.locs, Pt.cells, Pt.slots] at X13 l13 y13 z13 st13 hQ13
  subst l13 y13 z13
  obtain ⟨rfl, N13q, e13⟩ := hQ13
  have N13 := Fr.app N9 N13q
  obtain ⟨T15, X15, e15, st15⟩ := getF X13 hx hZ hown (host := "") (Or.inl (hw _ (im 53 rfl))) Via.refl e13 pre_F_x0_message (g := (mkF m 53 #[rv x0, rv x0, rv x0] [(.ref x0)])) rfl rfl (hb hby d9_53)
  obtain ⟨T16, X16, e16, st16⟩ := getF X15 hx hZ hown (host := "") (Or.inl (hw _ (im 53 rfl))) Via.refl e15 pre_F_x0_message (g := (mkF m 57 #[rv x0, rv x0, rv x0] [(.ref x0), (.ref p3)])) rfl rfl (hb hby d9_57)
  obtain ⟨cq17, kq17, q17a, q17b, q17c⟩ := isOf hZ e16 pre_E_p3
  obtain ⟨_, _, ⟨T17, L17, k17, n17⟩, -, X17, ⟨Lc17, hQ17, l17, y17, z17⟩, st17⟩ := X16.virtualBack hx (y := (⟨"java/lang/String", "equals", "(Ljava/lang/Object;)Z"⟩ : MethodName)) (z := (⟨"java/lang/String", "equals", "(Ljava/lang/Object;)Z"⟩ : MethodName)) hown (mvT hZ (hw _ (im 64 rfl))) (mvT hZ (hw _ (im 65 rfl))) (notFace_of_selects (args := #[]) (mvT hZ (hw _ (im 67 rfl)))) (mvT hZ (hw _ (im 67 rfl))) (mvT hZ (hw _ (im 66 rfl))) (by decide) (backOf (W := 0) (rmeqS l Z a0 hw [] p3 h0 n0 Z0 ) hZ (hw _ (im 68 rfl)) (hw _ (im 17 rfl)) (by decide) (by decide)) q17a q17c (g := (mkF m 60 #[rv x0, rv x0, rv x0] [(.ref p3), (.ref p3)])) rfl (by rw [hml]; rfl) (Steps.refl _) (argsL := [(.ref p3)]) (rest := []) (lenOf pd_9 rfl) rfl (by show 2 * 0 + _ ≤ _; exact Nat.le_of_eq rfl) (hb hby d9_60) (fun _ _ => ⟨rfl, e16, (by decide : 0 + 0 ≤ _), (by decide : 0 + 0 ≤ _)⟩)
  dsimp only [Pt.U, Pt.locs, Pt.cells, Pt.slots] at X17 l17 y17 z17 st17 hQ17
  subst l17 y17 z17
  obtain ⟨rfl, N17q, e17⟩ := hQ17
  have N17 := Fr.app N13 N17q
  have P18 := own_go P0 (S' := T17.setTop (mkF m 63 #[rv x0, rv x0, rv x0] [(.int 1)])) (by
    intro t k
    refine XS.aloadN X0.here hx rfl (hb hby d9_0) rfl rfl ?_
    refine st1 _ ?_
    refine XS.ifNo X1.here hx rfl (hb hby d9_4) rfl ((if0 _ _).trans (feq (by decide)).1) ?_
    refine XS.aloadN X1.here hx rfl (hb hby d9_7) rfl rfl ?_
    refine st3 _ ?_
    refine XS.astoreN X3.here hx rfl (hb hby d9_11) rfl rfl (l' := #[rv x0, rv x0, rv x0]) rfl ?_
    refine XS.aloadN X3.here hx rfl (hb hby d9_12) rfl rfl ?_
    refine st4 _ ?_
    show Steps p.tables e below (T4.setTop (mkF m 16 #[rv x0, rv x0, rv x0] [(.long d1)])) _
    refine XS.aloadN X4.here hx rfl (hb hby d9_16) rfl rfl ?_
    refine st5 _ ?_
    refine XS.lcmp X5.here hx rfl (hb hby d9_20) rfl ?_
    refine XS.ifNo X5.here hx rfl (hb hby d9_21) rfl ((if0 _ _).trans (teq ((lw_eq d1 d1).mpr hc21_6)).2) ?_
    refine XS.aloadN X5.here hx rfl (hb hby d9_24) rfl rfl ?_
    refine st7 _ ?_
    refine XS.aloadN X7.here hx rfl (hb hby d9_28) rfl rfl ?_
    refine st8 _ ?_
    show Steps p.tables e below (T8.setTop (mkF m 32 #[rv x0, rv x0, rv x0] [(.ref p1), (.ref p1)])) _
    refine st9.trans ?_
    refine XS.ifNo X9.here hx rfl (hb hby d9_35) rfl ((if0 _ _).trans (feq (by decide)).1) ?_
    refine XS.aloadN X9.here hx rfl (hb hby d9_38) rfl rfl ?_
    refine st11 _ ?_
    refine XS.aloadN X11.here hx rfl (hb hby d9_42) rfl rfl ?_
    refine st12 _ ?_
    refine st13.trans ?_
    refine XS.ifNo X13.here hx rfl (hb hby d9_49) rfl ((if0 _ _).trans (feq (by decide)).1) ?_
    show Steps p.tables e below (T13.setTop (mkF m 52 #[rv x0, rv x0, rv x0] [])) _
    refine XS.aloadN X13.here hx rfl (hb hby d9_52) rfl rfl ?_
    refine st15 _ ?_
    refine XS.aloadN X15.here hx rfl (hb hby d9_56) rfl rfl ?_
    refine st16 _ ?_
    refine st17.trans ?_
    exact k)
  have P20 := own_go P18 (S' := T17.setTop (mkF m 71 #[rv x0, rv x0, rv x0] [(.int 1)])) (by
    intro t k
    refine XS.ifNo X17.here hx rfl (hb hby d9_63) rfl ((if0 _ _).trans (feq (by decide)).1) ?_
    refine XS.iconst X17.here hx rfl (hb hby d9_66) ?_
    refine XS.goto X17.here hx rfl (pc0 := 67) (pc' := 71) rfl (hb hby d9_67) (by decide) (by decide) ?_
    exact k)
  obtain ⟨fs, hr, hrun, hended, hW, hsame⟩ := X17.leave (v := some (.int 1)) (fun h => by rw [Bd.returns] at h; cases h)
  refine ⟨_, _, P20 _ ?_, hrun, hended, _, _, rfl, ?_, ⟨_, rfl⟩, hW, hsame.mono (by decide) (by decide)⟩
  · show Steps p.tables e below (T17.setTop (mkF m 71 #[rv x0, rv x0, rv x0] [(.int 1)])) _
    exact retN X17 hx (t := .boolean) Bd.returns (by simp) (hb hby d9_71) hr
  · show QfkS Z x0 d1 p1 p2 p3 h0 n0 _ T17.heap _
    rw [e17]
    exact ⟨rfl, N17, rfl⟩
def QfkN (Z : State) (x0 : Addr) (h0 : Heap) (n0 : Nat) (v : Option Value) (h : Heap) (L : List Loc) : Prop := v = some (.int 0) ∧ Fr n0 L ∧ h = h0
theorem ef_fkN (m : MethodId) (x0 : Addr) : entryFrame m #[(.ref x0), .null] 3 = mkF m 0 #[rv x0, .val .null, .unset] [] := by first | (simp [entryFrame, mkF, argsToLocals, Value.category]; done) | rfl
set_option maxRecDepth 65536 in
set_option maxHeartbeats 40000000 in
theorem rmfkN (l : Launch) (Z : State) (a0 : Array Value) (hw : ∀ d ∈ tables_1, d.before a0 Z = true) (ws : List Jvm.Cond) (x0 : Addr) (h0 : Heap) (n0 : Nat) (Z0 : n0 ≤ h0.size) :
    MetFree l (⟨"com/example/bylaws_for_tables/bylawsfortables/FindingKey", "equals", "(Ljava/lang/Object;)Z"⟩ : MethodName) (head1 (Jvm.Cond.code (⟨"com/example/bylaws_for_tables/bylawsfortables/FindingKey", "equals", "(Ljava/lang/Object;)Z"⟩ : MethodName) prog_8_method_9_code 3 (some .boolean) :: ws) ({ frames := 0, cells := 0, slots := 0, locals := 0 } : Room)) (fun a U => a = #[(.ref x0), .null] ∧ Z.Warmed39 U.vm ∧ U.heap = h0) (fun _ _ _ _ _ => True) (fun _ U o U' => ∃ v L, o = .returned v ∧ QfkN Z x0 h0 n0 v U'.heap L ∧ FrameEnd U o U' L ({ frames := 0, cells := 0, slots := 0, locals := 0 } : Room).cells ({ frames := 0, cells := 0, slots := 0, locals := 0 } : Room).slots) := by
  refine MetFree.of_bodySF (plainFor_of_name pn_9) hisR ?_
  intro p e s m args below meth c s₁ Bd hml0 hP hK
  obtain ⟨rfl, hZ, hh⟩ := hP
  have hx := Bd.exec
  have hby := Bd.bytes
  have hml : c.maxLocals = 3 := hml0
  have hown : s.vm.findClass "com/example/bylaws_for_tables/bylawsfortables/FindingKey" = some m.cls := findClass_of_methodNamed Bd.named
  have hnm := (name_of_methodNamed Bd.named Bd.method).1
  have X0 : Stand p l e ({ frames := 0, cells := 0, slots := 0, locals := 0 } : Room) s m #[(.ref x0), .null] below meth c s₁ [] 0 0 := Stand.of_body Bd
  have e0 : s₁.heap = h0 := by rw [← hh, Bd.state]; rfl
  have N0 := Fr.nil n0
  have Kp0 := Keep.refl h0 []
  have P0 : ∀ t, Steps p.tables e below (s₁.setTop (mkF m 0 #[rv x0, .val .null, .unset] [])) t → Steps p.tables e below (s₁.setTop (entryFrame m #[(.ref x0), .null] 3)) t := fun t k => castTop (ef_fkN m x0) k
  have P2 := own_go P0 (S' := s₁.setTop (mkF m 71 #[rv x0, .val .null, .unset] [(.int 0)])) (by
    intro t k
    refine XS.aloadN X0.here hx rfl (hb hby d9_0) rfl rfl ?_
    refine X0.instanceofNull hx (g := (mkF m 1 #[rv x0, .val .null, .unset] [.null])) rfl rfl (hb hby d9_1) _ ?_
    refine XS.ifYes X0.here hx rfl (pc0 := 4) (pc' := 70) rfl (hb hby d9_4) rfl ((if0 _ _).trans (teq (by decide)).1) (by decide) (by decide) ?_
    refine XS.iconst X0.here hx rfl (hb hby d9_70) ?_
    exact k)
  obtain ⟨fs, hr, hrun, hended, hW, hsame⟩ := X0.leave (v := some (.int 0)) (fun h => by rw [Bd.returns] at h; cases h)
  refine ⟨_, _, P2 _ ?_, hrun, hended, _, _, rfl, ?_, ⟨_, rfl⟩, hW, hsame.mono (by decide) (by decide)⟩
  · show Steps p.tables e below (s₁.setTop (mkF m 71 #[rv x0, .val .null, .unset] [(.int 0)])) _
    exact retN X0 hx (t := .boolean) Bd.returns (by simp) (hb hby d9_71) hr
  · show QfkN Z x0 h0 n0 _ s₁.heap _
    rw [e0]
    exact ⟨rfl, N0, rfl⟩
def QfkI (Z : State) (x0 : Addr) (x1 : Addr) (h0 : Heap) (n0 : Nat) (v : Option Value) (h : Heap) (L : List Loc) : Prop := v = some (.int 0) ∧ Fr n0 L ∧ h = h0
theorem ef_fkI (m : MethodId) (x0 : Addr) (x1 : Addr) : entryFrame m #[(.ref x0), (.ref x1)] 3 = mkF m 0 #[rv x0, rv x1, .unset] [] := by first | (simp [entryFrame, mkF, argsToLocals, Value.category]; done) | rfl
set_option maxRecDepth 65536 in
set_option maxHeartbeats 40000000 in
theorem rmfkI (l : Launch) (Z : State) (a0 : Array Value) (hw : ∀ d ∈ tables_1, d.before a0 Z = true) (ws : List Jvm.Cond) (x0 : Addr) (x1 : Addr) (h0 : Heap) (n0 : Nat) (Z0 : n0 ≤ h0.size) (pre_E_x1 : Exa Z h0 x1 "java/lang/Integer") :
    MetFree l (⟨"com/example/bylaws_for_tables/bylawsfortables/FindingKey", "equals", "(Ljava/lang/Object;)Z"⟩ : MethodName) (head1 (Jvm.Cond.code (⟨"com/example/bylaws_for_tables/bylawsfortables/FindingKey", "equals", "(Ljava/lang/Object;)Z"⟩ : MethodName) prog_8_method_9_code 3 (some .boolean) :: ws) ({ frames := 0, cells := 0, slots := 0, locals := 0 } : Room)) (fun a U => a = #[(.ref x0), (.ref x1)] ∧ Z.Warmed39 U.vm ∧ U.heap = h0) (fun _ _ _ _ _ => True) (fun _ U o U' => ∃ v L, o = .returned v ∧ QfkI Z x0 x1 h0 n0 v U'.heap L ∧ FrameEnd U o U' L ({ frames := 0, cells := 0, slots := 0, locals := 0 } : Room).cells ({ frames := 0, cells := 0, slots := 0, locals := 0 } : Room).slots) := by
  refine MetFree.of_bodySF (plainFor_of_name pn_9) hisR ?_
  intro p e s m args below meth c s₁ Bd hml0 hP hK
  obtain ⟨rfl, hZ, hh⟩ := hP
  have hx := Bd.exec
  have hby := Bd.bytes
  have hml : c.maxLocals = 3 := hml0
  have hown : s.vm.findClass "com/example/bylaws_for_tables/bylawsfortables/FindingKey" = some m.cls := findClass_of_methodNamed Bd.named
  have hnm := (name_of_methodNamed Bd.named Bd.method).1
  have X0 : Stand p l e ({ frames := 0, cells := 0, slots := 0, locals := 0 } : Room) s m #[(.ref x0), (.ref x1)] below meth c s₁ [] 0 0 := Stand.of_body Bd
  have e0 : s₁.heap = h0 := by rw [← hh, Bd.state]; rfl
  have N0 := Fr.nil n0
  have Kp0 := Keep.refl h0 []
  have P0 : ∀ t, Steps p.tables e below (s₁.setTop (mkF m 0 #[rv x0, rv x1, .unset] [])) t → Steps p.tables e below (s₁.setTop (entryFrame m #[(.ref x0), (.ref x1)] 3)) t := fun t k => castTop (ef_fkI m x0 x1) k
  obtain ⟨T1, X1, e1, st1⟩ := instNo X0 hx hZ hown (hw _ (im 62 rfl)) e0 pre_E_x1 (own_NS_no (hw _ (im 113 rfl)) (hw _ (im 6 rfl)) (NS.step (hw _ (im 113 rfl)) (NS.step (hw _ (im 114 rfl)) (own_NS_root (hw _ (im 115 rfl)) (hw _ (im 6 rfl)) (by decide)) (by decide)) (by decide)) (by decide)) (g := (mkF m 1 #[rv x0, rv x1, .unset] [(.ref x1)])) rfl rfl (hb hby d9_1)
  have P3 := own_go P0 (S' := T1.setTop (mkF m 71 #[rv x0, rv x1, .unset] [(.int 0)])) (by
    intro t k
    refine XS.aloadN X0.here hx rfl (hb hby d9_0) rfl rfl ?_
    refine st1 _ ?_
    refine XS.ifYes X1.here hx rfl (pc0 := 4) (pc' := 70) rfl (hb hby d9_4) rfl ((if0 _ _).trans (teq (by decide)).1) (by decide) (by decide) ?_
    refine XS.iconst X1.here hx rfl (hb hby d9_70) ?_
    exact k)
  obtain ⟨fs, hr, hrun, hended, hW, hsame⟩ := X1.leave (v := some (.int 0)) (fun h => by rw [Bd.returns] at h; cases h)
  refine ⟨_, _, P3 _ ?_, hrun, hended, _, _, rfl, ?_, ⟨_, rfl⟩, hW, hsame.mono (by decide) (by decide)⟩
  · show Steps p.tables e below (T1.setTop (mkF m 71 #[rv x0, rv x1, .unset] [(.int 0)])) _
    exact retN X1 hx (t := .boolean) Bd.returns (by simp) (hb hby d9_71) hr
  · show QfkI Z x0 x1 h0 n0 _ T1.heap _
    rw [e1]
    exact ⟨rfl, N0, rfl⟩
def QfkD (Z : State) (x0 : Addr) (x1 : Addr) (cs : Int32) (d1 : Int64) (p1 : Addr) (p2 : Addr) (p3 : Addr) (d2 : Int64) (q1 : Addr) (q2 : Addr) (q3 : Addr) (a1 : List Int32) (B1 : Nat) (b1 : List Int32) (D1 : Nat) (a2 : List Int32) (B2 : Nat) (b2 : List Int32) (D2 : Nat) (a3 : List Int32) (B3 : Nat) (b3 : List Int32) (D3 : Nat) (h0 : Heap) (n0 : Nat) (v : Option Value) (h : Heap) (L : List Loc) : Prop := v = some (.int (if (d1 = d2 ∧ a1 = b1 ∧ a2 = b2 ∧ a3 = b3) then (1 : Int32) else (0 : Int32))) ∧ Fr n0 L ∧ h = h0
theorem ef_fkD (m : MethodId) (x0 : Addr) (x1 : Addr) : entryFrame m #[(.ref x0), (.ref x1)] 3 = mkF m 0 #[rv x0, rv x1, .unset] [] := by first | (simp [entryFrame, mkF, argsToLocals, Value.category]; done) | rfl
set_option maxRecDepth 65536 in
set_option maxHeartbeats 40000000 in
theorem rmfkD (l : Launch) (Z : State) (a0 : Array Value) (hw : ∀ d ∈ tables_1, d.before a0 Z = true) (ws : List Jvm.Cond) (x0 : Addr) (x1 : Addr) (cs : Int32) (d1 : Int64) (p1 : Addr) (p2 : Addr) (p3 : Addr) (d2 : Int64) (q1 : Addr) (q2 : Addr) (q3 : Addr) (a1 : List Int32) (B1 : Nat) (b1 : List Int32) (D1 : Nat) (a2 : List Int32) (B2 : Nat) (b2 : List Int32) (D2 : Nat) (a3 : List Int32) (B3 : Nat) (b3 : List Int32) (D3 : Nat) (h0 : Heap) (n0 : Nat) (Z0 : n0 ≤ h0.size) (O0 : Old Z n0 h0) (pre_S_COMPACT_STRINGS : Sta Z Z.heap "java/lang/String" "COMPACT_STRINGS" "Z" (.int cs)) (hcs : ¬ (cs = (0 : Int32))) (pre_E_x1 : Exa Z h0 x1 "com/example/bylaws_for_tables/bylawsfortables/FindingKey") (pre_F_x0_digest : Fld Z h0 x0 "com/example/bylaws_for_tables/bylawsfortables/FindingKey" "digest" "J" (.long d1)) (pre_F_x0_path : Fld Z h0 x0 "com/example/bylaws_for_tables/bylawsfortables/FindingKey" "path" "Ljava/lang/String;" (.ref p1)) (pre_F_x0_ruleId : Fld Z h0 x0 "com/example/bylaws_for_tables/bylawsfortables/FindingKey" "ruleId" "Ljava/lang/String;" (.ref p2)) (pre_F_x0_message : Fld Z h0 x0 "com/example/bylaws_for_tables/bylawsfortables/FindingKey" "message" "Ljava/lang/String;" (.ref p3)) (pre_F_x1_digest : Fld Z h0 x1 "com/example/bylaws_for_tables/bylawsfortables/FindingKey" "digest" "J" (.long d2)) (pre_F_x1_path : Fld Z h0 x1 "com/example/bylaws_for_tables/bylawsfortables/FindingKey" "path" "Ljava/lang/String;" (.ref q1)) (pre_F_x1_ruleId : Fld Z h0 x1 "com/example/bylaws_for_tables/bylawsfortables/FindingKey" "ruleId" "Ljava/lang/String;" (.ref q2)) (pre_F_x1_message : Fld Z h0 x1 "com/example/bylaws_for_tables/bylawsfortables/FindingKey" "message" "Ljava/lang/String;" (.ref q3)) (pre_P_p1 : own_Str Z h0 p1 a1 B1) (pre_P_q1 : own_Str Z h0 q1 b1 D1) (ne_p1_q1 : p1 ≠ q1) (pre_P_p2 : own_Str Z h0 p2 a2 B2) (pre_P_q2 : own_Str Z h0 q2 b2 D2) (ne_p2_q2 : p2 ≠ q2) (pre_P_p3 : own_Str Z h0 p3 a3 B3) (pre_P_q3 : own_Str Z h0 q3 b3 D3) (ne_p3_q3 : p3 ≠ q3) :
    MetFree l (⟨"com/example/bylaws_for_tables/bylawsfortables/FindingKey", "equals", "(Ljava/lang/Object;)Z"⟩ : MethodName) (head1 (Jvm.Cond.code (⟨"com/example/bylaws_for_tables/bylawsfortables/FindingKey", "equals", "(Ljava/lang/Object;)Z"⟩ : MethodName) prog_8_method_9_code 3 (some .boolean) :: ws) ({ frames := 2, cells := 0, slots := 0, locals := 28 } : Room)) (fun a U => a = #[(.ref x0), (.ref x1)] ∧ Z.Warmed39 U.vm ∧ U.heap = h0) (fun _ _ _ _ _ => True) (fun _ U o U' => ∃ v L, o = .returned v ∧ QfkD Z x0 x1 cs d1 p1 p2 p3 d2 q1 q2 q3 a1 B1 b1 D1 a2 B2 b2 D2 a3 B3 b3 D3 h0 n0 v U'.heap L ∧ FrameEnd U o U' L ({ frames := 2, cells := 0, slots := 0, locals := 28 } : Room).cells ({ frames := 2, cells := 0, slots := 0, locals := 28 } : Room).slots) := by
  refine MetFree.of_bodySF (plainFor_of_name pn_9) hisR ?_
  intro p e s m args below meth c s₁ Bd hml0 hP hK
  obtain ⟨rfl, hZ, hh⟩ := hP
  have hx := Bd.exec
  have hby := Bd.bytes
  have hml : c.maxLocals = 3 := hml0
  have hown : s.vm.findClass "com/example/bylaws_for_tables/bylawsfortables/FindingKey" = some m.cls := findClass_of_methodNamed Bd.named
  have hnm := (name_of_methodNamed Bd.named Bd.method).1
  have X0 : Stand p l e ({ frames := 2, cells := 0, slots := 0, locals := 28 } : Room) s m #[(.ref x0), (.ref x1)] below meth c s₁ [] 0 0 := Stand.of_body Bd
  have e0 : s₁.heap = h0 := by rw [← hh, Bd.state]; rfl
  have N0 := Fr.nil n0
  have Kp0 := Keep.refl h0 []
  have P0 : ∀ t, Steps p.tables e below (s₁.setTop (mkF m 0 #[rv x0, rv x1, .unset] [])) t → Steps p.tables e below (s₁.setTop (entryFrame m #[(.ref x0), (.ref x1)] 3)) t := fun t k => castTop (ef_fkD m x0 x1) k
  obtain ⟨T1, X1, e1, st1⟩ := instY X0 hx hZ hown (hw _ (im 62 rfl)) e0 (Ins.self pre_E_x1) (g := (mkF m 1 #[rv x0, rv x1, .unset] [(.ref x1)])) rfl rfl (hb hby d9_1)
  obtain ⟨T3, X3, e3, st3⟩ := castY X1 hx hZ hown (hw _ (im 62 rfl)) e1 (Ins.self pre_E_x1) (g := (mkF m 8 #[rv x0, rv x1, .unset] [(.ref x1)])) rfl rfl (hb hby d9_8)
  obtain ⟨T4, X4, e4, st4⟩ := getF X3 hx hZ hown (host := "") (Or.inl (hw _ (im 55 rfl))) Via.refl e3 pre_F_x0_digest (g := (mkF m 13 #[rv x0, rv x1, rv x1] [(.ref x0)])) rfl rfl (hb hby d9_13)
  obtain ⟨T5, X5, e5, st5⟩ := getF X4 hx hZ hown (host := "") (Or.inl (hw _ (im 55 rfl))) Via.refl e4 pre_F_x1_digest (g := (mkF m 17 #[rv x0, rv x1, rv x1] [(.ref x1), (.long d1)])) rfl rfl (hb hby d9_17)
  have P7 := own_go P0 (S' := T5.setTop (mkF m 21 #[rv x0, rv x1, rv x1] [(.int (lcmpW d1 d2))])) (by
    intro t k
    refine XS.aloadN X0.here hx rfl (hb hby d9_0) rfl rfl ?_
    refine st1 _ ?_
    refine XS.ifNo X1.here hx rfl (hb hby d9_4) rfl ((if0 _ _).trans (feq (by decide)).1) ?_
    refine XS.aloadN X1.here hx rfl (hb hby d9_7) rfl rfl ?_
    refine st3 _ ?_
    refine XS.astoreN X3.here hx rfl (hb hby d9_11) rfl rfl (l' := #[rv x0, rv x1, rv x1]) rfl ?_
    refine XS.aloadN X3.here hx rfl (hb hby d9_12) rfl rfl ?_
    refine st4 _ ?_
    show Steps p.tables e below (T4.setTop (mkF m 16 #[rv x0, rv x1, rv x1] [(.long d1)])) _
    refine XS.aloadN X4.here hx rfl (hb hby d9_16) rfl rfl ?_
    refine st5 _ ?_
    refine XS.lcmp X5.here hx rfl (hb hby d9_20) rfl ?_
    exact k)
  by_cases hc21_6 : d1 = d2
  · obtain ⟨T8, X8, e8, st8⟩ := getF X5 hx hZ hown (host := "") (Or.inl (hw _ (im 47 rfl))) Via.refl e5 pre_F_x0_path (g := (mkF m 25 #[rv x0, rv x1, rv x1] [(.ref x0)])) rfl rfl (hb hby d9_25)
    obtain ⟨T9, X9, e9, st9⟩ := getF X8 hx hZ hown (host := "") (Or.inl (hw _ (im 47 rfl))) Via.refl e8 pre_F_x1_path (g := (mkF m 29 #[rv x0, rv x1, rv x1] [(.ref x1), (.ref p1)])) rfl rfl (hb hby d9_29)
    obtain ⟨cq10, kq10, q10a, q10b, q10c⟩ := isOf hZ e9 (own_Str_exa pre_P_p1)
    obtain ⟨_, _, ⟨T10, L10, k10, n10⟩, -, X10, ⟨Lc10, hQ10, l10, y10, z10⟩, st10⟩ := X9.virtualBack hx (y := (⟨"java/lang/String", "equals", "(Ljava/lang/Object;)Z"⟩ : MethodName)) (z := (⟨"java/lang/String", "equals", "(Ljava/lang/Object;)Z"⟩ : MethodName)) hown (mvT hZ (hw _ (im 64 rfl))) (mvT hZ (hw _ (im 65 rfl))) (notFace_of_selects (args := #[]) (mvT hZ (hw _ (im 67 rfl)))) (mvT hZ (hw _ (im 67 rfl))) (mvT hZ (hw _ (im 66 rfl))) (by decide) (backOf (W := 0) (rmeqP l Z a0 hw [] p1 q1 cs a1 b1 B1 D1 h0 n0 Z0 O0 pre_S_COMPACT_STRINGS (hcs) ne_p1_q1 pre_P_p1 pre_P_q1) hZ (hw _ (im 68 rfl)) (hw _ (im 17 rfl)) (by decide) (by decide)) q10a q10c (g := (mkF m 32 #[rv x0, rv x1, rv x1] [(.ref q1), (.ref p1)])) rfl (by rw [hml]; rfl) (Steps.refl _) (argsL := [(.ref q1)]) (rest := []) (lenOf pd_9 rfl) rfl (by show 2 * 0 + _ ≤ _; exact Nat.le_of_eq rfl) (hb hby d9_32) (fun _ _ => ⟨rfl, e9, (by decide : 0 + 0 ≤ _), (by decide : 0 + 0 ≤ _)⟩)
    dsimp only [Pt.U, Pt.locs, Pt.cells, Pt.slots] at X10 l10 y10 z10 st10 hQ10
    subst l10 y10 z10
    obtain ⟨rfl, N10q, e10⟩ := hQ10
    have N10 := Fr.app N0 N10q
    have P12 := own_go P7 (S' := T10.setTop (mkF m 35 #[rv x0, rv x1, rv x1] [(.int (if a1 = b1 then (1 : Int32) else (0 : Int32)))])) (by
      intro t k
      refine XS.ifNo X5.here hx rfl (hb hby d9_21) rfl ((if0 _ _).trans (teq ((lw_eq d1 d2).mpr hc21_6)).2) ?_
      refine XS.aloadN X5.here hx rfl (hb hby d9_24) rfl rfl ?_
      refine st8 _ ?_
      refine XS.aloadN X8.here hx rfl (hb hby d9_28) rfl rfl ?_
      refine st9 _ ?_
      refine st10.trans ?_
      exact k)
    by_cases hc35_11 : a1 = b1
    · obtain ⟨T13, X13, e13, st13⟩ := getF X10 hx hZ hown (host := "") (Or.inl (hw _ (im 50 rfl))) Via.refl e10 pre_F_x0_ruleId (g := (mkF m 39 #[rv x0, rv x1, rv x1] [(.ref x0)])) rfl rfl (hb hby d9_39)
      obtain ⟨T14, X14, e14, st14⟩ := getF X13 hx hZ hown (host := "") (Or.inl (hw _ (im 50 rfl))) Via.refl e13 pre_F_x1_ruleId (g := (mkF m 43 #[rv x0, rv x1, rv x1] [(.ref x1), (.ref p2)])) rfl rfl (hb hby d9_43)
      obtain ⟨cq15, kq15, q15a, q15b, q15c⟩ := isOf hZ e14 (own_Str_exa pre_P_p2)
      obtain ⟨_, _, ⟨T15, L15, k15, n15⟩, -, X15, ⟨Lc15, hQ15, l15, y15, z15⟩, st15⟩ := X14.virtualBack hx (y := (⟨"java/lang/String", "equals", "(Ljava/lang/Object;)Z"⟩ : MethodName)) (z := (⟨"java/lang/String", "equals", "(Ljava/lang/Object;)Z"⟩ : MethodName)) hown (mvT hZ (hw _ (im 64 rfl))) (mvT hZ (hw _ (im 65 rfl))) (notFace_of_selects (args := #[]) (mvT hZ (hw _ (im 67 rfl)))) (mvT hZ (hw _ (im 67 rfl))) (mvT hZ (hw _ (im 66 rfl))) (by decide) (backOf (W := 0) (rmeqP l Z a0 hw [] p2 q2 cs a2 b2 B2 D2 h0 n0 Z0 O0 pre_S_COMPACT_STRINGS (hcs) ne_p2_q2 pre_P_p2 pre_P_q2) hZ (hw _ (im 68 rfl)) (hw _ (im 17 rfl)) (by decide) (by decide)) q15a q15c (g := (mkF m 46 #[rv x0, rv x1, rv x1] [(.ref q2), (.ref p2)])) rfl (by rw [hml]; rfl) (Steps.refl _) (argsL := [(.ref q2)]) (rest := []) (lenOf pd_9 rfl) rfl (by show 2 * 0 + _ ≤ _; exact Nat.le_of_eq rfl) (hb hby d9_46) (fun _ _ => ⟨rfl, e14, (by decide : 0 + 0 ≤ _), (by decide : 0 + 0 ≤ _)⟩)
      dsimp only [Pt.U, Pt.locs, Pt.cells, Pt.slots] at X15 l15 y15 z15 st15 hQ15
      subst l15 y15 z15
      obtain ⟨rfl, N15q, e15⟩ := hQ15
      have N15 := Fr.app N10 N15q
      have P17 := own_go P12 (S' := T15.setTop (mkF m 49 #[rv x0, rv x1, rv x1] [(.int (if a2 = b2 then (1 : Int32) else (0 : Int32)))])) (by
        intro t k
        refine XS.ifNo X10.here hx rfl (hb hby d9_35) rfl ((if0 _ _).trans (feq (by rw [if_pos hc35_11]; decide)).1) ?_
        refine XS.aloadN X10.here hx rfl (hb hby d9_38) rfl rfl ?_
        refine st13 _ ?_
        refine XS.aloadN X13.here hx rfl (hb hby d9_42) rfl rfl ?_
        refine st14 _ ?_
        refine st15.trans ?_
        exact k)
      by_cases hc49_16 : a2 = b2
      · obtain ⟨T18, X18, e18, st18⟩ := getF X15 hx hZ hown (host := "") (Or.inl (hw _ (im 53 rfl))) Via.refl e15 pre_F_x0_message (g := (mkF m 53 #[rv x0, rv x1, rv x1] [(.ref x0)])) rfl rfl (hb hby d9_53)
        obtain ⟨T19, X19, e19, st19⟩ := getF X18 hx hZ hown (host := "") (Or.inl (hw _ (im 53 rfl))) Via.refl e18 pre_F_x1_message (g := (mkF m 57 #[rv x0, rv x1, rv x1] [(.ref x1), (.ref p3)])) rfl rfl (hb hby d9_57)
        obtain ⟨cq20, kq20, q20a, q20b, q20c⟩ := isOf hZ e19 (own_Str_exa pre_P_p3)
        obtain ⟨_, _, ⟨T20, L20, k20, n20⟩, -, X20, ⟨Lc20, hQ20, l20, y20, z20⟩, st20⟩ := X19.virtualBack hx (y := (⟨"java/lang/String", "equals", "(Ljava/lang/Object;)Z"⟩ : MethodName)) (z := (⟨"java/lang/String", "equals", "(Ljava/lang/Object;)Z"⟩ : MethodName)) hown (mvT hZ (hw _ (im 64 rfl))) (mvT hZ (hw _ (im 65 rfl))) (notFace_of_selects (args := #[]) (mvT hZ (hw _ (im 67 rfl)))) (mvT hZ (hw _ (im 67 rfl))) (mvT hZ (hw _ (im 66 rfl))) (by decide) (backOf (W := 0) (rmeqP l Z a0 hw [] p3 q3 cs a3 b3 B3 D3 h0 n0 Z0 O0 pre_S_COMPACT_STRINGS (hcs) ne_p3_q3 pre_P_p3 pre_P_q3) hZ (hw _ (im 68 rfl)) (hw _ (im 17 rfl)) (by decide) (by decide)) q20a q20c (g := (mkF m 60 #[rv x0, rv x1, rv x1] [(.ref q3), (.ref p3)])) rfl (by rw [hml]; rfl) (Steps.refl _) (argsL := [(.ref q3)]) (rest := []) (lenOf pd_9 rfl) rfl (by show 2 * 0 + _ ≤ _; exact Nat.le_of_eq rfl) (hb hby d9_60) (fun _ _ => ⟨rfl, e19, (by decide : 0 + 0 ≤ _), (by decide : 0 + 0 ≤ _)⟩)
        dsimp only [Pt.U, Pt.locs, Pt.cells, Pt.slots] at X20 l20 y20 z20 st20 hQ20
        subst l20 y20 z20
        obtain ⟨rfl, N20q, e20⟩ := hQ20
        have N20 := Fr.app N15 N20q
        have P22 := own_go P17 (S' := T20.setTop (mkF m 63 #[rv x0, rv x1, rv x1] [(.int (if a3 = b3 then (1 : Int32) else (0 : Int32)))])) (by
          intro t k
          refine XS.ifNo X15.here hx rfl (hb hby d9_49) rfl ((if0 _ _).trans (feq (by rw [if_pos hc49_16]; decide)).1) ?_
          refine XS.aloadN X15.here hx rfl (hb hby d9_52) rfl rfl ?_
          refine st18 _ ?_
          refine XS.aloadN X18.here hx rfl (hb hby d9_56) rfl rfl ?_
          refine st19 _ ?_
          refine st20.trans ?_
          exact k)
        by_cases hc63_21 : a3 = b3
        · have P23 := own_go P22 (S' := T20.setTop (mkF m 71 #[rv x0, rv x1, rv x1] [(.int 1)])) (by
            intro t k
            refine XS.ifNo X20.here hx rfl (hb hby d9_63) rfl ((if0 _ _).trans (feq (by rw [if_pos hc63_21]; decide)).1) ?_
            refine XS.iconst X20.here hx rfl (hb hby d9_66) ?_
            refine XS.goto X20.here hx rfl (pc0 := 67) (pc' := 71) rfl (hb hby d9_67) (by decide) (by decide) ?_
            exact k)
          obtain ⟨fs, hr, hrun, hended, hW, hsame⟩ := X20.leave (v := some (.int 1)) (fun h => by rw [Bd.returns] at h; cases h)
          refine ⟨_, _, P23 _ ?_, hrun, hended, _, _, rfl, ?_, ⟨_, rfl⟩, hW, hsame.mono (by decide) (by decide)⟩
          · show Steps p.tables e below (T20.setTop (mkF m 71 #[rv x0, rv x1, rv x1] [(.int 1)])) _
            exact retN X20 hx (t := .boolean) Bd.returns (by simp) (hb hby d9_71) hr
          · show QfkD Z x0 x1 cs d1 p1 p2 p3 d2 q1 q2 q3 a1 B1 b1 D1 a2 B2 b2 D2 a3 B3 b3 D3 h0 n0 _ T20.heap _
            rw [e20]
            exact ⟨(by first | rfl | rw [if_pos hc63_21] | rw [if_neg hc63_21] | rw [if_neg (not_not_intro hc63_21)] | simp [hc21_6, hc35_11, hc49_16, hc63_21]), N20, rfl⟩
        · have P24 := own_go P22 (S' := T20.setTop (mkF m 71 #[rv x0, rv x1, rv x1] [(.int 0)])) (by
            intro t k
            refine XS.ifYes X20.here hx rfl (pc0 := 63) (pc' := 70) rfl (hb hby d9_63) rfl ((if0 _ _).trans (teq (if_neg hc63_21)).1) (by decide) (by decide) ?_
            refine XS.iconst X20.here hx rfl (hb hby d9_70) ?_
            exact k)
          obtain ⟨fs, hr, hrun, hended, hW, hsame⟩ := X20.leave (v := some (.int 0)) (fun h => by rw [Bd.returns] at h; cases h)
          refine ⟨_, _, P24 _ ?_, hrun, hended, _, _, rfl, ?_, ⟨_, rfl⟩, hW, hsame.mono (by decide) (by decide)⟩
          · show Steps p.tables e below (T20.setTop (mkF m 71 #[rv x0, rv x1, rv x1] [(.int 0)])) _
            exact retN X20 hx (t := .boolean) Bd.returns (by simp) (hb hby d9_71) hr
          · show QfkD Z x0 x1 cs d1 p1 p2 p3 d2 q1 q2 q3 a1 B1 b1 D1 a2 B2 b2 D2 a3 B3 b3 D3 h0 n0 _ T20.heap _
            rw [e20]
            exact ⟨(by first | rfl | rw [if_pos hc63_21] | rw [if_neg hc63_21] | rw [if_neg (not_not_intro hc63_21)] | simp [hc21_6, hc35_11, hc49_16, hc63_21]), N20, rfl⟩
      · have P25 := own_go P17 (S' := T15.setTop (mkF m 71 #[rv x0, rv x1, rv x1] [(.int 0)])) (by
          intro t k
          refine XS.ifYes X15.here hx rfl (pc0 := 49) (pc' := 70) rfl (hb hby d9_49) rfl ((if0 _ _).trans (teq (if_neg hc49_16)).1) (by decide) (by decide) ?_
          refine XS.iconst X15.here hx rfl (hb hby d9_70) ?_
          exact k)
        obtain ⟨fs, hr, hrun, hended, hW, hsame⟩ := X15.leave (v := some (.int 0)) (fun h => by rw [Bd.returns] at h; cases h)
        refine ⟨_, _, P25 _ ?_, hrun, hended, _, _, rfl, ?_, ⟨_, rfl⟩, hW, hsame.mono (by decide) (by decide)⟩
        · show Steps p.tables e below (T15.setTop (mkF m 71 #[rv x0, rv x1, rv x1] [(.int 0)])) _
          exact retN X15 hx (t := .boolean) Bd.returns (by simp) (hb hby d9_71) hr
        · show QfkD Z x0 x1 cs d1 p1 p2 p3 d2 q1 q2 q3 a1 B1 b1 D1 a2 B2 b2 D2 a3 B3 b3 D3 h0 n0 _ T15.heap _
          rw [e15]
          exact ⟨(by first | rfl | rw [if_pos hc49_16] | rw [if_neg hc49_16] | rw [if_neg (not_not_intro hc49_16)] | simp [hc21_6, hc35_11, hc49_16]), N15, rfl⟩
    · have P26 := own_go P12 (S' := T10.setTop (mkF m 71 #[rv x0, rv x1, rv x1] [(.int 0)])) (by
        intro t k
        refine XS.ifYes X10.here hx rfl (pc0 := 35) (pc' := 70) rfl (hb hby d9_35) rfl ((if0 _ _).trans (teq (if_neg hc35_11)).1) (by decide) (by decide) ?_
        refine XS.iconst X10.here hx rfl (hb hby d9_70) ?_
        exact k)
      obtain ⟨fs, hr, hrun, hended, hW, hsame⟩ := X10.leave (v := some (.int 0)) (fun h => by rw [Bd.returns] at h; cases h)
      refine ⟨_, _, P26 _ ?_, hrun, hended, _, _, rfl, ?_, ⟨_, rfl⟩, hW, hsame.mono (by decide) (by decide)⟩
      · show Steps p.tables e below (T10.setTop (mkF m 71 #[rv x0, rv x1, rv x1] [(.int 0)])) _
        exact retN X10 hx (t := .boolean) Bd.returns (by simp) (hb hby d9_71) hr
      · show QfkD Z x0 x1 cs d1 p1 p2 p3 d2 q1 q2 q3 a1 B1 b1 D1 a2 B2 b2 D2 a3 B3 b3 D3 h0 n0 _ T10.heap _
        rw [e10]
        exact ⟨(by first | rfl | rw [if_pos hc35_11] | rw [if_neg hc35_11] | rw [if_neg (not_not_intro hc35_11)] | simp [hc21_6, hc35_11]), N10, rfl⟩
  · have P27 := own_go P7 (S' := T5.setTop (mkF m 71 #[rv x0, rv x1, rv x1] [(.int 0)])) (by
      intro t k
      refine XS.ifYes X5.here hx rfl (pc0 := 21) (pc' := 70) rfl (hb hby d9_21) rfl ((if0 _ _).trans (feq (fun q => hc21_6 ((lw_eq d1 d2).mp q))).2) (by decide) (by decide) ?_
      refine XS.iconst X5.here hx rfl (hb hby d9_70) ?_
      exact k)
    obtain ⟨fs, hr, hrun, hended, hW, hsame⟩ := X5.leave (v := some (.int 0)) (fun h => by rw [Bd.returns] at h; cases h)
    refine ⟨_, _, P27 _ ?_, hrun, hended, _, _, rfl, ?_, ⟨_, rfl⟩, hW, hsame.mono (by decide) (by decide)⟩
    · show Steps p.tables e below (T5.setTop (mkF m 71 #[rv x0, rv x1, rv x1] [(.int 0)])) _
      exact retN X5 hx (t := .boolean) Bd.returns (by simp) (hb hby d9_71) hr
    · show QfkD Z x0 x1 cs d1 p1 p2 p3 d2 q1 q2 q3 a1 B1 b1 D1 a2 B2 b2 D2 a3 B3 b3 D3 h0 n0 _ T5.heap _
      rw [e5]
      exact ⟨(by first | rfl | rw [if_pos hc21_6] | rw [if_neg hc21_6] | rw [if_neg (not_not_intro hc21_6)] | simp [hc21_6]), N0, rfl⟩
def Q15 (Z : State) (x0 : Int64) (x1 : Int64) (h0 : Heap) (n0 : Nat) (v : Option Value) (h : Heap) (L : List Loc) : Prop := v = some (.int (if own_str x0 = own_str x1 then (1 : Int32) else (0 : Int32))) ∧ Fr n0 L ∧ h = h0
theorem ef_15 (m : MethodId) (x0 : Int64) (x1 : Int64) : entryFrame m #[(.long x0), (.long x1)] 5 = mkF m 0 #[lv x0, .second, lv x1, .second, .unset] [] := by first | (simp [entryFrame, mkF, argsToLocals, Value.category]; done) | rfl
set_option maxRecDepth 65536 in
set_option maxHeartbeats 40000000 in
theorem rm15 (l : Launch) (Z : State) (a0 : Array Value) (hw : ∀ d ∈ tables_1, d.before a0 Z = true) (ws : List Jvm.Cond) (x0 : Int64) (x1 : Int64) (h0 : Heap) (n0 : Nat) (Z0 : n0 ≤ h0.size) :
    MetFree l (⟨"com/example/bylaws_for_tables/bylawsfortables/FindingKeyEqualsPinLaw", "sameText", "(JJ)Z"⟩ : MethodName) (head1 (Jvm.Cond.code (⟨"com/example/bylaws_for_tables/bylawsfortables/FindingKeyEqualsPinLaw", "sameText", "(JJ)Z"⟩ : MethodName) method_5_code 5 (some .boolean) :: ws) ({ frames := 1, cells := 0, slots := 0, locals := 15 } : Room)) (fun a U => a = #[(.long x0), (.long x1)] ∧ Z.Warmed39 U.vm ∧ U.heap = h0) (fun _ _ _ _ _ => True) (fun _ U o U' => ∃ v L, o = .returned v ∧ Q15 Z x0 x1 h0 n0 v U'.heap L ∧ FrameEnd U o U' L ({ frames := 1, cells := 0, slots := 0, locals := 15 } : Room).cells ({ frames := 1, cells := 0, slots := 0, locals := 15 } : Room).slots) := by
  refine MetFree.of_bodySF (plainFor_of_name pn_15) hisR ?_
  intro p e s m args below meth c s₁ Bd hml0 hP hK
  obtain ⟨rfl, hZ, hh⟩ := hP
  have hx := Bd.exec
  have hby := Bd.bytes
  have hml : c.maxLocals = 5 := hml0
  have hown : s.vm.findClass "com/example/bylaws_for_tables/bylawsfortables/FindingKeyEqualsPinLaw" = some m.cls := findClass_of_methodNamed Bd.named
  have hnm := (name_of_methodNamed Bd.named Bd.method).1
  have X0 : Stand p l e ({ frames := 1, cells := 0, slots := 0, locals := 15 } : Room) s m #[(.long x0), (.long x1)] below meth c s₁ [] 0 0 := Stand.of_body Bd
  have e0 : s₁.heap = h0 := by rw [← hh, Bd.state]; rfl
  have N0 := Fr.nil n0
  have Kp0 := Keep.refl h0 []
  have P0 : ∀ t, Steps p.tables e below (s₁.setTop (mkF m 0 #[lv x0, .second, lv x1, .second, .unset] [])) t → Steps p.tables e below (s₁.setTop (entryFrame m #[(.long x0), (.long x1)] 5)) t := fun t k => castTop (ef_15 m x0 x1) k
  obtain ⟨_, _, ⟨T1, L1, k1, n1⟩, -, X1, ⟨Lc1, hQ1, l1, y1, z1⟩, st1⟩ := Jvm.LawKit.callS X0 hx (y := (⟨"com/example/bylaws_for_tables/bylawsfortables/FindingKeyEqualsPinLaw", "len", "(J)I"⟩ : MethodName)) hown (mvT hZ (hw _ (im 11 rfl))) (mvT hZ (hw _ (im 12 rfl))) (mvT hZ (hw _ (im 2 rfl))) (mvT hZ (hw _ (im 13 rfl))) (by decide) (backOf (W := 0) (rm3 l Z a0 hw [] x0 h0 n0 Z0 ) hZ (hw _ (im 13 rfl)) (hw _ (im 2 rfl)) (by decide) (by decide)) (g := (mkF m 1 #[lv x0, .second, lv x1, .second, .unset] [(.long x0)])) rfl (by rw [hml]; rfl) (argsL := [(.long x0)]) (rest := []) (lenOf pd_4 rfl) rfl (by show 2 * 0 + _ ≤ _; exact Nat.le_of_eq rfl) (hb hby d15_1) (fun _ _ => ⟨rfl, e0, (by decide : 0 + 0 ≤ _), (by decide : 0 + 0 ≤ _)⟩)
  dsimp only [Pt.U, Pt.locs, Pt.cells, Pt.slots] at X1 l1 y1 z1 st1 hQ1
  subst l1 y1 z1
  obtain ⟨rfl, N1q, e1⟩ := hQ1
  have N1 := Fr.app N0 N1q
  obtain ⟨_, _, ⟨T2, L2, k2, n2⟩, -, X2, ⟨Lc2, hQ2, l2, y2, z2⟩, st2⟩ := Jvm.LawKit.callS X1 hx (y := (⟨"com/example/bylaws_for_tables/bylawsfortables/FindingKeyEqualsPinLaw", "len", "(J)I"⟩ : MethodName)) hown (mvT hZ (hw _ (im 11 rfl))) (mvT hZ (hw _ (im 12 rfl))) (mvT hZ (hw _ (im 2 rfl))) (mvT hZ (hw _ (im 13 rfl))) (by decide) (backOf (W := 1) (rm3 l Z a0 hw [] x1 h0 n0 Z0 ) hZ (hw _ (im 13 rfl)) (hw _ (im 2 rfl)) (by decide) (by decide)) (g := (mkF m 9 #[lv x0, .second, lv x1, .second, iv (own_len x0)] [(.long x1), (.int (own_len x0))])) rfl (by rw [hml]; rfl) (argsL := [(.long x1)]) (rest := [(.int (own_len x0))]) (lenOf pd_4 rfl) rfl (by show 2 * 0 + _ ≤ _; exact Nat.le_of_eq rfl) (hb hby d15_9) (fun _ _ => ⟨rfl, e1, (by decide : 0 + 0 ≤ _), (by decide : 0 + 0 ≤ _)⟩)
  dsimp only [Pt.U, Pt.locs, Pt.cells, Pt.slots] at X2 l2 y2 z2 st2 hQ2
  subst l2 y2 z2
  obtain ⟨rfl, N2q, e2⟩ := hQ2
  have N2 := Fr.app N1 N2q
  have P4 := own_go P0 (S' := T2.setTop (mkF m 12 #[lv x0, .second, lv x1, .second, iv (own_len x0)] [(.int (own_len x1)), (.int (own_len x0))])) (by
    intro t k
    refine XS.lloadN X0.here hx rfl (hb hby d15_0) rfl ?_
    refine st1 _ ?_
    refine XS.istore X1.here hx rfl (hb hby d15_4) rfl (l' := #[lv x0, .second, lv x1, .second, iv (own_len x0)]) rfl ?_
    refine XS.iload X1.here hx rfl (hb hby d15_6) rfl ?_
    refine XS.lloadN X1.here hx rfl (hb hby d15_8) rfl ?_
    refine st2 _ ?_
    exact k)
  by_cases hc12_3 : (own_len x0) = (own_len x1)
  · have P6 := own_go P4 (S' := T2.setTop (mkF m 20 #[lv x0, .second, lv x1, .second, iv (own_len x0)] [(.int 1), (.int (own_len x0))])) (by
      intro t k
      refine XS.icmpYes X2.here hx rfl (pc0 := 12) (pc' := 17) rfl (hb hby d15_12) rfl (teq hc12_3).1 (by decide) (by decide) ?_
      refine XS.iload X2.here hx rfl (hb hby d15_17) rfl ?_
      refine XS.iconst X2.here hx rfl (hb hby d15_19) ?_
      exact k)
    by_cases hc20_5 : (own_len x0) < (1 : Int32)
    · have P8 := own_go P6 (S' := T2.setTop (mkF m 41 #[lv x0, .second, lv x1, .second, iv (own_len x0)] [(.int 2), (.int (own_len x0))])) (by
        intro t k
        refine XS.icmpYes X2.here hx rfl (pc0 := 20) (pc' := 38) rfl (hb hby d15_20) rfl (tlt hc20_5).1 (by decide) (by decide) ?_
        refine XS.iload X2.here hx rfl (hb hby d15_38) rfl ?_
        refine XS.iconst X2.here hx rfl (hb hby d15_40) ?_
        exact k)
      by_cases hc41_7 : (own_len x0) < (2 : Int32)
      · have P9 := own_go P8 (S' := T2.setTop (mkF m 60 #[lv x0, .second, lv x1, .second, iv (own_len x0)] [(.int 1)])) (by
          intro t k
          refine XS.icmpYes X2.here hx rfl (pc0 := 41) (pc' := 59) rfl (hb hby d15_41) rfl (tlt hc41_7).1 (by decide) (by decide) ?_
          refine XS.iconst X2.here hx rfl (hb hby d15_59) ?_
          exact k)
        obtain ⟨fs, hr, hrun, hended, hW, hsame⟩ := X2.leave (v := some (.int 1)) (fun h => by rw [Bd.returns] at h; cases h)
        refine ⟨_, _, P9 _ ?_, hrun, hended, _, _, rfl, ?_, ⟨_, rfl⟩, hW, hsame.mono (by decide) (by decide)⟩
        · show Steps p.tables e below (T2.setTop (mkF m 60 #[lv x0, .second, lv x1, .second, iv (own_len x0)] [(.int 1)])) _
          exact retN X2 hx (t := .boolean) Bd.returns (by simp) (hb hby d15_60) hr
        · show Q15 Z x0 x1 h0 n0 _ T2.heap _
          rw [e2]
          exact ⟨(by first | rw [if_pos ((own_same x0 x1).mpr ⟨by assumption, by first | exact Or.inl (by assumption) | exact Or.inr (by assumption), by first | exact Or.inl (by assumption) | exact Or.inr (by assumption)⟩)] | rw [if_neg (fun q => by obtain ⟨qa, qb, qc⟩ := (own_same x0 x1).mp q; first | contradiction | (rcases qb with qb | qb <;> contradiction) | (rcases qc with qc | qc <;> contradiction))]), N2, rfl⟩
      · obtain ⟨_, _, ⟨T10, L10, k10, n10⟩, -, X10, ⟨Lc10, hQ10, l10, y10, z10⟩, st10⟩ := Jvm.LawKit.callS X2 hx (y := (⟨"com/example/bylaws_for_tables/bylawsfortables/FindingKeyEqualsPinLaw", "ch", "(JI)C"⟩ : MethodName)) hown (mvT hZ (hw _ (im 69 rfl))) (mvT hZ (hw _ (im 70 rfl))) (mvT hZ (hw _ (im 2 rfl))) (mvT hZ (hw _ (im 71 rfl))) (by decide) (backOf (W := 0) (rm11 l Z a0 hw [] x0 (1 : Int32) h0 n0 Z0 ) hZ (hw _ (im 71 rfl)) (hw _ (im 2 rfl)) (by decide) (by decide)) (g := (mkF m 46 #[lv x0, .second, lv x1, .second, iv (own_len x0)] [(.int 1), (.long x0)])) rfl (by rw [hml]; rfl) (argsL := [(.long x0), (.int 1)]) (rest := []) (lenOf pd_6 rfl) rfl (by show 2 * 0 + _ ≤ _; exact Nat.le_of_eq rfl) (hb hby d15_46) (fun _ _ => ⟨rfl, e2, (by decide : 0 + 0 ≤ _), (by decide : 0 + 0 ≤ _)⟩)
        dsimp only [Pt.U, Pt.locs, Pt.cells, Pt.slots] at X10 l10 y10 z10 st10 hQ10
        subst l10 y10 z10
        obtain ⟨rfl, N10q, e10⟩ := hQ10
        have N10 := Fr.app N2 N10q
        obtain ⟨_, _, ⟨T11, L11, k11, n11⟩, -, X11, ⟨Lc11, hQ11, l11, y11, z11⟩, st11⟩ := Jvm.LawKit.callS X10 hx (y := (⟨"com/example/bylaws_for_tables/bylawsfortables/FindingKeyEqualsPinLaw", "ch", "(JI)C"⟩ : MethodName)) hown (mvT hZ (hw _ (im 69 rfl))) (mvT hZ (hw _ (im 70 rfl))) (mvT hZ (hw _ (im 2 rfl))) (mvT hZ (hw _ (im 71 rfl))) (by decide) (backOf (W := 1) (rm11 l Z a0 hw [] x1 (1 : Int32) h0 n0 Z0 ) hZ (hw _ (im 71 rfl)) (hw _ (im 2 rfl)) (by decide) (by decide)) (g := (mkF m 51 #[lv x0, .second, lv x1, .second, iv (own_len x0)] [(.int 1), (.long x1), (.int (own_chr x0 (1 : Int32)))])) rfl (by rw [hml]; rfl) (argsL := [(.long x1), (.int 1)]) (rest := [(.int (own_chr x0 (1 : Int32)))]) (lenOf pd_6 rfl) rfl (by show 2 * 0 + _ ≤ _; exact Nat.le_of_eq rfl) (hb hby d15_51) (fun _ _ => ⟨rfl, e10, (by decide : 0 + 0 ≤ _), (by decide : 0 + 0 ≤ _)⟩)
        dsimp only [Pt.U, Pt.locs, Pt.cells, Pt.slots] at X11 l11 y11 z11 st11 hQ11
        subst l11 y11 z11
        obtain ⟨rfl, N11q, e11⟩ := hQ11
        have N11 := Fr.app N10 N11q
        have P13 := own_go P8 (S' := T11.setTop (mkF m 54 #[lv x0, .second, lv x1, .second, iv (own_len x0)] [(.int (own_chr x1 (1 : Int32))), (.int (own_chr x0 (1 : Int32)))])) (by
          intro t k
          refine XS.icmpNo X2.here hx rfl (hb hby d15_41) rfl (flt hc41_7).1 ?_
          refine XS.lloadN X2.here hx rfl (hb hby d15_44) rfl ?_
          refine XS.iconst X2.here hx rfl (hb hby d15_45) ?_
          refine st10 _ ?_
          refine XS.lloadN X10.here hx rfl (hb hby d15_49) rfl ?_
          refine XS.iconst X10.here hx rfl (hb hby d15_50) ?_
          refine st11 _ ?_
          exact k)
        by_cases hc54_12 : (own_chr x0 (1 : Int32)) = (own_chr x1 (1 : Int32))
        · have P14 := own_go P13 (S' := T11.setTop (mkF m 60 #[lv x0, .second, lv x1, .second, iv (own_len x0)] [(.int 1)])) (by
            intro t k
            refine XS.icmpYes X11.here hx rfl (pc0 := 54) (pc' := 59) rfl (hb hby d15_54) rfl (teq hc54_12).1 (by decide) (by decide) ?_
            refine XS.iconst X11.here hx rfl (hb hby d15_59) ?_
            exact k)
          obtain ⟨fs, hr, hrun, hended, hW, hsame⟩ := X11.leave (v := some (.int 1)) (fun h => by rw [Bd.returns] at h; cases h)
          refine ⟨_, _, P14 _ ?_, hrun, hended, _, _, rfl, ?_, ⟨_, rfl⟩, hW, hsame.mono (by decide) (by decide)⟩
          · show Steps p.tables e below (T11.setTop (mkF m 60 #[lv x0, .second, lv x1, .second, iv (own_len x0)] [(.int 1)])) _
            exact retN X11 hx (t := .boolean) Bd.returns (by simp) (hb hby d15_60) hr
          · show Q15 Z x0 x1 h0 n0 _ T11.heap _
            rw [e11]
            exact ⟨(by first | rw [if_pos ((own_same x0 x1).mpr ⟨by assumption, by first | exact Or.inl (by assumption) | exact Or.inr (by assumption), by first | exact Or.inl (by assumption) | exact Or.inr (by assumption)⟩)] | rw [if_neg (fun q => by obtain ⟨qa, qb, qc⟩ := (own_same x0 x1).mp q; first | contradiction | (rcases qb with qb | qb <;> contradiction) | (rcases qc with qc | qc <;> contradiction))]), N11, rfl⟩
        · have P15 := own_go P13 (S' := T11.setTop (mkF m 58 #[lv x0, .second, lv x1, .second, iv (own_len x0)] [(.int 0)])) (by
            intro t k
            refine XS.icmpNo X11.here hx rfl (hb hby d15_54) rfl (feq hc54_12).1 ?_
            refine XS.iconst X11.here hx rfl (hb hby d15_57) ?_
            exact k)
          obtain ⟨fs, hr, hrun, hended, hW, hsame⟩ := X11.leave (v := some (.int 0)) (fun h => by rw [Bd.returns] at h; cases h)
          refine ⟨_, _, P15 _ ?_, hrun, hended, _, _, rfl, ?_, ⟨_, rfl⟩, hW, hsame.mono (by decide) (by decide)⟩
          · show Steps p.tables e below (T11.setTop (mkF m 58 #[lv x0, .second, lv x1, .second, iv (own_len x0)] [(.int 0)])) _
            exact retN X11 hx (t := .boolean) Bd.returns (by simp) (hb hby d15_58) hr
          · show Q15 Z x0 x1 h0 n0 _ T11.heap _
            rw [e11]
            exact ⟨(by first | rw [if_pos ((own_same x0 x1).mpr ⟨by assumption, by first | exact Or.inl (by assumption) | exact Or.inr (by assumption), by first | exact Or.inl (by assumption) | exact Or.inr (by assumption)⟩)] | rw [if_neg (fun q => by obtain ⟨qa, qb, qc⟩ := (own_same x0 x1).mp q; first | contradiction | (rcases qb with qb | qb <;> contradiction) | (rcases qc with qc | qc <;> contradiction))]), N11, rfl⟩
    · obtain ⟨_, _, ⟨T16, L16, k16, n16⟩, -, X16, ⟨Lc16, hQ16, l16, y16, z16⟩, st16⟩ := Jvm.LawKit.callS X2 hx (y := (⟨"com/example/bylaws_for_tables/bylawsfortables/FindingKeyEqualsPinLaw", "ch", "(JI)C"⟩ : MethodName)) hown (mvT hZ (hw _ (im 69 rfl))) (mvT hZ (hw _ (im 70 rfl))) (mvT hZ (hw _ (im 2 rfl))) (mvT hZ (hw _ (im 71 rfl))) (by decide) (backOf (W := 0) (rm11 l Z a0 hw [] x0 (0 : Int32) h0 n0 Z0 ) hZ (hw _ (im 71 rfl)) (hw _ (im 2 rfl)) (by decide) (by decide)) (g := (mkF m 25 #[lv x0, .second, lv x1, .second, iv (own_len x0)] [(.int 0), (.long x0)])) rfl (by rw [hml]; rfl) (argsL := [(.long x0), (.int 0)]) (rest := []) (lenOf pd_6 rfl) rfl (by show 2 * 0 + _ ≤ _; exact Nat.le_of_eq rfl) (hb hby d15_25) (fun _ _ => ⟨rfl, e2, (by decide : 0 + 0 ≤ _), (by decide : 0 + 0 ≤ _)⟩)
      dsimp only [Pt.U, Pt.locs, Pt.cells, Pt.slots] at X16 l16 y16 z16 st16 hQ16
      subst l16 y16 z16
      obtain ⟨rfl, N16q, e16⟩ := hQ16
      have N16 := Fr.app N2 N16q
      obtain ⟨_, _, ⟨T17, L17, k17, n17⟩, -, X17, ⟨Lc17, hQ17, l17, y17, z17⟩, st17⟩ := Jvm.LawKit.callS X16 hx (y := (⟨"com/example/bylaws_for_tables/bylawsfortables/FindingKeyEqualsPinLaw", "ch", "(JI)C"⟩ : MethodName)) hown (mvT hZ (hw _ (im 69 rfl))) (mvT hZ (hw _ (im 70 rfl))) (mvT hZ (hw _ (im 2 rfl))) (mvT hZ (hw _ (im 71 rfl))) (by decide) (backOf (W := 1) (rm11 l Z a0 hw [] x1 (0 : Int32) h0 n0 Z0 ) hZ (hw _ (im 71 rfl)) (hw _ (im 2 rfl)) (by decide) (by decide)) (g := (mkF m 30 #[lv x0, .second, lv x1, .second, iv (own_len x0)] [(.int 0), (.long x1), (.int (own_chr x0 (0 : Int32)))])) rfl (by rw [hml]; rfl) (argsL := [(.long x1), (.int 0)]) (rest := [(.int (own_chr x0 (0 : Int32)))]) (lenOf pd_6 rfl) rfl (by show 2 * 0 + _ ≤ _; exact Nat.le_of_eq rfl) (hb hby d15_30) (fun _ _ => ⟨rfl, e16, (by decide : 0 + 0 ≤ _), (by decide : 0 + 0 ≤ _)⟩)
      dsimp only [Pt.U, Pt.locs, Pt.cells, Pt.slots] at X17 l17 y17 z17 st17 hQ17
      subst l17 y17 z17
      obtain ⟨rfl, N17q, e17⟩ := hQ17
      have N17 := Fr.app N16 N17q
      have P19 := own_go P6 (S' := T17.setTop (mkF m 33 #[lv x0, .second, lv x1, .second, iv (own_len x0)] [(.int (own_chr x1 (0 : Int32))), (.int (own_chr x0 (0 : Int32)))])) (by
        intro t k
        refine XS.icmpNo X2.here hx rfl (hb hby d15_20) rfl (flt hc20_5).1 ?_
        refine XS.lloadN X2.here hx rfl (hb hby d15_23) rfl ?_
        refine XS.iconst X2.here hx rfl (hb hby d15_24) ?_
        refine st16 _ ?_
        refine XS.lloadN X16.here hx rfl (hb hby d15_28) rfl ?_
        refine XS.iconst X16.here hx rfl (hb hby d15_29) ?_
        refine st17 _ ?_
        exact k)
      by_cases hc33_18 : (own_chr x0 (0 : Int32)) = (own_chr x1 (0 : Int32))
      · have P21 := own_go P19 (S' := T17.setTop (mkF m 41 #[lv x0, .second, lv x1, .second, iv (own_len x0)] [(.int 2), (.int (own_len x0))])) (by
          intro t k
          refine XS.icmpYes X17.here hx rfl (pc0 := 33) (pc' := 38) rfl (hb hby d15_33) rfl (teq hc33_18).1 (by decide) (by decide) ?_
          refine XS.iload X17.here hx rfl (hb hby d15_38) rfl ?_
          refine XS.iconst X17.here hx rfl (hb hby d15_40) ?_
          exact k)
        by_cases hc41_20 : (own_len x0) < (2 : Int32)
        · have P22 := own_go P21 (S' := T17.setTop (mkF m 60 #[lv x0, .second, lv x1, .second, iv (own_len x0)] [(.int 1)])) (by
            intro t k
            refine XS.icmpYes X17.here hx rfl (pc0 := 41) (pc' := 59) rfl (hb hby d15_41) rfl (tlt hc41_20).1 (by decide) (by decide) ?_
            refine XS.iconst X17.here hx rfl (hb hby d15_59) ?_
            exact k)
          obtain ⟨fs, hr, hrun, hended, hW, hsame⟩ := X17.leave (v := some (.int 1)) (fun h => by rw [Bd.returns] at h; cases h)
          refine ⟨_, _, P22 _ ?_, hrun, hended, _, _, rfl, ?_, ⟨_, rfl⟩, hW, hsame.mono (by decide) (by decide)⟩
          · show Steps p.tables e below (T17.setTop (mkF m 60 #[lv x0, .second, lv x1, .second, iv (own_len x0)] [(.int 1)])) _
            exact retN X17 hx (t := .boolean) Bd.returns (by simp) (hb hby d15_60) hr
          · show Q15 Z x0 x1 h0 n0 _ T17.heap _
            rw [e17]
            exact ⟨(by first | rw [if_pos ((own_same x0 x1).mpr ⟨by assumption, by first | exact Or.inl (by assumption) | exact Or.inr (by assumption), by first | exact Or.inl (by assumption) | exact Or.inr (by assumption)⟩)] | rw [if_neg (fun q => by obtain ⟨qa, qb, qc⟩ := (own_same x0 x1).mp q; first | contradiction | (rcases qb with qb | qb <;> contradiction) | (rcases qc with qc | qc <;> contradiction))]), N17, rfl⟩
        · obtain ⟨_, _, ⟨T23, L23, k23, n23⟩, -, X23, ⟨Lc23, hQ23, l23, y23, z23⟩, st23⟩ := Jvm.LawKit.callS X17 hx (y := (⟨"com/example/bylaws_for_tables/bylawsfortables/FindingKeyEqualsPinLaw", "ch", "(JI)C"⟩ : MethodName)) hown (mvT hZ (hw _ (im 69 rfl))) (mvT hZ (hw _ (im 70 rfl))) (mvT hZ (hw _ (im 2 rfl))) (mvT hZ (hw _ (im 71 rfl))) (by decide) (backOf (W := 0) (rm11 l Z a0 hw [] x0 (1 : Int32) h0 n0 Z0 ) hZ (hw _ (im 71 rfl)) (hw _ (im 2 rfl)) (by decide) (by decide)) (g := (mkF m 46 #[lv x0, .second, lv x1, .second, iv (own_len x0)] [(.int 1), (.long x0)])) rfl (by rw [hml]; rfl) (argsL := [(.long x0), (.int 1)]) (rest := []) (lenOf pd_6 rfl) rfl (by show 2 * 0 + _ ≤ _; exact Nat.le_of_eq rfl) (hb hby d15_46) (fun _ _ => ⟨rfl, e17, (by decide : 0 + 0 ≤ _), (by decide : 0 + 0 ≤ _)⟩)
          dsimp only [Pt.U, Pt.locs, Pt.cells, Pt.slots] at X23 l23 y23 z23 st23 hQ23
          subst l23 y23 z23
          obtain ⟨rfl, N23q, e23⟩ := hQ23
          have N23 := Fr.app N17 N23q
          obtain ⟨_, _, ⟨T24, L24, k24, n24⟩, -, X24, ⟨Lc24, hQ24, l24, y24, z24⟩, st24⟩ := Jvm.LawKit.callS X23 hx (y := (⟨"com/example/bylaws_for_tables/bylawsfortables/FindingKeyEqualsPinLaw", "ch", "(JI)C"⟩ : MethodName)) hown (mvT hZ (hw _ (im 69 rfl))) (mvT hZ (hw _ (im 70 rfl))) (mvT hZ (hw _ (im 2 rfl))) (mvT hZ (hw _ (im 71 rfl))) (by decide) (backOf (W := 1) (rm11 l Z a0 hw [] x1 (1 : Int32) h0 n0 Z0 ) hZ (hw _ (im 71 rfl)) (hw _ (im 2 rfl)) (by decide) (by decide)) (g := (mkF m 51 #[lv x0, .second, lv x1, .second, iv (own_len x0)] [(.int 1), (.long x1), (.int (own_chr x0 (1 : Int32)))])) rfl (by rw [hml]; rfl) (argsL := [(.long x1), (.int 1)]) (rest := [(.int (own_chr x0 (1 : Int32)))]) (lenOf pd_6 rfl) rfl (by show 2 * 0 + _ ≤ _; exact Nat.le_of_eq rfl) (hb hby d15_51) (fun _ _ => ⟨rfl, e23, (by decide : 0 + 0 ≤ _), (by decide : 0 + 0 ≤ _)⟩)
          dsimp only [Pt.U, Pt.locs, Pt.cells, Pt.slots] at X24 l24 y24 z24 st24 hQ24
          subst l24 y24 z24
          obtain ⟨rfl, N24q, e24⟩ := hQ24
          have N24 := Fr.app N23 N24q
          have P26 := own_go P21 (S' := T24.setTop (mkF m 54 #[lv x0, .second, lv x1, .second, iv (own_len x0)] [(.int (own_chr x1 (1 : Int32))), (.int (own_chr x0 (1 : Int32)))])) (by
            intro t k
            refine XS.icmpNo X17.here hx rfl (hb hby d15_41) rfl (flt hc41_20).1 ?_
            refine XS.lloadN X17.here hx rfl (hb hby d15_44) rfl ?_
            refine XS.iconst X17.here hx rfl (hb hby d15_45) ?_
            refine st23 _ ?_
            refine XS.lloadN X23.here hx rfl (hb hby d15_49) rfl ?_
            refine XS.iconst X23.here hx rfl (hb hby d15_50) ?_
            refine st24 _ ?_
            exact k)
          by_cases hc54_25 : (own_chr x0 (1 : Int32)) = (own_chr x1 (1 : Int32))
          · have P27 := own_go P26 (S' := T24.setTop (mkF m 60 #[lv x0, .second, lv x1, .second, iv (own_len x0)] [(.int 1)])) (by
              intro t k
              refine XS.icmpYes X24.here hx rfl (pc0 := 54) (pc' := 59) rfl (hb hby d15_54) rfl (teq hc54_25).1 (by decide) (by decide) ?_
              refine XS.iconst X24.here hx rfl (hb hby d15_59) ?_
              exact k)
            obtain ⟨fs, hr, hrun, hended, hW, hsame⟩ := X24.leave (v := some (.int 1)) (fun h => by rw [Bd.returns] at h; cases h)
            refine ⟨_, _, P27 _ ?_, hrun, hended, _, _, rfl, ?_, ⟨_, rfl⟩, hW, hsame.mono (by decide) (by decide)⟩
            · show Steps p.tables e below (T24.setTop (mkF m 60 #[lv x0, .second, lv x1, .second, iv (own_len x0)] [(.int 1)])) _
              exact retN X24 hx (t := .boolean) Bd.returns (by simp) (hb hby d15_60) hr
            · show Q15 Z x0 x1 h0 n0 _ T24.heap _
              rw [e24]
              exact ⟨(by first | rw [if_pos ((own_same x0 x1).mpr ⟨by assumption, by first | exact Or.inl (by assumption) | exact Or.inr (by assumption), by first | exact Or.inl (by assumption) | exact Or.inr (by assumption)⟩)] | rw [if_neg (fun q => by obtain ⟨qa, qb, qc⟩ := (own_same x0 x1).mp q; first | contradiction | (rcases qb with qb | qb <;> contradiction) | (rcases qc with qc | qc <;> contradiction))]), N24, rfl⟩
          · have P28 := own_go P26 (S' := T24.setTop (mkF m 58 #[lv x0, .second, lv x1, .second, iv (own_len x0)] [(.int 0)])) (by
              intro t k
              refine XS.icmpNo X24.here hx rfl (hb hby d15_54) rfl (feq hc54_25).1 ?_
              refine XS.iconst X24.here hx rfl (hb hby d15_57) ?_
              exact k)
            obtain ⟨fs, hr, hrun, hended, hW, hsame⟩ := X24.leave (v := some (.int 0)) (fun h => by rw [Bd.returns] at h; cases h)
            refine ⟨_, _, P28 _ ?_, hrun, hended, _, _, rfl, ?_, ⟨_, rfl⟩, hW, hsame.mono (by decide) (by decide)⟩
            · show Steps p.tables e below (T24.setTop (mkF m 58 #[lv x0, .second, lv x1, .second, iv (own_len x0)] [(.int 0)])) _
              exact retN X24 hx (t := .boolean) Bd.returns (by simp) (hb hby d15_58) hr
            · show Q15 Z x0 x1 h0 n0 _ T24.heap _
              rw [e24]
              exact ⟨(by first | rw [if_pos ((own_same x0 x1).mpr ⟨by assumption, by first | exact Or.inl (by assumption) | exact Or.inr (by assumption), by first | exact Or.inl (by assumption) | exact Or.inr (by assumption)⟩)] | rw [if_neg (fun q => by obtain ⟨qa, qb, qc⟩ := (own_same x0 x1).mp q; first | contradiction | (rcases qb with qb | qb <;> contradiction) | (rcases qc with qc | qc <;> contradiction))]), N24, rfl⟩
      · have P29 := own_go P19 (S' := T17.setTop (mkF m 37 #[lv x0, .second, lv x1, .second, iv (own_len x0)] [(.int 0)])) (by
          intro t k
          refine XS.icmpNo X17.here hx rfl (hb hby d15_33) rfl (feq hc33_18).1 ?_
          refine XS.iconst X17.here hx rfl (hb hby d15_36) ?_
          exact k)
        obtain ⟨fs, hr, hrun, hended, hW, hsame⟩ := X17.leave (v := some (.int 0)) (fun h => by rw [Bd.returns] at h; cases h)
        refine ⟨_, _, P29 _ ?_, hrun, hended, _, _, rfl, ?_, ⟨_, rfl⟩, hW, hsame.mono (by decide) (by decide)⟩
        · show Steps p.tables e below (T17.setTop (mkF m 37 #[lv x0, .second, lv x1, .second, iv (own_len x0)] [(.int 0)])) _
          exact retN X17 hx (t := .boolean) Bd.returns (by simp) (hb hby d15_37) hr
        · show Q15 Z x0 x1 h0 n0 _ T17.heap _
          rw [e17]
          exact ⟨(by first | rw [if_pos ((own_same x0 x1).mpr ⟨by assumption, by first | exact Or.inl (by assumption) | exact Or.inr (by assumption), by first | exact Or.inl (by assumption) | exact Or.inr (by assumption)⟩)] | rw [if_neg (fun q => by obtain ⟨qa, qb, qc⟩ := (own_same x0 x1).mp q; first | contradiction | (rcases qb with qb | qb <;> contradiction) | (rcases qc with qc | qc <;> contradiction))]), N17, rfl⟩
  · have P30 := own_go P4 (S' := T2.setTop (mkF m 16 #[lv x0, .second, lv x1, .second, iv (own_len x0)] [(.int 0)])) (by
      intro t k
      refine XS.icmpNo X2.here hx rfl (hb hby d15_12) rfl (feq hc12_3).1 ?_
      refine XS.iconst X2.here hx rfl (hb hby d15_15) ?_
      exact k)
    obtain ⟨fs, hr, hrun, hended, hW, hsame⟩ := X2.leave (v := some (.int 0)) (fun h => by rw [Bd.returns] at h; cases h)
    refine ⟨_, _, P30 _ ?_, hrun, hended, _, _, rfl, ?_, ⟨_, rfl⟩, hW, hsame.mono (by decide) (by decide)⟩
    · show Steps p.tables e below (T2.setTop (mkF m 16 #[lv x0, .second, lv x1, .second, iv (own_len x0)] [(.int 0)])) _
      exact retN X2 hx (t := .boolean) Bd.returns (by simp) (hb hby d15_16) hr
    · show Q15 Z x0 x1 h0 n0 _ T2.heap _
      rw [e2]
      exact ⟨(by first | rw [if_pos ((own_same x0 x1).mpr ⟨by assumption, by first | exact Or.inl (by assumption) | exact Or.inr (by assumption), by first | exact Or.inl (by assumption) | exact Or.inr (by assumption)⟩)] | rw [if_neg (fun q => by obtain ⟨qa, qb, qc⟩ := (own_same x0 x1).mp q; first | contradiction | (rcases qb with qb | qb <;> contradiction) | (rcases qc with qc | qc <;> contradiction))]), N2, rfl⟩
def Q19 (Z : State) (x0 : Addr) (h0 : Heap) (n0 : Nat) (v : Option Value) (h : Heap) (L : List Loc) : Prop := v = none ∧ Fr n0 L ∧ h = h0
theorem ef_19 (m : MethodId) (x0 : Addr) : entryFrame m #[(.ref x0)] 1 = mkF m 0 #[rv x0] [] := by first | (simp [entryFrame, mkF, argsToLocals, Value.category]; done) | rfl
set_option maxRecDepth 65536 in
set_option maxHeartbeats 40000000 in
theorem rm19 (l : Launch) (Z : State) (a0 : Array Value) (hw : ∀ d ∈ tables_1, d.before a0 Z = true) (ws : List Jvm.Cond) (x0 : Addr) (h0 : Heap) (n0 : Nat) (Z0 : n0 ≤ h0.size) :
    MetFree l (⟨"java/lang/Number", "<init>", "()V"⟩ : MethodName) (head1 (Jvm.Cond.code (⟨"java/lang/Number", "<init>", "()V"⟩ : MethodName) jdk_18_method_1_code 1 none :: ws) ({ frames := 1, cells := 0, slots := 0, locals := 12 } : Room)) (fun a U => a = #[(.ref x0)] ∧ Z.Warmed39 U.vm ∧ U.heap = h0) (fun _ _ _ _ _ => True) (fun _ U o U' => ∃ v L, o = .returned v ∧ Q19 Z x0 h0 n0 v U'.heap L ∧ FrameEnd U o U' L ({ frames := 1, cells := 0, slots := 0, locals := 12 } : Room).cells ({ frames := 1, cells := 0, slots := 0, locals := 12 } : Room).slots) := by
  refine MetFree.of_bodySF (plainFor_of_name pn_19) hisR ?_
  intro p e s m args below meth c s₁ Bd hml0 hP hK
  obtain ⟨rfl, hZ, hh⟩ := hP
  have hx := Bd.exec
  have hby := Bd.bytes
  have hml : c.maxLocals = 1 := hml0
  have hown : s.vm.findClass "java/lang/Number" = some m.cls := findClass_of_methodNamed Bd.named
  have hnm := (name_of_methodNamed Bd.named Bd.method).1
  have X0 : Stand p l e ({ frames := 1, cells := 0, slots := 0, locals := 12 } : Room) s m #[(.ref x0)] below meth c s₁ [] 0 0 := Stand.of_body Bd
  have e0 : s₁.heap = h0 := by rw [← hh, Bd.state]; rfl
  have N0 := Fr.nil n0
  have Kp0 := Keep.refl h0 []
  have P0 : ∀ t, Steps p.tables e below (s₁.setTop (mkF m 0 #[rv x0] [])) t → Steps p.tables e below (s₁.setTop (entryFrame m #[(.ref x0)] 1)) t := fun t k => castTop (ef_19 m x0) k
  obtain ⟨T1, X1, e1, st1⟩ := initO X0 hx hZ hown (hw _ (im 110 rfl)) (hw _ (im 27 rfl)) (hw _ (im 28 rfl)) e0 (g := (mkF m 1 #[rv x0] [(.ref x0)])) rfl (by rw [hml]; rfl) rfl (hb hby d19_1) (by decide) (W := 0) (by show 2 * 0 + _ ≤ _; exact Nat.le_of_eq rfl) (by decide)
  have P2 := own_go P0 (S' := T1.setTop (mkF m 4 #[rv x0] [])) (by
    intro t k
    refine XS.aloadN X0.here hx rfl (hb hby d19_0) rfl rfl ?_
    refine st1 _ ?_
    exact k)
  obtain ⟨fs, hr, hrun, hended, hW, hsame⟩ := X1.leave (v := none) (fun _ => rfl)
  refine ⟨_, _, P2 _ ?_, hrun, hended, _, _, rfl, ?_, ⟨_, rfl⟩, hW, hsame.mono (by decide) (by decide)⟩
  · show Steps p.tables e below (T1.setTop (mkF m 4 #[rv x0] [])) _
    exact X1.returnOut hx Bd.returns (hb hby d19_4) hr
  · show Q19 Z x0 h0 n0 _ T1.heap _
    rw [e1]
    exact ⟨rfl, N0, rfl⟩
def Q18 (Z : State) (x0 : Addr) (x1 : Int32) (h0 : Heap) (n0 : Nat) (v : Option Value) (h : Heap) (L : List Loc) : Prop := v = none ∧ Fr n0 L ∧ Keep h0 h [x0] ∧ Exa Z h x0 "java/lang/Integer"
theorem ef_18 (m : MethodId) (x0 : Addr) (x1 : Int32) : entryFrame m #[(.ref x0), (.int x1)] 2 = mkF m 0 #[rv x0, iv x1] [] := by first | (simp [entryFrame, mkF, argsToLocals, Value.category]; done) | rfl
set_option maxRecDepth 65536 in
set_option maxHeartbeats 40000000 in
theorem rm18 (l : Launch) (Z : State) (a0 : Array Value) (hw : ∀ d ∈ tables_1, d.before a0 Z = true) (ws : List Jvm.Cond) (x0 : Addr) (x1 : Int32) (h0 : Heap) (n0 : Nat) (Z0 : n0 ≤ h0.size) (pre_E_x0 : Exa Z h0 x0 "java/lang/Integer") (pre_F_x0_value : Fld Z h0 x0 "java/lang/Integer" "value" "I" (.int 0)) (g_x0 : n0 ≤ x0) :
    MetFree l (⟨"java/lang/Integer", "<init>", "(I)V"⟩ : MethodName) (head1 (Jvm.Cond.code (⟨"java/lang/Integer", "<init>", "(I)V"⟩ : MethodName) jdk_33_method_23_code 2 none :: ws) ({ frames := 2, cells := 0, slots := 0, locals := 24 } : Room)) (fun a U => a = #[(.ref x0), (.int x1)] ∧ Z.Warmed39 U.vm ∧ U.heap = h0) (fun _ _ _ _ _ => True) (fun _ U o U' => ∃ v L, o = .returned v ∧ Q18 Z x0 x1 h0 n0 v U'.heap L ∧ FrameEnd U o U' L ({ frames := 2, cells := 0, slots := 0, locals := 24 } : Room).cells ({ frames := 2, cells := 0, slots := 0, locals := 24 } : Room).slots) := by
  refine MetFree.of_bodySF (plainFor_of_name pn_18) hisR ?_
  intro p e s m args below meth c s₁ Bd hml0 hP hK
  obtain ⟨rfl, hZ, hh⟩ := hP
  have hx := Bd.exec
  have hby := Bd.bytes
  have hml : c.maxLocals = 2 := hml0
  have hown : s.vm.findClass "java/lang/Integer" = some m.cls := findClass_of_methodNamed Bd.named
  have hnm := (name_of_methodNamed Bd.named Bd.method).1
  have X0 : Stand p l e ({ frames := 2, cells := 0, slots := 0, locals := 24 } : Room) s m #[(.ref x0), (.int x1)] below meth c s₁ [] 0 0 := Stand.of_body Bd
  have e0 : s₁.heap = h0 := by rw [← hh, Bd.state]; rfl
  have N0 := Fr.nil n0
  have Kp0 := Keep.refl h0 [x0]
  have P0 : ∀ t, Steps p.tables e below (s₁.setTop (mkF m 0 #[rv x0, iv x1] [])) t → Steps p.tables e below (s₁.setTop (entryFrame m #[(.ref x0), (.int x1)] 2)) t := fun t k => castTop (ef_18 m x0 x1) k
  obtain ⟨_, _, ⟨T1, L1, k1, n1⟩, -, X1, ⟨Lc1, hQ1, l1, y1, z1⟩, st1⟩ := X0.specialBack hx (y := (⟨"java/lang/Number", "<init>", "()V"⟩ : MethodName)) rfl hown (mvT hZ (hw _ (im 104 rfl))) (mvT hZ (hw _ (im 105 rfl))) (mvT hZ (hw _ (im 109 rfl))) (by decide) (backOf (W := 0) (rm19 l Z a0 hw [] x0 h0 n0 Z0 ) hZ (hw _ (im 109 rfl)) (hw _ (im 108 rfl)) (by decide) (by decide)) (g := (mkF m 1 #[rv x0, iv x1] [(.ref x0)])) rfl (by rw [hml]; rfl) (Steps.refl _) (a := x0) (argsL := []) (rest := []) (lenOf pd_10 rfl) rfl (by show 2 * 0 + _ ≤ _; exact Nat.le_of_eq rfl) (hb hby d18_1) (fun _ _ => ⟨rfl, e0, (by decide : 0 + 0 ≤ _), (by decide : 0 + 0 ≤ _)⟩)
  dsimp only [Pt.U, Pt.locs, Pt.cells, Pt.slots] at X1 l1 y1 z1 st1 hQ1
  subst l1 y1 z1
  obtain ⟨rfl, N1q, e1⟩ := hQ1
  have N1 := Fr.app N0 N1q
  obtain ⟨T2, h2, X2, e2, W2, st2⟩ := putF X1 hx hZ hown (host := "") (Or.inl (hw _ (im 111 rfl))) Via.refl e1 pre_F_x0_value pre_E_x0 (Or.inr ⟨(hw _ (im 112 rfl)), rfl, hnm⟩) (hw _ (im 99 rfl)) (ty := .int) (by decide) rfl rfl (g := (mkF m 6 #[rv x0, iv x1] [(.int x1), (.ref x0)])) rfl rfl (hb hby d18_6)
  have Fw2 := pre_F_x0_value.same W2
  have Z2_ : n0 ≤ h2.size := Nat.le_trans Z0 (Nat.le_of_eq W2.size.symm)
  have N2 := Fr.snoc X2 N1 g_x0
  have KK2 := Kp0.wr W2 (Or.inl (List.mem_of_getElem? (i := 0) rfl))
  have P3 := own_go P0 (S' := T2.setTop (mkF m 9 #[rv x0, iv x1] [])) (by
    intro t k
    refine XS.aloadN X0.here hx rfl (hb hby d18_0) rfl rfl ?_
    refine st1.trans ?_
    refine XS.aloadN X1.here hx rfl (hb hby d18_4) rfl rfl ?_
    refine XS.iloadN X1.here hx rfl (hb hby d18_5) rfl ?_
    refine st2 _ ?_
    exact k)
  have q4 := (pre_E_x0.wr W2)
  obtain ⟨fs, hr, hrun, hended, hW, hsame⟩ := X2.leave (v := none) (fun _ => rfl)
  refine ⟨_, _, P3 _ ?_, hrun, hended, _, _, rfl, ?_, ⟨_, rfl⟩, hW, hsame.mono (by decide) (by decide)⟩
  · show Steps p.tables e below (T2.setTop (mkF m 9 #[rv x0, iv x1] [])) _
    exact X2.returnOut hx Bd.returns (hb hby d18_9) hr
  · show Q18 Z x0 x1 h0 n0 _ T2.heap _
    rw [e2]
    exact ⟨rfl, N2, KK2, q4⟩
def Q17 (Z : State) (x0 : Int32) (ca : Addr) (cl : Cell) (h0 : Heap) (n0 : Nat) (v : Option Value) (h : Heap) (L : List Loc) : Prop := ∃ (b : Addr), v = some (.ref b) ∧ Fr n0 L ∧ Keep h0 h [] ∧ Exa Z h b "java/lang/Integer"
theorem ef_17 (m : MethodId) (x0 : Int32) : entryFrame m #[(.int x0)] 1 = mkF m 0 #[iv x0] [] := by first | (simp [entryFrame, mkF, argsToLocals, Value.category]; done) | rfl
set_option maxRecDepth 65536 in
set_option maxHeartbeats 40000000 in
theorem rm17 (l : Launch) (Z : State) (a0 : Array Value) (hw : ∀ d ∈ tables_1, d.before a0 Z = true) (ws : List Jvm.Cond) (x0 : Int32) (ca : Addr) (cl : Cell) (h0 : Heap) (n0 : Nat) (Z0 : n0 ≤ h0.size) (O0 : Old Z n0 h0) (pre_S_high : Sta Z Z.heap "java/lang/Integer$IntegerCache" "high" "I" (.int 127)) (pre_S_cache : Sta Z Z.heap "java/lang/Integer$IntegerCache" "cache" "[Ljava/lang/Integer;" (.ref ca)) (BX : Bxs Z ca cl "java/lang/Integer" "I" (256 : Int32) (fun j => .int (j - (128 : Int32)))) :
    MetFree l (⟨"java/lang/Integer", "valueOf", "(I)Ljava/lang/Integer;"⟩ : MethodName) (head1 (Jvm.Cond.code (⟨"java/lang/Integer", "valueOf", "(I)Ljava/lang/Integer;"⟩ : MethodName) jdk_33_method_22_code 1 (some (.object "java/lang/Integer")) :: ws) ({ frames := 3, cells := 1, slots := 1, locals := 38 } : Room)) (fun a U => a = #[(.int x0)] ∧ Z.Warmed39 U.vm ∧ U.heap = h0) (fun _ _ _ _ _ => True) (fun _ U o U' => ∃ v L, o = .returned v ∧ Q17 Z x0 ca cl h0 n0 v U'.heap L ∧ FrameEnd U o U' L ({ frames := 3, cells := 1, slots := 1, locals := 38 } : Room).cells ({ frames := 3, cells := 1, slots := 1, locals := 38 } : Room).slots) := by
  refine MetFree.of_bodySF (plainFor_of_name pn_17) hisR ?_
  intro p e s m args below meth c s₁ Bd hml0 hP hK
  obtain ⟨rfl, hZ, hh⟩ := hP
  have hx := Bd.exec
  have hby := Bd.bytes
  have hml : c.maxLocals = 1 := hml0
  have hown : s.vm.findClass "java/lang/Integer" = some m.cls := findClass_of_methodNamed Bd.named
  have hnm := (name_of_methodNamed Bd.named Bd.method).1
  have X0 : Stand p l e ({ frames := 3, cells := 1, slots := 1, locals := 38 } : Room) s m #[(.int x0)] below meth c s₁ [] 0 0 := Stand.of_body Bd
  have e0 : s₁.heap = h0 := by rw [← hh, Bd.state]; rfl
  have N0 := Fr.nil n0
  have Kp0 := Keep.refl h0 []
  have P0 : ∀ t, Steps p.tables e below (s₁.setTop (mkF m 0 #[iv x0] [])) t → Steps p.tables e below (s₁.setTop (entryFrame m #[(.int x0)] 1)) t := fun t k => castTop (ef_17 m x0) k
  have P2 := own_go P0 (S' := s₁.setTop (mkF m 3 #[iv x0] [(.int (-128)), (.int x0)])) (by
    intro t k
    refine XS.iloadN X0.here hx rfl (hb hby d17_0) rfl ?_
    refine XS.bipush X0.here hx rfl (hb hby d17_1) ?_
    exact k)
  by_cases hc3_1 : x0 < (-128 : Int32)
  · obtain ⟨T3, h3, X3, e3, E3, A3, D3, -, st3⟩ := newO X0 hx hZ hown (hw _ (im 98 rfl)) (hw _ (im 99 rfl)) (hw _ (im 94 rfl)) e0 (g := (mkF m 23 #[iv x0] [])) rfl (hb hby d17_23) (by decide) (by decide)
    obtain ⟨b3, g3⟩ : ∃ z, z = h0.size := ⟨_, rfl⟩
    rw [← g3] at A3 D3 st3
    have ge_b3 : n0 ≤ b3 := Nat.le_trans Z0 (Nat.le_of_eq g3.symm)
    have sz_b3 : h0.size ≤ b3 := Nat.le_trans Kp0.1 (Nat.le_of_eq g3.symm)
    have Z3_ : n0 ≤ h3.size := Nat.le_trans Z0 E3.1
    have O3_ := O0.ext E3
    have KK3 := Kp0.ext E3
    have F3_value : Fld Z h3 b3 "java/lang/Integer" "value" "I" (.int 0) := D3 (Or.inr (hw _ (im 112 rfl))) (ty := .int) (by decide)
    obtain ⟨_, _, ⟨T4, L4, k4, n4⟩, -, X4, ⟨Lc4, hQ4, l4, y4, z4⟩, st4⟩ := X3.specialBack hx (y := (⟨"java/lang/Integer", "<init>", "(I)V"⟩ : MethodName)) rfl hown (mvT hZ (hw _ (im 100 rfl))) (mvT hZ (hw _ (im 101 rfl))) (mvT hZ (hw _ (im 103 rfl))) (by decide) (backOf (W := 1) (rm18 l Z a0 hw [] b3 x0 h3 n0 Z3_ A3 F3_value ge_b3) hZ (hw _ (im 103 rfl)) (hw _ (im 94 rfl)) (by decide) (by decide)) (g := (mkF m 28 #[iv x0] [(.int x0), (.ref b3), (.ref b3)])) rfl (by rw [hml]; rfl) (Steps.refl _) (a := b3) (argsL := [(.int x0)]) (rest := [(.ref b3)]) (lenOf pd_11 rfl) rfl (by show 2 * 0 + _ ≤ _; exact Nat.le_of_eq rfl) (hb hby d17_28) (fun _ _ => ⟨rfl, e3, (by decide : 1 + 0 ≤ _), (by decide : 1 + 0 ≤ _)⟩)
    dsimp only [Pt.U, Pt.locs, Pt.cells, Pt.slots] at X4 l4 y4 z4 st4 hQ4
    subst l4 y4 z4
    obtain ⟨rfl, N4q, K4, r4_0⟩ := hQ4
    have N4 := Fr.app N0 N4q
    have Z4_ : n0 ≤ T4.heap.size := Nat.le_trans Z3_ K4.1
    have O4_ := O3_.keep K4 (allS ge_b3 all0)
    have KK4 := KK3.trans K4 (allS (Or.inr sz_b3) all0)
    have P5 := own_go P2 (S' := T4.setTop (mkF m 31 #[iv x0] [(.ref b3)])) (by
      intro t k
      refine XS.icmpYes X0.here hx rfl (pc0 := 3) (pc' := 23) rfl (hb hby d17_3) rfl (tlt hc3_1).1 (by decide) (by decide) ?_
      refine st3 _ ?_
      refine XS.dup X3.here hx rfl (hb hby d17_26) rfl rfl ?_
      refine XS.iloadN X3.here hx rfl (hb hby d17_27) rfl ?_
      refine st4.trans ?_
      exact k)
    obtain ⟨fs, hr, hrun, hended, hW, hsame⟩ := X4.leave (v := some (.ref b3)) (fun h => by rw [Bd.returns] at h; cases h)
    refine ⟨_, _, P5 _ ?_, hrun, hended, _, _, rfl, ?_, ⟨_, rfl⟩, hW, hsame.mono (by decide) (by decide)⟩
    · show Steps p.tables e below (T4.setTop (mkF m 31 #[iv x0] [(.ref b3)])) _
      exact retOut X4 hx (t := (.object "java/lang/Integer")) Bd.returns rfl (Or.inr (Or.inr (Or.inr (Or.inr ⟨rfl, rfl, rfl⟩)))) (hb hby d17_31) hr
    · show Q17 Z x0 ca cl h0 n0 _ T4.heap _
      exact ⟨b3, rfl, N4, KK4, r4_0⟩
  · obtain ⟨T6, X6, e6, st6⟩ := getS2 X0 hx hZ hown (host := "") (Or.inl (hw _ (im 96 rfl))) Via.refl e0 (pre_S_high.ext O0.2) (g := (mkF m 7 #[iv x0] [(.int x0)])) rfl (hb hby d17_7)
    have P8 := own_go P2 (S' := T6.setTop (mkF m 10 #[iv x0] [(.int 127), (.int x0)])) (by
      intro t k
      refine XS.icmpNo X0.here hx rfl (hb hby d17_3) rfl (flt hc3_1).1 ?_
      refine XS.iloadN X0.here hx rfl (hb hby d17_6) rfl ?_
      refine st6 _ ?_
      exact k)
    by_cases hc10_7 : (127 : Int32) < x0
    · obtain ⟨T9, h9, X9, e9, E9, A9, D9, -, st9⟩ := newO X6 hx hZ hown (hw _ (im 98 rfl)) (hw _ (im 99 rfl)) (hw _ (im 94 rfl)) e6 (g := (mkF m 23 #[iv x0] [])) rfl (hb hby d17_23) (by decide) (by decide)
      obtain ⟨b9, g9⟩ : ∃ z, z = h0.size := ⟨_, rfl⟩
      rw [← g9] at A9 D9 st9
      have ge_b9 : n0 ≤ b9 := Nat.le_trans Z0 (Nat.le_of_eq g9.symm)
      have sz_b9 : h0.size ≤ b9 := Nat.le_trans Kp0.1 (Nat.le_of_eq g9.symm)
      have Z9_ : n0 ≤ h9.size := Nat.le_trans Z0 E9.1
      have O9_ := O0.ext E9
      have KK9 := Kp0.ext E9
      have F9_value : Fld Z h9 b9 "java/lang/Integer" "value" "I" (.int 0) := D9 (Or.inr (hw _ (im 112 rfl))) (ty := .int) (by decide)
      obtain ⟨_, _, ⟨T10, L10, k10, n10⟩, -, X10, ⟨Lc10, hQ10, l10, y10, z10⟩, st10⟩ := X9.specialBack hx (y := (⟨"java/lang/Integer", "<init>", "(I)V"⟩ : MethodName)) rfl hown (mvT hZ (hw _ (im 100 rfl))) (mvT hZ (hw _ (im 101 rfl))) (mvT hZ (hw _ (im 103 rfl))) (by decide) (backOf (W := 1) (rm18 l Z a0 hw [] b9 x0 h9 n0 Z9_ A9 F9_value ge_b9) hZ (hw _ (im 103 rfl)) (hw _ (im 94 rfl)) (by decide) (by decide)) (g := (mkF m 28 #[iv x0] [(.int x0), (.ref b9), (.ref b9)])) rfl (by rw [hml]; rfl) (Steps.refl _) (a := b9) (argsL := [(.int x0)]) (rest := [(.ref b9)]) (lenOf pd_11 rfl) rfl (by show 2 * 0 + _ ≤ _; exact Nat.le_of_eq rfl) (hb hby d17_28) (fun _ _ => ⟨rfl, e9, (by decide : 1 + 0 ≤ _), (by decide : 1 + 0 ≤ _)⟩)
      dsimp only [Pt.U, Pt.locs, Pt.cells, Pt.slots] at X10 l10 y10 z10 st10 hQ10
      subst l10 y10 z10
      obtain ⟨rfl, N10q, K10, r10_0⟩ := hQ10
      have N10 := Fr.app N0 N10q
      have Z10_ : n0 ≤ T10.heap.size := Nat.le_trans Z9_ K10.1
      have O10_ := O9_.keep K10 (allS ge_b9 all0)
      have KK10 := KK9.trans K10 (allS (Or.inr sz_b9) all0)
      have P11 := own_go P8 (S' := T10.setTop (mkF m 31 #[iv x0] [(.ref b9)])) (by
        intro t k
        refine XS.icmpYes X6.here hx rfl (pc0 := 10) (pc' := 23) rfl (hb hby d17_10) rfl (tlt hc10_7).2.2.1 (by decide) (by decide) ?_
        refine st9 _ ?_
        refine XS.dup X9.here hx rfl (hb hby d17_26) rfl rfl ?_
        refine XS.iloadN X9.here hx rfl (hb hby d17_27) rfl ?_
        refine st10.trans ?_
        exact k)
      obtain ⟨fs, hr, hrun, hended, hW, hsame⟩ := X10.leave (v := some (.ref b9)) (fun h => by rw [Bd.returns] at h; cases h)
      refine ⟨_, _, P11 _ ?_, hrun, hended, _, _, rfl, ?_, ⟨_, rfl⟩, hW, hsame.mono (by decide) (by decide)⟩
      · show Steps p.tables e below (T10.setTop (mkF m 31 #[iv x0] [(.ref b9)])) _
        exact retOut X10 hx (t := (.object "java/lang/Integer")) Bd.returns rfl (Or.inr (Or.inr (Or.inr (Or.inr ⟨rfl, rfl, rfl⟩)))) (hb hby d17_31) hr
      · show Q17 Z x0 ca cl h0 n0 _ T10.heap _
        exact ⟨b9, rfl, N10, KK10, r10_0⟩
    · obtain ⟨T12, X12, e12, st12⟩ := getS2 X6 hx hZ hown (host := "") (Or.inl (hw _ (im 116 rfl))) Via.refl e6 (pre_S_cache.ext O0.2) (g := (mkF m 13 #[iv x0] [])) rfl (hb hby d17_13)
      have hj13 := own_idx x0 hc3_1 hc10_7
      obtain ⟨b13, hat13, Eb13, -⟩ := BX.2.2.2 (x0 + (128 : Int32)) (inb_of BX.2.1 hj13)
      obtain ⟨Ar13, -, -⟩ := BX.ext O0.2
      have P14 := own_go P8 (S' := T12.setTop (mkF m 22 #[iv x0] [(.ref b13)])) (by
        intro t k
        refine XS.icmpNo X6.here hx rfl (hb hby d17_10) rfl (flt hc10_7).2.2.1 ?_
        refine st12 _ ?_
        refine XS.iloadN X12.here hx rfl (hb hby d17_16) rfl ?_
        refine XS.sipush X12.here hx rfl (hb hby d17_17) ?_
        refine XS.iadd X12.here hx rfl (hb hby d17_20) rfl ?_
        refine X12.aaload hx (j := (x0 + (128 : Int32))) (v := (.ref b13)) (by rw [e12]; exact Ar13.1) (State.isArrayOf_alike hZ.alike Ar13.2.1) rfl Ar13.2.2 (inb_of BX.2.1 hj13) hat13 (g := (mkF m 21 #[iv x0] [(.int (x0 + (128 : Int32))), (.ref ca)])) rfl rfl (hb hby d17_21) _ ?_
        exact k)
      obtain ⟨fs, hr, hrun, hended, hW, hsame⟩ := X12.leave (v := some (.ref b13)) (fun h => by rw [Bd.returns] at h; cases h)
      refine ⟨_, _, P14 _ ?_, hrun, hended, _, _, rfl, ?_, ⟨_, rfl⟩, hW, hsame.mono (by decide) (by decide)⟩
      · show Steps p.tables e below (T12.setTop (mkF m 22 #[iv x0] [(.ref b13)])) _
        exact retOut X12 hx (t := (.object "java/lang/Integer")) Bd.returns rfl (Or.inr (Or.inr (Or.inr (Or.inr ⟨rfl, rfl, rfl⟩)))) (hb hby d17_22) hr
      · show Q17 Z x0 ca cl h0 n0 _ T12.heap _
        rw [e12]
        exact ⟨b13, rfl, N0, Kp0, (Eb13.ext O0.2)⟩
def Q0 (Z : State) (x0 : Int64) (x1 : Int64) (x2 : Int64) (x3 : Int64) (x4 : Int32) (cs : Int32) (ca : Addr) (cl : Cell) (h0 : Heap) (n0 : Nat) (v : Option Value) (h : Heap) (L : List Loc) : Prop := v = some (.int 1) ∧ Fr n0 L
theorem ef_0 (m : MethodId) (x0 : Int64) (x1 : Int64) (x2 : Int64) (x3 : Int64) (x4 : Int32) : entryFrame m #[(.long x0), (.long x1), (.long x2), (.long x3), (.int x4)] maxLocals = mkF m 0 #[lv x0, .second, lv x1, .second, lv x2, .second, lv x3, .second, iv x4, .unset, .unset, .unset, .unset, .unset, .unset, .unset, .unset, .unset, .unset, .unset, .unset, .unset, .unset, .unset, .unset, .unset, .unset] [] := by first | (simp [entryFrame, mkF, argsToLocals, Value.category, maxLocals]; done) | rfl
set_option maxRecDepth 65536 in
set_option maxHeartbeats 40000000 in
theorem rm0 (l : Launch) (Z : State) (a0 : Array Value) (hw : ∀ d ∈ tables_1, d.before a0 Z = true) (ws : List Jvm.Cond) (x0 : Int64) (x1 : Int64) (x2 : Int64) (x3 : Int64) (x4 : Int32) (cs : Int32) (ca : Addr) (cl : Cell) (h0 : Heap) (n0 : Nat) (Z0 : n0 ≤ h0.size) (O0 : Old Z n0 h0) (pre_S_COMPACT_STRINGS : Sta Z Z.heap "java/lang/String" "COMPACT_STRINGS" "Z" (.int cs)) (hcs : ¬ (cs = (0 : Int32))) (pre_S_high : Sta Z Z.heap "java/lang/Integer$IntegerCache" "high" "I" (.int 127)) (pre_S_cache : Sta Z Z.heap "java/lang/Integer$IntegerCache" "cache" "[Ljava/lang/Integer;" (.ref ca)) (BX : Bxs Z ca cl "java/lang/Integer" "I" (256 : Int32) (fun j => .int (j - (128 : Int32)))) :
    MetFree l x (head1 (Jvm.Cond.code x code maxLocals ret :: ws) room_1) (fun a U => a = #[(.long x0), (.long x1), (.long x2), (.long x3), (.int x4)] ∧ Z.Warmed39 U.vm ∧ U.heap = h0 ∧ CHv Z own_EL U.vm h0) (fun _ _ _ _ _ => True) (fun _ U o U' => ∃ v L, o = .returned v ∧ Q0 Z x0 x1 x2 x3 x4 cs ca cl h0 n0 v U'.heap L ∧ CHr Z own_EL U.vm U.heap U'.vm U'.heap ∧ ReturnedEndW U o U' L room_1.cells room_1.slots) := by
  refine MetFree.of_bodySF (plainFor_of_name pn_0) hisR ?_
  intro p e s m args below meth c s₁ Bd hml0 hP hK
  obtain ⟨rfl, hZ, hh, CH0⟩ := hP
  have hx := Bd.exec
  have hby := Bd.bytes
  have hml : c.maxLocals = 27 := hml0
  have hown : s.vm.findClass "com/example/bylaws_for_tables/bylawsfortables/FindingKeyEqualsPinLaw" = some m.cls := findClass_of_methodNamed Bd.named
  have hnm := (name_of_methodNamed Bd.named Bd.method).1
  have X0 : Stand p l e room_1 (s.setVm s.vm) m #[(.long x0), (.long x1), (.long x2), (.long x3), (.int x4)] below meth c s₁ [] 0 0 := Stand.of_body Bd
  have e0 : s₁.heap = h0 := by rw [← hh, Bd.state]; rfl
  have N0 := Fr.nil n0
  have Kp0 := Keep.refl h0 []
  have hS0 : s.Since s.vm 0 := (State.WarmedH.refl s).since 0
  have hk0 : 0 ≤ h0.size := Nat.zero_le _
  replace hZ : Z.Warmed39 (s.setVm s.vm).vm := hZ
  replace hown : (s.setVm s.vm).vm.findClass "com/example/bylaws_for_tables/bylawsfortables/FindingKeyEqualsPinLaw" = some m.cls := hown
  have CR0 := CHr.refl CH0
  have hEW := own_EW hw
  have P0 : ∀ t, Steps p.tables e below (s₁.setTop (mkF m 0 #[lv x0, .second, lv x1, .second, lv x2, .second, lv x3, .second, iv x4, .unset, .unset, .unset, .unset, .unset, .unset, .unset, .unset, .unset, .unset, .unset, .unset, .unset, .unset, .unset, .unset, .unset, .unset] [])) t → Steps p.tables e below (s₁.setTop (entryFrame m #[(.long x0), (.long x1), (.long x2), (.long x3), (.int x4)] maxLocals)) t := fun t k => castTop (ef_0 m x0 x1 x2 x3 x4) k
  obtain ⟨_, _, ⟨T1, L1, k1, n1⟩, -, X1, ⟨Lc1, hQ1, l1, y1, z1⟩, st1⟩ := Jvm.LawKit.callS X0 hx (y := (⟨"com/example/bylaws_for_tables/bylawsfortables/FindingKeyEqualsPinLaw", "field", "(JI)J"⟩ : MethodName)) hown (mvT hZ (hw _ (im 0 rfl))) (mvT hZ (hw _ (im 1 rfl))) (mvT hZ (hw _ (im 2 rfl))) (mvT hZ (hw _ (im 3 rfl))) (by decide) (backOf (W := 0) (rm1 l Z a0 hw [] x0 (0 : Int32) h0 n0 Z0 ) hZ (hw _ (im 3 rfl)) (hw _ (im 2 rfl)) (by decide) (by decide)) (g := (mkF m 2 #[lv x0, .second, lv x1, .second, lv x2, .second, lv x3, .second, iv x4, .unset, .unset, .unset, .unset, .unset, .unset, .unset, .unset, .unset, .unset, .unset, .unset, .unset, .unset, .unset, .unset, .unset, .unset] [(.int 0), (.long x0)])) rfl (by rw [hml]; rfl) (argsL := [(.long x0), (.int 0)]) (rest := []) (lenOf pd_12 rfl) rfl (by show 2 * 0 + _ ≤ _; exact Nat.le_of_eq rfl) (hb hby at_2) (fun _ _ => ⟨rfl, e0, (by decide : 0 + 0 ≤ _), (by decide : 0 + 0 ≤ _)⟩)
  dsimp only [Pt.U, Pt.locs, Pt.cells, Pt.slots] at X1 l1 y1 z1 st1 hQ1
  subst l1 y1 z1
  obtain ⟨rfl, N1q, e1⟩ := hQ1
  have N1 := Fr.app N0 N1q
  obtain ⟨_, _, ⟨T2, L2, k2, n2⟩, -, X2, ⟨Lc2, hQ2, l2, y2, z2⟩, st2⟩ := Jvm.LawKit.callS X1 hx (y := (⟨"com/example/bylaws_for_tables/bylawsfortables/FindingKeyEqualsPinLaw", "field", "(JI)J"⟩ : MethodName)) hown (mvT hZ (hw _ (im 0 rfl))) (mvT hZ (hw _ (im 1 rfl))) (mvT hZ (hw _ (im 2 rfl))) (mvT hZ (hw _ (im 3 rfl))) (by decide) (backOf (W := 0) (rm1 l Z a0 hw [] x0 (1 : Int32) h0 n0 Z0 ) hZ (hw _ (im 3 rfl)) (hw _ (im 2 rfl)) (by decide) (by decide)) (g := (mkF m 9 #[lv x0, .second, lv x1, .second, lv x2, .second, lv x3, .second, iv x4, lv (own_field x0 (0 : Int32)), .second, .unset, .unset, .unset, .unset, .unset, .unset, .unset, .unset, .unset, .unset, .unset, .unset, .unset, .unset, .unset, .unset] [(.int 1), (.long x0)])) rfl (by rw [hml]; rfl) (argsL := [(.long x0), (.int 1)]) (rest := []) (lenOf pd_12 rfl) rfl (by show 2 * 0 + _ ≤ _; exact Nat.le_of_eq rfl) (hb hby at_9) (fun _ _ => ⟨rfl, e1, (by decide : 0 + 0 ≤ _), (by decide : 0 + 0 ≤ _)⟩)
  dsimp only [Pt.U, Pt.locs, Pt.cells, Pt.slots] at X2 l2 y2 z2 st2 hQ2
  subst l2 y2 z2
  obtain ⟨rfl, N2q, e2⟩ := hQ2
  have N2 := Fr.app N1 N2q
  obtain ⟨_, _, ⟨T3, L3, k3, n3⟩, -, X3, ⟨Lc3, hQ3, l3, y3, z3⟩, st3⟩ := Jvm.LawKit.callS X2 hx (y := (⟨"com/example/bylaws_for_tables/bylawsfortables/FindingKeyEqualsPinLaw", "field", "(JI)J"⟩ : MethodName)) hown (mvT hZ (hw _ (im 0 rfl))) (mvT hZ (hw _ (im 1 rfl))) (mvT hZ (hw _ (im 2 rfl))) (mvT hZ (hw _ (im 3 rfl))) (by decide) (backOf (W := 0) (rm1 l Z a0 hw [] x0 (2 : Int32) h0 n0 Z0 ) hZ (hw _ (im 3 rfl)) (hw _ (im 2 rfl)) (by decide) (by decide)) (g := (mkF m 16 #[lv x0, .second, lv x1, .second, lv x2, .second, lv x3, .second, iv x4, lv (own_field x0 (0 : Int32)), .second, lv (own_field x0 (1 : Int32)), .second, .unset, .unset, .unset, .unset, .unset, .unset, .unset, .unset, .unset, .unset, .unset, .unset, .unset, .unset] [(.int 2), (.long x0)])) rfl (by rw [hml]; rfl) (argsL := [(.long x0), (.int 2)]) (rest := []) (lenOf pd_12 rfl) rfl (by show 2 * 0 + _ ≤ _; exact Nat.le_of_eq rfl) (hb hby at_16) (fun _ _ => ⟨rfl, e2, (by decide : 0 + 0 ≤ _), (by decide : 0 + 0 ≤ _)⟩)
  dsimp only [Pt.U, Pt.locs, Pt.cells, Pt.slots] at X3 l3 y3 z3 st3 hQ3
  subst l3 y3 z3
  obtain ⟨rfl, N3q, e3⟩ := hQ3
  have N3 := Fr.app N2 N3q
  have P5 := own_go P0 (S' := T3.setTop (mkF m 25 #[lv x0, .second, lv x1, .second, lv x2, .second, lv x3, .second, iv x4, lv (own_field x0 (0 : Int32)), .second, lv (own_field x0 (1 : Int32)), .second, lv (own_field x0 (2 : Int32)), .second, .unset, .unset, .unset, .unset, .unset, .unset, .unset, .unset, .unset, .unset, .unset, .unset] [(.int (x4 &&& (1 : Int32)))])) (by
    intro t k
    refine XS.lloadN X0.here hx rfl (hb hby at_0) rfl ?_
    refine XS.iconst X0.here hx rfl (hb hby at_1) ?_
    refine st1 _ ?_
    refine XS.lstore X1.here hx rfl (hb hby at_5) rfl (l' := #[lv x0, .second, lv x1, .second, lv x2, .second, lv x3, .second, iv x4, lv (own_field x0 (0 : Int32)), .second, .unset, .unset, .unset, .unset, .unset, .unset, .unset, .unset, .unset, .unset, .unset, .unset, .unset, .unset, .unset, .unset]) rfl ?_
    refine XS.lloadN X1.here hx rfl (hb hby at_7) rfl ?_
    refine XS.iconst X1.here hx rfl (hb hby at_8) ?_
    refine st2 _ ?_
    refine XS.lstore X2.here hx rfl (hb hby at_12) rfl (l' := #[lv x0, .second, lv x1, .second, lv x2, .second, lv x3, .second, iv x4, lv (own_field x0 (0 : Int32)), .second, lv (own_field x0 (1 : Int32)), .second, .unset, .unset, .unset, .unset, .unset, .unset, .unset, .unset, .unset, .unset, .unset, .unset, .unset, .unset]) rfl ?_
    show Steps p.tables e below (T2.setTop (mkF m 14 #[lv x0, .second, lv x1, .second, lv x2, .second, lv x3, .second, iv x4, lv (own_field x0 (0 : Int32)), .second, lv (own_field x0 (1 : Int32)), .second, .unset, .unset, .unset, .unset, .unset, .unset, .unset, .unset, .unset, .unset, .unset, .unset, .unset, .unset] [])) _
    refine XS.lloadN X2.here hx rfl (hb hby at_14) rfl ?_
    refine XS.iconst X2.here hx rfl (hb hby at_15) ?_
    refine st3 _ ?_
    refine XS.lstore X3.here hx rfl (hb hby at_19) rfl (l' := #[lv x0, .second, lv x1, .second, lv x2, .second, lv x3, .second, iv x4, lv (own_field x0 (0 : Int32)), .second, lv (own_field x0 (1 : Int32)), .second, lv (own_field x0 (2 : Int32)), .second, .unset, .unset, .unset, .unset, .unset, .unset, .unset, .unset, .unset, .unset, .unset, .unset]) rfl ?_
    refine XS.iload X3.here hx rfl (hb hby at_21) rfl ?_
    refine XS.iconst X3.here hx rfl (hb hby at_23) ?_
    refine XS.iand X3.here hx rfl (hb hby at_24) rfl ?_
    exact k)
  obtain ⟨T6, L6, v6_0, X6, N6, e6, hv6_0, P6⟩ : ∃ (T6 : State) (L6 : List Loc), ∃ (v6_0 : Int64), (Stand p l e room_1 (s.setVm s.vm) m #[(.long x0), (.long x1), (.long x2), (.long x3), (.int x4)] below meth c T6 L6 0 0 ∧ Fr n0 L6 ∧ T6.heap = h0 ∧ v6_0 = (if (x4 &&& (1 : Int32)) = (0 : Int32) then (own_field x1 (0 : Int32)) else (own_field x0 (0 : Int32))) ∧ (∀ t, Steps p.tables e below (T6.setTop (mkF m 38 #[lv x0, .second, lv x1, .second, lv x2, .second, lv x3, .second, iv x4, lv (own_field x0 (0 : Int32)), .second, lv (own_field x0 (1 : Int32)), .second, lv (own_field x0 (2 : Int32)), .second, .unset, .unset, .unset, .unset, .unset, .unset, .unset, .unset, .unset, .unset, .unset, .unset] [(.long v6_0)])) t → Steps p.tables e below (s₁.setTop (entryFrame m #[(.long x0), (.long x1), (.long x2), (.long x3), (.int x4)] maxLocals)) t)) := by
    by_cases hc25_7 : (x4 &&& (1 : Int32)) = (0 : Int32)
    · obtain ⟨_, _, ⟨T8, L8, k8, n8⟩, -, X8, ⟨Lc8, hQ8, l8, y8, z8⟩, st8⟩ := Jvm.LawKit.callS X3 hx (y := (⟨"com/example/bylaws_for_tables/bylawsfortables/FindingKeyEqualsPinLaw", "field", "(JI)J"⟩ : MethodName)) hown (mvT hZ (hw _ (im 0 rfl))) (mvT hZ (hw _ (im 1 rfl))) (mvT hZ (hw _ (im 2 rfl))) (mvT hZ (hw _ (im 3 rfl))) (by decide) (backOf (W := 0) (rm1 l Z a0 hw [] x1 (0 : Int32) h0 n0 Z0 ) hZ (hw _ (im 3 rfl)) (hw _ (im 2 rfl)) (by decide) (by decide)) (g := (mkF m 35 #[lv x0, .second, lv x1, .second, lv x2, .second, lv x3, .second, iv x4, lv (own_field x0 (0 : Int32)), .second, lv (own_field x0 (1 : Int32)), .second, lv (own_field x0 (2 : Int32)), .second, .unset, .unset, .unset, .unset, .unset, .unset, .unset, .unset, .unset, .unset, .unset, .unset] [(.int 0), (.long x1)])) rfl (by rw [hml]; rfl) (argsL := [(.long x1), (.int 0)]) (rest := []) (lenOf pd_12 rfl) rfl (by show 2 * 0 + _ ≤ _; exact Nat.le_of_eq rfl) (hb hby at_35) (fun _ _ => ⟨rfl, e3, (by decide : 0 + 0 ≤ _), (by decide : 0 + 0 ≤ _)⟩)
      dsimp only [Pt.U, Pt.locs, Pt.cells, Pt.slots] at X8 l8 y8 z8 st8 hQ8
      subst l8 y8 z8
      obtain ⟨rfl, N8q, e8⟩ := hQ8
      have N8 := Fr.app N3 N8q
      have P9 := own_go P5 (S' := T8.setTop (mkF m 38 #[lv x0, .second, lv x1, .second, lv x2, .second, lv x3, .second, iv x4, lv (own_field x0 (0 : Int32)), .second, lv (own_field x0 (1 : Int32)), .second, lv (own_field x0 (2 : Int32)), .second, .unset, .unset, .unset, .unset, .unset, .unset, .unset, .unset, .unset, .unset, .unset, .unset] [(.long (own_field x1 (0 : Int32)))])) (by
        intro t k
        refine XS.ifYes X3.here hx rfl (pc0 := 25) (pc' := 33) rfl (hb hby at_25) rfl ((if0 _ _).trans (teq hc25_7).1) (by decide) (by decide) ?_
        refine XS.lloadN X3.here hx rfl (hb hby at_33) rfl ?_
        refine XS.iconst X3.here hx rfl (hb hby at_34) ?_
        refine st8 _ ?_
        exact k)
      exact ⟨T8, _, (own_field x1 (0 : Int32)), X8, N8, e8, (by rw [if_pos hc25_7]), P9⟩
    · have P10 := own_go P5 (S' := T3.setTop (mkF m 38 #[lv x0, .second, lv x1, .second, lv x2, .second, lv x3, .second, iv x4, lv (own_field x0 (0 : Int32)), .second, lv (own_field x0 (1 : Int32)), .second, lv (own_field x0 (2 : Int32)), .second, .unset, .unset, .unset, .unset, .unset, .unset, .unset, .unset, .unset, .unset, .unset, .unset] [(.long (own_field x0 (0 : Int32)))])) (by
        intro t k
        refine XS.ifNo X3.here hx rfl (hb hby at_25) rfl ((if0 _ _).trans (feq hc25_7).1) ?_
        refine XS.lload X3.here hx rfl (hb hby at_28) rfl ?_
        refine XS.goto X3.here hx rfl (pc0 := 30) (pc' := 38) rfl (hb hby at_30) (by decide) (by decide) ?_
        exact k)
      exact ⟨T3, _, (own_field x0 (0 : Int32)), X3, N3, e3, (by rw [if_neg hc25_7]), P10⟩
  have P12 := own_go P6 (S' := T6.setTop (mkF m 44 #[lv x0, .second, lv x1, .second, lv x2, .second, lv x3, .second, iv x4, lv (own_field x0 (0 : Int32)), .second, lv (own_field x0 (1 : Int32)), .second, lv (own_field x0 (2 : Int32)), .second, lv v6_0, .second, .unset, .unset, .unset, .unset, .unset, .unset, .unset, .unset, .unset, .unset] [(.int (x4 &&& (2 : Int32)))])) (by
    intro t k
    refine XS.lstore X6.here hx rfl (hb hby at_38) rfl (l' := #[lv x0, .second, lv x1, .second, lv x2, .second, lv x3, .second, iv x4, lv (own_field x0 (0 : Int32)), .second, lv (own_field x0 (1 : Int32)), .second, lv (own_field x0 (2 : Int32)), .second, lv v6_0, .second, .unset, .unset, .unset, .unset, .unset, .unset, .unset, .unset, .unset, .unset]) rfl ?_
    refine XS.iload X6.here hx rfl (hb hby at_40) rfl ?_
    refine XS.iconst X6.here hx rfl (hb hby at_42) ?_
    refine XS.iand X6.here hx rfl (hb hby at_43) rfl ?_
    exact k)
  obtain ⟨T13, L13, v13_0, X13, N13, e13, hv13_0, P13⟩ : ∃ (T13 : State) (L13 : List Loc), ∃ (v13_0 : Int64), (Stand p l e room_1 (s.setVm s.vm) m #[(.long x0), (.long x1), (.long x2), (.long x3), (.int x4)] below meth c T13 L13 0 0 ∧ Fr n0 L13 ∧ T13.heap = h0 ∧ v13_0 = (if (x4 &&& (2 : Int32)) = (0 : Int32) then (own_field x1 (1 : Int32)) else (own_field x0 (1 : Int32))) ∧ (∀ t, Steps p.tables e below (T13.setTop (mkF m 57 #[lv x0, .second, lv x1, .second, lv x2, .second, lv x3, .second, iv x4, lv (own_field x0 (0 : Int32)), .second, lv (own_field x0 (1 : Int32)), .second, lv (own_field x0 (2 : Int32)), .second, lv v6_0, .second, .unset, .unset, .unset, .unset, .unset, .unset, .unset, .unset, .unset, .unset] [(.long v13_0)])) t → Steps p.tables e below (s₁.setTop (entryFrame m #[(.long x0), (.long x1), (.long x2), (.long x3), (.int x4)] maxLocals)) t)) := by
    by_cases hc44_14 : (x4 &&& (2 : Int32)) = (0 : Int32)
    · obtain ⟨_, _, ⟨T15, L15, k15, n15⟩, -, X15, ⟨Lc15, hQ15, l15, y15, z15⟩, st15⟩ := Jvm.LawKit.callS X6 hx (y := (⟨"com/example/bylaws_for_tables/bylawsfortables/FindingKeyEqualsPinLaw", "field", "(JI)J"⟩ : MethodName)) hown (mvT hZ (hw _ (im 0 rfl))) (mvT hZ (hw _ (im 1 rfl))) (mvT hZ (hw _ (im 2 rfl))) (mvT hZ (hw _ (im 3 rfl))) (by decide) (backOf (W := 0) (rm1 l Z a0 hw [] x1 (1 : Int32) h0 n0 Z0 ) hZ (hw _ (im 3 rfl)) (hw _ (im 2 rfl)) (by decide) (by decide)) (g := (mkF m 54 #[lv x0, .second, lv x1, .second, lv x2, .second, lv x3, .second, iv x4, lv (own_field x0 (0 : Int32)), .second, lv (own_field x0 (1 : Int32)), .second, lv (own_field x0 (2 : Int32)), .second, lv v6_0, .second, .unset, .unset, .unset, .unset, .unset, .unset, .unset, .unset, .unset, .unset] [(.int 1), (.long x1)])) rfl (by rw [hml]; rfl) (argsL := [(.long x1), (.int 1)]) (rest := []) (lenOf pd_12 rfl) rfl (by show 2 * 0 + _ ≤ _; exact Nat.le_of_eq rfl) (hb hby at_54) (fun _ _ => ⟨rfl, e6, (by decide : 0 + 0 ≤ _), (by decide : 0 + 0 ≤ _)⟩)
      dsimp only [Pt.U, Pt.locs, Pt.cells, Pt.slots] at X15 l15 y15 z15 st15 hQ15
      subst l15 y15 z15
      obtain ⟨rfl, N15q, e15⟩ := hQ15
      have N15 := Fr.app N6 N15q
      have P16 := own_go P12 (S' := T15.setTop (mkF m 57 #[lv x0, .second, lv x1, .second, lv x2, .second, lv x3, .second, iv x4, lv (own_field x0 (0 : Int32)), .second, lv (own_field x0 (1 : Int32)), .second, lv (own_field x0 (2 : Int32)), .second, lv v6_0, .second, .unset, .unset, .unset, .unset, .unset, .unset, .unset, .unset, .unset, .unset] [(.long (own_field x1 (1 : Int32)))])) (by
        intro t k
        refine XS.ifYes X6.here hx rfl (pc0 := 44) (pc' := 52) rfl (hb hby at_44) rfl ((if0 _ _).trans (teq hc44_14).1) (by decide) (by decide) ?_
        refine XS.lloadN X6.here hx rfl (hb hby at_52) rfl ?_
        refine XS.iconst X6.here hx rfl (hb hby at_53) ?_
        refine st15 _ ?_
        exact k)
      exact ⟨T15, _, (own_field x1 (1 : Int32)), X15, N15, e15, (by rw [if_pos hc44_14]), P16⟩
    · have P17 := own_go P12 (S' := T6.setTop (mkF m 57 #[lv x0, .second, lv x1, .second, lv x2, .second, lv x3, .second, iv x4, lv (own_field x0 (0 : Int32)), .second, lv (own_field x0 (1 : Int32)), .second, lv (own_field x0 (2 : Int32)), .second, lv v6_0, .second, .unset, .unset, .unset, .unset, .unset, .unset, .unset, .unset, .unset, .unset] [(.long (own_field x0 (1 : Int32)))])) (by
        intro t k
        refine XS.ifNo X6.here hx rfl (hb hby at_44) rfl ((if0 _ _).trans (feq hc44_14).1) ?_
        refine XS.lload X6.here hx rfl (hb hby at_47) rfl ?_
        refine XS.goto X6.here hx rfl (pc0 := 49) (pc' := 57) rfl (hb hby at_49) (by decide) (by decide) ?_
        exact k)
      exact ⟨T6, _, (own_field x0 (1 : Int32)), X6, N6, e6, (by rw [if_neg hc44_14]), P17⟩
  have P19 := own_go P13 (S' := T13.setTop (mkF m 63 #[lv x0, .second, lv x1, .second, lv x2, .second, lv x3, .second, iv x4, lv (own_field x0 (0 : Int32)), .second, lv (own_field x0 (1 : Int32)), .second, lv (own_field x0 (2 : Int32)), .second, lv v6_0, .second, lv v13_0, .second, .unset, .unset, .unset, .unset, .unset, .unset, .unset, .unset] [(.int (x4 &&& (4 : Int32)))])) (by
    intro t k
    refine XS.lstore X13.here hx rfl (hb hby at_57) rfl (l' := #[lv x0, .second, lv x1, .second, lv x2, .second, lv x3, .second, iv x4, lv (own_field x0 (0 : Int32)), .second, lv (own_field x0 (1 : Int32)), .second, lv (own_field x0 (2 : Int32)), .second, lv v6_0, .second, lv v13_0, .second, .unset, .unset, .unset, .unset, .unset, .unset, .unset, .unset]) rfl ?_
    refine XS.iload X13.here hx rfl (hb hby at_59) rfl ?_
    refine XS.iconst X13.here hx rfl (hb hby at_61) ?_
    refine XS.iand X13.here hx rfl (hb hby at_62) rfl ?_
    exact k)
  obtain ⟨T20, L20, v20_0, X20, N20, e20, hv20_0, P20⟩ : ∃ (T20 : State) (L20 : List Loc), ∃ (v20_0 : Int64), (Stand p l e room_1 (s.setVm s.vm) m #[(.long x0), (.long x1), (.long x2), (.long x3), (.int x4)] below meth c T20 L20 0 0 ∧ Fr n0 L20 ∧ T20.heap = h0 ∧ v20_0 = (if (x4 &&& (4 : Int32)) = (0 : Int32) then (own_field x1 (2 : Int32)) else (own_field x0 (2 : Int32))) ∧ (∀ t, Steps p.tables e below (T20.setTop (mkF m 76 #[lv x0, .second, lv x1, .second, lv x2, .second, lv x3, .second, iv x4, lv (own_field x0 (0 : Int32)), .second, lv (own_field x0 (1 : Int32)), .second, lv (own_field x0 (2 : Int32)), .second, lv v6_0, .second, lv v13_0, .second, .unset, .unset, .unset, .unset, .unset, .unset, .unset, .unset] [(.long v20_0)])) t → Steps p.tables e below (s₁.setTop (entryFrame m #[(.long x0), (.long x1), (.long x2), (.long x3), (.int x4)] maxLocals)) t)) := by
    by_cases hc63_21 : (x4 &&& (4 : Int32)) = (0 : Int32)
    · obtain ⟨_, _, ⟨T22, L22, k22, n22⟩, -, X22, ⟨Lc22, hQ22, l22, y22, z22⟩, st22⟩ := Jvm.LawKit.callS X13 hx (y := (⟨"com/example/bylaws_for_tables/bylawsfortables/FindingKeyEqualsPinLaw", "field", "(JI)J"⟩ : MethodName)) hown (mvT hZ (hw _ (im 0 rfl))) (mvT hZ (hw _ (im 1 rfl))) (mvT hZ (hw _ (im 2 rfl))) (mvT hZ (hw _ (im 3 rfl))) (by decide) (backOf (W := 0) (rm1 l Z a0 hw [] x1 (2 : Int32) h0 n0 Z0 ) hZ (hw _ (im 3 rfl)) (hw _ (im 2 rfl)) (by decide) (by decide)) (g := (mkF m 73 #[lv x0, .second, lv x1, .second, lv x2, .second, lv x3, .second, iv x4, lv (own_field x0 (0 : Int32)), .second, lv (own_field x0 (1 : Int32)), .second, lv (own_field x0 (2 : Int32)), .second, lv v6_0, .second, lv v13_0, .second, .unset, .unset, .unset, .unset, .unset, .unset, .unset, .unset] [(.int 2), (.long x1)])) rfl (by rw [hml]; rfl) (argsL := [(.long x1), (.int 2)]) (rest := []) (lenOf pd_12 rfl) rfl (by show 2 * 0 + _ ≤ _; exact Nat.le_of_eq rfl) (hb hby at_73) (fun _ _ => ⟨rfl, e13, (by decide : 0 + 0 ≤ _), (by decide : 0 + 0 ≤ _)⟩)
      dsimp only [Pt.U, Pt.locs, Pt.cells, Pt.slots] at X22 l22 y22 z22 st22 hQ22
      subst l22 y22 z22
      obtain ⟨rfl, N22q, e22⟩ := hQ22
      have N22 := Fr.app N13 N22q
      have P23 := own_go P19 (S' := T22.setTop (mkF m 76 #[lv x0, .second, lv x1, .second, lv x2, .second, lv x3, .second, iv x4, lv (own_field x0 (0 : Int32)), .second, lv (own_field x0 (1 : Int32)), .second, lv (own_field x0 (2 : Int32)), .second, lv v6_0, .second, lv v13_0, .second, .unset, .unset, .unset, .unset, .unset, .unset, .unset, .unset] [(.long (own_field x1 (2 : Int32)))])) (by
        intro t k
        refine XS.ifYes X13.here hx rfl (pc0 := 63) (pc' := 71) rfl (hb hby at_63) rfl ((if0 _ _).trans (teq hc63_21).1) (by decide) (by decide) ?_
        refine XS.lloadN X13.here hx rfl (hb hby at_71) rfl ?_
        refine XS.iconst X13.here hx rfl (hb hby at_72) ?_
        refine st22 _ ?_
        exact k)
      exact ⟨T22, _, (own_field x1 (2 : Int32)), X22, N22, e22, (by rw [if_pos hc63_21]), P23⟩
    · have P24 := own_go P19 (S' := T13.setTop (mkF m 76 #[lv x0, .second, lv x1, .second, lv x2, .second, lv x3, .second, iv x4, lv (own_field x0 (0 : Int32)), .second, lv (own_field x0 (1 : Int32)), .second, lv (own_field x0 (2 : Int32)), .second, lv v6_0, .second, lv v13_0, .second, .unset, .unset, .unset, .unset, .unset, .unset, .unset, .unset] [(.long (own_field x0 (2 : Int32)))])) (by
        intro t k
        refine XS.ifNo X13.here hx rfl (hb hby at_63) rfl ((if0 _ _).trans (feq hc63_21).1) ?_
        refine XS.lload X13.here hx rfl (hb hby at_66) rfl ?_
        refine XS.goto X13.here hx rfl (pc0 := 68) (pc' := 76) rfl (hb hby at_68) (by decide) (by decide) ?_
        exact k)
      exact ⟨T13, _, (own_field x0 (2 : Int32)), X13, N13, e13, (by rw [if_neg hc63_21]), P24⟩
  have P27 := own_go P20 (S' := T20.setTop (mkF m 83 #[lv x0, .second, lv x1, .second, lv x2, .second, lv x3, .second, iv x4, lv (own_field x0 (0 : Int32)), .second, lv (own_field x0 (1 : Int32)), .second, lv (own_field x0 (2 : Int32)), .second, lv v6_0, .second, lv v13_0, .second, lv v20_0, .second, .unset, .unset, .unset, .unset, .unset, .unset] [(.int (x4 &&& (8 : Int32)))])) (by
    intro t k
    refine XS.lstore X20.here hx rfl (hb hby at_76) rfl (l' := #[lv x0, .second, lv x1, .second, lv x2, .second, lv x3, .second, iv x4, lv (own_field x0 (0 : Int32)), .second, lv (own_field x0 (1 : Int32)), .second, lv (own_field x0 (2 : Int32)), .second, lv v6_0, .second, lv v13_0, .second, lv v20_0, .second, .unset, .unset, .unset, .unset, .unset, .unset]) rfl ?_
    refine XS.iload X20.here hx rfl (hb hby at_78) rfl ?_
    refine XS.bipush X20.here hx rfl (hb hby at_80) ?_
    refine XS.iand X20.here hx rfl (hb hby at_82) rfl ?_
    exact k)
  obtain ⟨v26_0, hv26_0⟩ : ∃ z : Int64, z = (if (x4 &&& (8 : Int32)) = (0 : Int32) then x3 else x2) := ⟨_, rfl⟩
  have P29 := own_go P27 (S' := T20.setTop (mkF m 93 #[lv x0, .second, lv x1, .second, lv x2, .second, lv x3, .second, iv x4, lv (own_field x0 (0 : Int32)), .second, lv (own_field x0 (1 : Int32)), .second, lv (own_field x0 (2 : Int32)), .second, lv v6_0, .second, lv v13_0, .second, lv v20_0, .second, .unset, .unset, .unset, .unset, .unset, .unset] [(.long v26_0)])) (by
    intro t k
    by_cases hc83_28 : (x4 &&& (8 : Int32)) = (0 : Int32)
    · refine XS.ifYes X20.here hx rfl (pc0 := 83) (pc' := 91) rfl (hb hby at_83) rfl ((if0 _ _).trans (teq hc83_28).1) (by decide) (by decide) ?_
      refine XS.lload X20.here hx rfl (hb hby at_91) rfl ?_
      have q_v26_0 : v26_0 = x3 := by rw [hv26_0, if_pos hc83_28]
      subst q_v26_0
      exact k
    · refine XS.ifNo X20.here hx rfl (hb hby at_83) rfl ((if0 _ _).trans (feq hc83_28).1) ?_
      refine XS.lload X20.here hx rfl (hb hby at_86) rfl ?_
      refine XS.goto X20.here hx rfl (pc0 := 88) (pc' := 93) rfl (hb hby at_88) (by decide) (by decide) ?_
      have q_v26_0 : v26_0 = x2 := by rw [hv26_0, if_neg hc83_28]
      subst q_v26_0
      exact k)
  obtain ⟨T30, h30, X30, e30, E30, A30, D30, -, st30⟩ := newO X20 hx hZ hown (hw _ (im 5 rfl)) (hw _ (im 6 rfl)) (hw _ (im 7 rfl)) e20 (g := (mkF m 95 #[lv x0, .second, lv x1, .second, lv x2, .second, lv x3, .second, iv x4, lv (own_field x0 (0 : Int32)), .second, lv (own_field x0 (1 : Int32)), .second, lv (own_field x0 (2 : Int32)), .second, lv v6_0, .second, lv v13_0, .second, lv v20_0, .second, lv v26_0, .second, .unset, .unset, .unset, .unset] [])) rfl (hb hby at_95) (by decide) (by decide)
  obtain ⟨b30, g30⟩ : ∃ z, z = h0.size := ⟨_, rfl⟩
  rw [← g30] at A30 D30 st30
  have ge_b30 : n0 ≤ b30 := Nat.le_trans Z0 (Nat.le_of_eq g30.symm)
  have Z30_ : n0 ≤ h30.size := Nat.le_trans Z0 E30.1
  have hk30_ := Nat.le_trans hk0 E30.1
  have CH30 := CHv.ext E30 CH0
  have CR30 := CR0.trans (CHr.ext E30 CH0)
  have O30_ := O0.ext E30
  have F30_path : Fld Z h30 b30 "com/example/bylaws_for_tables/bylawsfortables/FindingKey" "path" "Ljava/lang/String;" .null := D30 (Or.inr (hw _ (im 48 rfl))) (ty := (.object "java/lang/String")) (by decide)
  have F30_ruleId : Fld Z h30 b30 "com/example/bylaws_for_tables/bylawsfortables/FindingKey" "ruleId" "Ljava/lang/String;" .null := D30 (Or.inr (hw _ (im 51 rfl))) (ty := (.object "java/lang/String")) (by decide)
  have F30_message : Fld Z h30 b30 "com/example/bylaws_for_tables/bylawsfortables/FindingKey" "message" "Ljava/lang/String;" .null := D30 (Or.inr (hw _ (im 54 rfl))) (ty := (.object "java/lang/String")) (by decide)
  have F30_digest : Fld Z h30 b30 "com/example/bylaws_for_tables/bylawsfortables/FindingKey" "digest" "J" (.long 0) := D30 (Or.inr (hw _ (im 56 rfl))) (ty := .long) (by decide)
  obtain ⟨_, _, ⟨T31, L31, k31, n31⟩, -, X31, hS31, hg31, ⟨Lc31, hQ31, l31, y31, z31, cr31⟩, st31⟩ := callSS X30 hx (y := (⟨"com/example/bylaws_for_tables/bylawsfortables/FindingKeyEqualsPinLaw", "str", "(J)Ljava/lang/String;"⟩ : MethodName)) hown (mvT hZ (hw _ (im 8 rfl))) (mvT hZ (hw _ (im 9 rfl))) (mvT hZ (hw _ (im 2 rfl))) (mvT hZ (hw _ (im 10 rfl))) (by decide) (backOfSH (W := 2) (rm2 l Z a0 hw [] (own_field x0 (0 : Int32)) cs h30 n0 Z30_ O30_ pre_S_COMPACT_STRINGS (hcs)) hZ (hw _ (im 10 rfl)) (hw _ (im 2 rfl)) (by decide) (by decide) hEW CH30) (g := (mkF m 101 #[lv x0, .second, lv x1, .second, lv x2, .second, lv x3, .second, iv x4, lv (own_field x0 (0 : Int32)), .second, lv (own_field x0 (1 : Int32)), .second, lv (own_field x0 (2 : Int32)), .second, lv v6_0, .second, lv v13_0, .second, lv v20_0, .second, lv v26_0, .second, .unset, .unset, .unset, .unset] [(.long (own_field x0 (0 : Int32))), (.ref b30), (.ref b30)])) rfl (by rw [hml]; rfl) (argsL := [(.long (own_field x0 (0 : Int32)))]) (rest := [(.ref b30), (.ref b30)]) (lenOf pd_13 rfl) rfl (by show 2 * 0 + _ ≤ _; exact Nat.le_of_eq rfl) (hb hby at_101) (fun _ _ => ⟨rfl, e30, (by decide : 1 + 6 ≤ _), (by decide : 4 + 12 ≤ _)⟩)
  dsimp only [Pt.U, Pt.locs, Pt.cells, Pt.slots] at X31 l31 y31 z31 st31 hQ31 hS31 hg31 cr31
  subst l31 y31 z31
  obtain ⟨X31, hS31, hZ31, hown31⟩ := rebS hS0 (by rw [e30]; exact hk30_) X31 hS31 hg31 hZ hown
  obtain ⟨b_31, rfl, N31q, K31, r31_0, r31_1, r31_2⟩ := hQ31
  have N31 := Fr.app N20 N31q
  have Z31_ : n0 ≤ T31.heap.size := Nat.le_trans Z30_ K31.1
  have hk31_ := Nat.le_trans hk30_ K31.1
  have CH31 := cr31.1
  have CR31 := CR30.trans cr31
  have O31_ := O30_.keep K31 all0
  have hk31w : T31.heap.size ≤ T31.heap.size := Nat.le_refl _
  obtain ⟨_, _, ⟨T32, L32, k32, n32⟩, -, X32, hS32, hg32, ⟨Lc32, hQ32, l32, y32, z32, cr32⟩, st32⟩ := callSS X31 hx (y := (⟨"com/example/bylaws_for_tables/bylawsfortables/FindingKeyEqualsPinLaw", "str", "(J)Ljava/lang/String;"⟩ : MethodName)) hown31 (mvT hZ31 (hw _ (im 8 rfl))) (mvT hZ31 (hw _ (im 9 rfl))) (mvT hZ31 (hw _ (im 2 rfl))) (mvT hZ31 (hw _ (im 10 rfl))) (by decide) (backOfSH (W := 3) (rm2 l Z a0 hw [] (own_field x0 (1 : Int32)) cs T31.heap n0 Z31_ O31_ pre_S_COMPACT_STRINGS (hcs)) hZ31 (hw _ (im 10 rfl)) (hw _ (im 2 rfl)) (by decide) (by decide) hEW CH31) (g := (mkF m 106 #[lv x0, .second, lv x1, .second, lv x2, .second, lv x3, .second, iv x4, lv (own_field x0 (0 : Int32)), .second, lv (own_field x0 (1 : Int32)), .second, lv (own_field x0 (2 : Int32)), .second, lv v6_0, .second, lv v13_0, .second, lv v20_0, .second, lv v26_0, .second, .unset, .unset, .unset, .unset] [(.long (own_field x0 (1 : Int32))), (.ref b_31), (.ref b30), (.ref b30)])) rfl (by rw [hml]; rfl) (argsL := [(.long (own_field x0 (1 : Int32)))]) (rest := [(.ref b_31), (.ref b30), (.ref b30)]) (lenOf pd_13 rfl) rfl (by show 2 * 0 + _ ≤ _; exact Nat.le_of_eq rfl) (hb hby at_106) (fun _ _ => ⟨rfl, rfl, (by decide : 7 + 6 ≤ _), (by decide : 16 + 12 ≤ _)⟩)
  dsimp only [Pt.U, Pt.locs, Pt.cells, Pt.slots] at X32 l32 y32 z32 st32 hQ32 hS32 hg32 cr32
  subst l32 y32 z32
  obtain ⟨X32, hS32, hZ32, hown32⟩ := rebS hS31 (hk31w) X32 hS32 hg32 hZ31 hown31
  obtain ⟨b_32, rfl, N32q, K32, r32_0, r32_1, r32_2⟩ := hQ32
  have N32 := Fr.app N31 N32q
  have Z32_ : n0 ≤ T32.heap.size := Nat.le_trans Z31_ K32.1
  have hk32_ := Nat.le_trans hk31w K32.1
  have CH32 := cr32.1
  have CR32 := CR31.trans cr32
  have O32_ := O31_.keep K32 all0
  have hk32w : T32.heap.size ≤ T32.heap.size := Nat.le_refl _
  obtain ⟨_, _, ⟨T33, L33, k33, n33⟩, -, X33, hS33, hg33, ⟨Lc33, hQ33, l33, y33, z33, cr33⟩, st33⟩ := callSS X32 hx (y := (⟨"com/example/bylaws_for_tables/bylawsfortables/FindingKeyEqualsPinLaw", "str", "(J)Ljava/lang/String;"⟩ : MethodName)) hown32 (mvT hZ32 (hw _ (im 8 rfl))) (mvT hZ32 (hw _ (im 9 rfl))) (mvT hZ32 (hw _ (im 2 rfl))) (mvT hZ32 (hw _ (im 10 rfl))) (by decide) (backOfSH (W := 4) (rm2 l Z a0 hw [] (own_field x0 (2 : Int32)) cs T32.heap n0 Z32_ O32_ pre_S_COMPACT_STRINGS (hcs)) hZ32 (hw _ (im 10 rfl)) (hw _ (im 2 rfl)) (by decide) (by decide) hEW CH32) (g := (mkF m 111 #[lv x0, .second, lv x1, .second, lv x2, .second, lv x3, .second, iv x4, lv (own_field x0 (0 : Int32)), .second, lv (own_field x0 (1 : Int32)), .second, lv (own_field x0 (2 : Int32)), .second, lv v6_0, .second, lv v13_0, .second, lv v20_0, .second, lv v26_0, .second, .unset, .unset, .unset, .unset] [(.long (own_field x0 (2 : Int32))), (.ref b_32), (.ref b_31), (.ref b30), (.ref b30)])) rfl (by rw [hml]; rfl) (argsL := [(.long (own_field x0 (2 : Int32)))]) (rest := [(.ref b_32), (.ref b_31), (.ref b30), (.ref b30)]) (lenOf pd_13 rfl) rfl (by show 2 * 0 + _ ≤ _; exact Nat.le_of_eq rfl) (hb hby at_111) (fun _ _ => ⟨rfl, rfl, (by decide : 13 + 6 ≤ _), (by decide : 28 + 12 ≤ _)⟩)
  dsimp only [Pt.U, Pt.locs, Pt.cells, Pt.slots] at X33 l33 y33 z33 st33 hQ33 hS33 hg33 cr33
  subst l33 y33 z33
  obtain ⟨X33, hS33, hZ33, hown33⟩ := rebS hS32 (hk32w) X33 hS33 hg33 hZ32 hown32
  obtain ⟨b_33, rfl, N33q, K33, r33_0, r33_1, r33_2⟩ := hQ33
  have N33 := Fr.app N32 N33q
  have Z33_ : n0 ≤ T33.heap.size := Nat.le_trans Z32_ K33.1
  have hk33_ := Nat.le_trans hk32w K33.1
  have CH33 := cr33.1
  have CR33 := CR32.trans cr33
  have O33_ := O32_.keep K33 all0
  have hk33w : T33.heap.size ≤ T33.heap.size := Nat.le_refl _
  have q34 := (own_Str_keep (own_Str_keep r31_2 K32 all0) K33 all0)
  have q35 := (own_Str_keep r32_2 K33 all0)
  have q36 := (((A30.keep K31).keep K32).keep K33)
  have q37 := (((F30_path.keep K31 nin0).keep K32 nin0).keep K33 nin0)
  have q38 := (((F30_ruleId.keep K31 nin0).keep K32 nin0).keep K33 nin0)
  have q39 := (((F30_message.keep K31 nin0).keep K32 nin0).keep K33 nin0)
  have q40 := (((F30_digest.keep K31 nin0).keep K32 nin0).keep K33 nin0)
  obtain ⟨_, _, ⟨T41, L41, k41, n41⟩, -, X41, hS41, hg41, ⟨Lc41, hQ41, l41, y41, z41, cr41⟩, st41⟩ := X33.specialBackS hx (y := (⟨"com/example/bylaws_for_tables/bylawsfortables/FindingKey", "<init>", "(Ljava/lang/String;Ljava/lang/String;Ljava/lang/String;J)V"⟩ : MethodName)) rfl hown33 (mvT hZ33 (hw _ (im 37 rfl))) (mvT hZ33 (hw _ (im 38 rfl))) (mvT hZ33 (hw _ (im 39 rfl))) (by decide) (backOfSH (W := 1) (rm7 l Z a0 hw [] b30 b_31 b_32 b_33 x2 T33.heap n0 Z33_ q36 q37 q38 q39 q40 ge_b30 (own_Str_exa q34) (own_Str_exa q35) (own_Str_exa r33_2)) hZ33 (hw _ (im 39 rfl)) (hw _ (im 7 rfl)) (by decide) (by decide) hEW CH33) (g := (mkF m 116 #[lv x0, .second, lv x1, .second, lv x2, .second, lv x3, .second, iv x4, lv (own_field x0 (0 : Int32)), .second, lv (own_field x0 (1 : Int32)), .second, lv (own_field x0 (2 : Int32)), .second, lv v6_0, .second, lv v13_0, .second, lv v20_0, .second, lv v26_0, .second, .unset, .unset, .unset, .unset] [(.long x2), (.ref b_33), (.ref b_32), (.ref b_31), (.ref b30), (.ref b30)])) rfl (by rw [hml]; rfl) (Steps.refl _) (a := b30) (argsL := [(.ref b_31), (.ref b_32), (.ref b_33), (.long x2)]) (rest := [(.ref b30)]) (lenOf pd_14 rfl) rfl (by show 2 * 0 + _ ≤ _; exact Nat.le_of_eq rfl) (hb hby at_116) (fun _ _ => ⟨rfl, rfl, (by decide : 19 + 6 ≤ _), (by decide : 40 + 80 ≤ _)⟩)
  dsimp only [Pt.U, Pt.locs, Pt.cells, Pt.slots] at X41 l41 y41 z41 st41 hQ41 hS41 hg41 cr41
  subst l41 y41 z41
  obtain ⟨X41, hS41, hZ41, hown41⟩ := rebS hS33 (hk33w) X41 hS41 hg41 hZ33 hown33
  obtain ⟨rfl, N41q, K41, r41_0, r41_1, r41_2, r41_3, r41_4⟩ := hQ41
  have N41 := Fr.app N33 N41q
  have Z41_ : n0 ≤ T41.heap.size := Nat.le_trans Z33_ K41.1
  have hk41_ := Nat.le_trans hk33w K41.1
  have CH41 := cr41.1
  have CR41 := CR33.trans cr41
  have O41_ := O33_.keep K41 (allS ge_b30 all0)
  have hk41w : T41.heap.size ≤ T41.heap.size := Nat.le_refl _
  obtain ⟨T42, h42, X42, e42, E42, A42, D42, -, st42⟩ := newO X41 hx hZ41 hown41 (hw _ (im 5 rfl)) (hw _ (im 6 rfl)) (hw _ (im 7 rfl)) rfl (g := (mkF m 121 #[lv x0, .second, lv x1, .second, lv x2, .second, lv x3, .second, iv x4, lv (own_field x0 (0 : Int32)), .second, lv (own_field x0 (1 : Int32)), .second, lv (own_field x0 (2 : Int32)), .second, lv v6_0, .second, lv v13_0, .second, lv v20_0, .second, lv v26_0, .second, rv b30, .unset, .unset, .unset] [])) rfl (hb hby at_121) (by decide) (by decide)
  obtain ⟨b42, g42⟩ : ∃ z, z = T41.heap.size := ⟨_, rfl⟩
  rw [← g42] at A42 D42 st42
  have ge_b42 : n0 ≤ b42 := Nat.le_trans Z41_ (Nat.le_of_eq g42.symm)
  have Z42_ : n0 ≤ h42.size := Nat.le_trans Z41_ E42.1
  have hk42_ := Nat.le_trans hk41w E42.1
  have CH42 := CHv.ext E42 CH41
  have CR42 := CR41.trans (CHr.ext E42 CH41)
  have O42_ := O41_.ext E42
  have F42_path : Fld Z h42 b42 "com/example/bylaws_for_tables/bylawsfortables/FindingKey" "path" "Ljava/lang/String;" .null := D42 (Or.inr (hw _ (im 48 rfl))) (ty := (.object "java/lang/String")) (by decide)
  have F42_ruleId : Fld Z h42 b42 "com/example/bylaws_for_tables/bylawsfortables/FindingKey" "ruleId" "Ljava/lang/String;" .null := D42 (Or.inr (hw _ (im 51 rfl))) (ty := (.object "java/lang/String")) (by decide)
  have F42_message : Fld Z h42 b42 "com/example/bylaws_for_tables/bylawsfortables/FindingKey" "message" "Ljava/lang/String;" .null := D42 (Or.inr (hw _ (im 54 rfl))) (ty := (.object "java/lang/String")) (by decide)
  have F42_digest : Fld Z h42 b42 "com/example/bylaws_for_tables/bylawsfortables/FindingKey" "digest" "J" (.long 0) := D42 (Or.inr (hw _ (im 56 rfl))) (ty := .long) (by decide)
  obtain ⟨_, _, ⟨T43, L43, k43, n43⟩, -, X43, hS43, hg43, ⟨Lc43, hQ43, l43, y43, z43, cr43⟩, st43⟩ := callSS X42 hx (y := (⟨"com/example/bylaws_for_tables/bylawsfortables/FindingKeyEqualsPinLaw", "str", "(J)Ljava/lang/String;"⟩ : MethodName)) hown41 (mvT hZ41 (hw _ (im 8 rfl))) (mvT hZ41 (hw _ (im 9 rfl))) (mvT hZ41 (hw _ (im 2 rfl))) (mvT hZ41 (hw _ (im 10 rfl))) (by decide) (backOfSH (W := 2) (rm2 l Z a0 hw [] v6_0 cs h42 n0 Z42_ O42_ pre_S_COMPACT_STRINGS (hcs)) hZ41 (hw _ (im 10 rfl)) (hw _ (im 2 rfl)) (by decide) (by decide) hEW CH42) (g := (mkF m 127 #[lv x0, .second, lv x1, .second, lv x2, .second, lv x3, .second, iv x4, lv (own_field x0 (0 : Int32)), .second, lv (own_field x0 (1 : Int32)), .second, lv (own_field x0 (2 : Int32)), .second, lv v6_0, .second, lv v13_0, .second, lv v20_0, .second, lv v26_0, .second, rv b30, .unset, .unset, .unset] [(.long v6_0), (.ref b42), (.ref b42)])) rfl (by rw [hml]; rfl) (argsL := [(.long v6_0)]) (rest := [(.ref b42), (.ref b42)]) (lenOf pd_13 rfl) rfl (by show 2 * 0 + _ ≤ _; exact Nat.le_of_eq rfl) (hb hby at_127) (fun _ _ => ⟨rfl, e42, (by decide : 26 + 6 ≤ _), (by decide : 124 + 12 ≤ _)⟩)
  dsimp only [Pt.U, Pt.locs, Pt.cells, Pt.slots] at X43 l43 y43 z43 st43 hQ43 hS43 hg43 cr43
  subst l43 y43 z43
  obtain ⟨X43, hS43, hZ43, hown43⟩ := rebS hS41 (by rw [e42]; exact hk42_) X43 hS43 hg43 hZ41 hown41
  obtain ⟨b_43, rfl, N43q, K43, r43_0, r43_1, r43_2⟩ := hQ43
  have N43 := Fr.app N41 N43q
  have Z43_ : n0 ≤ T43.heap.size := Nat.le_trans Z42_ K43.1
  have hk43_ := Nat.le_trans hk42_ K43.1
  have CH43 := cr43.1
  have CR43 := CR42.trans cr43
  have O43_ := O42_.keep K43 all0
  have hk43w : T43.heap.size ≤ T43.heap.size := Nat.le_refl _
  obtain ⟨_, _, ⟨T44, L44, k44, n44⟩, -, X44, hS44, hg44, ⟨Lc44, hQ44, l44, y44, z44, cr44⟩, st44⟩ := callSS X43 hx (y := (⟨"com/example/bylaws_for_tables/bylawsfortables/FindingKeyEqualsPinLaw", "str", "(J)Ljava/lang/String;"⟩ : MethodName)) hown43 (mvT hZ43 (hw _ (im 8 rfl))) (mvT hZ43 (hw _ (im 9 rfl))) (mvT hZ43 (hw _ (im 2 rfl))) (mvT hZ43 (hw _ (im 10 rfl))) (by decide) (backOfSH (W := 3) (rm2 l Z a0 hw [] v13_0 cs T43.heap n0 Z43_ O43_ pre_S_COMPACT_STRINGS (hcs)) hZ43 (hw _ (im 10 rfl)) (hw _ (im 2 rfl)) (by decide) (by decide) hEW CH43) (g := (mkF m 132 #[lv x0, .second, lv x1, .second, lv x2, .second, lv x3, .second, iv x4, lv (own_field x0 (0 : Int32)), .second, lv (own_field x0 (1 : Int32)), .second, lv (own_field x0 (2 : Int32)), .second, lv v6_0, .second, lv v13_0, .second, lv v20_0, .second, lv v26_0, .second, rv b30, .unset, .unset, .unset] [(.long v13_0), (.ref b_43), (.ref b42), (.ref b42)])) rfl (by rw [hml]; rfl) (argsL := [(.long v13_0)]) (rest := [(.ref b_43), (.ref b42), (.ref b42)]) (lenOf pd_13 rfl) rfl (by show 2 * 0 + _ ≤ _; exact Nat.le_of_eq rfl) (hb hby at_132) (fun _ _ => ⟨rfl, rfl, (by decide : 32 + 6 ≤ _), (by decide : 136 + 12 ≤ _)⟩)
  dsimp only [Pt.U, Pt.locs, Pt.cells, Pt.slots] at X44 l44 y44 z44 st44 hQ44 hS44 hg44 cr44
  subst l44 y44 z44
  obtain ⟨X44, hS44, hZ44, hown44⟩ := rebS hS43 (hk43w) X44 hS44 hg44 hZ43 hown43
  obtain ⟨b_44, rfl, N44q, K44, r44_0, r44_1, r44_2⟩ := hQ44
  have N44 := Fr.app N43 N44q
  have Z44_ : n0 ≤ T44.heap.size := Nat.le_trans Z43_ K44.1
  have hk44_ := Nat.le_trans hk43w K44.1
  have CH44 := cr44.1
  have CR44 := CR43.trans cr44
  have O44_ := O43_.keep K44 all0
  have hk44w : T44.heap.size ≤ T44.heap.size := Nat.le_refl _
  obtain ⟨_, _, ⟨T45, L45, k45, n45⟩, -, X45, hS45, hg45, ⟨Lc45, hQ45, l45, y45, z45, cr45⟩, st45⟩ := callSS X44 hx (y := (⟨"com/example/bylaws_for_tables/bylawsfortables/FindingKeyEqualsPinLaw", "str", "(J)Ljava/lang/String;"⟩ : MethodName)) hown44 (mvT hZ44 (hw _ (im 8 rfl))) (mvT hZ44 (hw _ (im 9 rfl))) (mvT hZ44 (hw _ (im 2 rfl))) (mvT hZ44 (hw _ (im 10 rfl))) (by decide) (backOfSH (W := 4) (rm2 l Z a0 hw [] v20_0 cs T44.heap n0 Z44_ O44_ pre_S_COMPACT_STRINGS (hcs)) hZ44 (hw _ (im 10 rfl)) (hw _ (im 2 rfl)) (by decide) (by decide) hEW CH44) (g := (mkF m 137 #[lv x0, .second, lv x1, .second, lv x2, .second, lv x3, .second, iv x4, lv (own_field x0 (0 : Int32)), .second, lv (own_field x0 (1 : Int32)), .second, lv (own_field x0 (2 : Int32)), .second, lv v6_0, .second, lv v13_0, .second, lv v20_0, .second, lv v26_0, .second, rv b30, .unset, .unset, .unset] [(.long v20_0), (.ref b_44), (.ref b_43), (.ref b42), (.ref b42)])) rfl (by rw [hml]; rfl) (argsL := [(.long v20_0)]) (rest := [(.ref b_44), (.ref b_43), (.ref b42), (.ref b42)]) (lenOf pd_13 rfl) rfl (by show 2 * 0 + _ ≤ _; exact Nat.le_of_eq rfl) (hb hby at_137) (fun _ _ => ⟨rfl, rfl, (by decide : 38 + 6 ≤ _), (by decide : 148 + 12 ≤ _)⟩)
  dsimp only [Pt.U, Pt.locs, Pt.cells, Pt.slots] at X45 l45 y45 z45 st45 hQ45 hS45 hg45 cr45
  subst l45 y45 z45
  obtain ⟨X45, hS45, hZ45, hown45⟩ := rebS hS44 (hk44w) X45 hS45 hg45 hZ44 hown44
  obtain ⟨b_45, rfl, N45q, K45, r45_0, r45_1, r45_2⟩ := hQ45
  have N45 := Fr.app N44 N45q
  have Z45_ : n0 ≤ T45.heap.size := Nat.le_trans Z44_ K45.1
  have hk45_ := Nat.le_trans hk44w K45.1
  have CH45 := cr45.1
  have CR45 := CR44.trans cr45
  have O45_ := O44_.keep K45 all0
  have hk45w : T45.heap.size ≤ T45.heap.size := Nat.le_refl _
  have q46 := (own_Str_keep (own_Str_keep r43_2 K44 all0) K45 all0)
  have q47 := (own_Str_keep r44_2 K45 all0)
  have q48 := (((A42.keep K43).keep K44).keep K45)
  have q49 := (((F42_path.keep K43 nin0).keep K44 nin0).keep K45 nin0)
  have q50 := (((F42_ruleId.keep K43 nin0).keep K44 nin0).keep K45 nin0)
  have q51 := (((F42_message.keep K43 nin0).keep K44 nin0).keep K45 nin0)
  have q52 := (((F42_digest.keep K43 nin0).keep K44 nin0).keep K45 nin0)
  obtain ⟨_, _, ⟨T53, L53, k53, n53⟩, -, X53, hS53, hg53, ⟨Lc53, hQ53, l53, y53, z53, cr53⟩, st53⟩ := X45.specialBackS hx (y := (⟨"com/example/bylaws_for_tables/bylawsfortables/FindingKey", "<init>", "(Ljava/lang/String;Ljava/lang/String;Ljava/lang/String;J)V"⟩ : MethodName)) rfl hown45 (mvT hZ45 (hw _ (im 37 rfl))) (mvT hZ45 (hw _ (im 38 rfl))) (mvT hZ45 (hw _ (im 39 rfl))) (by decide) (backOfSH (W := 1) (rm7 l Z a0 hw [] b42 b_43 b_44 b_45 v26_0 T45.heap n0 Z45_ q48 q49 q50 q51 q52 ge_b42 (own_Str_exa q46) (own_Str_exa q47) (own_Str_exa r45_2)) hZ45 (hw _ (im 39 rfl)) (hw _ (im 7 rfl)) (by decide) (by decide) hEW CH45) (g := (mkF m 142 #[lv x0, .second, lv x1, .second, lv x2, .second, lv x3, .second, iv x4, lv (own_field x0 (0 : Int32)), .second, lv (own_field x0 (1 : Int32)), .second, lv (own_field x0 (2 : Int32)), .second, lv v6_0, .second, lv v13_0, .second, lv v20_0, .second, lv v26_0, .second, rv b30, .unset, .unset, .unset] [(.long v26_0), (.ref b_45), (.ref b_44), (.ref b_43), (.ref b42), (.ref b42)])) rfl (by rw [hml]; rfl) (Steps.refl _) (a := b42) (argsL := [(.ref b_43), (.ref b_44), (.ref b_45), (.long v26_0)]) (rest := [(.ref b42)]) (lenOf pd_14 rfl) rfl (by show 2 * 0 + _ ≤ _; exact Nat.le_of_eq rfl) (hb hby at_142) (fun _ _ => ⟨rfl, rfl, (by decide : 44 + 6 ≤ _), (by decide : 160 + 80 ≤ _)⟩)
  dsimp only [Pt.U, Pt.locs, Pt.cells, Pt.slots] at X53 l53 y53 z53 st53 hQ53 hS53 hg53 cr53
  subst l53 y53 z53
  obtain ⟨X53, hS53, hZ53, hown53⟩ := rebS hS45 (hk45w) X53 hS53 hg53 hZ45 hown45
  obtain ⟨rfl, N53q, K53, r53_0, r53_1, r53_2, r53_3, r53_4⟩ := hQ53
  have N53 := Fr.app N45 N53q
  have Z53_ : n0 ≤ T53.heap.size := Nat.le_trans Z45_ K53.1
  have hk53_ := Nat.le_trans hk45w K53.1
  have CH53 := cr53.1
  have CR53 := CR45.trans cr53
  have O53_ := O45_.keep K53 (allS ge_b42 all0)
  have hk53w : T53.heap.size ≤ T53.heap.size := Nat.le_refl _
  have P54 := own_go P29 (S' := T53.setTop (mkF m 150 #[lv x0, .second, lv x1, .second, lv x2, .second, lv x3, .second, iv x4, lv (own_field x0 (0 : Int32)), .second, lv (own_field x0 (1 : Int32)), .second, lv (own_field x0 (2 : Int32)), .second, lv v6_0, .second, lv v13_0, .second, lv v20_0, .second, lv v26_0, .second, rv b30, rv b42, .unset, .unset] [(.int 4), (.int x4)])) (by
    intro t k
    refine XS.lstore X20.here hx rfl (hb hby at_93) rfl (l' := #[lv x0, .second, lv x1, .second, lv x2, .second, lv x3, .second, iv x4, lv (own_field x0 (0 : Int32)), .second, lv (own_field x0 (1 : Int32)), .second, lv (own_field x0 (2 : Int32)), .second, lv v6_0, .second, lv v13_0, .second, lv v20_0, .second, lv v26_0, .second, .unset, .unset, .unset, .unset]) rfl ?_
    refine st30 _ ?_
    refine XS.dup X30.here hx rfl (hb hby at_98) rfl rfl ?_
    refine XS.lload X30.here hx rfl (hb hby at_99) rfl ?_
    refine st31.trans ?_
    refine XS.lload X31.here hx rfl (hb hby at_104) rfl ?_
    refine st32.trans ?_
    refine XS.lload X32.here hx rfl (hb hby at_109) rfl ?_
    show Steps p.tables e below (T32.setTop (mkF m 111 #[lv x0, .second, lv x1, .second, lv x2, .second, lv x3, .second, iv x4, lv (own_field x0 (0 : Int32)), .second, lv (own_field x0 (1 : Int32)), .second, lv (own_field x0 (2 : Int32)), .second, lv v6_0, .second, lv v13_0, .second, lv v20_0, .second, lv v26_0, .second, .unset, .unset, .unset, .unset] [(.long (own_field x0 (2 : Int32))), (.ref b_32), (.ref b_31), (.ref b30), (.ref b30)])) _
    refine st33.trans ?_
    refine XS.lload X33.here hx rfl (hb hby at_114) rfl ?_
    refine st41.trans ?_
    refine XS.astore X41.here hx rfl (hb hby at_119) rfl rfl (l' := #[lv x0, .second, lv x1, .second, lv x2, .second, lv x3, .second, iv x4, lv (own_field x0 (0 : Int32)), .second, lv (own_field x0 (1 : Int32)), .second, lv (own_field x0 (2 : Int32)), .second, lv v6_0, .second, lv v13_0, .second, lv v20_0, .second, lv v26_0, .second, rv b30, .unset, .unset, .unset]) rfl ?_
    refine st42 _ ?_
    refine XS.dup X42.here hx rfl (hb hby at_124) rfl rfl ?_
    refine XS.lload X42.here hx rfl (hb hby at_125) rfl ?_
    refine st43.trans ?_
    show Steps p.tables e below (T43.setTop (mkF m 130 #[lv x0, .second, lv x1, .second, lv x2, .second, lv x3, .second, iv x4, lv (own_field x0 (0 : Int32)), .second, lv (own_field x0 (1 : Int32)), .second, lv (own_field x0 (2 : Int32)), .second, lv v6_0, .second, lv v13_0, .second, lv v20_0, .second, lv v26_0, .second, rv b30, .unset, .unset, .unset] [(.ref b_43), (.ref b42), (.ref b42)])) _
    refine XS.lload X43.here hx rfl (hb hby at_130) rfl ?_
    refine st44.trans ?_
    refine XS.lload X44.here hx rfl (hb hby at_135) rfl ?_
    refine st45.trans ?_
    refine XS.lload X45.here hx rfl (hb hby at_140) rfl ?_
    refine st53.trans ?_
    refine XS.astore X53.here hx rfl (hb hby at_145) rfl rfl (l' := #[lv x0, .second, lv x1, .second, lv x2, .second, lv x3, .second, iv x4, lv (own_field x0 (0 : Int32)), .second, lv (own_field x0 (1 : Int32)), .second, lv (own_field x0 (2 : Int32)), .second, lv v6_0, .second, lv v13_0, .second, lv v20_0, .second, lv v26_0, .second, rv b30, rv b42, .unset, .unset]) rfl ?_
    refine XS.iload X53.here hx rfl (hb hby at_147) rfl ?_
    show Steps p.tables e below (T53.setTop (mkF m 149 #[lv x0, .second, lv x1, .second, lv x2, .second, lv x3, .second, iv x4, lv (own_field x0 (0 : Int32)), .second, lv (own_field x0 (1 : Int32)), .second, lv (own_field x0 (2 : Int32)), .second, lv v6_0, .second, lv v13_0, .second, lv v20_0, .second, lv v26_0, .second, rv b30, rv b42, .unset, .unset] [(.int x4)])) _
    refine XS.iconst X53.here hx rfl (hb hby at_149) ?_
    exact k)
  have P56 := own_go P54 (S' := T53.setTop (mkF m 158 #[lv x0, .second, lv x1, .second, lv x2, .second, lv x3, .second, iv x4, lv (own_field x0 (0 : Int32)), .second, lv (own_field x0 (1 : Int32)), .second, lv (own_field x0 (2 : Int32)), .second, lv v6_0, .second, lv v13_0, .second, lv v20_0, .second, lv v26_0, .second, rv b30, rv b42, iv (((x4.toUInt32 >>> ((4 : Int32) &&& 31).toUInt32).toInt32) &&& (7 : Int32)), .unset] [(.int (((x4.toUInt32 >>> ((4 : Int32) &&& 31).toUInt32).toInt32) &&& (7 : Int32)))])) (by
    intro t k
    refine XS.iushr X53.here hx rfl (hb hby at_150) rfl ?_
    refine XS.bipush X53.here hx rfl (hb hby at_151) ?_
    refine XS.iand X53.here hx rfl (hb hby at_153) rfl ?_
    refine XS.istore X53.here hx rfl (hb hby at_154) rfl (l' := #[lv x0, .second, lv x1, .second, lv x2, .second, lv x3, .second, iv x4, lv (own_field x0 (0 : Int32)), .second, lv (own_field x0 (1 : Int32)), .second, lv (own_field x0 (2 : Int32)), .second, lv v6_0, .second, lv v13_0, .second, lv v20_0, .second, lv v26_0, .second, rv b30, rv b42, iv (((x4.toUInt32 >>> ((4 : Int32) &&& 31).toUInt32).toInt32) &&& (7 : Int32)), .unset]) rfl ?_
    refine XS.iload X53.here hx rfl (hb hby at_156) rfl ?_
    exact k)
  by_cases hc158_55 : (((x4.toUInt32 >>> ((4 : Int32) &&& 31).toUInt32).toInt32) &&& (7 : Int32)) = (0 : Int32)
  · have q57 := (((((r41_0.ext E42).keep K43).keep K44).keep K45).keep K53)
    have q59 := (Nat.lt_of_lt_of_le (Nat.lt_of_lt_of_le (Nat.lt_of_lt_of_le (Nat.lt_of_lt_of_le A30.lt K31.1) K32.1) K33.1) K41.1)
    have ne58 : b30 ≠ b42 := Nat.ne_of_lt (Nat.lt_of_lt_of_le q59 (Nat.le_of_eq g42.symm))
    have ni60 := (ninS ne58 nin0)
    have q61 := (((((r41_4.ext E42).keep K43 nin0).keep K44 nin0).keep K45 nin0).keep K53 ni60)
    have q62 := (((((r41_1.ext E42).keep K43 nin0).keep K44 nin0).keep K45 nin0).keep K53 ni60)
    have q63 := (((((r41_2.ext E42).keep K43 nin0).keep K44 nin0).keep K45 nin0).keep K53 ni60)
    have q64 := (((((r41_3.ext E42).keep K43 nin0).keep K44 nin0).keep K45 nin0).keep K53 ni60)
    have q65 := (((((((own_Str_exa q34).keep K41).ext E42).keep K43).keep K44).keep K45).keep K53)
    have q66 := (((((((own_Str_exa q35).keep K41).ext E42).keep K43).keep K44).keep K45).keep K53)
    have q67 := (((((((own_Str_exa r33_2).keep K41).ext E42).keep K43).keep K44).keep K45).keep K53)
    obtain ⟨cq68, kq68, q68a, q68b, q68c⟩ := isOf hZ53 rfl q57
    obtain ⟨_, _, ⟨T68, L68, k68, n68⟩, -, X68, ⟨Lc68, hQ68, l68, y68, z68⟩, st68⟩ := X53.virtualBack hx (y := (⟨"com/example/bylaws_for_tables/bylawsfortables/FindingKey", "equals", "(Ljava/lang/Object;)Z"⟩ : MethodName)) (z := (⟨"com/example/bylaws_for_tables/bylawsfortables/FindingKey", "equals", "(Ljava/lang/Object;)Z"⟩ : MethodName)) hown53 (mvT hZ53 (hw _ (im 57 rfl))) (mvT hZ53 (hw _ (im 58 rfl))) (notFace_of_selects (args := #[]) (mvT hZ53 (hw _ (im 60 rfl)))) (mvT hZ53 (hw _ (im 60 rfl))) (mvT hZ53 (hw _ (im 59 rfl))) (by decide) (backOf (W := 0) (rmfkS l Z a0 hw [] b30 x2 b_31 b_32 b_33 T53.heap n0 Z53_ q57 q61 q62 q63 q64 q65 q66 q67) hZ53 (hw _ (im 61 rfl)) (hw _ (im 7 rfl)) (by decide) (by decide)) q68a q68c (g := (mkF m 165 #[lv x0, .second, lv x1, .second, lv x2, .second, lv x3, .second, iv x4, lv (own_field x0 (0 : Int32)), .second, lv (own_field x0 (1 : Int32)), .second, lv (own_field x0 (2 : Int32)), .second, lv v6_0, .second, lv v13_0, .second, lv v20_0, .second, lv v26_0, .second, rv b30, rv b42, iv (((x4.toUInt32 >>> ((4 : Int32) &&& 31).toUInt32).toInt32) &&& (7 : Int32)), .unset] [(.ref b30), (.ref b30)])) rfl (by rw [hml]; rfl) (Steps.refl _) (argsL := [(.ref b30)]) (rest := []) (lenOf pd_9 rfl) rfl (by show 2 * 0 + _ ≤ _; exact Nat.le_of_eq rfl) (hb hby at_165) (fun _ _ => ⟨rfl, rfl, (by decide : 50 + 0 ≤ _), (by decide : 240 + 0 ≤ _)⟩)
    dsimp only [Pt.U, Pt.locs, Pt.cells, Pt.slots] at X68 l68 y68 z68 st68 hQ68
    subst l68 y68 z68
    obtain ⟨rfl, N68q, e68⟩ := hQ68
    have N68 := Fr.app N53 N68q
    have P69 := own_go P56 (S' := T68.setTop (mkF m 168 #[lv x0, .second, lv x1, .second, lv x2, .second, lv x3, .second, iv x4, lv (own_field x0 (0 : Int32)), .second, lv (own_field x0 (1 : Int32)), .second, lv (own_field x0 (2 : Int32)), .second, lv v6_0, .second, lv v13_0, .second, lv v20_0, .second, lv v26_0, .second, rv b30, rv b42, iv (((x4.toUInt32 >>> ((4 : Int32) &&& 31).toUInt32).toInt32) &&& (7 : Int32)), .unset] [(.int 1)])) (by
      intro t k
      refine XS.ifNo X53.here hx rfl (hb hby at_158) rfl ((if0 _ _).trans (teq hc158_55).2) ?_
      refine XS.aload X53.here hx rfl (hb hby at_161) rfl rfl ?_
      refine XS.aload X53.here hx rfl (hb hby at_163) rfl rfl ?_
      refine st68.trans ?_
      exact k)
    obtain ⟨fs, hr, hrun, hended, hend⟩ := X68.leaveW hS53 (by rw [e68]; exact hk53w) (v := some (.int 1)) (fun h => by rw [Bd.returns] at h; cases h)
    refine ⟨_, _, P69 _ ?_, hrun, hended, _, _, rfl, ?_, ?_, hend.1, hend.2.1, hend.2.2.1, hend.2.2.2.mono (by decide) (by decide)⟩
    · show Steps p.tables e below (T68.setTop (mkF m 168 #[lv x0, .second, lv x1, .second, lv x2, .second, lv x3, .second, iv x4, lv (own_field x0 (0 : Int32)), .second, lv (own_field x0 (1 : Int32)), .second, lv (own_field x0 (2 : Int32)), .second, lv v6_0, .second, lv v13_0, .second, lv v20_0, .second, lv v26_0, .second, rv b30, rv b42, iv (((x4.toUInt32 >>> ((4 : Int32) &&& 31).toUInt32).toInt32) &&& (7 : Int32)), .unset] [(.int 1)])) _
      exact retN X68 hx (t := .boolean) Bd.returns (by simp) (hb hby at_168) hr
    · show Q0 Z x0 x1 x2 x3 x4 cs ca cl h0 n0 _ T68.heap _
      rw [e68]
      exact ⟨rfl, N68⟩
    · have q := CR53.trans (CHv.at X68 hZ53 hEW CH53)
      rw [hh]
      show CHr Z own_EL s.vm h0 T68.vm T68.heap
      rw [e68]
      exact q
  · have P71 := own_go P56 (S' := T53.setTop (mkF m 172 #[lv x0, .second, lv x1, .second, lv x2, .second, lv x3, .second, iv x4, lv (own_field x0 (0 : Int32)), .second, lv (own_field x0 (1 : Int32)), .second, lv (own_field x0 (2 : Int32)), .second, lv v6_0, .second, lv v13_0, .second, lv v20_0, .second, lv v26_0, .second, rv b30, rv b42, iv (((x4.toUInt32 >>> ((4 : Int32) &&& 31).toUInt32).toInt32) &&& (7 : Int32)), .unset] [(.int 1), (.int (((x4.toUInt32 >>> ((4 : Int32) &&& 31).toUInt32).toInt32) &&& (7 : Int32)))])) (by
      intro t k
      refine XS.ifYes X53.here hx rfl (pc0 := 158) (pc' := 169) rfl (hb hby at_158) rfl ((if0 _ _).trans (feq hc158_55).2) (by decide) (by decide) ?_
      refine XS.iload X53.here hx rfl (hb hby at_169) rfl ?_
      refine XS.iconst X53.here hx rfl (hb hby at_171) ?_
      exact k)
    by_cases hc172_70 : (((x4.toUInt32 >>> ((4 : Int32) &&& 31).toUInt32).toInt32) &&& (7 : Int32)) = (1 : Int32)
    · have q73 := (((((r41_0.ext E42).keep K43).keep K44).keep K45).keep K53)
      obtain ⟨cq72, kq72, q72a, q72b, q72c⟩ := isOf hZ53 rfl q73
      obtain ⟨_, _, ⟨T72, L72, k72, n72⟩, -, X72, ⟨Lc72, hQ72, l72, y72, z72⟩, st72⟩ := X53.virtualBack hx (y := (⟨"com/example/bylaws_for_tables/bylawsfortables/FindingKey", "equals", "(Ljava/lang/Object;)Z"⟩ : MethodName)) (z := (⟨"com/example/bylaws_for_tables/bylawsfortables/FindingKey", "equals", "(Ljava/lang/Object;)Z"⟩ : MethodName)) hown53 (mvT hZ53 (hw _ (im 57 rfl))) (mvT hZ53 (hw _ (im 58 rfl))) (notFace_of_selects (args := #[]) (mvT hZ53 (hw _ (im 60 rfl)))) (mvT hZ53 (hw _ (im 60 rfl))) (mvT hZ53 (hw _ (im 59 rfl))) (by decide) (backOf (W := 0) (rmfkN l Z a0 hw [] b30 T53.heap n0 Z53_ ) hZ53 (hw _ (im 61 rfl)) (hw _ (im 7 rfl)) (by decide) (by decide)) q72a q72c (g := (mkF m 178 #[lv x0, .second, lv x1, .second, lv x2, .second, lv x3, .second, iv x4, lv (own_field x0 (0 : Int32)), .second, lv (own_field x0 (1 : Int32)), .second, lv (own_field x0 (2 : Int32)), .second, lv v6_0, .second, lv v13_0, .second, lv v20_0, .second, lv v26_0, .second, rv b30, rv b42, iv (((x4.toUInt32 >>> ((4 : Int32) &&& 31).toUInt32).toInt32) &&& (7 : Int32)), .unset] [.null, (.ref b30)])) rfl (by rw [hml]; rfl) (Steps.refl _) (argsL := [.null]) (rest := []) (lenOf pd_9 rfl) rfl (by show 2 * 0 + _ ≤ _; exact Nat.le_of_eq rfl) (hb hby at_178) (fun _ _ => ⟨rfl, rfl, (by decide : 50 + 0 ≤ _), (by decide : 240 + 0 ≤ _)⟩)
      dsimp only [Pt.U, Pt.locs, Pt.cells, Pt.slots] at X72 l72 y72 z72 st72 hQ72
      subst l72 y72 z72
      obtain ⟨rfl, N72q, e72⟩ := hQ72
      have N72 := Fr.app N53 N72q
      have P75 := own_go P71 (S' := T72.setTop (mkF m 189 #[lv x0, .second, lv x1, .second, lv x2, .second, lv x3, .second, iv x4, lv (own_field x0 (0 : Int32)), .second, lv (own_field x0 (1 : Int32)), .second, lv (own_field x0 (2 : Int32)), .second, lv v6_0, .second, lv v13_0, .second, lv v20_0, .second, lv v26_0, .second, rv b30, rv b42, iv (((x4.toUInt32 >>> ((4 : Int32) &&& 31).toUInt32).toInt32) &&& (7 : Int32)), .unset] [(.int 1)])) (by
        intro t k
        refine XS.icmpNo X53.here hx rfl (hb hby at_172) rfl (teq hc172_70).2 ?_
        refine XS.aload X53.here hx rfl (hb hby at_175) rfl rfl ?_
        refine XS.aconstNull X53.here hx rfl (hb hby at_177) ?_
        refine st72.trans ?_
        refine XS.ifNo X72.here hx rfl (hb hby at_181) rfl ((if0 _ _).trans (teq (by decide)).2) ?_
        refine XS.iconst X72.here hx rfl (hb hby at_184) ?_
        refine XS.goto X72.here hx rfl (pc0 := 185) (pc' := 189) rfl (hb hby at_185) (by decide) (by decide) ?_
        exact k)
      obtain ⟨fs, hr, hrun, hended, hend⟩ := X72.leaveW hS53 (by rw [e72]; exact hk53w) (v := some (.int 1)) (fun h => by rw [Bd.returns] at h; cases h)
      refine ⟨_, _, P75 _ ?_, hrun, hended, _, _, rfl, ?_, ?_, hend.1, hend.2.1, hend.2.2.1, hend.2.2.2.mono (by decide) (by decide)⟩
      · show Steps p.tables e below (T72.setTop (mkF m 189 #[lv x0, .second, lv x1, .second, lv x2, .second, lv x3, .second, iv x4, lv (own_field x0 (0 : Int32)), .second, lv (own_field x0 (1 : Int32)), .second, lv (own_field x0 (2 : Int32)), .second, lv v6_0, .second, lv v13_0, .second, lv v20_0, .second, lv v26_0, .second, rv b30, rv b42, iv (((x4.toUInt32 >>> ((4 : Int32) &&& 31).toUInt32).toInt32) &&& (7 : Int32)), .unset] [(.int 1)])) _
        exact retN X72 hx (t := .boolean) Bd.returns (by simp) (hb hby at_189) hr
      · show Q0 Z x0 x1 x2 x3 x4 cs ca cl h0 n0 _ T72.heap _
        rw [e72]
        exact ⟨rfl, N72⟩
      · have q := CR53.trans (CHv.at X72 hZ53 hEW CH53)
        rw [hh]
        show CHr Z own_EL s.vm h0 T72.vm T72.heap
        rw [e72]
        exact q
    · have P77 := own_go P71 (S' := T53.setTop (mkF m 193 #[lv x0, .second, lv x1, .second, lv x2, .second, lv x3, .second, iv x4, lv (own_field x0 (0 : Int32)), .second, lv (own_field x0 (1 : Int32)), .second, lv (own_field x0 (2 : Int32)), .second, lv v6_0, .second, lv v13_0, .second, lv v20_0, .second, lv v26_0, .second, rv b30, rv b42, iv (((x4.toUInt32 >>> ((4 : Int32) &&& 31).toUInt32).toInt32) &&& (7 : Int32)), .unset] [(.int 2), (.int (((x4.toUInt32 >>> ((4 : Int32) &&& 31).toUInt32).toInt32) &&& (7 : Int32)))])) (by
        intro t k
        refine XS.icmpYes X53.here hx rfl (pc0 := 172) (pc' := 190) rfl (hb hby at_172) rfl (feq hc172_70).2 (by decide) (by decide) ?_
        refine XS.iload X53.here hx rfl (hb hby at_190) rfl ?_
        refine XS.iconst X53.here hx rfl (hb hby at_192) ?_
        exact k)
      by_cases hc193_76 : (((x4.toUInt32 >>> ((4 : Int32) &&& 31).toUInt32).toInt32) &&& (7 : Int32)) = (2 : Int32)
      · obtain ⟨_, _, ⟨T78, L78, k78, n78⟩, -, X78, ⟨Lc78, hQ78, l78, y78, z78⟩, st78⟩ := Jvm.LawKit.callS X53 hx (y := (⟨"java/lang/Integer", "valueOf", "(I)Ljava/lang/Integer;"⟩ : MethodName)) hown53 (mvT hZ53 (hw _ (im 92 rfl))) (mvT hZ53 (hw _ (im 93 rfl))) (mvT hZ53 (hw _ (im 94 rfl))) (mvT hZ53 (hw _ (im 95 rfl))) (by decide) (backOf (W := 1) (rm17 l Z a0 hw [] x4 ca cl T53.heap n0 Z53_ O53_ pre_S_high pre_S_cache (BX)) hZ53 (hw _ (im 95 rfl)) (hw _ (im 94 rfl)) (by decide) (by decide)) (g := (mkF m 200 #[lv x0, .second, lv x1, .second, lv x2, .second, lv x3, .second, iv x4, lv (own_field x0 (0 : Int32)), .second, lv (own_field x0 (1 : Int32)), .second, lv (own_field x0 (2 : Int32)), .second, lv v6_0, .second, lv v13_0, .second, lv v20_0, .second, lv v26_0, .second, rv b30, rv b42, iv (((x4.toUInt32 >>> ((4 : Int32) &&& 31).toUInt32).toInt32) &&& (7 : Int32)), .unset] [(.int x4), (.ref b30)])) rfl (by rw [hml]; rfl) (argsL := [(.int x4)]) (rest := [(.ref b30)]) (lenOf pd_15 rfl) rfl (by show 2 * 0 + _ ≤ _; exact Nat.le_of_eq rfl) (hb hby at_200) (fun _ _ => ⟨rfl, rfl, (by decide : 50 + 1 ≤ _), (by decide : 240 + 1 ≤ _)⟩)
        dsimp only [Pt.U, Pt.locs, Pt.cells, Pt.slots] at X78 l78 y78 z78 st78 hQ78
        subst l78 y78 z78
        obtain ⟨b_78, rfl, N78q, K78, r78_0⟩ := hQ78
        have N78 := Fr.app N53 N78q
        have Z78_ : n0 ≤ T78.heap.size := Nat.le_trans Z53_ K78.1
        have hk78_ := Nat.le_trans hk53w K78.1
        have CH78 := CHv.keep K78 all0 CH53
        have CR78 := CR53.trans (CHr.keep K78 all0 CH53)
        have O78_ := O53_.keep K78 all0
        have q80 := ((((((r41_0.ext E42).keep K43).keep K44).keep K45).keep K53).keep K78)
        obtain ⟨cq79, kq79, q79a, q79b, q79c⟩ := isOf hZ53 rfl q80
        obtain ⟨_, _, ⟨T79, L79, k79, n79⟩, -, X79, ⟨Lc79, hQ79, l79, y79, z79⟩, st79⟩ := X78.virtualBack hx (y := (⟨"com/example/bylaws_for_tables/bylawsfortables/FindingKey", "equals", "(Ljava/lang/Object;)Z"⟩ : MethodName)) (z := (⟨"com/example/bylaws_for_tables/bylawsfortables/FindingKey", "equals", "(Ljava/lang/Object;)Z"⟩ : MethodName)) hown53 (mvT hZ53 (hw _ (im 57 rfl))) (mvT hZ53 (hw _ (im 58 rfl))) (notFace_of_selects (args := #[]) (mvT hZ53 (hw _ (im 60 rfl)))) (mvT hZ53 (hw _ (im 60 rfl))) (mvT hZ53 (hw _ (im 59 rfl))) (by decide) (backOf (W := 0) (rmfkI l Z a0 hw [] b30 b_78 T78.heap n0 Z78_ r78_0) hZ53 (hw _ (im 61 rfl)) (hw _ (im 7 rfl)) (by decide) (by decide)) q79a q79c (g := (mkF m 203 #[lv x0, .second, lv x1, .second, lv x2, .second, lv x3, .second, iv x4, lv (own_field x0 (0 : Int32)), .second, lv (own_field x0 (1 : Int32)), .second, lv (own_field x0 (2 : Int32)), .second, lv v6_0, .second, lv v13_0, .second, lv v20_0, .second, lv v26_0, .second, rv b30, rv b42, iv (((x4.toUInt32 >>> ((4 : Int32) &&& 31).toUInt32).toInt32) &&& (7 : Int32)), .unset] [(.ref b_78), (.ref b30)])) rfl (by rw [hml]; rfl) (Steps.refl _) (argsL := [(.ref b_78)]) (rest := []) (lenOf pd_9 rfl) rfl (by show 2 * 0 + _ ≤ _; exact Nat.le_of_eq rfl) (hb hby at_203) (fun _ _ => ⟨rfl, rfl, (by decide : 51 + 0 ≤ _), (by decide : 241 + 0 ≤ _)⟩)
        dsimp only [Pt.U, Pt.locs, Pt.cells, Pt.slots] at X79 l79 y79 z79 st79 hQ79
        subst l79 y79 z79
        obtain ⟨rfl, N79q, e79⟩ := hQ79
        have N79 := Fr.app N78 N79q
        have P82 := own_go P77 (S' := T79.setTop (mkF m 214 #[lv x0, .second, lv x1, .second, lv x2, .second, lv x3, .second, iv x4, lv (own_field x0 (0 : Int32)), .second, lv (own_field x0 (1 : Int32)), .second, lv (own_field x0 (2 : Int32)), .second, lv v6_0, .second, lv v13_0, .second, lv v20_0, .second, lv v26_0, .second, rv b30, rv b42, iv (((x4.toUInt32 >>> ((4 : Int32) &&& 31).toUInt32).toInt32) &&& (7 : Int32)), .unset] [(.int 1)])) (by
          intro t k
          refine XS.icmpNo X53.here hx rfl (hb hby at_193) rfl (teq hc193_76).2 ?_
          refine XS.aload X53.here hx rfl (hb hby at_196) rfl rfl ?_
          refine XS.iload X53.here hx rfl (hb hby at_198) rfl ?_
          refine st78 _ ?_
          refine st79.trans ?_
          refine XS.ifNo X79.here hx rfl (hb hby at_206) rfl ((if0 _ _).trans (teq (by decide)).2) ?_
          refine XS.iconst X79.here hx rfl (hb hby at_209) ?_
          refine XS.goto X79.here hx rfl (pc0 := 210) (pc' := 214) rfl (hb hby at_210) (by decide) (by decide) ?_
          show Steps p.tables e below (T79.setTop (mkF m 214 #[lv x0, .second, lv x1, .second, lv x2, .second, lv x3, .second, iv x4, lv (own_field x0 (0 : Int32)), .second, lv (own_field x0 (1 : Int32)), .second, lv (own_field x0 (2 : Int32)), .second, lv v6_0, .second, lv v13_0, .second, lv v20_0, .second, lv v26_0, .second, rv b30, rv b42, iv (((x4.toUInt32 >>> ((4 : Int32) &&& 31).toUInt32).toInt32) &&& (7 : Int32)), .unset] [(.int 1)])) _
          exact k)
        obtain ⟨fs, hr, hrun, hended, hend⟩ := X79.leaveW hS53 (by rw [e79]; exact hk78_) (v := some (.int 1)) (fun h => by rw [Bd.returns] at h; cases h)
        refine ⟨_, _, P82 _ ?_, hrun, hended, _, _, rfl, ?_, ?_, hend.1, hend.2.1, hend.2.2.1, hend.2.2.2.mono (by decide) (by decide)⟩
        · show Steps p.tables e below (T79.setTop (mkF m 214 #[lv x0, .second, lv x1, .second, lv x2, .second, lv x3, .second, iv x4, lv (own_field x0 (0 : Int32)), .second, lv (own_field x0 (1 : Int32)), .second, lv (own_field x0 (2 : Int32)), .second, lv v6_0, .second, lv v13_0, .second, lv v20_0, .second, lv v26_0, .second, rv b30, rv b42, iv (((x4.toUInt32 >>> ((4 : Int32) &&& 31).toUInt32).toInt32) &&& (7 : Int32)), .unset] [(.int 1)])) _
          exact retN X79 hx (t := .boolean) Bd.returns (by simp) (hb hby at_214) hr
        · show Q0 Z x0 x1 x2 x3 x4 cs ca cl h0 n0 _ T79.heap _
          rw [e79]
          exact ⟨rfl, N79⟩
        · have q := CR78.trans (CHv.at X79 hZ53 hEW CH78)
          rw [hh]
          show CHr Z own_EL s.vm h0 T79.vm T79.heap
          rw [e79]
          exact q
      · have P84 := own_go P77 (S' := T53.setTop (mkF m 220 #[lv x0, .second, lv x1, .second, lv x2, .second, lv x3, .second, iv x4, lv (own_field x0 (0 : Int32)), .second, lv (own_field x0 (1 : Int32)), .second, lv (own_field x0 (2 : Int32)), .second, lv v6_0, .second, lv v13_0, .second, lv v20_0, .second, lv v26_0, .second, rv b30, rv b42, iv (((x4.toUInt32 >>> ((4 : Int32) &&& 31).toUInt32).toInt32) &&& (7 : Int32)), .unset] [(.int (lcmpW x2 v26_0))])) (by
          intro t k
          refine XS.icmpYes X53.here hx rfl (pc0 := 193) (pc' := 215) rfl (hb hby at_193) rfl (feq hc193_76).2 (by decide) (by decide) ?_
          refine XS.lload X53.here hx rfl (hb hby at_215) rfl ?_
          refine XS.lload X53.here hx rfl (hb hby at_217) rfl ?_
          refine XS.lcmp X53.here hx rfl (hb hby at_219) rfl ?_
          exact k)
        by_cases hc220_83 : x2 = v26_0
        · obtain ⟨_, _, ⟨T85, L85, k85, n85⟩, -, X85, ⟨Lc85, hQ85, l85, y85, z85⟩, st85⟩ := Jvm.LawKit.callS X53 hx (y := (⟨"com/example/bylaws_for_tables/bylawsfortables/FindingKeyEqualsPinLaw", "sameText", "(JJ)Z"⟩ : MethodName)) hown53 (mvT hZ53 (hw _ (im 84 rfl))) (mvT hZ53 (hw _ (im 85 rfl))) (mvT hZ53 (hw _ (im 2 rfl))) (mvT hZ53 (hw _ (im 86 rfl))) (by decide) (backOf (W := 0) (rm15 l Z a0 hw [] (own_field x0 (0 : Int32)) v6_0 T53.heap n0 Z53_ ) hZ53 (hw _ (im 86 rfl)) (hw _ (im 2 rfl)) (by decide) (by decide)) (g := (mkF m 227 #[lv x0, .second, lv x1, .second, lv x2, .second, lv x3, .second, iv x4, lv (own_field x0 (0 : Int32)), .second, lv (own_field x0 (1 : Int32)), .second, lv (own_field x0 (2 : Int32)), .second, lv v6_0, .second, lv v13_0, .second, lv v20_0, .second, lv v26_0, .second, rv b30, rv b42, iv (((x4.toUInt32 >>> ((4 : Int32) &&& 31).toUInt32).toInt32) &&& (7 : Int32)), .unset] [(.long v6_0), (.long (own_field x0 (0 : Int32)))])) rfl (by rw [hml]; rfl) (argsL := [(.long (own_field x0 (0 : Int32))), (.long v6_0)]) (rest := []) (lenOf pd_16 rfl) rfl (by show 2 * 0 + _ ≤ _; exact Nat.le_of_eq rfl) (hb hby at_227) (fun _ _ => ⟨rfl, rfl, (by decide : 50 + 0 ≤ _), (by decide : 240 + 0 ≤ _)⟩)
          dsimp only [Pt.U, Pt.locs, Pt.cells, Pt.slots] at X85 l85 y85 z85 st85 hQ85
          subst l85 y85 z85
          obtain ⟨rfl, N85q, e85⟩ := hQ85
          have N85 := Fr.app N53 N85q
          have P87 := own_go P84 (S' := T85.setTop (mkF m 230 #[lv x0, .second, lv x1, .second, lv x2, .second, lv x3, .second, iv x4, lv (own_field x0 (0 : Int32)), .second, lv (own_field x0 (1 : Int32)), .second, lv (own_field x0 (2 : Int32)), .second, lv v6_0, .second, lv v13_0, .second, lv v20_0, .second, lv v26_0, .second, rv b30, rv b42, iv (((x4.toUInt32 >>> ((4 : Int32) &&& 31).toUInt32).toInt32) &&& (7 : Int32)), .unset] [(.int (if own_str (own_field x0 (0 : Int32)) = own_str v6_0 then (1 : Int32) else (0 : Int32)))])) (by
            intro t k
            refine XS.ifNo X53.here hx rfl (hb hby at_220) rfl ((if0 _ _).trans (teq ((lw_eq x2 v26_0).mpr hc220_83)).2) ?_
            refine XS.lload X53.here hx rfl (hb hby at_223) rfl ?_
            refine XS.lload X53.here hx rfl (hb hby at_225) rfl ?_
            refine st85 _ ?_
            exact k)
          by_cases hc230_86 : own_str (own_field x0 (0 : Int32)) = own_str v6_0
          · obtain ⟨_, _, ⟨T88, L88, k88, n88⟩, -, X88, ⟨Lc88, hQ88, l88, y88, z88⟩, st88⟩ := Jvm.LawKit.callS X85 hx (y := (⟨"com/example/bylaws_for_tables/bylawsfortables/FindingKeyEqualsPinLaw", "sameText", "(JJ)Z"⟩ : MethodName)) hown53 (mvT hZ53 (hw _ (im 84 rfl))) (mvT hZ53 (hw _ (im 85 rfl))) (mvT hZ53 (hw _ (im 2 rfl))) (mvT hZ53 (hw _ (im 86 rfl))) (by decide) (backOf (W := 0) (rm15 l Z a0 hw [] (own_field x0 (1 : Int32)) v13_0 T53.heap n0 Z53_ ) hZ53 (hw _ (im 86 rfl)) (hw _ (im 2 rfl)) (by decide) (by decide)) (g := (mkF m 237 #[lv x0, .second, lv x1, .second, lv x2, .second, lv x3, .second, iv x4, lv (own_field x0 (0 : Int32)), .second, lv (own_field x0 (1 : Int32)), .second, lv (own_field x0 (2 : Int32)), .second, lv v6_0, .second, lv v13_0, .second, lv v20_0, .second, lv v26_0, .second, rv b30, rv b42, iv (((x4.toUInt32 >>> ((4 : Int32) &&& 31).toUInt32).toInt32) &&& (7 : Int32)), .unset] [(.long v13_0), (.long (own_field x0 (1 : Int32)))])) rfl (by rw [hml]; rfl) (argsL := [(.long (own_field x0 (1 : Int32))), (.long v13_0)]) (rest := []) (lenOf pd_16 rfl) rfl (by show 2 * 0 + _ ≤ _; exact Nat.le_of_eq rfl) (hb hby at_237) (fun _ _ => ⟨rfl, e85, (by decide : 50 + 0 ≤ _), (by decide : 240 + 0 ≤ _)⟩)
            dsimp only [Pt.U, Pt.locs, Pt.cells, Pt.slots] at X88 l88 y88 z88 st88 hQ88
            subst l88 y88 z88
            obtain ⟨rfl, N88q, e88⟩ := hQ88
            have N88 := Fr.app N85 N88q
            have P90 := own_go P87 (S' := T88.setTop (mkF m 240 #[lv x0, .second, lv x1, .second, lv x2, .second, lv x3, .second, iv x4, lv (own_field x0 (0 : Int32)), .second, lv (own_field x0 (1 : Int32)), .second, lv (own_field x0 (2 : Int32)), .second, lv v6_0, .second, lv v13_0, .second, lv v20_0, .second, lv v26_0, .second, rv b30, rv b42, iv (((x4.toUInt32 >>> ((4 : Int32) &&& 31).toUInt32).toInt32) &&& (7 : Int32)), .unset] [(.int (if own_str (own_field x0 (1 : Int32)) = own_str v13_0 then (1 : Int32) else (0 : Int32)))])) (by
              intro t k
              refine XS.ifNo X85.here hx rfl (hb hby at_230) rfl ((if0 _ _).trans (feq (by rw [if_pos hc230_86]; decide)).1) ?_
              refine XS.lload X85.here hx rfl (hb hby at_233) rfl ?_
              refine XS.lload X85.here hx rfl (hb hby at_235) rfl ?_
              refine st88 _ ?_
              exact k)
            by_cases hc240_89 : own_str (own_field x0 (1 : Int32)) = own_str v13_0
            · obtain ⟨_, _, ⟨T91, L91, k91, n91⟩, -, X91, ⟨Lc91, hQ91, l91, y91, z91⟩, st91⟩ := Jvm.LawKit.callS X88 hx (y := (⟨"com/example/bylaws_for_tables/bylawsfortables/FindingKeyEqualsPinLaw", "sameText", "(JJ)Z"⟩ : MethodName)) hown53 (mvT hZ53 (hw _ (im 84 rfl))) (mvT hZ53 (hw _ (im 85 rfl))) (mvT hZ53 (hw _ (im 2 rfl))) (mvT hZ53 (hw _ (im 86 rfl))) (by decide) (backOf (W := 0) (rm15 l Z a0 hw [] (own_field x0 (2 : Int32)) v20_0 T53.heap n0 Z53_ ) hZ53 (hw _ (im 86 rfl)) (hw _ (im 2 rfl)) (by decide) (by decide)) (g := (mkF m 247 #[lv x0, .second, lv x1, .second, lv x2, .second, lv x3, .second, iv x4, lv (own_field x0 (0 : Int32)), .second, lv (own_field x0 (1 : Int32)), .second, lv (own_field x0 (2 : Int32)), .second, lv v6_0, .second, lv v13_0, .second, lv v20_0, .second, lv v26_0, .second, rv b30, rv b42, iv (((x4.toUInt32 >>> ((4 : Int32) &&& 31).toUInt32).toInt32) &&& (7 : Int32)), .unset] [(.long v20_0), (.long (own_field x0 (2 : Int32)))])) rfl (by rw [hml]; rfl) (argsL := [(.long (own_field x0 (2 : Int32))), (.long v20_0)]) (rest := []) (lenOf pd_16 rfl) rfl (by show 2 * 0 + _ ≤ _; exact Nat.le_of_eq rfl) (hb hby at_247) (fun _ _ => ⟨rfl, e88, (by decide : 50 + 0 ≤ _), (by decide : 240 + 0 ≤ _)⟩)
              dsimp only [Pt.U, Pt.locs, Pt.cells, Pt.slots] at X91 l91 y91 z91 st91 hQ91
              subst l91 y91 z91
              obtain ⟨rfl, N91q, e91⟩ := hQ91
              have N91 := Fr.app N88 N91q
              have P93 := own_go P90 (S' := T91.setTop (mkF m 250 #[lv x0, .second, lv x1, .second, lv x2, .second, lv x3, .second, iv x4, lv (own_field x0 (0 : Int32)), .second, lv (own_field x0 (1 : Int32)), .second, lv (own_field x0 (2 : Int32)), .second, lv v6_0, .second, lv v13_0, .second, lv v20_0, .second, lv v26_0, .second, rv b30, rv b42, iv (((x4.toUInt32 >>> ((4 : Int32) &&& 31).toUInt32).toInt32) &&& (7 : Int32)), .unset] [(.int (if own_str (own_field x0 (2 : Int32)) = own_str v20_0 then (1 : Int32) else (0 : Int32)))])) (by
                intro t k
                refine XS.ifNo X88.here hx rfl (hb hby at_240) rfl ((if0 _ _).trans (feq (by rw [if_pos hc240_89]; decide)).1) ?_
                refine XS.lload X88.here hx rfl (hb hby at_243) rfl ?_
                refine XS.lload X88.here hx rfl (hb hby at_245) rfl ?_
                refine st91 _ ?_
                exact k)
              by_cases hc250_92 : own_str (own_field x0 (2 : Int32)) = own_str v20_0
              · have q95 := (Nat.lt_of_lt_of_le (Nat.lt_of_lt_of_le (Nat.lt_of_lt_of_le (Nat.lt_of_lt_of_le A30.lt K31.1) K32.1) K33.1) K41.1)
                have ne94 : b30 ≠ b42 := Nat.ne_of_lt (Nat.lt_of_lt_of_le q95 (Nat.le_of_eq g42.symm))
                have ni96 := (ninS ne94 nin0)
                have q97 := (((((r41_4.ext E42).keep K43 nin0).keep K44 nin0).keep K45 nin0).keep K53 ni96)
                have q98 := (((((r41_1.ext E42).keep K43 nin0).keep K44 nin0).keep K45 nin0).keep K53 ni96)
                have q99 := (((((r41_2.ext E42).keep K43 nin0).keep K44 nin0).keep K45 nin0).keep K53 ni96)
                have q100 := (((((r41_3.ext E42).keep K43 nin0).keep K44 nin0).keep K45 nin0).keep K53 ni96)
                have q101 := (own_Str_keep (own_Str_keep (own_Str_keep (own_Str_keep (own_Str_ext (own_Str_keep q34 K41 (allS (Or.inr ⟨"com/example/bylaws_for_tables/bylawsfortables/FindingKey", 4, _, q36, (hw _ (im 6 rfl)), by decide⟩) all0)) E42) K43 all0) K44 all0) K45 all0) K53 (allS (Or.inl (Nat.le_trans (Nat.le_trans (Nat.le_trans (Nat.le_trans (Nat.le_refl T31.heap.size) K32.1) K33.1) K41.1) (Nat.le_of_eq g42.symm))) all0))
                have q102 := (own_Str_keep q46 K53 (allS (Or.inr ⟨"com/example/bylaws_for_tables/bylawsfortables/FindingKey", 4, _, q48, (hw _ (im 6 rfl)), by decide⟩) all0))
                have q104 := (Nat.lt_of_lt_of_le (Nat.lt_of_lt_of_le (Nat.lt_of_lt_of_le (Nat.lt_of_lt_of_le (own_Str_lt r31_2) K32.1) K33.1) K41.1) E42.1)
                have ne103 : b_31 ≠ b_43 := Nat.ne_of_lt (Nat.lt_of_lt_of_le q104 r43_1)
                have q105 := (own_Str_keep (own_Str_keep (own_Str_keep (own_Str_keep (own_Str_ext (own_Str_keep q35 K41 (allS (Or.inr ⟨"com/example/bylaws_for_tables/bylawsfortables/FindingKey", 4, _, q36, (hw _ (im 6 rfl)), by decide⟩) all0)) E42) K43 all0) K44 all0) K45 all0) K53 (allS (Or.inl (Nat.le_trans (Nat.le_trans (Nat.le_trans (Nat.le_refl T32.heap.size) K33.1) K41.1) (Nat.le_of_eq g42.symm))) all0))
                have q106 := (own_Str_keep q47 K53 (allS (Or.inr ⟨"com/example/bylaws_for_tables/bylawsfortables/FindingKey", 4, _, q48, (hw _ (im 6 rfl)), by decide⟩) all0))
                have q108 := (Nat.lt_of_lt_of_le (Nat.lt_of_lt_of_le (Nat.lt_of_lt_of_le (Nat.lt_of_lt_of_le (own_Str_lt r32_2) K33.1) K41.1) E42.1) K43.1)
                have ne107 : b_32 ≠ b_44 := Nat.ne_of_lt (Nat.lt_of_lt_of_le q108 r44_1)
                have q109 := (own_Str_keep (own_Str_keep (own_Str_keep (own_Str_keep (own_Str_ext (own_Str_keep r33_2 K41 (allS (Or.inr ⟨"com/example/bylaws_for_tables/bylawsfortables/FindingKey", 4, _, q36, (hw _ (im 6 rfl)), by decide⟩) all0)) E42) K43 all0) K44 all0) K45 all0) K53 (allS (Or.inl (Nat.le_trans (Nat.le_trans (Nat.le_refl T33.heap.size) K41.1) (Nat.le_of_eq g42.symm))) all0))
                have q110 := (own_Str_keep r45_2 K53 (allS (Or.inr ⟨"com/example/bylaws_for_tables/bylawsfortables/FindingKey", 4, _, q48, (hw _ (im 6 rfl)), by decide⟩) all0))
                have q112 := (Nat.lt_of_lt_of_le (Nat.lt_of_lt_of_le (Nat.lt_of_lt_of_le (Nat.lt_of_lt_of_le (own_Str_lt r33_2) K41.1) E42.1) K43.1) K44.1)
                have ne111 : b_33 ≠ b_45 := Nat.ne_of_lt (Nat.lt_of_lt_of_le q112 r45_1)
                have q114 := (((((r41_0.ext E42).keep K43).keep K44).keep K45).keep K53)
                obtain ⟨cq113, kq113, q113a, q113b, q113c⟩ := isOf hZ53 e91 q114
                obtain ⟨_, _, ⟨T113, L113, k113, n113⟩, -, X113, ⟨Lc113, hQ113, l113, y113, z113⟩, st113⟩ := X91.virtualBack hx (y := (⟨"com/example/bylaws_for_tables/bylawsfortables/FindingKey", "equals", "(Ljava/lang/Object;)Z"⟩ : MethodName)) (z := (⟨"com/example/bylaws_for_tables/bylawsfortables/FindingKey", "equals", "(Ljava/lang/Object;)Z"⟩ : MethodName)) hown53 (mvT hZ53 (hw _ (im 57 rfl))) (mvT hZ53 (hw _ (im 58 rfl))) (notFace_of_selects (args := #[]) (mvT hZ53 (hw _ (im 60 rfl)))) (mvT hZ53 (hw _ (im 60 rfl))) (mvT hZ53 (hw _ (im 59 rfl))) (by decide) (backOf (W := 0) (rmfkD l Z a0 hw [] b30 b42 cs x2 b_31 b_32 b_33 v26_0 b_43 b_44 b_45 (own_str (own_field x0 (0 : Int32))) T31.heap.size (own_str v6_0) T43.heap.size (own_str (own_field x0 (1 : Int32))) T32.heap.size (own_str v13_0) T44.heap.size (own_str (own_field x0 (2 : Int32))) T33.heap.size (own_str v20_0) T45.heap.size T53.heap n0 Z53_ O53_ pre_S_COMPACT_STRINGS (hcs) r53_0 q97 q98 q99 q100 r53_4 r53_1 r53_2 r53_3 q101 q102 ne103 q105 q106 ne107 q109 q110 ne111) hZ53 (hw _ (im 61 rfl)) (hw _ (im 7 rfl)) (by decide) (by decide)) q113a q113c (g := (mkF m 264 #[lv x0, .second, lv x1, .second, lv x2, .second, lv x3, .second, iv x4, lv (own_field x0 (0 : Int32)), .second, lv (own_field x0 (1 : Int32)), .second, lv (own_field x0 (2 : Int32)), .second, lv v6_0, .second, lv v13_0, .second, lv v20_0, .second, lv v26_0, .second, rv b30, rv b42, iv (((x4.toUInt32 >>> ((4 : Int32) &&& 31).toUInt32).toInt32) &&& (7 : Int32)), iv 1] [(.ref b42), (.ref b30)])) rfl (by rw [hml]; rfl) (Steps.refl _) (argsL := [(.ref b42)]) (rest := []) (lenOf pd_9 rfl) rfl (by show 2 * 0 + _ ≤ _; exact Nat.le_of_eq rfl) (hb hby at_264) (fun _ _ => ⟨rfl, e91, (by decide : 50 + 0 ≤ _), (by decide : 240 + 0 ≤ _)⟩)
                dsimp only [Pt.U, Pt.locs, Pt.cells, Pt.slots] at X113 l113 y113 z113 st113 hQ113
                subst l113 y113 z113
                obtain ⟨rfl, N113q, e113⟩ := hQ113
                have N113 := Fr.app N91 N113q
                have hc269_115 : (if (x2 = v26_0 ∧ (own_str (own_field x0 (0 : Int32))) = (own_str v6_0) ∧ (own_str (own_field x0 (1 : Int32))) = (own_str v13_0) ∧ (own_str (own_field x0 (2 : Int32))) = (own_str v20_0)) then (1 : Int32) else (0 : Int32)) = (1 : Int32) := if_pos ⟨hc220_83, hc230_86, hc240_89, hc250_92⟩
                obtain ⟨cq116, kq116, q116a, q116b, q116c⟩ := isOf hZ53 e113 r53_0
                obtain ⟨_, _, ⟨T116, L116, k116, n116⟩, -, X116, ⟨Lc116, hQ116, l116, y116, z116⟩, st116⟩ := X113.virtualBack hx (y := (⟨"com/example/bylaws_for_tables/bylawsfortables/FindingKey", "equals", "(Ljava/lang/Object;)Z"⟩ : MethodName)) (z := (⟨"com/example/bylaws_for_tables/bylawsfortables/FindingKey", "equals", "(Ljava/lang/Object;)Z"⟩ : MethodName)) hown53 (mvT hZ53 (hw _ (im 57 rfl))) (mvT hZ53 (hw _ (im 58 rfl))) (notFace_of_selects (args := #[]) (mvT hZ53 (hw _ (im 60 rfl)))) (mvT hZ53 (hw _ (im 60 rfl))) (mvT hZ53 (hw _ (im 59 rfl))) (by decide) (backOf (W := 0) (rmfkD l Z a0 hw [] b42 b30 cs v26_0 b_43 b_44 b_45 x2 b_31 b_32 b_33 (own_str v6_0) T43.heap.size (own_str (own_field x0 (0 : Int32))) T31.heap.size (own_str v13_0) T44.heap.size (own_str (own_field x0 (1 : Int32))) T32.heap.size (own_str v20_0) T45.heap.size (own_str (own_field x0 (2 : Int32))) T33.heap.size T53.heap n0 Z53_ O53_ pre_S_COMPACT_STRINGS (hcs) q114 r53_4 r53_1 r53_2 r53_3 q97 q98 q99 q100 q102 q101 (Ne.symm ne103) q106 q105 (Ne.symm ne107) q110 q109 (Ne.symm ne111)) hZ53 (hw _ (im 61 rfl)) (hw _ (im 7 rfl)) (by decide) (by decide)) q116a q116c (g := (mkF m 276 #[lv x0, .second, lv x1, .second, lv x2, .second, lv x3, .second, iv x4, lv (own_field x0 (0 : Int32)), .second, lv (own_field x0 (1 : Int32)), .second, lv (own_field x0 (2 : Int32)), .second, lv v6_0, .second, lv v13_0, .second, lv v20_0, .second, lv v26_0, .second, rv b30, rv b42, iv (((x4.toUInt32 >>> ((4 : Int32) &&& 31).toUInt32).toInt32) &&& (7 : Int32)), iv 1] [(.ref b30), (.ref b42)])) rfl (by rw [hml]; rfl) (Steps.refl _) (argsL := [(.ref b30)]) (rest := []) (lenOf pd_9 rfl) rfl (by show 2 * 0 + _ ≤ _; exact Nat.le_of_eq rfl) (hb hby at_276) (fun _ _ => ⟨rfl, e113, (by decide : 50 + 0 ≤ _), (by decide : 240 + 0 ≤ _)⟩)
                dsimp only [Pt.U, Pt.locs, Pt.cells, Pt.slots] at X116 l116 y116 z116 st116 hQ116
                subst l116 y116 z116
                obtain ⟨rfl, N116q, e116⟩ := hQ116
                have N116 := Fr.app N113 N116q
                have hc281_117 : (if (v26_0 = x2 ∧ (own_str v6_0) = (own_str (own_field x0 (0 : Int32))) ∧ (own_str v13_0) = (own_str (own_field x0 (1 : Int32))) ∧ (own_str v20_0) = (own_str (own_field x0 (2 : Int32)))) then (1 : Int32) else (0 : Int32)) = (1 : Int32) := if_pos ⟨hc220_83.symm, hc230_86.symm, hc240_89.symm, hc250_92.symm⟩
                have P118 := own_go P93 (S' := T116.setTop (mkF m 289 #[lv x0, .second, lv x1, .second, lv x2, .second, lv x3, .second, iv x4, lv (own_field x0 (0 : Int32)), .second, lv (own_field x0 (1 : Int32)), .second, lv (own_field x0 (2 : Int32)), .second, lv v6_0, .second, lv v13_0, .second, lv v20_0, .second, lv v26_0, .second, rv b30, rv b42, iv (((x4.toUInt32 >>> ((4 : Int32) &&& 31).toUInt32).toInt32) &&& (7 : Int32)), iv 1] [(.int 1)])) (by
                  intro t k
                  refine XS.ifNo X91.here hx rfl (hb hby at_250) rfl ((if0 _ _).trans (feq (by rw [if_pos hc250_92]; decide)).1) ?_
                  refine XS.iconst X91.here hx rfl (hb hby at_253) ?_
                  refine XS.goto X91.here hx rfl (pc0 := 254) (pc' := 258) rfl (hb hby at_254) (by decide) (by decide) ?_
                  refine XS.istore X91.here hx rfl (hb hby at_258) rfl (l' := #[lv x0, .second, lv x1, .second, lv x2, .second, lv x3, .second, iv x4, lv (own_field x0 (0 : Int32)), .second, lv (own_field x0 (1 : Int32)), .second, lv (own_field x0 (2 : Int32)), .second, lv v6_0, .second, lv v13_0, .second, lv v20_0, .second, lv v26_0, .second, rv b30, rv b42, iv (((x4.toUInt32 >>> ((4 : Int32) &&& 31).toUInt32).toInt32) &&& (7 : Int32)), iv 1]) rfl ?_
                  refine XS.aload X91.here hx rfl (hb hby at_260) rfl rfl ?_
                  refine XS.aload X91.here hx rfl (hb hby at_262) rfl rfl ?_
                  refine st113.trans ?_
                  refine XS.iload X113.here hx rfl (hb hby at_267) rfl ?_
                  show Steps p.tables e below (T113.setTop (mkF m 269 #[lv x0, .second, lv x1, .second, lv x2, .second, lv x3, .second, iv x4, lv (own_field x0 (0 : Int32)), .second, lv (own_field x0 (1 : Int32)), .second, lv (own_field x0 (2 : Int32)), .second, lv v6_0, .second, lv v13_0, .second, lv v20_0, .second, lv v26_0, .second, rv b30, rv b42, iv (((x4.toUInt32 >>> ((4 : Int32) &&& 31).toUInt32).toInt32) &&& (7 : Int32)), iv 1] [(.int 1), (.int (if (x2 = v26_0 ∧ (own_str (own_field x0 (0 : Int32))) = (own_str v6_0) ∧ (own_str (own_field x0 (1 : Int32))) = (own_str v13_0) ∧ (own_str (own_field x0 (2 : Int32))) = (own_str v20_0)) then (1 : Int32) else (0 : Int32)))])) _
                  refine XS.icmpNo X113.here hx rfl (hb hby at_269) rfl (teq hc269_115).2 ?_
                  refine XS.aload X113.here hx rfl (hb hby at_272) rfl rfl ?_
                  refine XS.aload X113.here hx rfl (hb hby at_274) rfl rfl ?_
                  refine st116.trans ?_
                  refine XS.iload X116.here hx rfl (hb hby at_279) rfl ?_
                  refine XS.icmpNo X116.here hx rfl (hb hby at_281) rfl (teq hc281_117).2 ?_
                  refine XS.iconst X116.here hx rfl (hb hby at_284) ?_
                  refine XS.goto X116.here hx rfl (pc0 := 285) (pc' := 289) rfl (hb hby at_285) (by decide) (by decide) ?_
                  show Steps p.tables e below (T116.setTop (mkF m 289 #[lv x0, .second, lv x1, .second, lv x2, .second, lv x3, .second, iv x4, lv (own_field x0 (0 : Int32)), .second, lv (own_field x0 (1 : Int32)), .second, lv (own_field x0 (2 : Int32)), .second, lv v6_0, .second, lv v13_0, .second, lv v20_0, .second, lv v26_0, .second, rv b30, rv b42, iv (((x4.toUInt32 >>> ((4 : Int32) &&& 31).toUInt32).toInt32) &&& (7 : Int32)), iv 1] [(.int 1)])) _
                  exact k)
                obtain ⟨fs, hr, hrun, hended, hend⟩ := X116.leaveW hS53 (by rw [e116]; exact hk53w) (v := some (.int 1)) (fun h => by rw [Bd.returns] at h; cases h)
                refine ⟨_, _, P118 _ ?_, hrun, hended, _, _, rfl, ?_, ?_, hend.1, hend.2.1, hend.2.2.1, hend.2.2.2.mono (by decide) (by decide)⟩
                · show Steps p.tables e below (T116.setTop (mkF m 289 #[lv x0, .second, lv x1, .second, lv x2, .second, lv x3, .second, iv x4, lv (own_field x0 (0 : Int32)), .second, lv (own_field x0 (1 : Int32)), .second, lv (own_field x0 (2 : Int32)), .second, lv v6_0, .second, lv v13_0, .second, lv v20_0, .second, lv v26_0, .second, rv b30, rv b42, iv (((x4.toUInt32 >>> ((4 : Int32) &&& 31).toUInt32).toInt32) &&& (7 : Int32)), iv 1] [(.int 1)])) _
                  exact retN X116 hx (t := .boolean) Bd.returns (by simp) (hb hby at_289) hr
                · show Q0 Z x0 x1 x2 x3 x4 cs ca cl h0 n0 _ T116.heap _
                  rw [e116]
                  exact ⟨rfl, N116⟩
                · have q := CR53.trans (CHv.at X116 hZ53 hEW CH53)
                  rw [hh]
                  show CHr Z own_EL s.vm h0 T116.vm T116.heap
                  rw [e116]
                  exact q
              · have q120 := (Nat.lt_of_lt_of_le (Nat.lt_of_lt_of_le (Nat.lt_of_lt_of_le (Nat.lt_of_lt_of_le A30.lt K31.1) K32.1) K33.1) K41.1)
                have ne119 : b30 ≠ b42 := Nat.ne_of_lt (Nat.lt_of_lt_of_le q120 (Nat.le_of_eq g42.symm))
                have ni121 := (ninS ne119 nin0)
                have q122 := (((((r41_4.ext E42).keep K43 nin0).keep K44 nin0).keep K45 nin0).keep K53 ni121)
                have q123 := (((((r41_1.ext E42).keep K43 nin0).keep K44 nin0).keep K45 nin0).keep K53 ni121)
                have q124 := (((((r41_2.ext E42).keep K43 nin0).keep K44 nin0).keep K45 nin0).keep K53 ni121)
                have q125 := (((((r41_3.ext E42).keep K43 nin0).keep K44 nin0).keep K45 nin0).keep K53 ni121)
                have q126 := (own_Str_keep (own_Str_keep (own_Str_keep (own_Str_keep (own_Str_ext (own_Str_keep q34 K41 (allS (Or.inr ⟨"com/example/bylaws_for_tables/bylawsfortables/FindingKey", 4, _, q36, (hw _ (im 6 rfl)), by decide⟩) all0)) E42) K43 all0) K44 all0) K45 all0) K53 (allS (Or.inl (Nat.le_trans (Nat.le_trans (Nat.le_trans (Nat.le_trans (Nat.le_refl T31.heap.size) K32.1) K33.1) K41.1) (Nat.le_of_eq g42.symm))) all0))
                have q127 := (own_Str_keep q46 K53 (allS (Or.inr ⟨"com/example/bylaws_for_tables/bylawsfortables/FindingKey", 4, _, q48, (hw _ (im 6 rfl)), by decide⟩) all0))
                have q129 := (Nat.lt_of_lt_of_le (Nat.lt_of_lt_of_le (Nat.lt_of_lt_of_le (Nat.lt_of_lt_of_le (own_Str_lt r31_2) K32.1) K33.1) K41.1) E42.1)
                have ne128 : b_31 ≠ b_43 := Nat.ne_of_lt (Nat.lt_of_lt_of_le q129 r43_1)
                have q130 := (own_Str_keep (own_Str_keep (own_Str_keep (own_Str_keep (own_Str_ext (own_Str_keep q35 K41 (allS (Or.inr ⟨"com/example/bylaws_for_tables/bylawsfortables/FindingKey", 4, _, q36, (hw _ (im 6 rfl)), by decide⟩) all0)) E42) K43 all0) K44 all0) K45 all0) K53 (allS (Or.inl (Nat.le_trans (Nat.le_trans (Nat.le_trans (Nat.le_refl T32.heap.size) K33.1) K41.1) (Nat.le_of_eq g42.symm))) all0))
                have q131 := (own_Str_keep q47 K53 (allS (Or.inr ⟨"com/example/bylaws_for_tables/bylawsfortables/FindingKey", 4, _, q48, (hw _ (im 6 rfl)), by decide⟩) all0))
                have q133 := (Nat.lt_of_lt_of_le (Nat.lt_of_lt_of_le (Nat.lt_of_lt_of_le (Nat.lt_of_lt_of_le (own_Str_lt r32_2) K33.1) K41.1) E42.1) K43.1)
                have ne132 : b_32 ≠ b_44 := Nat.ne_of_lt (Nat.lt_of_lt_of_le q133 r44_1)
                have q134 := (own_Str_keep (own_Str_keep (own_Str_keep (own_Str_keep (own_Str_ext (own_Str_keep r33_2 K41 (allS (Or.inr ⟨"com/example/bylaws_for_tables/bylawsfortables/FindingKey", 4, _, q36, (hw _ (im 6 rfl)), by decide⟩) all0)) E42) K43 all0) K44 all0) K45 all0) K53 (allS (Or.inl (Nat.le_trans (Nat.le_trans (Nat.le_refl T33.heap.size) K41.1) (Nat.le_of_eq g42.symm))) all0))
                have q135 := (own_Str_keep r45_2 K53 (allS (Or.inr ⟨"com/example/bylaws_for_tables/bylawsfortables/FindingKey", 4, _, q48, (hw _ (im 6 rfl)), by decide⟩) all0))
                have q137 := (Nat.lt_of_lt_of_le (Nat.lt_of_lt_of_le (Nat.lt_of_lt_of_le (Nat.lt_of_lt_of_le (own_Str_lt r33_2) K41.1) E42.1) K43.1) K44.1)
                have ne136 : b_33 ≠ b_45 := Nat.ne_of_lt (Nat.lt_of_lt_of_le q137 r45_1)
                have q139 := (((((r41_0.ext E42).keep K43).keep K44).keep K45).keep K53)
                obtain ⟨cq138, kq138, q138a, q138b, q138c⟩ := isOf hZ53 e91 q139
                obtain ⟨_, _, ⟨T138, L138, k138, n138⟩, -, X138, ⟨Lc138, hQ138, l138, y138, z138⟩, st138⟩ := X91.virtualBack hx (y := (⟨"com/example/bylaws_for_tables/bylawsfortables/FindingKey", "equals", "(Ljava/lang/Object;)Z"⟩ : MethodName)) (z := (⟨"com/example/bylaws_for_tables/bylawsfortables/FindingKey", "equals", "(Ljava/lang/Object;)Z"⟩ : MethodName)) hown53 (mvT hZ53 (hw _ (im 57 rfl))) (mvT hZ53 (hw _ (im 58 rfl))) (notFace_of_selects (args := #[]) (mvT hZ53 (hw _ (im 60 rfl)))) (mvT hZ53 (hw _ (im 60 rfl))) (mvT hZ53 (hw _ (im 59 rfl))) (by decide) (backOf (W := 0) (rmfkD l Z a0 hw [] b30 b42 cs x2 b_31 b_32 b_33 v26_0 b_43 b_44 b_45 (own_str (own_field x0 (0 : Int32))) T31.heap.size (own_str v6_0) T43.heap.size (own_str (own_field x0 (1 : Int32))) T32.heap.size (own_str v13_0) T44.heap.size (own_str (own_field x0 (2 : Int32))) T33.heap.size (own_str v20_0) T45.heap.size T53.heap n0 Z53_ O53_ pre_S_COMPACT_STRINGS (hcs) r53_0 q122 q123 q124 q125 r53_4 r53_1 r53_2 r53_3 q126 q127 ne128 q130 q131 ne132 q134 q135 ne136) hZ53 (hw _ (im 61 rfl)) (hw _ (im 7 rfl)) (by decide) (by decide)) q138a q138c (g := (mkF m 264 #[lv x0, .second, lv x1, .second, lv x2, .second, lv x3, .second, iv x4, lv (own_field x0 (0 : Int32)), .second, lv (own_field x0 (1 : Int32)), .second, lv (own_field x0 (2 : Int32)), .second, lv v6_0, .second, lv v13_0, .second, lv v20_0, .second, lv v26_0, .second, rv b30, rv b42, iv (((x4.toUInt32 >>> ((4 : Int32) &&& 31).toUInt32).toInt32) &&& (7 : Int32)), iv 0] [(.ref b42), (.ref b30)])) rfl (by rw [hml]; rfl) (Steps.refl _) (argsL := [(.ref b42)]) (rest := []) (lenOf pd_9 rfl) rfl (by show 2 * 0 + _ ≤ _; exact Nat.le_of_eq rfl) (hb hby at_264) (fun _ _ => ⟨rfl, e91, (by decide : 50 + 0 ≤ _), (by decide : 240 + 0 ≤ _)⟩)
                dsimp only [Pt.U, Pt.locs, Pt.cells, Pt.slots] at X138 l138 y138 z138 st138 hQ138
                subst l138 y138 z138
                obtain ⟨rfl, N138q, e138⟩ := hQ138
                have N138 := Fr.app N91 N138q
                have hc269_140 : (if (x2 = v26_0 ∧ (own_str (own_field x0 (0 : Int32))) = (own_str v6_0) ∧ (own_str (own_field x0 (1 : Int32))) = (own_str v13_0) ∧ (own_str (own_field x0 (2 : Int32))) = (own_str v20_0)) then (1 : Int32) else (0 : Int32)) = (0 : Int32) := if_neg (fun q => hc250_92 q.2.2.2)
                obtain ⟨cq141, kq141, q141a, q141b, q141c⟩ := isOf hZ53 e138 r53_0
                obtain ⟨_, _, ⟨T141, L141, k141, n141⟩, -, X141, ⟨Lc141, hQ141, l141, y141, z141⟩, st141⟩ := X138.virtualBack hx (y := (⟨"com/example/bylaws_for_tables/bylawsfortables/FindingKey", "equals", "(Ljava/lang/Object;)Z"⟩ : MethodName)) (z := (⟨"com/example/bylaws_for_tables/bylawsfortables/FindingKey", "equals", "(Ljava/lang/Object;)Z"⟩ : MethodName)) hown53 (mvT hZ53 (hw _ (im 57 rfl))) (mvT hZ53 (hw _ (im 58 rfl))) (notFace_of_selects (args := #[]) (mvT hZ53 (hw _ (im 60 rfl)))) (mvT hZ53 (hw _ (im 60 rfl))) (mvT hZ53 (hw _ (im 59 rfl))) (by decide) (backOf (W := 0) (rmfkD l Z a0 hw [] b42 b30 cs v26_0 b_43 b_44 b_45 x2 b_31 b_32 b_33 (own_str v6_0) T43.heap.size (own_str (own_field x0 (0 : Int32))) T31.heap.size (own_str v13_0) T44.heap.size (own_str (own_field x0 (1 : Int32))) T32.heap.size (own_str v20_0) T45.heap.size (own_str (own_field x0 (2 : Int32))) T33.heap.size T53.heap n0 Z53_ O53_ pre_S_COMPACT_STRINGS (hcs) q139 r53_4 r53_1 r53_2 r53_3 q122 q123 q124 q125 q127 q126 (Ne.symm ne128) q131 q130 (Ne.symm ne132) q135 q134 (Ne.symm ne136)) hZ53 (hw _ (im 61 rfl)) (hw _ (im 7 rfl)) (by decide) (by decide)) q141a q141c (g := (mkF m 276 #[lv x0, .second, lv x1, .second, lv x2, .second, lv x3, .second, iv x4, lv (own_field x0 (0 : Int32)), .second, lv (own_field x0 (1 : Int32)), .second, lv (own_field x0 (2 : Int32)), .second, lv v6_0, .second, lv v13_0, .second, lv v20_0, .second, lv v26_0, .second, rv b30, rv b42, iv (((x4.toUInt32 >>> ((4 : Int32) &&& 31).toUInt32).toInt32) &&& (7 : Int32)), iv 0] [(.ref b30), (.ref b42)])) rfl (by rw [hml]; rfl) (Steps.refl _) (argsL := [(.ref b30)]) (rest := []) (lenOf pd_9 rfl) rfl (by show 2 * 0 + _ ≤ _; exact Nat.le_of_eq rfl) (hb hby at_276) (fun _ _ => ⟨rfl, e138, (by decide : 50 + 0 ≤ _), (by decide : 240 + 0 ≤ _)⟩)
                dsimp only [Pt.U, Pt.locs, Pt.cells, Pt.slots] at X141 l141 y141 z141 st141 hQ141
                subst l141 y141 z141
                obtain ⟨rfl, N141q, e141⟩ := hQ141
                have N141 := Fr.app N138 N141q
                have hc281_142 : (if (v26_0 = x2 ∧ (own_str v6_0) = (own_str (own_field x0 (0 : Int32))) ∧ (own_str v13_0) = (own_str (own_field x0 (1 : Int32))) ∧ (own_str v20_0) = (own_str (own_field x0 (2 : Int32)))) then (1 : Int32) else (0 : Int32)) = (0 : Int32) := if_neg (fun q => hc250_92 (q.2.2.2).symm)
                have P143 := own_go P93 (S' := T141.setTop (mkF m 289 #[lv x0, .second, lv x1, .second, lv x2, .second, lv x3, .second, iv x4, lv (own_field x0 (0 : Int32)), .second, lv (own_field x0 (1 : Int32)), .second, lv (own_field x0 (2 : Int32)), .second, lv v6_0, .second, lv v13_0, .second, lv v20_0, .second, lv v26_0, .second, rv b30, rv b42, iv (((x4.toUInt32 >>> ((4 : Int32) &&& 31).toUInt32).toInt32) &&& (7 : Int32)), iv 0] [(.int 1)])) (by
                  intro t k
                  refine XS.ifYes X91.here hx rfl (pc0 := 250) (pc' := 257) rfl (hb hby at_250) rfl ((if0 _ _).trans (teq (if_neg hc250_92)).1) (by decide) (by decide) ?_
                  refine XS.iconst X91.here hx rfl (hb hby at_257) ?_
                  refine XS.istore X91.here hx rfl (hb hby at_258) rfl (l' := #[lv x0, .second, lv x1, .second, lv x2, .second, lv x3, .second, iv x4, lv (own_field x0 (0 : Int32)), .second, lv (own_field x0 (1 : Int32)), .second, lv (own_field x0 (2 : Int32)), .second, lv v6_0, .second, lv v13_0, .second, lv v20_0, .second, lv v26_0, .second, rv b30, rv b42, iv (((x4.toUInt32 >>> ((4 : Int32) &&& 31).toUInt32).toInt32) &&& (7 : Int32)), iv 0]) rfl ?_
                  refine XS.aload X91.here hx rfl (hb hby at_260) rfl rfl ?_
                  refine XS.aload X91.here hx rfl (hb hby at_262) rfl rfl ?_
                  refine st138.trans ?_
                  refine XS.iload X138.here hx rfl (hb hby at_267) rfl ?_
                  refine XS.icmpNo X138.here hx rfl (hb hby at_269) rfl (teq hc269_140).2 ?_
                  show Steps p.tables e below (T138.setTop (mkF m 272 #[lv x0, .second, lv x1, .second, lv x2, .second, lv x3, .second, iv x4, lv (own_field x0 (0 : Int32)), .second, lv (own_field x0 (1 : Int32)), .second, lv (own_field x0 (2 : Int32)), .second, lv v6_0, .second, lv v13_0, .second, lv v20_0, .second, lv v26_0, .second, rv b30, rv b42, iv (((x4.toUInt32 >>> ((4 : Int32) &&& 31).toUInt32).toInt32) &&& (7 : Int32)), iv 0] [])) _
                  refine XS.aload X138.here hx rfl (hb hby at_272) rfl rfl ?_
                  refine XS.aload X138.here hx rfl (hb hby at_274) rfl rfl ?_
                  refine st141.trans ?_
                  refine XS.iload X141.here hx rfl (hb hby at_279) rfl ?_
                  refine XS.icmpNo X141.here hx rfl (hb hby at_281) rfl (teq hc281_142).2 ?_
                  refine XS.iconst X141.here hx rfl (hb hby at_284) ?_
                  refine XS.goto X141.here hx rfl (pc0 := 285) (pc' := 289) rfl (hb hby at_285) (by decide) (by decide) ?_
                  exact k)
                obtain ⟨fs, hr, hrun, hended, hend⟩ := X141.leaveW hS53 (by rw [e141]; exact hk53w) (v := some (.int 1)) (fun h => by rw [Bd.returns] at h; cases h)
                refine ⟨_, _, P143 _ ?_, hrun, hended, _, _, rfl, ?_, ?_, hend.1, hend.2.1, hend.2.2.1, hend.2.2.2.mono (by decide) (by decide)⟩
                · show Steps p.tables e below (T141.setTop (mkF m 289 #[lv x0, .second, lv x1, .second, lv x2, .second, lv x3, .second, iv x4, lv (own_field x0 (0 : Int32)), .second, lv (own_field x0 (1 : Int32)), .second, lv (own_field x0 (2 : Int32)), .second, lv v6_0, .second, lv v13_0, .second, lv v20_0, .second, lv v26_0, .second, rv b30, rv b42, iv (((x4.toUInt32 >>> ((4 : Int32) &&& 31).toUInt32).toInt32) &&& (7 : Int32)), iv 0] [(.int 1)])) _
                  exact retN X141 hx (t := .boolean) Bd.returns (by simp) (hb hby at_289) hr
                · show Q0 Z x0 x1 x2 x3 x4 cs ca cl h0 n0 _ T141.heap _
                  rw [e141]
                  exact ⟨rfl, N141⟩
                · have q := CR53.trans (CHv.at X141 hZ53 hEW CH53)
                  rw [hh]
                  show CHr Z own_EL s.vm h0 T141.vm T141.heap
                  rw [e141]
                  exact q
            · have q145 := (Nat.lt_of_lt_of_le (Nat.lt_of_lt_of_le (Nat.lt_of_lt_of_le (Nat.lt_of_lt_of_le A30.lt K31.1) K32.1) K33.1) K41.1)
              have ne144 : b30 ≠ b42 := Nat.ne_of_lt (Nat.lt_of_lt_of_le q145 (Nat.le_of_eq g42.symm))
              have ni146 := (ninS ne144 nin0)
              have q147 := (((((r41_4.ext E42).keep K43 nin0).keep K44 nin0).keep K45 nin0).keep K53 ni146)
              have q148 := (((((r41_1.ext E42).keep K43 nin0).keep K44 nin0).keep K45 nin0).keep K53 ni146)
              have q149 := (((((r41_2.ext E42).keep K43 nin0).keep K44 nin0).keep K45 nin0).keep K53 ni146)
              have q150 := (((((r41_3.ext E42).keep K43 nin0).keep K44 nin0).keep K45 nin0).keep K53 ni146)
              have q151 := (own_Str_keep (own_Str_keep (own_Str_keep (own_Str_keep (own_Str_ext (own_Str_keep q34 K41 (allS (Or.inr ⟨"com/example/bylaws_for_tables/bylawsfortables/FindingKey", 4, _, q36, (hw _ (im 6 rfl)), by decide⟩) all0)) E42) K43 all0) K44 all0) K45 all0) K53 (allS (Or.inl (Nat.le_trans (Nat.le_trans (Nat.le_trans (Nat.le_trans (Nat.le_refl T31.heap.size) K32.1) K33.1) K41.1) (Nat.le_of_eq g42.symm))) all0))
              have q152 := (own_Str_keep q46 K53 (allS (Or.inr ⟨"com/example/bylaws_for_tables/bylawsfortables/FindingKey", 4, _, q48, (hw _ (im 6 rfl)), by decide⟩) all0))
              have q154 := (Nat.lt_of_lt_of_le (Nat.lt_of_lt_of_le (Nat.lt_of_lt_of_le (Nat.lt_of_lt_of_le (own_Str_lt r31_2) K32.1) K33.1) K41.1) E42.1)
              have ne153 : b_31 ≠ b_43 := Nat.ne_of_lt (Nat.lt_of_lt_of_le q154 r43_1)
              have q155 := (own_Str_keep (own_Str_keep (own_Str_keep (own_Str_keep (own_Str_ext (own_Str_keep q35 K41 (allS (Or.inr ⟨"com/example/bylaws_for_tables/bylawsfortables/FindingKey", 4, _, q36, (hw _ (im 6 rfl)), by decide⟩) all0)) E42) K43 all0) K44 all0) K45 all0) K53 (allS (Or.inl (Nat.le_trans (Nat.le_trans (Nat.le_trans (Nat.le_refl T32.heap.size) K33.1) K41.1) (Nat.le_of_eq g42.symm))) all0))
              have q156 := (own_Str_keep q47 K53 (allS (Or.inr ⟨"com/example/bylaws_for_tables/bylawsfortables/FindingKey", 4, _, q48, (hw _ (im 6 rfl)), by decide⟩) all0))
              have q158 := (Nat.lt_of_lt_of_le (Nat.lt_of_lt_of_le (Nat.lt_of_lt_of_le (Nat.lt_of_lt_of_le (own_Str_lt r32_2) K33.1) K41.1) E42.1) K43.1)
              have ne157 : b_32 ≠ b_44 := Nat.ne_of_lt (Nat.lt_of_lt_of_le q158 r44_1)
              have q159 := (own_Str_keep (own_Str_keep (own_Str_keep (own_Str_keep (own_Str_ext (own_Str_keep r33_2 K41 (allS (Or.inr ⟨"com/example/bylaws_for_tables/bylawsfortables/FindingKey", 4, _, q36, (hw _ (im 6 rfl)), by decide⟩) all0)) E42) K43 all0) K44 all0) K45 all0) K53 (allS (Or.inl (Nat.le_trans (Nat.le_trans (Nat.le_refl T33.heap.size) K41.1) (Nat.le_of_eq g42.symm))) all0))
              have q160 := (own_Str_keep r45_2 K53 (allS (Or.inr ⟨"com/example/bylaws_for_tables/bylawsfortables/FindingKey", 4, _, q48, (hw _ (im 6 rfl)), by decide⟩) all0))
              have q162 := (Nat.lt_of_lt_of_le (Nat.lt_of_lt_of_le (Nat.lt_of_lt_of_le (Nat.lt_of_lt_of_le (own_Str_lt r33_2) K41.1) E42.1) K43.1) K44.1)
              have ne161 : b_33 ≠ b_45 := Nat.ne_of_lt (Nat.lt_of_lt_of_le q162 r45_1)
              have q164 := (((((r41_0.ext E42).keep K43).keep K44).keep K45).keep K53)
              obtain ⟨cq163, kq163, q163a, q163b, q163c⟩ := isOf hZ53 e88 q164
              obtain ⟨_, _, ⟨T163, L163, k163, n163⟩, -, X163, ⟨Lc163, hQ163, l163, y163, z163⟩, st163⟩ := X88.virtualBack hx (y := (⟨"com/example/bylaws_for_tables/bylawsfortables/FindingKey", "equals", "(Ljava/lang/Object;)Z"⟩ : MethodName)) (z := (⟨"com/example/bylaws_for_tables/bylawsfortables/FindingKey", "equals", "(Ljava/lang/Object;)Z"⟩ : MethodName)) hown53 (mvT hZ53 (hw _ (im 57 rfl))) (mvT hZ53 (hw _ (im 58 rfl))) (notFace_of_selects (args := #[]) (mvT hZ53 (hw _ (im 60 rfl)))) (mvT hZ53 (hw _ (im 60 rfl))) (mvT hZ53 (hw _ (im 59 rfl))) (by decide) (backOf (W := 0) (rmfkD l Z a0 hw [] b30 b42 cs x2 b_31 b_32 b_33 v26_0 b_43 b_44 b_45 (own_str (own_field x0 (0 : Int32))) T31.heap.size (own_str v6_0) T43.heap.size (own_str (own_field x0 (1 : Int32))) T32.heap.size (own_str v13_0) T44.heap.size (own_str (own_field x0 (2 : Int32))) T33.heap.size (own_str v20_0) T45.heap.size T53.heap n0 Z53_ O53_ pre_S_COMPACT_STRINGS (hcs) r53_0 q147 q148 q149 q150 r53_4 r53_1 r53_2 r53_3 q151 q152 ne153 q155 q156 ne157 q159 q160 ne161) hZ53 (hw _ (im 61 rfl)) (hw _ (im 7 rfl)) (by decide) (by decide)) q163a q163c (g := (mkF m 264 #[lv x0, .second, lv x1, .second, lv x2, .second, lv x3, .second, iv x4, lv (own_field x0 (0 : Int32)), .second, lv (own_field x0 (1 : Int32)), .second, lv (own_field x0 (2 : Int32)), .second, lv v6_0, .second, lv v13_0, .second, lv v20_0, .second, lv v26_0, .second, rv b30, rv b42, iv (((x4.toUInt32 >>> ((4 : Int32) &&& 31).toUInt32).toInt32) &&& (7 : Int32)), iv 0] [(.ref b42), (.ref b30)])) rfl (by rw [hml]; rfl) (Steps.refl _) (argsL := [(.ref b42)]) (rest := []) (lenOf pd_9 rfl) rfl (by show 2 * 0 + _ ≤ _; exact Nat.le_of_eq rfl) (hb hby at_264) (fun _ _ => ⟨rfl, e88, (by decide : 50 + 0 ≤ _), (by decide : 240 + 0 ≤ _)⟩)
              dsimp only [Pt.U, Pt.locs, Pt.cells, Pt.slots] at X163 l163 y163 z163 st163 hQ163
              subst l163 y163 z163
              obtain ⟨rfl, N163q, e163⟩ := hQ163
              have N163 := Fr.app N88 N163q
              have hc269_165 : (if (x2 = v26_0 ∧ (own_str (own_field x0 (0 : Int32))) = (own_str v6_0) ∧ (own_str (own_field x0 (1 : Int32))) = (own_str v13_0) ∧ (own_str (own_field x0 (2 : Int32))) = (own_str v20_0)) then (1 : Int32) else (0 : Int32)) = (0 : Int32) := if_neg (fun q => hc240_89 q.2.2.1)
              obtain ⟨cq166, kq166, q166a, q166b, q166c⟩ := isOf hZ53 e163 r53_0
              obtain ⟨_, _, ⟨T166, L166, k166, n166⟩, -, X166, ⟨Lc166, hQ166, l166, y166, z166⟩, st166⟩ := X163.virtualBack hx (y := (⟨"com/example/bylaws_for_tables/bylawsfortables/FindingKey", "equals", "(Ljava/lang/Object;)Z"⟩ : MethodName)) (z := (⟨"com/example/bylaws_for_tables/bylawsfortables/FindingKey", "equals", "(Ljava/lang/Object;)Z"⟩ : MethodName)) hown53 (mvT hZ53 (hw _ (im 57 rfl))) (mvT hZ53 (hw _ (im 58 rfl))) (notFace_of_selects (args := #[]) (mvT hZ53 (hw _ (im 60 rfl)))) (mvT hZ53 (hw _ (im 60 rfl))) (mvT hZ53 (hw _ (im 59 rfl))) (by decide) (backOf (W := 0) (rmfkD l Z a0 hw [] b42 b30 cs v26_0 b_43 b_44 b_45 x2 b_31 b_32 b_33 (own_str v6_0) T43.heap.size (own_str (own_field x0 (0 : Int32))) T31.heap.size (own_str v13_0) T44.heap.size (own_str (own_field x0 (1 : Int32))) T32.heap.size (own_str v20_0) T45.heap.size (own_str (own_field x0 (2 : Int32))) T33.heap.size T53.heap n0 Z53_ O53_ pre_S_COMPACT_STRINGS (hcs) q164 r53_4 r53_1 r53_2 r53_3 q147 q148 q149 q150 q152 q151 (Ne.symm ne153) q156 q155 (Ne.symm ne157) q160 q159 (Ne.symm ne161)) hZ53 (hw _ (im 61 rfl)) (hw _ (im 7 rfl)) (by decide) (by decide)) q166a q166c (g := (mkF m 276 #[lv x0, .second, lv x1, .second, lv x2, .second, lv x3, .second, iv x4, lv (own_field x0 (0 : Int32)), .second, lv (own_field x0 (1 : Int32)), .second, lv (own_field x0 (2 : Int32)), .second, lv v6_0, .second, lv v13_0, .second, lv v20_0, .second, lv v26_0, .second, rv b30, rv b42, iv (((x4.toUInt32 >>> ((4 : Int32) &&& 31).toUInt32).toInt32) &&& (7 : Int32)), iv 0] [(.ref b30), (.ref b42)])) rfl (by rw [hml]; rfl) (Steps.refl _) (argsL := [(.ref b30)]) (rest := []) (lenOf pd_9 rfl) rfl (by show 2 * 0 + _ ≤ _; exact Nat.le_of_eq rfl) (hb hby at_276) (fun _ _ => ⟨rfl, e163, (by decide : 50 + 0 ≤ _), (by decide : 240 + 0 ≤ _)⟩)
              dsimp only [Pt.U, Pt.locs, Pt.cells, Pt.slots] at X166 l166 y166 z166 st166 hQ166
              subst l166 y166 z166
              obtain ⟨rfl, N166q, e166⟩ := hQ166
              have N166 := Fr.app N163 N166q
              have hc281_167 : (if (v26_0 = x2 ∧ (own_str v6_0) = (own_str (own_field x0 (0 : Int32))) ∧ (own_str v13_0) = (own_str (own_field x0 (1 : Int32))) ∧ (own_str v20_0) = (own_str (own_field x0 (2 : Int32)))) then (1 : Int32) else (0 : Int32)) = (0 : Int32) := if_neg (fun q => hc240_89 (q.2.2.1).symm)
              have P168 := own_go P90 (S' := T166.setTop (mkF m 289 #[lv x0, .second, lv x1, .second, lv x2, .second, lv x3, .second, iv x4, lv (own_field x0 (0 : Int32)), .second, lv (own_field x0 (1 : Int32)), .second, lv (own_field x0 (2 : Int32)), .second, lv v6_0, .second, lv v13_0, .second, lv v20_0, .second, lv v26_0, .second, rv b30, rv b42, iv (((x4.toUInt32 >>> ((4 : Int32) &&& 31).toUInt32).toInt32) &&& (7 : Int32)), iv 0] [(.int 1)])) (by
                intro t k
                refine XS.ifYes X88.here hx rfl (pc0 := 240) (pc' := 257) rfl (hb hby at_240) rfl ((if0 _ _).trans (teq (if_neg hc240_89)).1) (by decide) (by decide) ?_
                refine XS.iconst X88.here hx rfl (hb hby at_257) ?_
                refine XS.istore X88.here hx rfl (hb hby at_258) rfl (l' := #[lv x0, .second, lv x1, .second, lv x2, .second, lv x3, .second, iv x4, lv (own_field x0 (0 : Int32)), .second, lv (own_field x0 (1 : Int32)), .second, lv (own_field x0 (2 : Int32)), .second, lv v6_0, .second, lv v13_0, .second, lv v20_0, .second, lv v26_0, .second, rv b30, rv b42, iv (((x4.toUInt32 >>> ((4 : Int32) &&& 31).toUInt32).toInt32) &&& (7 : Int32)), iv 0]) rfl ?_
                refine XS.aload X88.here hx rfl (hb hby at_260) rfl rfl ?_
                refine XS.aload X88.here hx rfl (hb hby at_262) rfl rfl ?_
                refine st163.trans ?_
                refine XS.iload X163.here hx rfl (hb hby at_267) rfl ?_
                refine XS.icmpNo X163.here hx rfl (hb hby at_269) rfl (teq hc269_165).2 ?_
                show Steps p.tables e below (T163.setTop (mkF m 272 #[lv x0, .second, lv x1, .second, lv x2, .second, lv x3, .second, iv x4, lv (own_field x0 (0 : Int32)), .second, lv (own_field x0 (1 : Int32)), .second, lv (own_field x0 (2 : Int32)), .second, lv v6_0, .second, lv v13_0, .second, lv v20_0, .second, lv v26_0, .second, rv b30, rv b42, iv (((x4.toUInt32 >>> ((4 : Int32) &&& 31).toUInt32).toInt32) &&& (7 : Int32)), iv 0] [])) _
                refine XS.aload X163.here hx rfl (hb hby at_272) rfl rfl ?_
                refine XS.aload X163.here hx rfl (hb hby at_274) rfl rfl ?_
                refine st166.trans ?_
                refine XS.iload X166.here hx rfl (hb hby at_279) rfl ?_
                refine XS.icmpNo X166.here hx rfl (hb hby at_281) rfl (teq hc281_167).2 ?_
                refine XS.iconst X166.here hx rfl (hb hby at_284) ?_
                refine XS.goto X166.here hx rfl (pc0 := 285) (pc' := 289) rfl (hb hby at_285) (by decide) (by decide) ?_
                exact k)
              obtain ⟨fs, hr, hrun, hended, hend⟩ := X166.leaveW hS53 (by rw [e166]; exact hk53w) (v := some (.int 1)) (fun h => by rw [Bd.returns] at h; cases h)
              refine ⟨_, _, P168 _ ?_, hrun, hended, _, _, rfl, ?_, ?_, hend.1, hend.2.1, hend.2.2.1, hend.2.2.2.mono (by decide) (by decide)⟩
              · show Steps p.tables e below (T166.setTop (mkF m 289 #[lv x0, .second, lv x1, .second, lv x2, .second, lv x3, .second, iv x4, lv (own_field x0 (0 : Int32)), .second, lv (own_field x0 (1 : Int32)), .second, lv (own_field x0 (2 : Int32)), .second, lv v6_0, .second, lv v13_0, .second, lv v20_0, .second, lv v26_0, .second, rv b30, rv b42, iv (((x4.toUInt32 >>> ((4 : Int32) &&& 31).toUInt32).toInt32) &&& (7 : Int32)), iv 0] [(.int 1)])) _
                exact retN X166 hx (t := .boolean) Bd.returns (by simp) (hb hby at_289) hr
              · show Q0 Z x0 x1 x2 x3 x4 cs ca cl h0 n0 _ T166.heap _
                rw [e166]
                exact ⟨rfl, N166⟩
              · have q := CR53.trans (CHv.at X166 hZ53 hEW CH53)
                rw [hh]
                show CHr Z own_EL s.vm h0 T166.vm T166.heap
                rw [e166]
                exact q
          · have q170 := (Nat.lt_of_lt_of_le (Nat.lt_of_lt_of_le (Nat.lt_of_lt_of_le (Nat.lt_of_lt_of_le A30.lt K31.1) K32.1) K33.1) K41.1)
            have ne169 : b30 ≠ b42 := Nat.ne_of_lt (Nat.lt_of_lt_of_le q170 (Nat.le_of_eq g42.symm))
            have ni171 := (ninS ne169 nin0)
            have q172 := (((((r41_4.ext E42).keep K43 nin0).keep K44 nin0).keep K45 nin0).keep K53 ni171)
            have q173 := (((((r41_1.ext E42).keep K43 nin0).keep K44 nin0).keep K45 nin0).keep K53 ni171)
            have q174 := (((((r41_2.ext E42).keep K43 nin0).keep K44 nin0).keep K45 nin0).keep K53 ni171)
            have q175 := (((((r41_3.ext E42).keep K43 nin0).keep K44 nin0).keep K45 nin0).keep K53 ni171)
            have q176 := (own_Str_keep (own_Str_keep (own_Str_keep (own_Str_keep (own_Str_ext (own_Str_keep q34 K41 (allS (Or.inr ⟨"com/example/bylaws_for_tables/bylawsfortables/FindingKey", 4, _, q36, (hw _ (im 6 rfl)), by decide⟩) all0)) E42) K43 all0) K44 all0) K45 all0) K53 (allS (Or.inl (Nat.le_trans (Nat.le_trans (Nat.le_trans (Nat.le_trans (Nat.le_refl T31.heap.size) K32.1) K33.1) K41.1) (Nat.le_of_eq g42.symm))) all0))
            have q177 := (own_Str_keep q46 K53 (allS (Or.inr ⟨"com/example/bylaws_for_tables/bylawsfortables/FindingKey", 4, _, q48, (hw _ (im 6 rfl)), by decide⟩) all0))
            have q179 := (Nat.lt_of_lt_of_le (Nat.lt_of_lt_of_le (Nat.lt_of_lt_of_le (Nat.lt_of_lt_of_le (own_Str_lt r31_2) K32.1) K33.1) K41.1) E42.1)
            have ne178 : b_31 ≠ b_43 := Nat.ne_of_lt (Nat.lt_of_lt_of_le q179 r43_1)
            have q180 := (own_Str_keep (own_Str_keep (own_Str_keep (own_Str_keep (own_Str_ext (own_Str_keep q35 K41 (allS (Or.inr ⟨"com/example/bylaws_for_tables/bylawsfortables/FindingKey", 4, _, q36, (hw _ (im 6 rfl)), by decide⟩) all0)) E42) K43 all0) K44 all0) K45 all0) K53 (allS (Or.inl (Nat.le_trans (Nat.le_trans (Nat.le_trans (Nat.le_refl T32.heap.size) K33.1) K41.1) (Nat.le_of_eq g42.symm))) all0))
            have q181 := (own_Str_keep q47 K53 (allS (Or.inr ⟨"com/example/bylaws_for_tables/bylawsfortables/FindingKey", 4, _, q48, (hw _ (im 6 rfl)), by decide⟩) all0))
            have q183 := (Nat.lt_of_lt_of_le (Nat.lt_of_lt_of_le (Nat.lt_of_lt_of_le (Nat.lt_of_lt_of_le (own_Str_lt r32_2) K33.1) K41.1) E42.1) K43.1)
            have ne182 : b_32 ≠ b_44 := Nat.ne_of_lt (Nat.lt_of_lt_of_le q183 r44_1)
            have q184 := (own_Str_keep (own_Str_keep (own_Str_keep (own_Str_keep (own_Str_ext (own_Str_keep r33_2 K41 (allS (Or.inr ⟨"com/example/bylaws_for_tables/bylawsfortables/FindingKey", 4, _, q36, (hw _ (im 6 rfl)), by decide⟩) all0)) E42) K43 all0) K44 all0) K45 all0) K53 (allS (Or.inl (Nat.le_trans (Nat.le_trans (Nat.le_refl T33.heap.size) K41.1) (Nat.le_of_eq g42.symm))) all0))
            have q185 := (own_Str_keep r45_2 K53 (allS (Or.inr ⟨"com/example/bylaws_for_tables/bylawsfortables/FindingKey", 4, _, q48, (hw _ (im 6 rfl)), by decide⟩) all0))
            have q187 := (Nat.lt_of_lt_of_le (Nat.lt_of_lt_of_le (Nat.lt_of_lt_of_le (Nat.lt_of_lt_of_le (own_Str_lt r33_2) K41.1) E42.1) K43.1) K44.1)
            have ne186 : b_33 ≠ b_45 := Nat.ne_of_lt (Nat.lt_of_lt_of_le q187 r45_1)
            have q189 := (((((r41_0.ext E42).keep K43).keep K44).keep K45).keep K53)
            obtain ⟨cq188, kq188, q188a, q188b, q188c⟩ := isOf hZ53 e85 q189
            obtain ⟨_, _, ⟨T188, L188, k188, n188⟩, -, X188, ⟨Lc188, hQ188, l188, y188, z188⟩, st188⟩ := X85.virtualBack hx (y := (⟨"com/example/bylaws_for_tables/bylawsfortables/FindingKey", "equals", "(Ljava/lang/Object;)Z"⟩ : MethodName)) (z := (⟨"com/example/bylaws_for_tables/bylawsfortables/FindingKey", "equals", "(Ljava/lang/Object;)Z"⟩ : MethodName)) hown53 (mvT hZ53 (hw _ (im 57 rfl))) (mvT hZ53 (hw _ (im 58 rfl))) (notFace_of_selects (args := #[]) (mvT hZ53 (hw _ (im 60 rfl)))) (mvT hZ53 (hw _ (im 60 rfl))) (mvT hZ53 (hw _ (im 59 rfl))) (by decide) (backOf (W := 0) (rmfkD l Z a0 hw [] b30 b42 cs x2 b_31 b_32 b_33 v26_0 b_43 b_44 b_45 (own_str (own_field x0 (0 : Int32))) T31.heap.size (own_str v6_0) T43.heap.size (own_str (own_field x0 (1 : Int32))) T32.heap.size (own_str v13_0) T44.heap.size (own_str (own_field x0 (2 : Int32))) T33.heap.size (own_str v20_0) T45.heap.size T53.heap n0 Z53_ O53_ pre_S_COMPACT_STRINGS (hcs) r53_0 q172 q173 q174 q175 r53_4 r53_1 r53_2 r53_3 q176 q177 ne178 q180 q181 ne182 q184 q185 ne186) hZ53 (hw _ (im 61 rfl)) (hw _ (im 7 rfl)) (by decide) (by decide)) q188a q188c (g := (mkF m 264 #[lv x0, .second, lv x1, .second, lv x2, .second, lv x3, .second, iv x4, lv (own_field x0 (0 : Int32)), .second, lv (own_field x0 (1 : Int32)), .second, lv (own_field x0 (2 : Int32)), .second, lv v6_0, .second, lv v13_0, .second, lv v20_0, .second, lv v26_0, .second, rv b30, rv b42, iv (((x4.toUInt32 >>> ((4 : Int32) &&& 31).toUInt32).toInt32) &&& (7 : Int32)), iv 0] [(.ref b42), (.ref b30)])) rfl (by rw [hml]; rfl) (Steps.refl _) (argsL := [(.ref b42)]) (rest := []) (lenOf pd_9 rfl) rfl (by show 2 * 0 + _ ≤ _; exact Nat.le_of_eq rfl) (hb hby at_264) (fun _ _ => ⟨rfl, e85, (by decide : 50 + 0 ≤ _), (by decide : 240 + 0 ≤ _)⟩)
            dsimp only [Pt.U, Pt.locs, Pt.cells, Pt.slots] at X188 l188 y188 z188 st188 hQ188
            subst l188 y188 z188
            obtain ⟨rfl, N188q, e188⟩ := hQ188
            have N188 := Fr.app N85 N188q
            have hc269_190 : (if (x2 = v26_0 ∧ (own_str (own_field x0 (0 : Int32))) = (own_str v6_0) ∧ (own_str (own_field x0 (1 : Int32))) = (own_str v13_0) ∧ (own_str (own_field x0 (2 : Int32))) = (own_str v20_0)) then (1 : Int32) else (0 : Int32)) = (0 : Int32) := if_neg (fun q => hc230_86 q.2.1)
            obtain ⟨cq191, kq191, q191a, q191b, q191c⟩ := isOf hZ53 e188 r53_0
            obtain ⟨_, _, ⟨T191, L191, k191, n191⟩, -, X191, ⟨Lc191, hQ191, l191, y191, z191⟩, st191⟩ := X188.virtualBack hx (y := (⟨"com/example/bylaws_for_tables/bylawsfortables/FindingKey", "equals", "(Ljava/lang/Object;)Z"⟩ : MethodName)) (z := (⟨"com/example/bylaws_for_tables/bylawsfortables/FindingKey", "equals", "(Ljava/lang/Object;)Z"⟩ : MethodName)) hown53 (mvT hZ53 (hw _ (im 57 rfl))) (mvT hZ53 (hw _ (im 58 rfl))) (notFace_of_selects (args := #[]) (mvT hZ53 (hw _ (im 60 rfl)))) (mvT hZ53 (hw _ (im 60 rfl))) (mvT hZ53 (hw _ (im 59 rfl))) (by decide) (backOf (W := 0) (rmfkD l Z a0 hw [] b42 b30 cs v26_0 b_43 b_44 b_45 x2 b_31 b_32 b_33 (own_str v6_0) T43.heap.size (own_str (own_field x0 (0 : Int32))) T31.heap.size (own_str v13_0) T44.heap.size (own_str (own_field x0 (1 : Int32))) T32.heap.size (own_str v20_0) T45.heap.size (own_str (own_field x0 (2 : Int32))) T33.heap.size T53.heap n0 Z53_ O53_ pre_S_COMPACT_STRINGS (hcs) q189 r53_4 r53_1 r53_2 r53_3 q172 q173 q174 q175 q177 q176 (Ne.symm ne178) q181 q180 (Ne.symm ne182) q185 q184 (Ne.symm ne186)) hZ53 (hw _ (im 61 rfl)) (hw _ (im 7 rfl)) (by decide) (by decide)) q191a q191c (g := (mkF m 276 #[lv x0, .second, lv x1, .second, lv x2, .second, lv x3, .second, iv x4, lv (own_field x0 (0 : Int32)), .second, lv (own_field x0 (1 : Int32)), .second, lv (own_field x0 (2 : Int32)), .second, lv v6_0, .second, lv v13_0, .second, lv v20_0, .second, lv v26_0, .second, rv b30, rv b42, iv (((x4.toUInt32 >>> ((4 : Int32) &&& 31).toUInt32).toInt32) &&& (7 : Int32)), iv 0] [(.ref b30), (.ref b42)])) rfl (by rw [hml]; rfl) (Steps.refl _) (argsL := [(.ref b30)]) (rest := []) (lenOf pd_9 rfl) rfl (by show 2 * 0 + _ ≤ _; exact Nat.le_of_eq rfl) (hb hby at_276) (fun _ _ => ⟨rfl, e188, (by decide : 50 + 0 ≤ _), (by decide : 240 + 0 ≤ _)⟩)
            dsimp only [Pt.U, Pt.locs, Pt.cells, Pt.slots] at X191 l191 y191 z191 st191 hQ191
            subst l191 y191 z191
            obtain ⟨rfl, N191q, e191⟩ := hQ191
            have N191 := Fr.app N188 N191q
            have hc281_192 : (if (v26_0 = x2 ∧ (own_str v6_0) = (own_str (own_field x0 (0 : Int32))) ∧ (own_str v13_0) = (own_str (own_field x0 (1 : Int32))) ∧ (own_str v20_0) = (own_str (own_field x0 (2 : Int32)))) then (1 : Int32) else (0 : Int32)) = (0 : Int32) := if_neg (fun q => hc230_86 (q.2.1).symm)
            have P193 := own_go P87 (S' := T191.setTop (mkF m 289 #[lv x0, .second, lv x1, .second, lv x2, .second, lv x3, .second, iv x4, lv (own_field x0 (0 : Int32)), .second, lv (own_field x0 (1 : Int32)), .second, lv (own_field x0 (2 : Int32)), .second, lv v6_0, .second, lv v13_0, .second, lv v20_0, .second, lv v26_0, .second, rv b30, rv b42, iv (((x4.toUInt32 >>> ((4 : Int32) &&& 31).toUInt32).toInt32) &&& (7 : Int32)), iv 0] [(.int 1)])) (by
              intro t k
              refine XS.ifYes X85.here hx rfl (pc0 := 230) (pc' := 257) rfl (hb hby at_230) rfl ((if0 _ _).trans (teq (if_neg hc230_86)).1) (by decide) (by decide) ?_
              refine XS.iconst X85.here hx rfl (hb hby at_257) ?_
              refine XS.istore X85.here hx rfl (hb hby at_258) rfl (l' := #[lv x0, .second, lv x1, .second, lv x2, .second, lv x3, .second, iv x4, lv (own_field x0 (0 : Int32)), .second, lv (own_field x0 (1 : Int32)), .second, lv (own_field x0 (2 : Int32)), .second, lv v6_0, .second, lv v13_0, .second, lv v20_0, .second, lv v26_0, .second, rv b30, rv b42, iv (((x4.toUInt32 >>> ((4 : Int32) &&& 31).toUInt32).toInt32) &&& (7 : Int32)), iv 0]) rfl ?_
              refine XS.aload X85.here hx rfl (hb hby at_260) rfl rfl ?_
              refine XS.aload X85.here hx rfl (hb hby at_262) rfl rfl ?_
              refine st188.trans ?_
              refine XS.iload X188.here hx rfl (hb hby at_267) rfl ?_
              refine XS.icmpNo X188.here hx rfl (hb hby at_269) rfl (teq hc269_190).2 ?_
              show Steps p.tables e below (T188.setTop (mkF m 272 #[lv x0, .second, lv x1, .second, lv x2, .second, lv x3, .second, iv x4, lv (own_field x0 (0 : Int32)), .second, lv (own_field x0 (1 : Int32)), .second, lv (own_field x0 (2 : Int32)), .second, lv v6_0, .second, lv v13_0, .second, lv v20_0, .second, lv v26_0, .second, rv b30, rv b42, iv (((x4.toUInt32 >>> ((4 : Int32) &&& 31).toUInt32).toInt32) &&& (7 : Int32)), iv 0] [])) _
              refine XS.aload X188.here hx rfl (hb hby at_272) rfl rfl ?_
              refine XS.aload X188.here hx rfl (hb hby at_274) rfl rfl ?_
              refine st191.trans ?_
              refine XS.iload X191.here hx rfl (hb hby at_279) rfl ?_
              refine XS.icmpNo X191.here hx rfl (hb hby at_281) rfl (teq hc281_192).2 ?_
              refine XS.iconst X191.here hx rfl (hb hby at_284) ?_
              refine XS.goto X191.here hx rfl (pc0 := 285) (pc' := 289) rfl (hb hby at_285) (by decide) (by decide) ?_
              exact k)
            obtain ⟨fs, hr, hrun, hended, hend⟩ := X191.leaveW hS53 (by rw [e191]; exact hk53w) (v := some (.int 1)) (fun h => by rw [Bd.returns] at h; cases h)
            refine ⟨_, _, P193 _ ?_, hrun, hended, _, _, rfl, ?_, ?_, hend.1, hend.2.1, hend.2.2.1, hend.2.2.2.mono (by decide) (by decide)⟩
            · show Steps p.tables e below (T191.setTop (mkF m 289 #[lv x0, .second, lv x1, .second, lv x2, .second, lv x3, .second, iv x4, lv (own_field x0 (0 : Int32)), .second, lv (own_field x0 (1 : Int32)), .second, lv (own_field x0 (2 : Int32)), .second, lv v6_0, .second, lv v13_0, .second, lv v20_0, .second, lv v26_0, .second, rv b30, rv b42, iv (((x4.toUInt32 >>> ((4 : Int32) &&& 31).toUInt32).toInt32) &&& (7 : Int32)), iv 0] [(.int 1)])) _
              exact retN X191 hx (t := .boolean) Bd.returns (by simp) (hb hby at_289) hr
            · show Q0 Z x0 x1 x2 x3 x4 cs ca cl h0 n0 _ T191.heap _
              rw [e191]
              exact ⟨rfl, N191⟩
            · have q := CR53.trans (CHv.at X191 hZ53 hEW CH53)
              rw [hh]
              show CHr Z own_EL s.vm h0 T191.vm T191.heap
              rw [e191]
              exact q
        · have q195 := (Nat.lt_of_lt_of_le (Nat.lt_of_lt_of_le (Nat.lt_of_lt_of_le (Nat.lt_of_lt_of_le A30.lt K31.1) K32.1) K33.1) K41.1)
          have ne194 : b30 ≠ b42 := Nat.ne_of_lt (Nat.lt_of_lt_of_le q195 (Nat.le_of_eq g42.symm))
          have ni196 := (ninS ne194 nin0)
          have q197 := (((((r41_4.ext E42).keep K43 nin0).keep K44 nin0).keep K45 nin0).keep K53 ni196)
          have q198 := (((((r41_1.ext E42).keep K43 nin0).keep K44 nin0).keep K45 nin0).keep K53 ni196)
          have q199 := (((((r41_2.ext E42).keep K43 nin0).keep K44 nin0).keep K45 nin0).keep K53 ni196)
          have q200 := (((((r41_3.ext E42).keep K43 nin0).keep K44 nin0).keep K45 nin0).keep K53 ni196)
          have q201 := (own_Str_keep (own_Str_keep (own_Str_keep (own_Str_keep (own_Str_ext (own_Str_keep q34 K41 (allS (Or.inr ⟨"com/example/bylaws_for_tables/bylawsfortables/FindingKey", 4, _, q36, (hw _ (im 6 rfl)), by decide⟩) all0)) E42) K43 all0) K44 all0) K45 all0) K53 (allS (Or.inl (Nat.le_trans (Nat.le_trans (Nat.le_trans (Nat.le_trans (Nat.le_refl T31.heap.size) K32.1) K33.1) K41.1) (Nat.le_of_eq g42.symm))) all0))
          have q202 := (own_Str_keep q46 K53 (allS (Or.inr ⟨"com/example/bylaws_for_tables/bylawsfortables/FindingKey", 4, _, q48, (hw _ (im 6 rfl)), by decide⟩) all0))
          have q204 := (Nat.lt_of_lt_of_le (Nat.lt_of_lt_of_le (Nat.lt_of_lt_of_le (Nat.lt_of_lt_of_le (own_Str_lt r31_2) K32.1) K33.1) K41.1) E42.1)
          have ne203 : b_31 ≠ b_43 := Nat.ne_of_lt (Nat.lt_of_lt_of_le q204 r43_1)
          have q205 := (own_Str_keep (own_Str_keep (own_Str_keep (own_Str_keep (own_Str_ext (own_Str_keep q35 K41 (allS (Or.inr ⟨"com/example/bylaws_for_tables/bylawsfortables/FindingKey", 4, _, q36, (hw _ (im 6 rfl)), by decide⟩) all0)) E42) K43 all0) K44 all0) K45 all0) K53 (allS (Or.inl (Nat.le_trans (Nat.le_trans (Nat.le_trans (Nat.le_refl T32.heap.size) K33.1) K41.1) (Nat.le_of_eq g42.symm))) all0))
          have q206 := (own_Str_keep q47 K53 (allS (Or.inr ⟨"com/example/bylaws_for_tables/bylawsfortables/FindingKey", 4, _, q48, (hw _ (im 6 rfl)), by decide⟩) all0))
          have q208 := (Nat.lt_of_lt_of_le (Nat.lt_of_lt_of_le (Nat.lt_of_lt_of_le (Nat.lt_of_lt_of_le (own_Str_lt r32_2) K33.1) K41.1) E42.1) K43.1)
          have ne207 : b_32 ≠ b_44 := Nat.ne_of_lt (Nat.lt_of_lt_of_le q208 r44_1)
          have q209 := (own_Str_keep (own_Str_keep (own_Str_keep (own_Str_keep (own_Str_ext (own_Str_keep r33_2 K41 (allS (Or.inr ⟨"com/example/bylaws_for_tables/bylawsfortables/FindingKey", 4, _, q36, (hw _ (im 6 rfl)), by decide⟩) all0)) E42) K43 all0) K44 all0) K45 all0) K53 (allS (Or.inl (Nat.le_trans (Nat.le_trans (Nat.le_refl T33.heap.size) K41.1) (Nat.le_of_eq g42.symm))) all0))
          have q210 := (own_Str_keep r45_2 K53 (allS (Or.inr ⟨"com/example/bylaws_for_tables/bylawsfortables/FindingKey", 4, _, q48, (hw _ (im 6 rfl)), by decide⟩) all0))
          have q212 := (Nat.lt_of_lt_of_le (Nat.lt_of_lt_of_le (Nat.lt_of_lt_of_le (Nat.lt_of_lt_of_le (own_Str_lt r33_2) K41.1) E42.1) K43.1) K44.1)
          have ne211 : b_33 ≠ b_45 := Nat.ne_of_lt (Nat.lt_of_lt_of_le q212 r45_1)
          have q214 := (((((r41_0.ext E42).keep K43).keep K44).keep K45).keep K53)
          obtain ⟨cq213, kq213, q213a, q213b, q213c⟩ := isOf hZ53 rfl q214
          obtain ⟨_, _, ⟨T213, L213, k213, n213⟩, -, X213, ⟨Lc213, hQ213, l213, y213, z213⟩, st213⟩ := X53.virtualBack hx (y := (⟨"com/example/bylaws_for_tables/bylawsfortables/FindingKey", "equals", "(Ljava/lang/Object;)Z"⟩ : MethodName)) (z := (⟨"com/example/bylaws_for_tables/bylawsfortables/FindingKey", "equals", "(Ljava/lang/Object;)Z"⟩ : MethodName)) hown53 (mvT hZ53 (hw _ (im 57 rfl))) (mvT hZ53 (hw _ (im 58 rfl))) (notFace_of_selects (args := #[]) (mvT hZ53 (hw _ (im 60 rfl)))) (mvT hZ53 (hw _ (im 60 rfl))) (mvT hZ53 (hw _ (im 59 rfl))) (by decide) (backOf (W := 0) (rmfkD l Z a0 hw [] b30 b42 cs x2 b_31 b_32 b_33 v26_0 b_43 b_44 b_45 (own_str (own_field x0 (0 : Int32))) T31.heap.size (own_str v6_0) T43.heap.size (own_str (own_field x0 (1 : Int32))) T32.heap.size (own_str v13_0) T44.heap.size (own_str (own_field x0 (2 : Int32))) T33.heap.size (own_str v20_0) T45.heap.size T53.heap n0 Z53_ O53_ pre_S_COMPACT_STRINGS (hcs) r53_0 q197 q198 q199 q200 r53_4 r53_1 r53_2 r53_3 q201 q202 ne203 q205 q206 ne207 q209 q210 ne211) hZ53 (hw _ (im 61 rfl)) (hw _ (im 7 rfl)) (by decide) (by decide)) q213a q213c (g := (mkF m 264 #[lv x0, .second, lv x1, .second, lv x2, .second, lv x3, .second, iv x4, lv (own_field x0 (0 : Int32)), .second, lv (own_field x0 (1 : Int32)), .second, lv (own_field x0 (2 : Int32)), .second, lv v6_0, .second, lv v13_0, .second, lv v20_0, .second, lv v26_0, .second, rv b30, rv b42, iv (((x4.toUInt32 >>> ((4 : Int32) &&& 31).toUInt32).toInt32) &&& (7 : Int32)), iv 0] [(.ref b42), (.ref b30)])) rfl (by rw [hml]; rfl) (Steps.refl _) (argsL := [(.ref b42)]) (rest := []) (lenOf pd_9 rfl) rfl (by show 2 * 0 + _ ≤ _; exact Nat.le_of_eq rfl) (hb hby at_264) (fun _ _ => ⟨rfl, rfl, (by decide : 50 + 0 ≤ _), (by decide : 240 + 0 ≤ _)⟩)
          dsimp only [Pt.U, Pt.locs, Pt.cells, Pt.slots] at X213 l213 y213 z213 st213 hQ213
          subst l213 y213 z213
          obtain ⟨rfl, N213q, e213⟩ := hQ213
          have N213 := Fr.app N53 N213q
          have hc269_215 : (if (x2 = v26_0 ∧ (own_str (own_field x0 (0 : Int32))) = (own_str v6_0) ∧ (own_str (own_field x0 (1 : Int32))) = (own_str v13_0) ∧ (own_str (own_field x0 (2 : Int32))) = (own_str v20_0)) then (1 : Int32) else (0 : Int32)) = (0 : Int32) := if_neg (fun q => hc220_83 q.1)
          obtain ⟨cq216, kq216, q216a, q216b, q216c⟩ := isOf hZ53 e213 r53_0
          obtain ⟨_, _, ⟨T216, L216, k216, n216⟩, -, X216, ⟨Lc216, hQ216, l216, y216, z216⟩, st216⟩ := X213.virtualBack hx (y := (⟨"com/example/bylaws_for_tables/bylawsfortables/FindingKey", "equals", "(Ljava/lang/Object;)Z"⟩ : MethodName)) (z := (⟨"com/example/bylaws_for_tables/bylawsfortables/FindingKey", "equals", "(Ljava/lang/Object;)Z"⟩ : MethodName)) hown53 (mvT hZ53 (hw _ (im 57 rfl))) (mvT hZ53 (hw _ (im 58 rfl))) (notFace_of_selects (args := #[]) (mvT hZ53 (hw _ (im 60 rfl)))) (mvT hZ53 (hw _ (im 60 rfl))) (mvT hZ53 (hw _ (im 59 rfl))) (by decide) (backOf (W := 0) (rmfkD l Z a0 hw [] b42 b30 cs v26_0 b_43 b_44 b_45 x2 b_31 b_32 b_33 (own_str v6_0) T43.heap.size (own_str (own_field x0 (0 : Int32))) T31.heap.size (own_str v13_0) T44.heap.size (own_str (own_field x0 (1 : Int32))) T32.heap.size (own_str v20_0) T45.heap.size (own_str (own_field x0 (2 : Int32))) T33.heap.size T53.heap n0 Z53_ O53_ pre_S_COMPACT_STRINGS (hcs) q214 r53_4 r53_1 r53_2 r53_3 q197 q198 q199 q200 q202 q201 (Ne.symm ne203) q206 q205 (Ne.symm ne207) q210 q209 (Ne.symm ne211)) hZ53 (hw _ (im 61 rfl)) (hw _ (im 7 rfl)) (by decide) (by decide)) q216a q216c (g := (mkF m 276 #[lv x0, .second, lv x1, .second, lv x2, .second, lv x3, .second, iv x4, lv (own_field x0 (0 : Int32)), .second, lv (own_field x0 (1 : Int32)), .second, lv (own_field x0 (2 : Int32)), .second, lv v6_0, .second, lv v13_0, .second, lv v20_0, .second, lv v26_0, .second, rv b30, rv b42, iv (((x4.toUInt32 >>> ((4 : Int32) &&& 31).toUInt32).toInt32) &&& (7 : Int32)), iv 0] [(.ref b30), (.ref b42)])) rfl (by rw [hml]; rfl) (Steps.refl _) (argsL := [(.ref b30)]) (rest := []) (lenOf pd_9 rfl) rfl (by show 2 * 0 + _ ≤ _; exact Nat.le_of_eq rfl) (hb hby at_276) (fun _ _ => ⟨rfl, e213, (by decide : 50 + 0 ≤ _), (by decide : 240 + 0 ≤ _)⟩)
          dsimp only [Pt.U, Pt.locs, Pt.cells, Pt.slots] at X216 l216 y216 z216 st216 hQ216
          subst l216 y216 z216
          obtain ⟨rfl, N216q, e216⟩ := hQ216
          have N216 := Fr.app N213 N216q
          have hc281_217 : (if (v26_0 = x2 ∧ (own_str v6_0) = (own_str (own_field x0 (0 : Int32))) ∧ (own_str v13_0) = (own_str (own_field x0 (1 : Int32))) ∧ (own_str v20_0) = (own_str (own_field x0 (2 : Int32)))) then (1 : Int32) else (0 : Int32)) = (0 : Int32) := if_neg (fun q => hc220_83 (q.1).symm)
          have P218 := own_go P84 (S' := T216.setTop (mkF m 289 #[lv x0, .second, lv x1, .second, lv x2, .second, lv x3, .second, iv x4, lv (own_field x0 (0 : Int32)), .second, lv (own_field x0 (1 : Int32)), .second, lv (own_field x0 (2 : Int32)), .second, lv v6_0, .second, lv v13_0, .second, lv v20_0, .second, lv v26_0, .second, rv b30, rv b42, iv (((x4.toUInt32 >>> ((4 : Int32) &&& 31).toUInt32).toInt32) &&& (7 : Int32)), iv 0] [(.int 1)])) (by
            intro t k
            refine XS.ifYes X53.here hx rfl (pc0 := 220) (pc' := 257) rfl (hb hby at_220) rfl ((if0 _ _).trans (feq (fun q => hc220_83 ((lw_eq x2 v26_0).mp q))).2) (by decide) (by decide) ?_
            refine XS.iconst X53.here hx rfl (hb hby at_257) ?_
            refine XS.istore X53.here hx rfl (hb hby at_258) rfl (l' := #[lv x0, .second, lv x1, .second, lv x2, .second, lv x3, .second, iv x4, lv (own_field x0 (0 : Int32)), .second, lv (own_field x0 (1 : Int32)), .second, lv (own_field x0 (2 : Int32)), .second, lv v6_0, .second, lv v13_0, .second, lv v20_0, .second, lv v26_0, .second, rv b30, rv b42, iv (((x4.toUInt32 >>> ((4 : Int32) &&& 31).toUInt32).toInt32) &&& (7 : Int32)), iv 0]) rfl ?_
            refine XS.aload X53.here hx rfl (hb hby at_260) rfl rfl ?_
            refine XS.aload X53.here hx rfl (hb hby at_262) rfl rfl ?_
            refine st213.trans ?_
            refine XS.iload X213.here hx rfl (hb hby at_267) rfl ?_
            refine XS.icmpNo X213.here hx rfl (hb hby at_269) rfl (teq hc269_215).2 ?_
            show Steps p.tables e below (T213.setTop (mkF m 272 #[lv x0, .second, lv x1, .second, lv x2, .second, lv x3, .second, iv x4, lv (own_field x0 (0 : Int32)), .second, lv (own_field x0 (1 : Int32)), .second, lv (own_field x0 (2 : Int32)), .second, lv v6_0, .second, lv v13_0, .second, lv v20_0, .second, lv v26_0, .second, rv b30, rv b42, iv (((x4.toUInt32 >>> ((4 : Int32) &&& 31).toUInt32).toInt32) &&& (7 : Int32)), iv 0] [])) _
            refine XS.aload X213.here hx rfl (hb hby at_272) rfl rfl ?_
            refine XS.aload X213.here hx rfl (hb hby at_274) rfl rfl ?_
            refine st216.trans ?_
            refine XS.iload X216.here hx rfl (hb hby at_279) rfl ?_
            refine XS.icmpNo X216.here hx rfl (hb hby at_281) rfl (teq hc281_217).2 ?_
            refine XS.iconst X216.here hx rfl (hb hby at_284) ?_
            refine XS.goto X216.here hx rfl (pc0 := 285) (pc' := 289) rfl (hb hby at_285) (by decide) (by decide) ?_
            exact k)
          obtain ⟨fs, hr, hrun, hended, hend⟩ := X216.leaveW hS53 (by rw [e216]; exact hk53w) (v := some (.int 1)) (fun h => by rw [Bd.returns] at h; cases h)
          refine ⟨_, _, P218 _ ?_, hrun, hended, _, _, rfl, ?_, ?_, hend.1, hend.2.1, hend.2.2.1, hend.2.2.2.mono (by decide) (by decide)⟩
          · show Steps p.tables e below (T216.setTop (mkF m 289 #[lv x0, .second, lv x1, .second, lv x2, .second, lv x3, .second, iv x4, lv (own_field x0 (0 : Int32)), .second, lv (own_field x0 (1 : Int32)), .second, lv (own_field x0 (2 : Int32)), .second, lv v6_0, .second, lv v13_0, .second, lv v20_0, .second, lv v26_0, .second, rv b30, rv b42, iv (((x4.toUInt32 >>> ((4 : Int32) &&& 31).toUInt32).toInt32) &&& (7 : Int32)), iv 0] [(.int 1)])) _
            exact retN X216 hx (t := .boolean) Bd.returns (by simp) (hb hby at_289) hr
          · show Q0 Z x0 x1 x2 x3 x4 cs ca cl h0 n0 _ T216.heap _
            rw [e216]
            exact ⟨rfl, N216⟩
          · have q := CR53.trans (CHv.at X216 hZ53 hEW CH53)
            rw [hh]
            show CHr Z own_EL s.vm h0 T216.vm T216.heap
            rw [e216]
            exact q

set_option maxRecDepth 65536 in
set_option maxHeartbeats 40000000 in
theorem comes_1 {Post : Tables → Env → Array Value → State → Outcome → State → Prop} (hpost : ∀ tb e args s v u, (limb_1_1.after args s (.returned v) u = true ∧ limb_1_2.after args s (.returned v) u = true ∧ True) → ReturnedEndW s (.returned v) u (Jvm.fieldLocs frame_1_writes args s ++ Jvm.arrayLocs frame_1_arrays args s ++ Jvm.staticLocs frame_1_statics s) 64 4352 → Post tb e args s (.returned v) u) :
    ArmFor flags0 classFile x code maxLocals ret World_1 tables_1 room_1 Calls_1 rest_1 Pre_1 Post := by
  intro l hfl _ _ p e ha hc hk s m args below hf hA hF happ hP
  obtain ⟨hcalls, hrest, hpre⟩ := hP
  obtain ⟨-, -, -, hnamed, -, -, -, hat⟩ := (Spec.applies_iff hf).mp happ
  obtain ⟨hg, hn⟩ := and_e (Cond.before_iff.mp (show (Jvm.Cond.and given_1 narrow_1).before args s = true from hpre))
  obtain ⟨hcnt, hgs0⟩ := and_e hg
  obtain ⟨hk0, hgs1⟩ := and_e hgs0
  obtain ⟨hk1, hgs2⟩ := and_e hgs1
  obtain ⟨hk2, hgs3⟩ := and_e hgs2
  obtain ⟨hk3, hgs4⟩ := and_e hgs3
  obtain ⟨w0, w1, w2, w3, w4, rfl⟩ : ∃ w0 w1 w2 w3 w4 : Value, args = #[w0, w1, w2, w3, w4] := by
    have hs : args.size = 5 := by simpa [Cond.value, given_1] using hcnt
    obtain ⟨L⟩ := args
    match L, hs with
    | [w0, w1, w2, w3, w4], _ => exact ⟨w0, w1, w2, w3, w4, rfl⟩
  have hw := fun d (hd : d ∈ tables_1) => atoms_spec (ws := Jvm.Cond.code x code maxLocals ret :: tables_1) hat d (List.mem_cons_of_mem _ hd)
  have hfit : Fit s := fun {y c} hc i hi => by
    obtain ⟨ha, rfl⟩ := Array.getElem?_eq_some_iff.mp hc
    have q := List.all_eq_true.mp ((Array.all_eq_true_iff_forall_mem.mp hF) _ (Array.getElem_mem ha)) i (List.mem_range.mpr hi)
    simpa [Array.getElem?_eq_getElem hi] using q
  obtain ⟨hsets, hown0⟩ := atoms_of _ (rest_1_c_eq ▸ (show rest_1_c.before _ s = true from hrest))
  have hr0 := Cond.before_iff.mp hown0
  obtain ⟨i0, ei0⟩ := isL_v hk0
  obtain rfl : w0 = (.long i0) := Option.some.inj ei0
  obtain ⟨i1, ei1⟩ := isL_v hk1
  obtain rfl : w1 = (.long i1) := Option.some.inj ei1
  obtain ⟨i2, ei2⟩ := isL_v hk2
  obtain rfl : w2 = (.long i2) := Option.some.inj ei2
  obtain ⟨i3, ei3⟩ := isL_v hk3
  obtain rfl : w3 = (.long i3) := Option.some.inj ei3
  obtain ⟨i4, ei4⟩ := is_v hgs4
  obtain rfl : w4 = (.int i4) := Option.some.inj ei4
  have ncs := not_v (Cond.before_iff.mp (hsets _ (List.mem_of_getElem? (i := 2) rfl)))
  obtain ⟨cs, ecs⟩ := is_v (Cond.before_iff.mp (hsets _ (List.mem_of_getElem? (i := 1) rfl)))
  have SCS : Sta s s.heap "java/lang/String" "COMPACT_STRINGS" "Z" (.int cs) := Sta.start ecs (Or.inl (hsets _ (List.mem_of_getElem? (i := 0) rfl)))
  have hcs : ¬ (cs = (0 : Int32)) := gotF (Cond.eq_ints ecs (Term.int_eval (0))) ncs
  have hs3 := Cond.before_iff.mp (hsets _ (List.mem_of_getElem? (i := 12) rfl))
  have hs4 := Cond.before_iff.mp (hsets _ (List.mem_of_getElem? (i := 13) rfl))
  have hs6 := Cond.before_iff.mp (hsets _ (List.mem_of_getElem? (i := 15) rfl))
  have hs7 := Cond.before_iff.mp (hsets _ (List.mem_of_getElem? (i := 16) rfl))
  have ehi := eqv_i (Term.int_eval _) hs3
  have SH : Sta s s.heap "java/lang/Integer$IntegerCache" "high" "I" (.int (127 : Int32)) := Sta.start ehi (Or.inl (hsets _ (List.mem_of_getElem? (i := 10) rfl)))
  obtain ⟨ca, eca⟩ := arr_v hs4
  have SC : Sta s s.heap "java/lang/Integer$IntegerCache" "cache" "[Ljava/lang/Integer;" (.ref ca) := Sta.start eca (Or.inr ⟨(hw _ (im 97 rfl)), hsets _ (List.mem_of_getElem? (i := 11) rfl)⟩)
  obtain ⟨cl, Acl⟩ := Arr.start eca hs4
  have elen := eqv_i (Term.int_eval _) hs6
  obtain ⟨hl1, hl2⟩ := own_lenA eca (Acl.fin (Vm.Alike.refl _)) elen
  have BX : Bxs s ca cl "java/lang/Integer" "I" (256 : Int32) (fun j => .int (j - (128 : Int32))) := Bxs.start (fun idx => eca) Acl hl1 hl2 (by decide) hs7 (fun X j hj h => eqv_i (own_sub (idx_at hj) (Term.int_eval _)) h)
  obtain ⟨n, o, h1, h2, h3, _, L, rfl, ⟨rfl, N⟩, -, hq⟩ := rm0 l s _ hw tables_1 i0 i1 i2 i3 i4 cs ca cl s.heap s.heap.size (Nat.le_refl _) (Old.start s) SCS hcs SH SC BX p e ha hc hk s m _ below hf ((Spec.applies_iff_loose hf).mp happ).1 ⟨rfl, State.Warmed39.refl s, rfl, CHv.start (own_EW hw) (fun p hp => by rcases List.mem_singleton.mp hp with rfl; exact hcalls.1 ("java/lang/String", 7) (by simp [consts_1])) (hsets _ (List.mem_of_getElem? (i := 2) rfl)) (hw _ (im 30 rfl)) (hw _ (im 16 rfl))⟩ trivial
  refine ⟨n, _, h1, h2, h3, hpost _ _ _ _ _ _ ⟨Cond.after_iff.mpr rfl, Cond.after_iff.mpr (eq_i res_at (Term.int_eval (1)) rfl), trivial⟩ ⟨hq.1, hq.2.1, hq.2.2.1, (hq.2.2.2.sift fun y hy => Or.inr (N y hy)).mono (by decide) (by decide)⟩⟩
theorem main_1_1 : Claimed_1_1 := comes_1 fun _ _ _ _ _ _ h hF => ⟨h.1, hF⟩
theorem main_1_2 : Claimed_1_2 := comes_1 fun _ _ _ _ _ _ h hF => ⟨h.2.1, hF⟩
end Jvm.Pilot.@@N@@
namespace Jvm.Pilot.@@N@@
open Jvm Jvm.ClassFile Sem Op Lib Jvm.Free Jvm.Stand Jvm.Pilot.@@N@@.Jvm.D
/-! MADE BY PROGRAM (witnessworld.py) out of the Statement's table words and the real class files: 25 classes; the members and pool entries that the words name. The judged class is class 1, her method 6. -/
namespace start1
open Jvm.ClassFile
def u (s : String) : CpInfo := .utf8 (stringToUtf16 s)
/-- a pool by its gaps: so many unusable entries, then the entry; so many at the end -/
def gap : Nat → List CpInfo → List CpInfo
  | 0, r => r
  | n + 1, r => .unusable :: gap n r
def poolList (es : List (Nat × CpInfo)) (last : Nat) : List CpInfo := es.foldr (fun e r => gap e.1 (e.2 :: r)) (gap last [])
def pool (es : List (Nat × CpInfo)) (last : Nat) : Array CpInfo := ⟨poolList es last⟩
def fileOf (pool : Array CpInfo) (this : Nat) (attrs : Array Attribute := #[]) (ms : Array MethodInfo := #[]) (fl : Nat := 33) (sup : Nat := 0) (ifs : Array Nat := #[]) (fds : Array FieldInfo := #[]) : ClassFile where
  minorVersion := 0
  majorVersion := 65
  constantPool := pool
  accessFlags := fl
  thisClass := this
  superClass := sup
  interfaces := ifs
  fields := fds
  methods := ms
  attributes := attrs
def plain (name : String) (sup : Option ClassId) : Class where
  name := name
  kind := .ordinary
  loader := none
  accessFlags := 33
  super := sup
  interfaces := #[]
  cf := none
  fields := #[]
  methods := #[]
  instanceTypes := #[]
  staticTypes := #[]
  resolved := #[]
  callSites := []
  init := .initialized
  statics := none
  mirror := none

def pool0 : Array CpInfo := pool [(5, u "<init>"), (0, u "()V"), (1, .class_ 10), (1, u "java/lang/Object")] 113

def k0c0 : Code := { maxStack := 0, maxLocals := 1, code := object_method_1_code, exceptionTable := #[], attributes := #[] }
def k0m0 : Method := { name := "<init>", desc := "()V", sig := { parameters := [], returnType := none }, accessFlags := 1, code := some k0c0 }
/-- java/lang/Object -/
def k0 : Class := { plain "java/lang/Object" none with
  accessFlags := 33
  interfaces := #[]
  cf := some (fileOf pool0 8 #[] #[{ accessFlags := 1, nameIndex := 5, descriptorIndex := 6, attributes := #[] }] 33 0 #[] #[])
  fields := #[]
  methods := #[k0m0]
  instanceTypes := #[]
  staticTypes := #[]
  resolved := Array.replicate 124 none
  statics := none }

def pool1 : Array CpInfo := pool [(2, .class_ 4), (1, u "java/lang/Object"), (0, u "<init>"), (0, u "()V"), (0, .long 3), (1, .long 255), (1, .methodref 12 13), (0, .class_ 14), (0, .nameAndType 15 16), (0, u "com/example/bylaws_for_tables/bylawsfortables/FindingKeyEqualsPinLaw"), (0, u "len"), (0, u "(J)I"), (0, .class_ 18), (0, u "java/lang/String"), (0, .methodref 17 20), (0, .nameAndType 5 21), (0, u "([C)V"), (0, .methodref 12 23), (0, .nameAndType 24 25), (0, u "ch"), (0, u "(JI)C"), (0, .long 262143), (1, .methodref 12 29), (0, .nameAndType 30 31), (0, u "field"), (0, u "(JI)J"), (0, .class_ 33), (0, u "com/example/bylaws_for_tables/bylawsfortables/FindingKey"), (0, .methodref 12 35), (0, .nameAndType 36 37), (0, u "str"), (0, u "(J)Ljava/lang/String;"), (0, .methodref 32 39), (0, .nameAndType 5 40), (0, u "(Ljava/lang/String;Ljava/lang/String;Ljava/lang/String;J)V"), (0, .methodref 32 42), (0, .nameAndType 43 44), (0, u "equals"), (0, u "(Ljava/lang/Object;)Z"), (0, .methodref 46 47), (0, .class_ 48), (0, .nameAndType 49 50), (0, u "java/lang/Integer"), (0, u "valueOf"), (0, u "(I)Ljava/lang/Integer;"), (0, .methodref 12 52), (0, .nameAndType 53 54), (0, u "sameText"), (0, u "(JJ)Z"), (3, u "law"), (0, u "(JJJJI)Z")] 2

def k1m0 : Method := { name := "<init>", desc := "()V", sig := { parameters := [], returnType := none }, accessFlags := 1, code := none }
def k1c1 : Code := { maxStack := 4, maxLocals := 2, code := method_2_code, exceptionTable := #[], attributes := #[] }
def k1m1 : Method := { name := "len", desc := "(J)I", sig := { parameters := [.long], returnType := some .int }, accessFlags := 10, code := some k1c1 }
def k1c2 : Code := { maxStack := 5, maxLocals := 3, code := method_3_code, exceptionTable := #[], attributes := #[] }
def k1m2 : Method := { name := "ch", desc := "(JI)C", sig := { parameters := [.long, .int], returnType := some .char }, accessFlags := 10, code := some k1c2 }
def k1c3 : Code := { maxStack := 5, maxLocals := 4, code := method_4_code, exceptionTable := #[], attributes := #[] }
def k1m3 : Method := { name := "str", desc := "(J)Ljava/lang/String;", sig := { parameters := [.long], returnType := some (.object "java/lang/String") }, accessFlags := 10, code := some k1c3 }
def k1c4 : Code := { maxStack := 4, maxLocals := 5, code := method_5_code, exceptionTable := #[], attributes := #[] }
def k1m4 : Method := { name := "sameText", desc := "(JJ)Z", sig := { parameters := [.long, .long], returnType := some .boolean }, accessFlags := 10, code := some k1c4 }
def k1c5 : Code := { maxStack := 4, maxLocals := 3, code := method_6_code, exceptionTable := #[], attributes := #[] }
def k1m5 : Method := { name := "field", desc := "(JI)J", sig := { parameters := [.long, .int], returnType := some .long }, accessFlags := 10, code := some k1c5 }
def k1c6 : Code := { maxStack := 7, maxLocals := 27, code := code, exceptionTable := #[], attributes := #[] }
def k1m6 : Method := { name := "law", desc := "(JJJJI)Z", sig := { parameters := [.long, .long, .long, .long, .int], returnType := some .boolean }, accessFlags := 9, code := some k1c6 }
/-- com/example/bylaws_for_tables/bylawsfortables/FindingKeyEqualsPinLaw -/
def k1 : Class := { plain "com/example/bylaws_for_tables/bylawsfortables/FindingKeyEqualsPinLaw" (some 0) with
  accessFlags := 49
  interfaces := #[]
  cf := some (fileOf pool1 12 #[] #[{ accessFlags := 1, nameIndex := 5, descriptorIndex := 6, attributes := #[] }, { accessFlags := 10, nameIndex := 15, descriptorIndex := 16, attributes := #[] }, { accessFlags := 10, nameIndex := 24, descriptorIndex := 25, attributes := #[] }, { accessFlags := 10, nameIndex := 36, descriptorIndex := 37, attributes := #[] }, { accessFlags := 10, nameIndex := 53, descriptorIndex := 54, attributes := #[] }, { accessFlags := 10, nameIndex := 30, descriptorIndex := 31, attributes := #[] }, { accessFlags := 9, nameIndex := 58, descriptorIndex := 59, attributes := #[] }] 49 2 #[] #[])
  fields := #[]
  methods := #[k1m0, k1m1, k1m2, k1m3, k1m4, k1m5, k1m6]
  instanceTypes := #[]
  staticTypes := #[]
  resolved := Array.replicate 62 none
  statics := none }

def pool2 : Array CpInfo := pool [(1, .methodref 2 3), (0, .class_ 4), (0, .nameAndType 5 6), (0, u "java/lang/Object"), (0, u "<init>"), (0, u "()V"), (0, .string 8), (0, u "path"), (0, .methodref 10 11), (0, .class_ 12), (0, .nameAndType 13 14), (0, u "java/util/Objects"), (0, u "requireNonNull"), (0, u "(Ljava/lang/Object;Ljava/lang/String;)Ljava/lang/Object;"), (0, .class_ 16), (0, u "java/lang/String"), (0, .fieldref 18 19), (0, .class_ 20), (0, .nameAndType 8 21), (0, u "com/example/bylaws_for_tables/bylawsfortables/FindingKey"), (0, u "Ljava/lang/String;"), (0, .string 23), (0, u "ruleId"), (0, .fieldref 18 25), (0, .nameAndType 23 21), (0, .string 27), (0, u "message"), (0, .fieldref 18 29), (0, .nameAndType 27 21), (0, .fieldref 18 31), (0, .nameAndType 32 33), (0, u "digest"), (0, u "J"), (50, u "(Ljava/lang/String;Ljava/lang/String;Ljava/lang/String;J)V"), (40, .methodref 15 126), (0, .nameAndType 127 128), (0, u "equals"), (0, u "(Ljava/lang/Object;)Z")] 41

def k2c0 : Code := { maxStack := 3, maxLocals := 6, code := prog_8_method_1_code, exceptionTable := #[], attributes := #[] }
def k2m0 : Method := { name := "<init>", desc := "(Ljava/lang/String;Ljava/lang/String;Ljava/lang/String;J)V", sig := { parameters := [(.object "java/lang/String"), (.object "java/lang/String"), (.object "java/lang/String"), .long], returnType := none }, accessFlags := 0, code := some k2c0 }
def k2c1 : Code := { maxStack := 4, maxLocals := 3, code := prog_8_method_9_code, exceptionTable := #[], attributes := #[] }
def k2m1 : Method := { name := "equals", desc := "(Ljava/lang/Object;)Z", sig := { parameters := [(.object "java/lang/Object")], returnType := some .boolean }, accessFlags := 1, code := some k2c1 }
/-- com/example/bylaws_for_tables/bylawsfortables/FindingKey -/
def k2 : Class := { plain "com/example/bylaws_for_tables/bylawsfortables/FindingKey" (some 0) with
  accessFlags := 48
  interfaces := #[]
  cf := some (fileOf pool2 18 #[] #[{ accessFlags := 0, nameIndex := 5, descriptorIndex := 84, attributes := #[] }, { accessFlags := 1, nameIndex := 127, descriptorIndex := 128, attributes := #[] }] 48 2 #[] #[{ accessFlags := 18, nameIndex := 8, descriptorIndex := 21, attributes := #[] }, { accessFlags := 18, nameIndex := 23, descriptorIndex := 21, attributes := #[] }, { accessFlags := 18, nameIndex := 27, descriptorIndex := 21, attributes := #[] }, { accessFlags := 18, nameIndex := 32, descriptorIndex := 33, attributes := #[] }])
  fields := #[{ name := "path", type := (.object "java/lang/String"), accessFlags := 18, slot := 0, constantValue := 0 }, { name := "ruleId", type := (.object "java/lang/String"), accessFlags := 18, slot := 1, constantValue := 0 }, { name := "message", type := (.object "java/lang/String"), accessFlags := 18, slot := 2, constantValue := 0 }, { name := "digest", type := .long, accessFlags := 18, slot := 3, constantValue := 0 }]
  methods := #[k2m0, k2m1]
  instanceTypes := #[(.object "java/lang/String"), (.object "java/lang/String"), (.object "java/lang/String"), .long]
  staticTypes := #[]
  resolved := Array.replicate 170 none
  statics := none }

def pool3 : Array CpInfo := pool [(1, .class_ 2), (0, u "java/io/Serializable"), (0, .class_ 4), (0, u "java/lang/Object")] 2

/-- java/io/Serializable -/
def k3 : Class := { plain "java/io/Serializable" (some 0) with
  accessFlags := 1537
  interfaces := #[]
  cf := some (fileOf pool3 1 #[] #[] 1537 3 #[] #[])
  fields := #[]
  methods := #[]
  instanceTypes := #[]
  staticTypes := #[]
  resolved := Array.replicate 7 none
  statics := none }

def pool4 : Array CpInfo := pool [(1, .class_ 2), (0, u "java/lang/Comparable"), (0, .class_ 4), (0, u "java/lang/Object")] 7

/-- java/lang/Comparable -/
def k4 : Class := { plain "java/lang/Comparable" (some 0) with
  accessFlags := 1537
  interfaces := #[]
  cf := some (fileOf pool4 1 #[] #[] 1537 3 #[] #[])
  fields := #[]
  methods := #[]
  instanceTypes := #[]
  staticTypes := #[]
  resolved := Array.replicate 12 none
  statics := none }

def pool5 : Array CpInfo := pool [(2, .class_ 4), (1, u "java/lang/CharSequence"), (42, .class_ 48), (0, u "java/lang/CharSequence$1CodePointIterator"), (10, .class_ 60), (0, u "java/lang/CharSequence$1CharIterator"), (5, .class_ 67), (0, u "java/lang/Object")] 63

/-- java/lang/CharSequence -/
def k5 : Class := { plain "java/lang/CharSequence" (some 0) with
  accessFlags := 1537
  interfaces := #[]
  cf := some (fileOf pool5 2 #[.nestMembers #[47, 59]] #[] 1537 66 #[] #[])
  fields := #[]
  methods := #[]
  instanceTypes := #[]
  staticTypes := #[]
  resolved := Array.replicate 131 none
  statics := none }

def pool6 : Array CpInfo := pool [(1, .class_ 2), (0, u "java/lang/constant/Constable"), (0, .class_ 4), (0, u "java/lang/Object")] 6

/-- java/lang/constant/Constable -/
def k6 : Class := { plain "java/lang/constant/Constable" (some 0) with
  accessFlags := 1537
  interfaces := #[]
  cf := some (fileOf pool6 1 #[] #[] 1537 3 #[] #[])
  fields := #[]
  methods := #[]
  instanceTypes := #[]
  staticTypes := #[]
  resolved := Array.replicate 11 none
  statics := none }

def pool7 : Array CpInfo := pool [(1, .class_ 2), (0, u "java/lang/constant/ConstantDesc"), (0, .class_ 4), (0, u "java/lang/Object")] 32

/-- java/lang/constant/ConstantDesc -/
def k7 : Class := { plain "java/lang/constant/ConstantDesc" (some 0) with
  accessFlags := 1537
  interfaces := #[]
  cf := some (fileOf pool7 1 #[] #[] 1537 3 #[] #[])
  fields := #[]
  methods := #[]
  instanceTypes := #[]
  staticTypes := #[]
  resolved := Array.replicate 37 none
  statics := none }

def pool8 : Array CpInfo := pool [(1, .methodref 2 3), (0, .class_ 4), (0, .nameAndType 5 6), (0, u "java/lang/Object"), (0, u "<init>"), (0, u "()V"), (0, .string 8), (0, u ""), (0, .fieldref 10 11), (0, .class_ 12), (0, .nameAndType 13 14), (0, u "java/lang/String"), (0, u "value"), (0, u "[B"), (0, .fieldref 10 16), (0, .nameAndType 17 18), (0, u "coder"), (0, u "B"), (2, u "hash"), (0, u "I"), (2, u "hashIsZero"), (0, u "Z"), (0, .methodref 10 28), (0, .nameAndType 5 29), (0, u "([CIILjava/lang/Void;)V"), (8, .fieldref 10 39), (0, .nameAndType 40 26), (0, u "COMPACT_STRINGS"), (1, .class_ 44), (1, u "java/lang/StringUTF16"), (0, u "compress"), (1, .methodref 42 48), (0, .nameAndType 49 50), (0, u "coderFromArrayLen"), (0, u "([BI)B"), (56, .class_ 109), (1, u "java/lang/StringLatin1"), (67, .methodref 42 178), (0, .nameAndType 45 179), (0, u "([CII)[B"), (361, .methodref 107 542), (0, .nameAndType 543 544), (0, u "equals"), (0, u "([B[B)Z"), (28, u "(Ljava/lang/Object;)Z"), (1, .class_ 576), (0, u "java/lang/CharSequence"), (22, u "CASE_INSENSITIVE_ORDER"), (0, u "Ljava/util/Comparator;"), (409, u "([C)V"), (90, u "serialPersistentFields"), (0, u "[Ljava/io/ObjectStreamField;"), (0, .class_ 1104), (0, u "java/lang/String$CaseInsensitiveComparator"), (1, .class_ 1107), (0, u "java/io/Serializable"), (0, .class_ 1109), (0, u "java/lang/Comparable"), (0, .class_ 1111), (0, u "java/lang/constant/Constable"), (0, .class_ 1113), (0, u "java/lang/constant/ConstantDesc"), (2, u "serialVersionUID"), (0, u "J"), (3, u "REPL"), (0, u "C"), (2, u "LATIN1"), (1, u "UTF16")] 323

def k8m0 : Method := { name := "<init>", desc := "()V", sig := { parameters := [], returnType := none }, accessFlags := 1, code := none }
def k8c1 : Code := { maxStack := 5, maxLocals := 2, code := jdk_42_method_3_code, exceptionTable := #[], attributes := #[] }
def k8m1 : Method := { name := "<init>", desc := "([C)V", sig := { parameters := [(.array .char)], returnType := none }, accessFlags := 1, code := some k8c1 }
def k8c2 : Code := { maxStack := 2, maxLocals := 3, code := jdk_42_method_66_code, exceptionTable := #[], attributes := #[] }
def k8m2 : Method := { name := "equals", desc := "(Ljava/lang/Object;)Z", sig := { parameters := [(.object "java/lang/Object")], returnType := some .boolean }, accessFlags := 1, code := some k8c2 }
def k8c3 : Code := { maxStack := 4, maxLocals := 6, code := jdk_42_method_149_code, exceptionTable := #[], attributes := #[] }
def k8m3 : Method := { name := "<init>", desc := "([CIILjava/lang/Void;)V", sig := { parameters := [(.array .char), .int, .int, (.object "java/lang/Void")], returnType := none }, accessFlags := 2, code := some k8c3 }
/-- java/lang/String -/
def k8 : Class := { plain "java/lang/String" (some 0) with
  accessFlags := 49
  interfaces := #[3, 4, 5, 6, 7]
  cf := some (fileOf pool8 10 #[.nestMembers #[1103]] #[{ accessFlags := 1, nameIndex := 5, descriptorIndex := 6, attributes := #[] }, { accessFlags := 1, nameIndex := 5, descriptorIndex := 1010, attributes := #[] }, { accessFlags := 1, nameIndex := 543, descriptorIndex := 573, attributes := #[] }, { accessFlags := 2, nameIndex := 5, descriptorIndex := 29, attributes := #[] }] 49 2 #[1106, 1108, 575, 1110, 1112] #[{ accessFlags := 18, nameIndex := 13, descriptorIndex := 14, attributes := #[] }, { accessFlags := 18, nameIndex := 17, descriptorIndex := 18, attributes := #[] }, { accessFlags := 2, nameIndex := 21, descriptorIndex := 22, attributes := #[] }, { accessFlags := 2, nameIndex := 25, descriptorIndex := 26, attributes := #[] }, { accessFlags := 26, nameIndex := 1116, descriptorIndex := 1117, attributes := #[] }, { accessFlags := 24, nameIndex := 40, descriptorIndex := 26, attributes := #[] }, { accessFlags := 26, nameIndex := 1101, descriptorIndex := 1102, attributes := #[] }, { accessFlags := 26, nameIndex := 1121, descriptorIndex := 1122, attributes := #[] }, { accessFlags := 25, nameIndex := 599, descriptorIndex := 600, attributes := #[] }, { accessFlags := 24, nameIndex := 1125, descriptorIndex := 18, attributes := #[] }, { accessFlags := 24, nameIndex := 1127, descriptorIndex := 18, attributes := #[] }])
  fields := #[{ name := "value", type := (.array .byte), accessFlags := 18, slot := 0, constantValue := 0 }, { name := "coder", type := .byte, accessFlags := 18, slot := 1, constantValue := 0 }, { name := "hash", type := .int, accessFlags := 2, slot := 2, constantValue := 0 }, { name := "hashIsZero", type := .boolean, accessFlags := 2, slot := 3, constantValue := 0 }, { name := "serialVersionUID", type := .long, accessFlags := 26, slot := 0, constantValue := 0 }, { name := "COMPACT_STRINGS", type := .boolean, accessFlags := 24, slot := 1, constantValue := 0 }, { name := "serialPersistentFields", type := (.array (.object "java/io/ObjectStreamField")), accessFlags := 26, slot := 2, constantValue := 0 }, { name := "REPL", type := .char, accessFlags := 26, slot := 3, constantValue := 0 }, { name := "CASE_INSENSITIVE_ORDER", type := (.object "java/util/Comparator"), accessFlags := 25, slot := 4, constantValue := 0 }, { name := "LATIN1", type := .byte, accessFlags := 24, slot := 5, constantValue := 0 }, { name := "UTF16", type := .byte, accessFlags := 24, slot := 6, constantValue := 0 }]
  methods := #[k8m0, k8m1, k8m2, k8m3]
  instanceTypes := #[(.array .byte), .byte, .int, .boolean]
  staticTypes := #[.long, .boolean, (.array (.object "java/io/ObjectStreamField")), .char, (.object "java/util/Comparator"), .byte, .byte]
  resolved := Array.replicate 1451 none
  statics := some 0 }

def pool9 : Array CpInfo := pool [(2, .class_ 4), (1, u "java/lang/Object"), (0, u "<init>"), (0, u "()V"), (35, .class_ 44), (1, u "java/util/Objects"), (0, u "requireNonNull"), (48, u "(Ljava/lang/Object;Ljava/lang/String;)Ljava/lang/Object;")] 89

def k9m0 : Method := { name := "<init>", desc := "()V", sig := { parameters := [], returnType := none }, accessFlags := 2, code := none }
def k9c1 : Code := { maxStack := 3, maxLocals := 2, code := jdk_31_method_11_code, exceptionTable := #[], attributes := #[] }
def k9m1 : Method := { name := "requireNonNull", desc := "(Ljava/lang/Object;Ljava/lang/String;)Ljava/lang/Object;", sig := { parameters := [(.object "java/lang/Object"), (.object "java/lang/String")], returnType := some (.object "java/lang/Object") }, accessFlags := 9, code := some k9c1 }
/-- java/util/Objects -/
def k9 : Class := { plain "java/util/Objects" (some 0) with
  accessFlags := 49
  interfaces := #[]
  cf := some (fileOf pool9 42 #[] #[{ accessFlags := 2, nameIndex := 5, descriptorIndex := 6, attributes := #[] }, { accessFlags := 9, nameIndex := 45, descriptorIndex := 94, attributes := #[] }] 49 2 #[] #[])
  fields := #[]
  methods := #[k9m0, k9m1]
  instanceTypes := #[]
  staticTypes := #[]
  resolved := Array.replicate 184 none
  statics := none }

def pool10 : Array CpInfo := pool [(6, .class_ 8), (1, u "java/lang/Object"), (0, u "<init>"), (0, u "()V"), (1, .class_ 14), (1, u "java/lang/StringUTF16"), (31, u "$assertionsDisabled"), (0, u "Z"), (13, u "HI_BYTE_SHIFT"), (0, u "I"), (2, u "LO_BYTE_SHIFT"), (49, .methodref 12 116), (0, .nameAndType 117 118), (0, u "compress"), (0, u "([CI[BII)I"), (3, u "([CII)[B"), (138, u "coderFromArrayLen"), (0, u "([BI)B"), (106, .class_ 371), (1, u "java/lang/StringUTF16$LinesSpliterator"), (58, u "MAX_LENGTH"), (196, .class_ 628), (0, u "java/lang/StringUTF16$CodePointsSpliterator"), (0, .class_ 630), (0, u "java/lang/StringUTF16$CharsSpliterator")] 4

def k10m0 : Method := { name := "<init>", desc := "()V", sig := { parameters := [], returnType := none }, accessFlags := 0, code := none }
def k10c1 : Code := { maxStack := 2, maxLocals := 2, code := jdk_52_method_15_code, exceptionTable := #[], attributes := #[] }
def k10m1 : Method := { name := "coderFromArrayLen", desc := "([BI)B", sig := { parameters := [(.array .byte), .int], returnType := some .byte }, accessFlags := 8, code := some k10c1 }
def k10c2 : Code := { maxStack := 5, maxLocals := 6, code := jdk_52_method_16_code, exceptionTable := #[], attributes := #[] }
def k10m2 : Method := { name := "compress", desc := "([CII)[B", sig := { parameters := [(.array .char), .int, .int], returnType := some (.array .byte) }, accessFlags := 9, code := some k10c2 }
def k10c3 : Code := { maxStack := 3, maxLocals := 7, code := jdk_52_method_21_code, exceptionTable := #[], attributes := #[] }
def k10m3 : Method := { name := "compress", desc := "([CI[BII)I", sig := { parameters := [(.array .char), .int, (.array .byte), .int, .int], returnType := some .int }, accessFlags := 9, code := some k10c3 }
/-- java/lang/StringUTF16 -/
def k10 : Class := { plain "java/lang/StringUTF16" (some 0) with
  accessFlags := 48
  interfaces := #[]
  cf := some (fileOf pool10 12 #[.nestMembers #[627, 629, 369]] #[{ accessFlags := 0, nameIndex := 9, descriptorIndex := 10, attributes := #[] }, { accessFlags := 8, nameIndex := 261, descriptorIndex := 262, attributes := #[] }, { accessFlags := 9, nameIndex := 117, descriptorIndex := 122, attributes := #[] }, { accessFlags := 9, nameIndex := 117, descriptorIndex := 118, attributes := #[] }] 48 6 #[] #[{ accessFlags := 26, nameIndex := 61, descriptorIndex := 62, attributes := #[] }, { accessFlags := 26, nameIndex := 65, descriptorIndex := 62, attributes := #[] }, { accessFlags := 24, nameIndex := 430, descriptorIndex := 62, attributes := #[] }, { accessFlags := 4120, nameIndex := 46, descriptorIndex := 47, attributes := #[] }])
  fields := #[{ name := "HI_BYTE_SHIFT", type := .int, accessFlags := 26, slot := 0, constantValue := 0 }, { name := "LO_BYTE_SHIFT", type := .int, accessFlags := 26, slot := 1, constantValue := 0 }, { name := "MAX_LENGTH", type := .int, accessFlags := 24, slot := 2, constantValue := 0 }, { name := "$assertionsDisabled", type := .boolean, accessFlags := 4120, slot := 3, constantValue := 0 }]
  methods := #[k10m0, k10m1, k10m2, k10m3]
  instanceTypes := #[]
  staticTypes := #[.int, .int, .int, .boolean]
  resolved := Array.replicate 635 none
  statics := none }

def pool11 : Array CpInfo := pool [(4, .class_ 6), (1, u "java/lang/Object"), (0, u "<init>"), (0, u "()V"), (5, .class_ 16), (1, u "java/lang/StringLatin1"), (104, u "$assertionsDisabled"), (0, u "Z"), (98, .class_ 223), (1, u "java/lang/StringLatin1$LinesSpliterator"), (57, u "equals"), (0, u "([B[B)Z"), (107, .class_ 391), (0, u "java/lang/StringLatin1$CharsSpliterator")] 3

def k11m0 : Method := { name := "<init>", desc := "()V", sig := { parameters := [], returnType := none }, accessFlags := 0, code := none }
def k11c1 : Code := { maxStack := 3, maxLocals := 3, code := jdk_43_method_13_code, exceptionTable := #[], attributes := #[] }
def k11m1 : Method := { name := "equals", desc := "([B[B)Z", sig := { parameters := [(.array .byte), (.array .byte)], returnType := some .boolean }, accessFlags := 9, code := some k11c1 }
/-- java/lang/StringLatin1 -/
def k11 : Class := { plain "java/lang/StringLatin1" (some 0) with
  accessFlags := 48
  interfaces := #[]
  cf := some (fileOf pool11 14 #[.nestMembers #[390, 221]] #[{ accessFlags := 0, nameIndex := 7, descriptorIndex := 8, attributes := #[] }, { accessFlags := 9, nameIndex := 281, descriptorIndex := 282, attributes := #[] }] 48 4 #[] #[{ accessFlags := 4120, nameIndex := 121, descriptorIndex := 122, attributes := #[] }])
  fields := #[{ name := "$assertionsDisabled", type := .boolean, accessFlags := 4120, slot := 0, constantValue := 0 }]
  methods := #[k11m0, k11m1]
  instanceTypes := #[]
  staticTypes := #[.boolean]
  resolved := Array.replicate 395 none
  statics := none }

def pool12 : Array CpInfo := pool [(1, .methodref 2 3), (0, .class_ 4), (0, .nameAndType 5 6), (0, u "java/lang/Object"), (0, u "<init>"), (0, u "()V"), (1, .class_ 10), (1, u "java/lang/Number"), (2, .class_ 14), (0, u "java/io/Serializable"), (0, u "serialVersionUID"), (0, u "J")] 20

def k12c0 : Code := { maxStack := 1, maxLocals := 1, code := jdk_18_method_1_code, exceptionTable := #[], attributes := #[] }
def k12m0 : Method := { name := "<init>", desc := "()V", sig := { parameters := [], returnType := none }, accessFlags := 1, code := some k12c0 }
/-- java/lang/Number -/
def k12 : Class := { plain "java/lang/Number" (some 0) with
  accessFlags := 1057
  interfaces := #[3]
  cf := some (fileOf pool12 8 #[] #[{ accessFlags := 1, nameIndex := 5, descriptorIndex := 6, attributes := #[] }] 1057 2 #[13] #[{ accessFlags := 26, nameIndex := 15, descriptorIndex := 16, attributes := #[] }])
  fields := #[{ name := "serialVersionUID", type := .long, accessFlags := 26, slot := 0, constantValue := 0 }]
  methods := #[k12m0]
  instanceTypes := #[]
  staticTypes := #[.long]
  resolved := Array.replicate 37 none
  statics := none }

def pool13 : Array CpInfo := pool [(1, .class_ 2), (0, u "java/lang/Integer"), (16, u "digits"), (0, u "[C"), (46, u "<init>"), (17, u "DigitOnes"), (0, u "[B"), (2, u "DigitTens"), (10, .nameAndType 67 101), (0, u "()V"), (85, u "valueOf"), (0, u "(I)Ljava/lang/Integer;"), (0, .class_ 190), (0, u "java/lang/Integer$IntegerCache"), (0, .fieldref 189 192), (0, .nameAndType 193 194), (0, u "high"), (0, u "I"), (0, .fieldref 189 196), (0, .nameAndType 197 198), (0, u "cache"), (0, u "[Ljava/lang/Integer;"), (0, .methodref 1 200), (0, .nameAndType 67 201), (0, u "(I)V"), (0, .methodref 203 100), (0, .class_ 204), (0, u "java/lang/Number"), (0, .fieldref 1 206), (0, .nameAndType 207 194), (0, u "value"), (94, u "TYPE"), (0, u "Ljava/lang/Class;"), (0, .class_ 305), (0, u "java/lang/Comparable"), (0, .class_ 307), (0, u "java/lang/constant/Constable"), (0, .class_ 309), (0, u "java/lang/constant/ConstantDesc"), (0, u "MIN_VALUE"), (1, u "MAX_VALUE"), (3, u "SIZE"), (1, u "BYTES"), (1, u "serialVersionUID"), (0, u "J")] 131

def k13c0 : Code := { maxStack := 3, maxLocals := 1, code := jdk_33_method_22_code, exceptionTable := #[], attributes := #[] }
def k13m0 : Method := { name := "valueOf", desc := "(I)Ljava/lang/Integer;", sig := { parameters := [.int], returnType := some (.object "java/lang/Integer") }, accessFlags := 9, code := some k13c0 }
def k13c1 : Code := { maxStack := 2, maxLocals := 2, code := jdk_33_method_23_code, exceptionTable := #[], attributes := #[] }
def k13m1 : Method := { name := "<init>", desc := "(I)V", sig := { parameters := [.int], returnType := none }, accessFlags := 1, code := some k13c1 }
/-- java/lang/Integer -/
def k13 : Class := { plain "java/lang/Integer" (some 12) with
  accessFlags := 49
  interfaces := #[4, 6, 7]
  cf := some (fileOf pool13 1 #[.nestMembers #[189]] #[{ accessFlags := 9, nameIndex := 187, descriptorIndex := 188, attributes := #[] }, { accessFlags := 1, nameIndex := 67, descriptorIndex := 201, attributes := #[] }] 49 203 #[304, 306, 308] #[{ accessFlags := 25, nameIndex := 310, descriptorIndex := 194, attributes := #[] }, { accessFlags := 25, nameIndex := 312, descriptorIndex := 194, attributes := #[] }, { accessFlags := 25, nameIndex := 302, descriptorIndex := 303, attributes := #[] }, { accessFlags := 24, nameIndex := 19, descriptorIndex := 20, attributes := #[] }, { accessFlags := 24, nameIndex := 89, descriptorIndex := 86, attributes := #[] }, { accessFlags := 24, nameIndex := 85, descriptorIndex := 86, attributes := #[] }, { accessFlags := 18, nameIndex := 207, descriptorIndex := 194, attributes := #[] }, { accessFlags := 25, nameIndex := 316, descriptorIndex := 194, attributes := #[] }, { accessFlags := 25, nameIndex := 318, descriptorIndex := 194, attributes := #[] }, { accessFlags := 26, nameIndex := 320, descriptorIndex := 321, attributes := #[] }])
  fields := #[{ name := "MIN_VALUE", type := .int, accessFlags := 25, slot := 0, constantValue := 0 }, { name := "MAX_VALUE", type := .int, accessFlags := 25, slot := 1, constantValue := 0 }, { name := "TYPE", type := (.object "java/lang/Class"), accessFlags := 25, slot := 2, constantValue := 0 }, { name := "digits", type := (.array .char), accessFlags := 24, slot := 3, constantValue := 0 }, { name := "DigitTens", type := (.array .byte), accessFlags := 24, slot := 4, constantValue := 0 }, { name := "DigitOnes", type := (.array .byte), accessFlags := 24, slot := 5, constantValue := 0 }, { name := "value", type := .int, accessFlags := 18, slot := 0, constantValue := 0 }, { name := "SIZE", type := .int, accessFlags := 25, slot := 6, constantValue := 0 }, { name := "BYTES", type := .int, accessFlags := 25, slot := 7, constantValue := 0 }, { name := "serialVersionUID", type := .long, accessFlags := 26, slot := 8, constantValue := 0 }]
  methods := #[k13m0, k13m1]
  instanceTypes := #[.int]
  staticTypes := #[.int, .int, (.object "java/lang/Class"), (.array .char), (.array .byte), (.array .byte), .int, .int, .long]
  resolved := Array.replicate 453 none
  statics := none }

def pool14 : Array CpInfo := pool [(2, .class_ 4), (1, u "java/lang/Object"), (0, u "<init>"), (0, u "()V"), (0, .class_ 8), (0, u "java/lang/Integer"), (7, .class_ 18), (1, u "java/lang/Integer$IntegerCache"), (0, u "$assertionsDisabled"), (0, u "Z"), (26, u "high"), (0, u "I"), (8, u "archivedCache"), (0, u "[Ljava/lang/Integer;"), (12, u "cache"), (0, u "low")] 27

def k14m0 : Method := { name := "<init>", desc := "()V", sig := { parameters := [], returnType := none }, accessFlags := 2, code := none }
/-- java/lang/Integer$IntegerCache -/
def k14 : Class := { plain "java/lang/Integer$IntegerCache" (some 0) with
  accessFlags := 48
  interfaces := #[]
  cf := some (fileOf pool14 16 #[.nestHost 7] #[{ accessFlags := 2, nameIndex := 5, descriptorIndex := 6, attributes := #[] }] 48 2 #[] #[{ accessFlags := 24, nameIndex := 72, descriptorIndex := 48, attributes := #[] }, { accessFlags := 24, nameIndex := 47, descriptorIndex := 48, attributes := #[] }, { accessFlags := 24, nameIndex := 71, descriptorIndex := 58, attributes := #[] }, { accessFlags := 8, nameIndex := 57, descriptorIndex := 58, attributes := #[] }, { accessFlags := 4120, nameIndex := 19, descriptorIndex := 20, attributes := #[] }])
  fields := #[{ name := "low", type := .int, accessFlags := 24, slot := 0, constantValue := 0 }, { name := "high", type := .int, accessFlags := 24, slot := 1, constantValue := 0 }, { name := "cache", type := (.array (.object "java/lang/Integer")), accessFlags := 24, slot := 2, constantValue := 0 }, { name := "archivedCache", type := (.array (.object "java/lang/Integer")), accessFlags := 8, slot := 3, constantValue := 0 }, { name := "$assertionsDisabled", type := .boolean, accessFlags := 4120, slot := 4, constantValue := 0 }]
  methods := #[k14m0]
  instanceTypes := #[]
  staticTypes := #[.int, .int, (.array (.object "java/lang/Integer")), (.array (.object "java/lang/Integer")), .boolean]
  resolved := Array.replicate 100 none
  statics := some 1 }

def pool15 : Array CpInfo := pool [(2, .class_ 4), (1, u "java/lang/Object"), (0, u "<init>"), (0, u "()V"), (17, .class_ 26), (1, u "jdk/internal/util/Preconditions"), (28, .class_ 56), (0, u "jdk/internal/util/Preconditions$4"), (57, .class_ 115), (0, u "jdk/internal/util/Preconditions$1"), (7, u "SIOOBE_FORMATTER"), (0, u "Ljava/util/function/BiFunction;"), (0, .class_ 126), (0, u "jdk/internal/util/Preconditions$2"), (3, u "AIOOBE_FORMATTER"), (0, .class_ 132), (0, u "jdk/internal/util/Preconditions$3"), (3, u "IOOBE_FORMATTER")] 57

def k15m0 : Method := { name := "<init>", desc := "()V", sig := { parameters := [], returnType := none }, accessFlags := 1, code := none }
/-- jdk/internal/util/Preconditions -/
def k15 : Class := { plain "jdk/internal/util/Preconditions" (some 0) with
  accessFlags := 33
  interfaces := #[]
  cf := some (fileOf pool15 24 #[.nestMembers #[55, 131, 125, 114]] #[{ accessFlags := 1, nameIndex := 5, descriptorIndex := 6, attributes := #[] }] 33 2 #[] #[{ accessFlags := 25, nameIndex := 123, descriptorIndex := 124, attributes := #[] }, { accessFlags := 25, nameIndex := 130, descriptorIndex := 124, attributes := #[] }, { accessFlags := 25, nameIndex := 136, descriptorIndex := 124, attributes := #[] }])
  fields := #[{ name := "SIOOBE_FORMATTER", type := (.object "java/util/function/BiFunction"), accessFlags := 25, slot := 0, constantValue := 0 }, { name := "AIOOBE_FORMATTER", type := (.object "java/util/function/BiFunction"), accessFlags := 25, slot := 1, constantValue := 0 }, { name := "IOOBE_FORMATTER", type := (.object "java/util/function/BiFunction"), accessFlags := 25, slot := 2, constantValue := 0 }]
  methods := #[k15m0]
  instanceTypes := #[]
  staticTypes := #[(.object "java/util/function/BiFunction"), (.object "java/util/function/BiFunction"), (.object "java/util/function/BiFunction")]
  resolved := Array.replicate 194 none
  statics := some 2 }

def pool16 : Array CpInfo := pool [(9, u "<init>"), (6, .class_ 18), (1, u "java/lang/Object"), (0, u "()V"), (1, .class_ 23), (1, u "jdk/internal/util/ArraysSupport"), (0, u "LOG2_ARRAY_LONG_INDEX_SCALE"), (0, u "I"), (2, u "U"), (0, u "Ljdk/internal/misc/Unsafe;"), (8, u "BIG_ENDIAN"), (0, u "Z"), (8, u "LOG2_BYTE_BIT_SIZE"), (4, u "LOG2_ARRAY_INT_INDEX_SCALE"), (54, u "JLA"), (0, u "Ljdk/internal/access/JavaLangAccess;"), (11, u "LOG2_ARRAY_BOOLEAN_INDEX_SCALE"), (9, u "LOG2_ARRAY_BYTE_INDEX_SCALE"), (5, u "LOG2_ARRAY_CHAR_INDEX_SCALE"), (5, u "LOG2_ARRAY_SHORT_INDEX_SCALE"), (18, u "LOG2_ARRAY_FLOAT_INDEX_SCALE"), (24, u "LOG2_ARRAY_DOUBLE_INDEX_SCALE"), (89, u "T_BOOLEAN"), (2, u "T_CHAR"), (1, u "T_FLOAT"), (1, u "T_DOUBLE"), (1, u "T_BYTE"), (1, u "T_SHORT"), (1, u "T_INT"), (1, u "T_LONG"), (1, u "SOFT_MAX_ARRAY_LENGTH")] 83

def k16m0 : Method := { name := "<init>", desc := "()V", sig := { parameters := [], returnType := none }, accessFlags := 2, code := none }
/-- jdk/internal/util/ArraysSupport -/
def k16 : Class := { plain "jdk/internal/util/ArraysSupport" (some 0) with
  accessFlags := 33
  interfaces := #[]
  cf := some (fileOf pool16 21 #[] #[{ accessFlags := 2, nameIndex := 9, descriptorIndex := 19, attributes := #[] }] 33 16 #[] #[{ accessFlags := 24, nameIndex := 28, descriptorIndex := 29, attributes := #[] }, { accessFlags := 26, nameIndex := 38, descriptorIndex := 39, attributes := #[] }, { accessFlags := 25, nameIndex := 121, descriptorIndex := 25, attributes := #[] }, { accessFlags := 25, nameIndex := 131, descriptorIndex := 25, attributes := #[] }, { accessFlags := 25, nameIndex := 137, descriptorIndex := 25, attributes := #[] }, { accessFlags := 25, nameIndex := 143, descriptorIndex := 25, attributes := #[] }, { accessFlags := 25, nameIndex := 53, descriptorIndex := 25, attributes := #[] }, { accessFlags := 25, nameIndex := 24, descriptorIndex := 25, attributes := #[] }, { accessFlags := 25, nameIndex := 162, descriptorIndex := 25, attributes := #[] }, { accessFlags := 25, nameIndex := 187, descriptorIndex := 25, attributes := #[] }, { accessFlags := 26, nameIndex := 48, descriptorIndex := 25, attributes := #[] }, { accessFlags := 25, nameIndex := 277, descriptorIndex := 25, attributes := #[] }, { accessFlags := 25, nameIndex := 280, descriptorIndex := 25, attributes := #[] }, { accessFlags := 25, nameIndex := 282, descriptorIndex := 25, attributes := #[] }, { accessFlags := 25, nameIndex := 284, descriptorIndex := 25, attributes := #[] }, { accessFlags := 25, nameIndex := 286, descriptorIndex := 25, attributes := #[] }, { accessFlags := 25, nameIndex := 288, descriptorIndex := 25, attributes := #[] }, { accessFlags := 25, nameIndex := 290, descriptorIndex := 25, attributes := #[] }, { accessFlags := 25, nameIndex := 292, descriptorIndex := 25, attributes := #[] }, { accessFlags := 26, nameIndex := 108, descriptorIndex := 109, attributes := #[] }, { accessFlags := 25, nameIndex := 294, descriptorIndex := 25, attributes := #[] }])
  fields := #[{ name := "U", type := (.object "jdk/internal/misc/Unsafe"), accessFlags := 24, slot := 0, constantValue := 0 }, { name := "BIG_ENDIAN", type := .boolean, accessFlags := 26, slot := 1, constantValue := 0 }, { name := "LOG2_ARRAY_BOOLEAN_INDEX_SCALE", type := .int, accessFlags := 25, slot := 2, constantValue := 0 }, { name := "LOG2_ARRAY_BYTE_INDEX_SCALE", type := .int, accessFlags := 25, slot := 3, constantValue := 0 }, { name := "LOG2_ARRAY_CHAR_INDEX_SCALE", type := .int, accessFlags := 25, slot := 4, constantValue := 0 }, { name := "LOG2_ARRAY_SHORT_INDEX_SCALE", type := .int, accessFlags := 25, slot := 5, constantValue := 0 }, { name := "LOG2_ARRAY_INT_INDEX_SCALE", type := .int, accessFlags := 25, slot := 6, constantValue := 0 }, { name := "LOG2_ARRAY_LONG_INDEX_SCALE", type := .int, accessFlags := 25, slot := 7, constantValue := 0 }, { name := "LOG2_ARRAY_FLOAT_INDEX_SCALE", type := .int, accessFlags := 25, slot := 8, constantValue := 0 }, { name := "LOG2_ARRAY_DOUBLE_INDEX_SCALE", type := .int, accessFlags := 25, slot := 9, constantValue := 0 }, { name := "LOG2_BYTE_BIT_SIZE", type := .int, accessFlags := 26, slot := 10, constantValue := 0 }, { name := "T_BOOLEAN", type := .int, accessFlags := 25, slot := 11, constantValue := 0 }, { name := "T_CHAR", type := .int, accessFlags := 25, slot := 12, constantValue := 0 }, { name := "T_FLOAT", type := .int, accessFlags := 25, slot := 13, constantValue := 0 }, { name := "T_DOUBLE", type := .int, accessFlags := 25, slot := 14, constantValue := 0 }, { name := "T_BYTE", type := .int, accessFlags := 25, slot := 15, constantValue := 0 }, { name := "T_SHORT", type := .int, accessFlags := 25, slot := 16, constantValue := 0 }, { name := "T_INT", type := .int, accessFlags := 25, slot := 17, constantValue := 0 }, { name := "T_LONG", type := .int, accessFlags := 25, slot := 18, constantValue := 0 }, { name := "JLA", type := (.object "jdk/internal/access/JavaLangAccess"), accessFlags := 26, slot := 19, constantValue := 0 }, { name := "SOFT_MAX_ARRAY_LENGTH", type := .int, accessFlags := 25, slot := 20, constantValue := 0 }]
  methods := #[k16m0]
  instanceTypes := #[]
  staticTypes := #[(.object "jdk/internal/misc/Unsafe"), .boolean, .int, .int, .int, .int, .int, .int, .int, .int, .int, .int, .int, .int, .int, .int, .int, .int, .int, (.object "jdk/internal/access/JavaLangAccess"), .int]
  resolved := Array.replicate 378 none
  statics := none }

def pool17 : Array CpInfo := pool [(1, u "java/lang/Cloneable"), (0, .class_ 1), (0, u "java/lang/Object"), (0, .class_ 3)] 3

/-- java/lang/Cloneable -/
def k17 : Class := { plain "java/lang/Cloneable" (some 0) with
  accessFlags := 1537
  interfaces := #[]
  cf := some (fileOf pool17 2 #[] #[] 1537 4 #[] #[])
  fields := #[]
  methods := #[]
  instanceTypes := #[]
  staticTypes := #[]
  resolved := Array.replicate 8 none
  statics := none }

/-- the primitive byte -/
def k18 : Class := { plain "byte" none with kind := .primitive 'B', accessFlags := 0x411 }
/-- [B -/
def k19 : Class := { plain "[B" (some 0) with kind := .array 18 .byte, interfaces := #[17, 3], accessFlags := 1041 }

/-- the primitive char -/
def k20 : Class := { plain "char" none with kind := .primitive 'C', accessFlags := 0x411 }
/-- [C -/
def k21 : Class := { plain "[C" (some 0) with kind := .array 20 .char, interfaces := #[17, 3], accessFlags := 1041 }

/-- the primitive int -/
def k22 : Class := { plain "int" none with kind := .primitive 'I', accessFlags := 0x411 }
/-- [I -/
def k23 : Class := { plain "[I" (some 0) with kind := .array 22 .int, interfaces := #[17, 3], accessFlags := 1041 }

/-- [Ljava/lang/Integer; -/
def k24 : Class := { plain "[Ljava/lang/Integer;" (some 0) with kind := .array 13 (.object "java/lang/Integer"), interfaces := #[17, 3], accessFlags := 1041 }

def heap : Heap := #[{ cls := 8, slots := #[.long 0, .int 1, .null, .int 0, .null, .int 0, .int 0], vm := .statics 8 },
  { cls := 14, slots := #[.int 0, .int 127, .ref 3, .null, .int 0], vm := .statics 14 },
  { cls := 15, slots := #[.null, .null, .null], vm := .statics 15 },
  { cls := 24, slots := #[.ref 4, .ref 5, .ref 6, .ref 7, .ref 8, .ref 9, .ref 10, .ref 11, .ref 12, .ref 13, .ref 14, .ref 15, .ref 16, .ref 17, .ref 18, .ref 19, .ref 20, .ref 21, .ref 22, .ref 23, .ref 24, .ref 25, .ref 26, .ref 27, .ref 28, .ref 29, .ref 30, .ref 31, .ref 32, .ref 33, .ref 34, .ref 35, .ref 36, .ref 37, .ref 38, .ref 39, .ref 40, .ref 41, .ref 42, .ref 43, .ref 44, .ref 45, .ref 46, .ref 47, .ref 48, .ref 49, .ref 50, .ref 51, .ref 52, .ref 53, .ref 54, .ref 55, .ref 56, .ref 57, .ref 58, .ref 59, .ref 60, .ref 61, .ref 62, .ref 63, .ref 64, .ref 65, .ref 66, .ref 67, .ref 68, .ref 69, .ref 70, .ref 71, .ref 72, .ref 73, .ref 74, .ref 75, .ref 76, .ref 77, .ref 78, .ref 79, .ref 80, .ref 81, .ref 82, .ref 83, .ref 84, .ref 85, .ref 86, .ref 87, .ref 88, .ref 89, .ref 90, .ref 91, .ref 92, .ref 93, .ref 94, .ref 95, .ref 96, .ref 97, .ref 98, .ref 99, .ref 100, .ref 101, .ref 102, .ref 103, .ref 104, .ref 105, .ref 106, .ref 107, .ref 108, .ref 109, .ref 110, .ref 111, .ref 112, .ref 113, .ref 114, .ref 115, .ref 116, .ref 117, .ref 118, .ref 119, .ref 120, .ref 121, .ref 122, .ref 123, .ref 124, .ref 125, .ref 126, .ref 127, .ref 128, .ref 129, .ref 130, .ref 131, .ref 132, .ref 133, .ref 134, .ref 135, .ref 136, .ref 137, .ref 138, .ref 139, .ref 140, .ref 141, .ref 142, .ref 143, .ref 144, .ref 145, .ref 146, .ref 147, .ref 148, .ref 149, .ref 150, .ref 151, .ref 152, .ref 153, .ref 154, .ref 155, .ref 156, .ref 157, .ref 158, .ref 159, .ref 160, .ref 161, .ref 162, .ref 163, .ref 164, .ref 165, .ref 166, .ref 167, .ref 168, .ref 169, .ref 170, .ref 171, .ref 172, .ref 173, .ref 174, .ref 175, .ref 176, .ref 177, .ref 178, .ref 179, .ref 180, .ref 181, .ref 182, .ref 183, .ref 184, .ref 185, .ref 186, .ref 187, .ref 188, .ref 189, .ref 190, .ref 191, .ref 192, .ref 193, .ref 194, .ref 195, .ref 196, .ref 197, .ref 198, .ref 199, .ref 200, .ref 201, .ref 202, .ref 203, .ref 204, .ref 205, .ref 206, .ref 207, .ref 208, .ref 209, .ref 210, .ref 211, .ref 212, .ref 213, .ref 214, .ref 215, .ref 216, .ref 217, .ref 218, .ref 219, .ref 220, .ref 221, .ref 222, .ref 223, .ref 224, .ref 225, .ref 226, .ref 227, .ref 228, .ref 229, .ref 230, .ref 231, .ref 232, .ref 233, .ref 234, .ref 235, .ref 236, .ref 237, .ref 238, .ref 239, .ref 240, .ref 241, .ref 242, .ref 243, .ref 244, .ref 245, .ref 246, .ref 247, .ref 248, .ref 249, .ref 250, .ref 251, .ref 252, .ref 253, .ref 254, .ref 255, .ref 256, .ref 257, .ref 258, .ref 259], vm := .none },
  { cls := 13, slots := #[.int (-128)], vm := .none },
  { cls := 13, slots := #[.int (-127)], vm := .none },
  { cls := 13, slots := #[.int (-126)], vm := .none },
  { cls := 13, slots := #[.int (-125)], vm := .none },
  { cls := 13, slots := #[.int (-124)], vm := .none },
  { cls := 13, slots := #[.int (-123)], vm := .none },
  { cls := 13, slots := #[.int (-122)], vm := .none },
  { cls := 13, slots := #[.int (-121)], vm := .none },
  { cls := 13, slots := #[.int (-120)], vm := .none },
  { cls := 13, slots := #[.int (-119)], vm := .none },
  { cls := 13, slots := #[.int (-118)], vm := .none },
  { cls := 13, slots := #[.int (-117)], vm := .none },
  { cls := 13, slots := #[.int (-116)], vm := .none },
  { cls := 13, slots := #[.int (-115)], vm := .none },
  { cls := 13, slots := #[.int (-114)], vm := .none },
  { cls := 13, slots := #[.int (-113)], vm := .none },
  { cls := 13, slots := #[.int (-112)], vm := .none },
  { cls := 13, slots := #[.int (-111)], vm := .none },
  { cls := 13, slots := #[.int (-110)], vm := .none },
  { cls := 13, slots := #[.int (-109)], vm := .none },
  { cls := 13, slots := #[.int (-108)], vm := .none },
  { cls := 13, slots := #[.int (-107)], vm := .none },
  { cls := 13, slots := #[.int (-106)], vm := .none },
  { cls := 13, slots := #[.int (-105)], vm := .none },
  { cls := 13, slots := #[.int (-104)], vm := .none },
  { cls := 13, slots := #[.int (-103)], vm := .none },
  { cls := 13, slots := #[.int (-102)], vm := .none },
  { cls := 13, slots := #[.int (-101)], vm := .none },
  { cls := 13, slots := #[.int (-100)], vm := .none },
  { cls := 13, slots := #[.int (-99)], vm := .none },
  { cls := 13, slots := #[.int (-98)], vm := .none },
  { cls := 13, slots := #[.int (-97)], vm := .none },
  { cls := 13, slots := #[.int (-96)], vm := .none },
  { cls := 13, slots := #[.int (-95)], vm := .none },
  { cls := 13, slots := #[.int (-94)], vm := .none },
  { cls := 13, slots := #[.int (-93)], vm := .none },
  { cls := 13, slots := #[.int (-92)], vm := .none },
  { cls := 13, slots := #[.int (-91)], vm := .none },
  { cls := 13, slots := #[.int (-90)], vm := .none },
  { cls := 13, slots := #[.int (-89)], vm := .none },
  { cls := 13, slots := #[.int (-88)], vm := .none },
  { cls := 13, slots := #[.int (-87)], vm := .none },
  { cls := 13, slots := #[.int (-86)], vm := .none },
  { cls := 13, slots := #[.int (-85)], vm := .none },
  { cls := 13, slots := #[.int (-84)], vm := .none },
  { cls := 13, slots := #[.int (-83)], vm := .none },
  { cls := 13, slots := #[.int (-82)], vm := .none },
  { cls := 13, slots := #[.int (-81)], vm := .none },
  { cls := 13, slots := #[.int (-80)], vm := .none },
  { cls := 13, slots := #[.int (-79)], vm := .none },
  { cls := 13, slots := #[.int (-78)], vm := .none },
  { cls := 13, slots := #[.int (-77)], vm := .none },
  { cls := 13, slots := #[.int (-76)], vm := .none },
  { cls := 13, slots := #[.int (-75)], vm := .none },
  { cls := 13, slots := #[.int (-74)], vm := .none },
  { cls := 13, slots := #[.int (-73)], vm := .none },
  { cls := 13, slots := #[.int (-72)], vm := .none },
  { cls := 13, slots := #[.int (-71)], vm := .none },
  { cls := 13, slots := #[.int (-70)], vm := .none },
  { cls := 13, slots := #[.int (-69)], vm := .none },
  { cls := 13, slots := #[.int (-68)], vm := .none },
  { cls := 13, slots := #[.int (-67)], vm := .none },
  { cls := 13, slots := #[.int (-66)], vm := .none },
  { cls := 13, slots := #[.int (-65)], vm := .none },
  { cls := 13, slots := #[.int (-64)], vm := .none },
  { cls := 13, slots := #[.int (-63)], vm := .none },
  { cls := 13, slots := #[.int (-62)], vm := .none },
  { cls := 13, slots := #[.int (-61)], vm := .none },
  { cls := 13, slots := #[.int (-60)], vm := .none },
  { cls := 13, slots := #[.int (-59)], vm := .none },
  { cls := 13, slots := #[.int (-58)], vm := .none },
  { cls := 13, slots := #[.int (-57)], vm := .none },
  { cls := 13, slots := #[.int (-56)], vm := .none },
  { cls := 13, slots := #[.int (-55)], vm := .none },
  { cls := 13, slots := #[.int (-54)], vm := .none },
  { cls := 13, slots := #[.int (-53)], vm := .none },
  { cls := 13, slots := #[.int (-52)], vm := .none },
  { cls := 13, slots := #[.int (-51)], vm := .none },
  { cls := 13, slots := #[.int (-50)], vm := .none },
  { cls := 13, slots := #[.int (-49)], vm := .none },
  { cls := 13, slots := #[.int (-48)], vm := .none },
  { cls := 13, slots := #[.int (-47)], vm := .none },
  { cls := 13, slots := #[.int (-46)], vm := .none },
  { cls := 13, slots := #[.int (-45)], vm := .none },
  { cls := 13, slots := #[.int (-44)], vm := .none },
  { cls := 13, slots := #[.int (-43)], vm := .none },
  { cls := 13, slots := #[.int (-42)], vm := .none },
  { cls := 13, slots := #[.int (-41)], vm := .none },
  { cls := 13, slots := #[.int (-40)], vm := .none },
  { cls := 13, slots := #[.int (-39)], vm := .none },
  { cls := 13, slots := #[.int (-38)], vm := .none },
  { cls := 13, slots := #[.int (-37)], vm := .none },
  { cls := 13, slots := #[.int (-36)], vm := .none },
  { cls := 13, slots := #[.int (-35)], vm := .none },
  { cls := 13, slots := #[.int (-34)], vm := .none },
  { cls := 13, slots := #[.int (-33)], vm := .none },
  { cls := 13, slots := #[.int (-32)], vm := .none },
  { cls := 13, slots := #[.int (-31)], vm := .none },
  { cls := 13, slots := #[.int (-30)], vm := .none },
  { cls := 13, slots := #[.int (-29)], vm := .none },
  { cls := 13, slots := #[.int (-28)], vm := .none },
  { cls := 13, slots := #[.int (-27)], vm := .none },
  { cls := 13, slots := #[.int (-26)], vm := .none },
  { cls := 13, slots := #[.int (-25)], vm := .none },
  { cls := 13, slots := #[.int (-24)], vm := .none },
  { cls := 13, slots := #[.int (-23)], vm := .none },
  { cls := 13, slots := #[.int (-22)], vm := .none },
  { cls := 13, slots := #[.int (-21)], vm := .none },
  { cls := 13, slots := #[.int (-20)], vm := .none },
  { cls := 13, slots := #[.int (-19)], vm := .none },
  { cls := 13, slots := #[.int (-18)], vm := .none },
  { cls := 13, slots := #[.int (-17)], vm := .none },
  { cls := 13, slots := #[.int (-16)], vm := .none },
  { cls := 13, slots := #[.int (-15)], vm := .none },
  { cls := 13, slots := #[.int (-14)], vm := .none },
  { cls := 13, slots := #[.int (-13)], vm := .none },
  { cls := 13, slots := #[.int (-12)], vm := .none },
  { cls := 13, slots := #[.int (-11)], vm := .none },
  { cls := 13, slots := #[.int (-10)], vm := .none },
  { cls := 13, slots := #[.int (-9)], vm := .none },
  { cls := 13, slots := #[.int (-8)], vm := .none },
  { cls := 13, slots := #[.int (-7)], vm := .none },
  { cls := 13, slots := #[.int (-6)], vm := .none },
  { cls := 13, slots := #[.int (-5)], vm := .none },
  { cls := 13, slots := #[.int (-4)], vm := .none },
  { cls := 13, slots := #[.int (-3)], vm := .none },
  { cls := 13, slots := #[.int (-2)], vm := .none },
  { cls := 13, slots := #[.int (-1)], vm := .none },
  { cls := 13, slots := #[.int (0)], vm := .none },
  { cls := 13, slots := #[.int (1)], vm := .none },
  { cls := 13, slots := #[.int (2)], vm := .none },
  { cls := 13, slots := #[.int (3)], vm := .none },
  { cls := 13, slots := #[.int (4)], vm := .none },
  { cls := 13, slots := #[.int (5)], vm := .none },
  { cls := 13, slots := #[.int (6)], vm := .none },
  { cls := 13, slots := #[.int (7)], vm := .none },
  { cls := 13, slots := #[.int (8)], vm := .none },
  { cls := 13, slots := #[.int (9)], vm := .none },
  { cls := 13, slots := #[.int (10)], vm := .none },
  { cls := 13, slots := #[.int (11)], vm := .none },
  { cls := 13, slots := #[.int (12)], vm := .none },
  { cls := 13, slots := #[.int (13)], vm := .none },
  { cls := 13, slots := #[.int (14)], vm := .none },
  { cls := 13, slots := #[.int (15)], vm := .none },
  { cls := 13, slots := #[.int (16)], vm := .none },
  { cls := 13, slots := #[.int (17)], vm := .none },
  { cls := 13, slots := #[.int (18)], vm := .none },
  { cls := 13, slots := #[.int (19)], vm := .none },
  { cls := 13, slots := #[.int (20)], vm := .none },
  { cls := 13, slots := #[.int (21)], vm := .none },
  { cls := 13, slots := #[.int (22)], vm := .none },
  { cls := 13, slots := #[.int (23)], vm := .none },
  { cls := 13, slots := #[.int (24)], vm := .none },
  { cls := 13, slots := #[.int (25)], vm := .none },
  { cls := 13, slots := #[.int (26)], vm := .none },
  { cls := 13, slots := #[.int (27)], vm := .none },
  { cls := 13, slots := #[.int (28)], vm := .none },
  { cls := 13, slots := #[.int (29)], vm := .none },
  { cls := 13, slots := #[.int (30)], vm := .none },
  { cls := 13, slots := #[.int (31)], vm := .none },
  { cls := 13, slots := #[.int (32)], vm := .none },
  { cls := 13, slots := #[.int (33)], vm := .none },
  { cls := 13, slots := #[.int (34)], vm := .none },
  { cls := 13, slots := #[.int (35)], vm := .none },
  { cls := 13, slots := #[.int (36)], vm := .none },
  { cls := 13, slots := #[.int (37)], vm := .none },
  { cls := 13, slots := #[.int (38)], vm := .none },
  { cls := 13, slots := #[.int (39)], vm := .none },
  { cls := 13, slots := #[.int (40)], vm := .none },
  { cls := 13, slots := #[.int (41)], vm := .none },
  { cls := 13, slots := #[.int (42)], vm := .none },
  { cls := 13, slots := #[.int (43)], vm := .none },
  { cls := 13, slots := #[.int (44)], vm := .none },
  { cls := 13, slots := #[.int (45)], vm := .none },
  { cls := 13, slots := #[.int (46)], vm := .none },
  { cls := 13, slots := #[.int (47)], vm := .none },
  { cls := 13, slots := #[.int (48)], vm := .none },
  { cls := 13, slots := #[.int (49)], vm := .none },
  { cls := 13, slots := #[.int (50)], vm := .none },
  { cls := 13, slots := #[.int (51)], vm := .none },
  { cls := 13, slots := #[.int (52)], vm := .none },
  { cls := 13, slots := #[.int (53)], vm := .none },
  { cls := 13, slots := #[.int (54)], vm := .none },
  { cls := 13, slots := #[.int (55)], vm := .none },
  { cls := 13, slots := #[.int (56)], vm := .none },
  { cls := 13, slots := #[.int (57)], vm := .none },
  { cls := 13, slots := #[.int (58)], vm := .none },
  { cls := 13, slots := #[.int (59)], vm := .none },
  { cls := 13, slots := #[.int (60)], vm := .none },
  { cls := 13, slots := #[.int (61)], vm := .none },
  { cls := 13, slots := #[.int (62)], vm := .none },
  { cls := 13, slots := #[.int (63)], vm := .none },
  { cls := 13, slots := #[.int (64)], vm := .none },
  { cls := 13, slots := #[.int (65)], vm := .none },
  { cls := 13, slots := #[.int (66)], vm := .none },
  { cls := 13, slots := #[.int (67)], vm := .none },
  { cls := 13, slots := #[.int (68)], vm := .none },
  { cls := 13, slots := #[.int (69)], vm := .none },
  { cls := 13, slots := #[.int (70)], vm := .none },
  { cls := 13, slots := #[.int (71)], vm := .none },
  { cls := 13, slots := #[.int (72)], vm := .none },
  { cls := 13, slots := #[.int (73)], vm := .none },
  { cls := 13, slots := #[.int (74)], vm := .none },
  { cls := 13, slots := #[.int (75)], vm := .none },
  { cls := 13, slots := #[.int (76)], vm := .none },
  { cls := 13, slots := #[.int (77)], vm := .none },
  { cls := 13, slots := #[.int (78)], vm := .none },
  { cls := 13, slots := #[.int (79)], vm := .none },
  { cls := 13, slots := #[.int (80)], vm := .none },
  { cls := 13, slots := #[.int (81)], vm := .none },
  { cls := 13, slots := #[.int (82)], vm := .none },
  { cls := 13, slots := #[.int (83)], vm := .none },
  { cls := 13, slots := #[.int (84)], vm := .none },
  { cls := 13, slots := #[.int (85)], vm := .none },
  { cls := 13, slots := #[.int (86)], vm := .none },
  { cls := 13, slots := #[.int (87)], vm := .none },
  { cls := 13, slots := #[.int (88)], vm := .none },
  { cls := 13, slots := #[.int (89)], vm := .none },
  { cls := 13, slots := #[.int (90)], vm := .none },
  { cls := 13, slots := #[.int (91)], vm := .none },
  { cls := 13, slots := #[.int (92)], vm := .none },
  { cls := 13, slots := #[.int (93)], vm := .none },
  { cls := 13, slots := #[.int (94)], vm := .none },
  { cls := 13, slots := #[.int (95)], vm := .none },
  { cls := 13, slots := #[.int (96)], vm := .none },
  { cls := 13, slots := #[.int (97)], vm := .none },
  { cls := 13, slots := #[.int (98)], vm := .none },
  { cls := 13, slots := #[.int (99)], vm := .none },
  { cls := 13, slots := #[.int (100)], vm := .none },
  { cls := 13, slots := #[.int (101)], vm := .none },
  { cls := 13, slots := #[.int (102)], vm := .none },
  { cls := 13, slots := #[.int (103)], vm := .none },
  { cls := 13, slots := #[.int (104)], vm := .none },
  { cls := 13, slots := #[.int (105)], vm := .none },
  { cls := 13, slots := #[.int (106)], vm := .none },
  { cls := 13, slots := #[.int (107)], vm := .none },
  { cls := 13, slots := #[.int (108)], vm := .none },
  { cls := 13, slots := #[.int (109)], vm := .none },
  { cls := 13, slots := #[.int (110)], vm := .none },
  { cls := 13, slots := #[.int (111)], vm := .none },
  { cls := 13, slots := #[.int (112)], vm := .none },
  { cls := 13, slots := #[.int (113)], vm := .none },
  { cls := 13, slots := #[.int (114)], vm := .none },
  { cls := 13, slots := #[.int (115)], vm := .none },
  { cls := 13, slots := #[.int (116)], vm := .none },
  { cls := 13, slots := #[.int (117)], vm := .none },
  { cls := 13, slots := #[.int (118)], vm := .none },
  { cls := 13, slots := #[.int (119)], vm := .none },
  { cls := 13, slots := #[.int (120)], vm := .none },
  { cls := 13, slots := #[.int (121)], vm := .none },
  { cls := 13, slots := #[.int (122)], vm := .none },
  { cls := 13, slots := #[.int (123)], vm := .none },
  { cls := 13, slots := #[.int (124)], vm := .none },
  { cls := 13, slots := #[.int (125)], vm := .none },
  { cls := 13, slots := #[.int (126)], vm := .none },
  { cls := 13, slots := #[.int (127)], vm := .none }]
def classes : Array Class := #[k0, k1, k2, k3, k4, k5, k6, k7, k8, k9, k10, k11, k12, k13, k14, k15, k16, k17, k18, k19, k20, k21, k22, k23, k24]
def interned : List (Array UInt16 × Addr) := []
def slotsUsed : Nat := 527
def theMethod : MethodId := ⟨1, 6⟩
def args0 : Array Value := #[.long 5, .long 6, .long 7, .long 8, .int 0]
def aboutOver (below : List Frame) : State where
  vm := { classes := classes, interned := interned.toArray }
  heap := heap
  slotsUsed := slotsUsed
  threads := #[{ frames := .invoking theMethod args0 :: below }]
def below0 : List Frame := [.native { method := ⟨0, 0⟩, args := #[] }]
def about1 : State := aboutOver below0
def p0 : Program := .bare "" "" ""
def e0 : Env := launch0.env 0 0 0
theorem w_frames : about1.frames = Frame.invoking theMethod args0 :: below0 := rfl
set_option maxRecDepth 65536 in
theorem w_args : argsFit about1.vm theMethod args0 = true := by decide +kernel
set_option maxRecDepth 65536 in
theorem w_heap : heapFits about1 = true := by decide +kernel
set_option maxRecDepth 65536 in
theorem w_runnable : about1.curStatus? = some .runnable := by decide +kernel
set_option maxRecDepth 65536 in
theorem w_alone : about1.alone = true := by decide +kernel
set_option maxRecDepth 65536 in
theorem w_named : about1.methodNamed? x = some theMethod := by decide +kernel
set_option maxRecDepth 65536 in
theorem w_hears : about1.hears theMethod below0 = true := by decide +kernel
set_option maxRecDepth 65536 in
theorem w_ripe : about1.ripe theMethod args0 below0 = true := by decide +kernel
theorem w_running : about1.status = .running := rfl
set_option maxRecDepth 65536 in
theorem w_room : about1.hasRoom e0.platform room_1 = true :=
  launch0.hasRoom_least _ room_1 (by decide +kernel) (by decide +kernel) (by decide +kernel) (by decide +kernel) (by decide +kernel) (by decide +kernel)
theorem allAtoms_all (ts : List Jvm.Cond) (a : Array Jvm.Value) (st : Jvm.State) : (allAtoms ts).before a st = ts.all (fun c => c.before a st) := by
  induction ts with
  | nil => rfl
  | cons c t ih =>
    show (Jvm.Cond.and c (allAtoms t)).before a st = _
    rw [Jvm.Cond.before_and, ih, List.all_cons]
def words1 : List Jvm.Cond := Jvm.Cond.code x code maxLocals ret :: tables_1
/-- a 'code' word, met by the world's own term for the bytes: nothing is compared byte by byte -/
theorem code_word {y : MethodName} {bytes : ByteArray} {mx : Nat} {rt : Option FieldType} {a : Array Value} {s : State} {m : MethodId} {meth : Method} {c : Code} (h1 : s.methodNamed? y = some m) (h2 : s.vm.method? m = some meth) (h3 : meth.code = some c) (h4 : c.code = bytes)
    (h5 : (c.maxLocals == mx && c.exceptionTable.isEmpty && decide (c.maxStack ≤ mostOperands) && decide (meth.sig.returnType = rt) && !meth.locks && decide (parseMethodDescriptor y.desc = some meth.sig)) = true) : (Jvm.Cond.code y bytes mx rt).before a s = true := by
  simp only [Bool.and_eq_true, beq_iff_eq, Bool.not_eq_true', decide_eq_true_eq] at h5
  obtain ⟨⟨⟨⟨⟨g1, g2⟩, g3⟩, g4⟩, g5⟩, g6⟩ := h5
  simp [Cond.before, Cond.holds, Cond.value, h1, h2, h3, h4, g1, g2, g3, g4, g5, g6]
def isCode : Jvm.Cond → Bool
  | .code _ _ _ _ => true
  | _ => false
theorem all_split {L : List Jvm.Cond} {P : Jvm.Cond → Bool} (h1 : L.all (fun c => isCode c || P c) = true) (h2 : ∀ c ∈ L.filter isCode, P c = true) : L.all P = true := by
  refine List.all_eq_true.mpr fun c hc => ?_
  have h := List.all_eq_true.mp h1 c hc
  rcases Bool.eq_false_or_eq_true (isCode c) with hi | hi
  · exact h2 c (List.mem_filter.mpr ⟨hc, hi⟩)
  · simpa [hi] using h
set_option maxRecDepth 65536 in
theorem w_c0 : (Jvm.Cond.code x code maxLocals ret).before args0 about1 = true := code_word (m := ⟨1, 6⟩) (meth := k1m6) (c := k1c6) (by decide +kernel) rfl rfl rfl (by decide +kernel)
set_option maxRecDepth 65536 in
theorem w_c1 : (Jvm.Cond.code ({ cls := "com/example/bylaws_for_tables/bylawsfortables/FindingKeyEqualsPinLaw", name := "field", desc := "(JI)J" } : Jvm.MethodName) method_6_code (3 : Nat) (Option.some Jvm.ClassFile.FieldType.long)).before args0 about1 = true := code_word (m := ⟨1, 5⟩) (meth := k1m5) (c := k1c5) (by decide +kernel) rfl rfl rfl (by decide +kernel)
set_option maxRecDepth 65536 in
theorem w_c2 : (Jvm.Cond.code ({ cls := "com/example/bylaws_for_tables/bylawsfortables/FindingKeyEqualsPinLaw", name := "str", desc := "(J)Ljava/lang/String;" } : Jvm.MethodName) method_4_code (4 : Nat) (Option.some (Jvm.ClassFile.FieldType.object "java/lang/String"))).before args0 about1 = true := code_word (m := ⟨1, 3⟩) (meth := k1m3) (c := k1c3) (by decide +kernel) rfl rfl rfl (by decide +kernel)
set_option maxRecDepth 65536 in
theorem w_c3 : (Jvm.Cond.code ({ cls := "com/example/bylaws_for_tables/bylawsfortables/FindingKeyEqualsPinLaw", name := "len", desc := "(J)I" } : Jvm.MethodName) method_2_code (2 : Nat) (Option.some Jvm.ClassFile.FieldType.int)).before args0 about1 = true := code_word (m := ⟨1, 1⟩) (meth := k1m1) (c := k1c1) (by decide +kernel) rfl rfl rfl (by decide +kernel)
set_option maxRecDepth 65536 in
theorem w_c4 : (Jvm.Cond.code ({ cls := "java/lang/String", name := "<init>", desc := "([C)V" } : Jvm.MethodName) jdk_42_method_3_code (2 : Nat) (Option.none : Option Jvm.ClassFile.FieldType)).before args0 about1 = true := code_word (m := ⟨8, 1⟩) (meth := k8m1) (c := k8c1) (by decide +kernel) rfl rfl rfl (by decide +kernel)
set_option maxRecDepth 65536 in
theorem w_c5 : (Jvm.Cond.code ({ cls := "java/lang/String", name := "<init>", desc := "([CIILjava/lang/Void;)V" } : Jvm.MethodName) jdk_42_method_149_code (6 : Nat) (Option.none : Option Jvm.ClassFile.FieldType)).before args0 about1 = true := code_word (m := ⟨8, 3⟩) (meth := k8m3) (c := k8c3) (by decide +kernel) rfl rfl rfl (by decide +kernel)
set_option maxRecDepth 65536 in
theorem w_c6 : (Jvm.Cond.code ({ cls := "java/lang/Object", name := "<init>", desc := "()V" } : Jvm.MethodName) object_method_1_code (1 : Nat) (Option.none : Option Jvm.ClassFile.FieldType)).before args0 about1 = true := code_word (m := ⟨0, 0⟩) (meth := k0m0) (c := k0c0) (by decide +kernel) rfl rfl rfl (by decide +kernel)
set_option maxRecDepth 65536 in
theorem w_c7 : (Jvm.Cond.code ({ cls := "com/example/bylaws_for_tables/bylawsfortables/FindingKey", name := "<init>", desc := "(Ljava/lang/String;Ljava/lang/String;Ljava/lang/String;J)V" } : Jvm.MethodName) prog_8_method_1_code (6 : Nat) (Option.none : Option Jvm.ClassFile.FieldType)).before args0 about1 = true := code_word (m := ⟨2, 0⟩) (meth := k2m0) (c := k2c0) (by decide +kernel) rfl rfl rfl (by decide +kernel)
set_option maxRecDepth 65536 in
theorem w_c8 : (Jvm.Cond.code ({ cls := "java/util/Objects", name := "requireNonNull", desc := "(Ljava/lang/Object;Ljava/lang/String;)Ljava/lang/Object;" } : Jvm.MethodName) jdk_31_method_11_code (2 : Nat) (Option.some (Jvm.ClassFile.FieldType.object "java/lang/Object"))).before args0 about1 = true := code_word (m := ⟨9, 1⟩) (meth := k9m1) (c := k9c1) (by decide +kernel) rfl rfl rfl (by decide +kernel)
set_option maxRecDepth 65536 in
theorem w_c9 : (Jvm.Cond.code ({ cls := "com/example/bylaws_for_tables/bylawsfortables/FindingKey", name := "equals", desc := "(Ljava/lang/Object;)Z" } : Jvm.MethodName) prog_8_method_9_code (3 : Nat) (Option.some Jvm.ClassFile.FieldType.boolean)).before args0 about1 = true := code_word (m := ⟨2, 1⟩) (meth := k2m1) (c := k2c1) (by decide +kernel) rfl rfl rfl (by decide +kernel)
set_option maxRecDepth 65536 in
theorem w_c10 : (Jvm.Cond.code ({ cls := "java/lang/String", name := "equals", desc := "(Ljava/lang/Object;)Z" } : Jvm.MethodName) jdk_42_method_66_code (3 : Nat) (Option.some Jvm.ClassFile.FieldType.boolean)).before args0 about1 = true := code_word (m := ⟨8, 2⟩) (meth := k8m2) (c := k8c2) (by decide +kernel) rfl rfl rfl (by decide +kernel)
set_option maxRecDepth 65536 in
theorem w_c11 : (Jvm.Cond.code ({ cls := "com/example/bylaws_for_tables/bylawsfortables/FindingKeyEqualsPinLaw", name := "ch", desc := "(JI)C" } : Jvm.MethodName) method_3_code (3 : Nat) (Option.some Jvm.ClassFile.FieldType.char)).before args0 about1 = true := code_word (m := ⟨1, 2⟩) (meth := k1m2) (c := k1c2) (by decide +kernel) rfl rfl rfl (by decide +kernel)
set_option maxRecDepth 65536 in
theorem w_c12 : (Jvm.Cond.code ({ cls := "java/lang/StringUTF16", name := "compress", desc := "([CII)[B" } : Jvm.MethodName) jdk_52_method_16_code (6 : Nat) (Option.some (Jvm.ClassFile.FieldType.array Jvm.ClassFile.FieldType.byte))).before args0 about1 = true := code_word (m := ⟨10, 2⟩) (meth := k10m2) (c := k10c2) (by decide +kernel) rfl rfl rfl (by decide +kernel)
set_option maxRecDepth 65536 in
theorem w_c13 : (Jvm.Cond.code ({ cls := "java/lang/StringUTF16", name := "compress", desc := "([CI[BII)I" } : Jvm.MethodName) jdk_52_method_21_code (7 : Nat) (Option.some Jvm.ClassFile.FieldType.int)).before args0 about1 = true := code_word (m := ⟨10, 3⟩) (meth := k10m3) (c := k10c3) (by decide +kernel) rfl rfl rfl (by decide +kernel)
set_option maxRecDepth 65536 in
theorem w_c14 : (Jvm.Cond.code ({ cls := "java/lang/StringUTF16", name := "coderFromArrayLen", desc := "([BI)B" } : Jvm.MethodName) jdk_52_method_15_code (2 : Nat) (Option.some Jvm.ClassFile.FieldType.byte)).before args0 about1 = true := code_word (m := ⟨10, 1⟩) (meth := k10m1) (c := k10c1) (by decide +kernel) rfl rfl rfl (by decide +kernel)
set_option maxRecDepth 65536 in
theorem w_c15 : (Jvm.Cond.code ({ cls := "com/example/bylaws_for_tables/bylawsfortables/FindingKeyEqualsPinLaw", name := "sameText", desc := "(JJ)Z" } : Jvm.MethodName) method_5_code (5 : Nat) (Option.some Jvm.ClassFile.FieldType.boolean)).before args0 about1 = true := code_word (m := ⟨1, 4⟩) (meth := k1m4) (c := k1c4) (by decide +kernel) rfl rfl rfl (by decide +kernel)
set_option maxRecDepth 65536 in
theorem w_c16 : (Jvm.Cond.code ({ cls := "java/lang/StringLatin1", name := "equals", desc := "([B[B)Z" } : Jvm.MethodName) jdk_43_method_13_code (3 : Nat) (Option.some Jvm.ClassFile.FieldType.boolean)).before args0 about1 = true := code_word (m := ⟨11, 1⟩) (meth := k11m1) (c := k11c1) (by decide +kernel) rfl rfl rfl (by decide +kernel)
set_option maxRecDepth 65536 in
theorem w_c17 : (Jvm.Cond.code ({ cls := "java/lang/Integer", name := "valueOf", desc := "(I)Ljava/lang/Integer;" } : Jvm.MethodName) jdk_33_method_22_code (1 : Nat) (Option.some (Jvm.ClassFile.FieldType.object "java/lang/Integer"))).before args0 about1 = true := code_word (m := ⟨13, 0⟩) (meth := k13m0) (c := k13c0) (by decide +kernel) rfl rfl rfl (by decide +kernel)
set_option maxRecDepth 65536 in
theorem w_c18 : (Jvm.Cond.code ({ cls := "java/lang/Integer", name := "<init>", desc := "(I)V" } : Jvm.MethodName) jdk_33_method_23_code (2 : Nat) (Option.none : Option Jvm.ClassFile.FieldType)).before args0 about1 = true := code_word (m := ⟨13, 1⟩) (meth := k13m1) (c := k13c1) (by decide +kernel) rfl rfl rfl (by decide +kernel)
set_option maxRecDepth 65536 in
theorem w_c19 : (Jvm.Cond.code ({ cls := "java/lang/Number", name := "<init>", desc := "()V" } : Jvm.MethodName) jdk_18_method_1_code (1 : Nat) (Option.none : Option Jvm.ClassFile.FieldType)).before args0 about1 = true := code_word (m := ⟨12, 0⟩) (meth := k12m0) (c := k12c0) (by decide +kernel) rfl rfl rfl (by decide +kernel)
def codes1 : List Jvm.Cond := [Jvm.Cond.code x code maxLocals ret, Jvm.Cond.code ({ cls := "com/example/bylaws_for_tables/bylawsfortables/FindingKeyEqualsPinLaw", name := "field", desc := "(JI)J" } : Jvm.MethodName) method_6_code (3 : Nat) (Option.some Jvm.ClassFile.FieldType.long), Jvm.Cond.code ({ cls := "com/example/bylaws_for_tables/bylawsfortables/FindingKeyEqualsPinLaw", name := "str", desc := "(J)Ljava/lang/String;" } : Jvm.MethodName) method_4_code (4 : Nat) (Option.some (Jvm.ClassFile.FieldType.object "java/lang/String")), Jvm.Cond.code ({ cls := "com/example/bylaws_for_tables/bylawsfortables/FindingKeyEqualsPinLaw", name := "len", desc := "(J)I" } : Jvm.MethodName) method_2_code (2 : Nat) (Option.some Jvm.ClassFile.FieldType.int), Jvm.Cond.code ({ cls := "java/lang/String", name := "<init>", desc := "([C)V" } : Jvm.MethodName) jdk_42_method_3_code (2 : Nat) (Option.none : Option Jvm.ClassFile.FieldType), Jvm.Cond.code ({ cls := "java/lang/String", name := "<init>", desc := "([CIILjava/lang/Void;)V" } : Jvm.MethodName) jdk_42_method_149_code (6 : Nat) (Option.none : Option Jvm.ClassFile.FieldType), Jvm.Cond.code ({ cls := "java/lang/Object", name := "<init>", desc := "()V" } : Jvm.MethodName) object_method_1_code (1 : Nat) (Option.none : Option Jvm.ClassFile.FieldType), Jvm.Cond.code ({ cls := "com/example/bylaws_for_tables/bylawsfortables/FindingKey", name := "<init>", desc := "(Ljava/lang/String;Ljava/lang/String;Ljava/lang/String;J)V" } : Jvm.MethodName) prog_8_method_1_code (6 : Nat) (Option.none : Option Jvm.ClassFile.FieldType), Jvm.Cond.code ({ cls := "java/util/Objects", name := "requireNonNull", desc := "(Ljava/lang/Object;Ljava/lang/String;)Ljava/lang/Object;" } : Jvm.MethodName) jdk_31_method_11_code (2 : Nat) (Option.some (Jvm.ClassFile.FieldType.object "java/lang/Object")), Jvm.Cond.code ({ cls := "com/example/bylaws_for_tables/bylawsfortables/FindingKey", name := "equals", desc := "(Ljava/lang/Object;)Z" } : Jvm.MethodName) prog_8_method_9_code (3 : Nat) (Option.some Jvm.ClassFile.FieldType.boolean), Jvm.Cond.code ({ cls := "java/lang/String", name := "equals", desc := "(Ljava/lang/Object;)Z" } : Jvm.MethodName) jdk_42_method_66_code (3 : Nat) (Option.some Jvm.ClassFile.FieldType.boolean), Jvm.Cond.code ({ cls := "com/example/bylaws_for_tables/bylawsfortables/FindingKeyEqualsPinLaw", name := "ch", desc := "(JI)C" } : Jvm.MethodName) method_3_code (3 : Nat) (Option.some Jvm.ClassFile.FieldType.char), Jvm.Cond.code ({ cls := "java/lang/StringUTF16", name := "compress", desc := "([CII)[B" } : Jvm.MethodName) jdk_52_method_16_code (6 : Nat) (Option.some (Jvm.ClassFile.FieldType.array Jvm.ClassFile.FieldType.byte)), Jvm.Cond.code ({ cls := "java/lang/StringUTF16", name := "compress", desc := "([CI[BII)I" } : Jvm.MethodName) jdk_52_method_21_code (7 : Nat) (Option.some Jvm.ClassFile.FieldType.int), Jvm.Cond.code ({ cls := "java/lang/StringUTF16", name := "coderFromArrayLen", desc := "([BI)B" } : Jvm.MethodName) jdk_52_method_15_code (2 : Nat) (Option.some Jvm.ClassFile.FieldType.byte), Jvm.Cond.code ({ cls := "com/example/bylaws_for_tables/bylawsfortables/FindingKeyEqualsPinLaw", name := "sameText", desc := "(JJ)Z" } : Jvm.MethodName) method_5_code (5 : Nat) (Option.some Jvm.ClassFile.FieldType.boolean), Jvm.Cond.code ({ cls := "java/lang/StringLatin1", name := "equals", desc := "([B[B)Z" } : Jvm.MethodName) jdk_43_method_13_code (3 : Nat) (Option.some Jvm.ClassFile.FieldType.boolean), Jvm.Cond.code ({ cls := "java/lang/Integer", name := "valueOf", desc := "(I)Ljava/lang/Integer;" } : Jvm.MethodName) jdk_33_method_22_code (1 : Nat) (Option.some (Jvm.ClassFile.FieldType.object "java/lang/Integer")), Jvm.Cond.code ({ cls := "java/lang/Integer", name := "<init>", desc := "(I)V" } : Jvm.MethodName) jdk_33_method_23_code (2 : Nat) (Option.none : Option Jvm.ClassFile.FieldType), Jvm.Cond.code ({ cls := "java/lang/Number", name := "<init>", desc := "()V" } : Jvm.MethodName) jdk_18_method_1_code (1 : Nat) (Option.none : Option Jvm.ClassFile.FieldType)]
set_option maxRecDepth 65536 in
theorem codes_eq : words1.filter isCode = codes1 := rfl
theorem w_codes : ∀ c ∈ words1.filter isCode, c.before args0 about1 = true := by
  rw [codes_eq]
  intro c hc
  simp only [codes1, List.mem_cons, List.not_mem_nil, or_false] at hc
  rcases hc with rfl | rfl | rfl | rfl | rfl | rfl | rfl | rfl | rfl | rfl | rfl | rfl | rfl | rfl | rfl | rfl | rfl | rfl | rfl | rfl
  · exact w_c0
  · exact w_c1
  · exact w_c2
  · exact w_c3
  · exact w_c4
  · exact w_c5
  · exact w_c6
  · exact w_c7
  · exact w_c8
  · exact w_c9
  · exact w_c10
  · exact w_c11
  · exact w_c12
  · exact w_c13
  · exact w_c14
  · exact w_c15
  · exact w_c16
  · exact w_c17
  · exact w_c18
  · exact w_c19
set_option maxRecDepth 65536 in
theorem w_t1 : (words1.take 24).all (fun c => isCode c || c.before args0 about1) = true := by decide +kernel
set_option maxRecDepth 65536 in
theorem w_t2 : ((words1.drop 24).take 24).all (fun c => isCode c || c.before args0 about1) = true := by decide +kernel
set_option maxRecDepth 65536 in
theorem w_t3 : (((words1.drop 24).drop 24).take 24).all (fun c => isCode c || c.before args0 about1) = true := by decide +kernel
set_option maxRecDepth 65536 in
theorem w_t4 : ((((words1.drop 24).drop 24).drop 24).take 24).all (fun c => isCode c || c.before args0 about1) = true := by decide +kernel
set_option maxRecDepth 65536 in
theorem w_t5 : ((((words1.drop 24).drop 24).drop 24).drop 24).all (fun c => isCode c || c.before args0 about1) = true := by decide +kernel
theorem w_tables : (allAtoms (Jvm.Cond.code x code maxLocals ret :: tables_1)).before args0 about1 = true := by
  rw [allAtoms_all]
  show words1.all (fun c => c.before args0 about1) = true
  refine all_split ?_ w_codes
  rw [← List.take_append_drop 24 words1, List.all_append, w_t1, ← List.take_append_drop 24 (words1.drop 24), List.all_append, w_t2, ← List.take_append_drop 24 ((words1.drop 24).drop 24), List.all_append, w_t3, ← List.take_append_drop 24 (((words1.drop 24).drop 24).drop 24), List.all_append, w_t4, w_t5]
  rfl
set_option maxRecDepth 65536 in
theorem w_rest : rest_1_c.before args0 about1 = true := by decide +kernel
set_option maxRecDepth 65536 in
theorem w_case : (Jvm.Cond.and given_1 narrow_1).before args0 about1 = true := by decide +kernel
set_option maxRecDepth 65536 in
theorem w_consts : constsHeld consts_1 about1 := Jvm.Lit.constsHeldB_iff.mp (by decide +kernel)
theorem w_applies : (headSpec (Jvm.Cond.code x code maxLocals ret :: tables_1) room_1).applies x e0.platform about1 = true :=
  (Spec.applies_iff w_frames).mpr ⟨w_running, w_runnable, w_alone, w_named, w_hears, w_ripe, w_room, w_tables⟩
theorem atStart : AtStart classFile x code maxLocals ret World_1 tables_1 room_1 Calls_1 rest_1 Pre_1 launch0 p0 e0 about1 theMethod args0 below0 :=
  ⟨lists_1, trivial, launch0.admits_env _ _ _, launch0.least_env, fairChoices_fair.cas, fairChoices_fair.clock, w_frames, w_args, w_heap, w_applies, ⟨w_consts, trivial⟩, w_rest, w_case⟩
end start1
theorem witness_1 : WitnessClaimed_1 := ⟨start1.p0, start1.e0, start1.about1, start1.theMethod, start1.args0, start1.below0, start1.atStart⟩
end Jvm.Pilot.@@N@@
