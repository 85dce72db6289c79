import JvmDerived
import JvmDerived.Pilot.@@N@@Statement
import JvmDerived.Pilot.@@N@@Code
set_option linter.unusedVariables false
set_option linter.unusedSimpArgs false
namespace Jvm.RoadKit
open Sem ClassFile Op Lib Jvm.Stand Jvm.Free Jvm.LawKit
section New
variable {p : Program} {l : Launch} {e : Env} {R : Room} {s : State} {m : MethodId} {args : Array Value} {below : List Frame} {meth : Method} {c : Code} {T : State} {locs : List Loc} {cells slots : Nat}
theorem retI (X : Stand p l e R s m args below meth c T locs cells slots) (hx : p.tables.exec = Jvm.exec) {pc : Nat} {Ls : Array Slot} {z : Int32} {rest : List Value} (hret : meth.sig.returnType = some .int) (hd : decode c.code pc = .ok (.ireturn, 1)) {fs : List Frame}
    (hl : ∀ (f : JFrame) (acts : List Action), f.method = m → f.locked = none → f.entered = [] → (doReturn e (T.setTop f) acts (some (.int z))).1 = T.setFrames fs) : Steps p.tables e below (T.setTop (mkF m pc Ls (.int z :: rest))) (T.setFrames fs) := by
  have hm' : T.vm.method? m = some meth := X.method'
  have hn : narrow .int (.int z) = .int z := rfl
  show Steps p.tables e below (T.setTop { method := m, pc := pc, locals := Ls, stack := _ :: rest, locked := none }) _
  jvm_step X.here [X.here.top, hx, hd, hm', hret, hn]
  first | (intro acts; rw [hl _ acts rfl rfl rfl]) | rw [hl _ _ rfl rfl rfl]
  exact Steps.refl _
end New
end Jvm.RoadKit
namespace Jvm.Pilot.@@N@@
open Jvm Jvm.ClassFile Sem Op Lib Jvm.Free Jvm.Stand Jvm.LawKit Jvm.RoadKit Bundle Jvm.Pilot.@@N@@.Jvm.D
abbrev lv (x : Int64) : Slot := .val (.long x)
theorem im (i : Nat) {d : Jvm.Cond} (h : tables_1[i]? = some d) : d ∈ tables_1 := List.mem_of_getElem? h
theorem own_go {tb : Tables} {e : Env} {below : List Frame} {S S' S0 : State} (P : ∀ t, Steps tb e below S t → Steps tb e below S0 t) (f : ∀ t, Steps tb e below S' t → Steps tb e below S t) : ∀ t, Steps tb e below S' t → Steps tb e below S0 t := fun t k => P t (f t k)
theorem own_sn {Z : State} {a0 : Array Value} {K O n d O' n' d' : String} (L : Laid Z a0 K O n d) (L' : Laid Z a0 K O' n' d') (hn : n ≠ n' := by decide) (ht : (parseFieldDescriptor d).isSome = true := by decide) (ht' : (parseFieldDescriptor d').isSome = true := by decide) : Jvm.RoadKit.slotOf Z O n d ≠ Jvm.RoadKit.slotOf Z O' n' d' := by
  obtain ⟨t, e⟩ := Option.isSome_iff_exists.mp ht
  obtain ⟨t', e'⟩ := Option.isSome_iff_exists.mp ht'
  exact slot_ne L L' hn e e'
theorem la_0 {Z : State} {a0 : Array Value} (hw : ∀ d ∈ tables_1, d.before a0 Z = true) : Laid Z a0 "com/example/violarc/violarc/graph/FlowNetwork" "com/example/violarc/violarc/graph/FlowNetwork" "arcs" "I" := (Or.inl (hw _ (im 92 rfl)))
theorem la_1 {Z : State} {a0 : Array Value} (hw : ∀ d ∈ tables_1, d.before a0 Z = true) : Laid Z a0 "com/example/violarc/violarc/graph/FlowNetwork" "com/example/violarc/violarc/graph/FlowNetwork" "next" "[I" := (Or.inl (hw _ (im 13 rfl)))
theorem la_2 {Z : State} {a0 : Array Value} (hw : ∀ d ∈ tables_1, d.before a0 Z = true) : Laid Z a0 "com/example/violarc/violarc/graph/FlowNetwork" "com/example/violarc/violarc/graph/FlowNetwork" "target" "[I" := (Or.inl (hw _ (im 15 rfl)))
theorem la_3 {Z : State} {a0 : Array Value} (hw : ∀ d ∈ tables_1, d.before a0 Z = true) : Laid Z a0 "com/example/violarc/violarc/graph/FlowNetwork" "com/example/violarc/violarc/graph/FlowNetwork" "residual" "[J" := (Or.inl (hw _ (im 17 rfl)))
theorem la_4 {Z : State} {a0 : Array Value} (hw : ∀ d ∈ tables_1, d.before a0 Z = true) : Laid Z a0 "com/example/violarc/violarc/graph/FlowNetwork" "com/example/violarc/violarc/graph/FlowNetwork" "cost" "[J" := (Or.inl (hw _ (im 19 rfl)))
theorem la_5 {Z : State} {a0 : Array Value} (hw : ∀ d ∈ tables_1, d.before a0 Z = true) : Laid Z a0 "com/example/violarc/violarc/graph/FlowNetwork" "com/example/violarc/violarc/graph/FlowNetwork" "first" "[I" := (Or.inr (hw _ (im 25 rfl)))
theorem la_6 {Z : State} {a0 : Array Value} (hw : ∀ d ∈ tables_1, d.before a0 Z = true) : Laid Z a0 "com/example/violarc/violarc/graph/FlowNetwork" "com/example/violarc/violarc/graph/FlowNetwork" "potentials" "[J" := (Or.inr (hw _ (im 27 rfl)))
theorem la_7 {Z : State} {a0 : Array Value} (hw : ∀ d ∈ tables_1, d.before a0 Z = true) : Laid Z a0 "com/example/violarc/violarc/graph/FlowNetwork" "com/example/violarc/violarc/graph/FlowNetwork" "distances" "[J" := (Or.inr (hw _ (im 29 rfl)))
theorem la_8 {Z : State} {a0 : Array Value} (hw : ∀ d ∈ tables_1, d.before a0 Z = true) : Laid Z a0 "com/example/violarc/violarc/graph/FlowNetwork" "com/example/violarc/violarc/graph/FlowNetwork" "parents" "[I" := (Or.inr (hw _ (im 31 rfl)))
theorem la_9 {Z : State} {a0 : Array Value} (hw : ∀ d ∈ tables_1, d.before a0 Z = true) : Laid Z a0 "com/example/violarc/violarc/graph/FlowNetwork" "com/example/violarc/violarc/graph/FlowNetwork" "heap" "Lcom/example/violarc/violarc/graph/NodeHeap;" := (Or.inr (hw _ (im 50 rfl)))
theorem la_10 {Z : State} {a0 : Array Value} (hw : ∀ d ∈ tables_1, d.before a0 Z = true) : Laid Z a0 "com/example/violarc/violarc/graph/FlowNetwork" "com/example/violarc/violarc/graph/FlowNetwork" "queue" "[I" := (Or.inr (hw _ (im 52 rfl)))
theorem la_11 {Z : State} {a0 : Array Value} (hw : ∀ d ∈ tables_1, d.before a0 Z = true) : Laid Z a0 "com/example/violarc/violarc/graph/FlowNetwork" "com/example/violarc/violarc/graph/FlowNetwork" "queued" "[Z" := (Or.inr (hw _ (im 55 rfl)))
theorem la_12 {Z : State} {a0 : Array Value} (hw : ∀ d ∈ tables_1, d.before a0 Z = true) : Laid Z a0 "com/example/violarc/violarc/graph/FlowNetwork" "com/example/violarc/violarc/graph/FlowNetwork" "lowered" "[I" := (Or.inr (hw _ (im 57 rfl)))
theorem la_13 {Z : State} {a0 : Array Value} (hw : ∀ d ∈ tables_1, d.before a0 Z = true) : Laid Z a0 "com/example/violarc/violarc/graph/FlowNetwork" "com/example/violarc/violarc/graph/FlowNetwork" "stack" "[I" := (Or.inr (hw _ (im 59 rfl)))
theorem la_14 {Z : State} {a0 : Array Value} (hw : ∀ d ∈ tables_1, d.before a0 Z = true) : Laid Z a0 "com/example/violarc/violarc/graph/FlowNetwork" "com/example/violarc/violarc/graph/FlowNetwork" "cursors" "[I" := (Or.inr (hw _ (im 61 rfl)))
theorem la_15 {Z : State} {a0 : Array Value} (hw : ∀ d ∈ tables_1, d.before a0 Z = true) : Laid Z a0 "com/example/violarc/violarc/graph/FlowNetwork" "com/example/violarc/violarc/graph/FlowNetwork" "visits" "[J" := (Or.inr (hw _ (im 63 rfl)))
theorem la_16 {Z : State} {a0 : Array Value} (hw : ∀ d ∈ tables_1, d.before a0 Z = true) : Laid Z a0 "com/example/violarc/violarc/graph/FlowNetwork" "com/example/violarc/violarc/graph/FlowNetwork" "absoluteCosts" "J" := (Or.inl (hw _ (im 78 rfl)))
theorem la_17 {Z : State} {a0 : Array Value} (hw : ∀ d ∈ tables_1, d.before a0 Z = true) : Laid Z a0 "com/example/violarc/violarc/graph/FlowNetwork" "com/example/violarc/violarc/graph/FlowNetwork" "flowCost" "J" := (Or.inl (hw _ (im 135 rfl)))
theorem la_18 {Z : State} {a0 : Array Value} (hw : ∀ d ∈ tables_1, d.before a0 Z = true) : Laid Z a0 "com/example/violarc/violarc/graph/FlowNetwork" "com/example/violarc/violarc/graph/FlowNetwork" "valid" "Z" := (Or.inl (hw _ (im 98 rfl)))
theorem la_19 {Z : State} {a0 : Array Value} (hw : ∀ d ∈ tables_1, d.before a0 Z = true) : Laid Z a0 "com/example/violarc/violarc/graph/FlowNetwork" "com/example/violarc/violarc/graph/FlowNetwork" "source" "I" := (Or.inl (hw _ (im 21 rfl)))
theorem la_20 {Z : State} {a0 : Array Value} (hw : ∀ d ∈ tables_1, d.before a0 Z = true) : Laid Z a0 "com/example/violarc/violarc/graph/FlowNetwork" "com/example/violarc/violarc/graph/FlowNetwork" "sink" "I" := (Or.inl (hw _ (im 23 rfl)))
theorem la_21 {Z : State} {a0 : Array Value} (hw : ∀ d ∈ tables_1, d.before a0 Z = true) : Laid Z a0 "com/example/violarc/violarc/graph/FlowNetwork" "com/example/violarc/violarc/graph/FlowNetwork" "visit" "J" := (Or.inl (hw _ (im 206 rfl)))
theorem pn_0 : plainName "com/example/violarc/violarc/graph/FlowNetworkClearFlowPinLaw" = true := by first | (simp [plainName, overriddenIn]; done) | decide +kernel
theorem pn_1 : plainName "com/example/violarc/violarc/graph/FlowNetwork" = true := by first | (simp [plainName, overriddenIn]; done) | decide +kernel
theorem pn_3 : plainName "com/example/violarc/violarc/graph/NodeHeap" = true := by first | (simp [plainName, overriddenIn]; done) | decide +kernel
theorem pn_4 : plainName "java/util/Arrays" = true := by first | (simp [plainName, overriddenIn]; done) | decide +kernel
theorem pn_5 : plainName "com/example/violarc/violarc/graph/FlowNetwork" = true := by first | (simp [plainName, overriddenIn]; done) | decide +kernel
theorem pn_6 : plainName "com/example/violarc/violarc/graph/FlowNetwork" = true := by first | (simp [plainName, overriddenIn]; done) | decide +kernel
theorem pn_7 : plainName "com/example/violarc/violarc/graph/FlowNetwork" = true := by first | (simp [plainName, overriddenIn]; done) | decide +kernel



theorem pn_11 : plainName "com/example/violarc/violarc/graph/FlowNetwork" = true := by first | (simp [plainName, overriddenIn]; done) | decide +kernel
theorem pn_12 : plainName "com/example/violarc/violarc/graph/FlowNetwork" = true := by first | (simp [plainName, overriddenIn]; done) | decide +kernel
theorem pn_13 : plainName "com/example/violarc/violarc/graph/FlowNetwork" = true := by first | (simp [plainName, overriddenIn]; done) | decide +kernel
theorem pn_14 : plainName "java/util/Arrays" = true := by first | (simp [plainName, overriddenIn]; done) | decide +kernel
theorem pn_15 : plainName "com/example/violarc/violarc/graph/FlowNetwork" = true := by first | (simp [plainName, overriddenIn]; done) | decide +kernel
theorem pn_16 : plainName "com/example/violarc/violarc/graph/FlowNetwork" = true := by first | (simp [plainName, overriddenIn]; done) | decide +kernel

theorem pn_18 : plainName "com/example/violarc/violarc/graph/FlowNetwork" = true := by first | (simp [plainName, overriddenIn]; done) | decide +kernel
theorem pn_19 : plainName "com/example/violarc/violarc/graph/FlowNetwork" = true := by first | (simp [plainName, overriddenIn]; done) | decide +kernel
theorem pn_20 : plainName "com/example/violarc/violarc/graph/FlowNetwork" = true := by first | (simp [plainName, overriddenIn]; done) | decide +kernel
theorem pn_21 : plainName "com/example/violarc/violarc/graph/FlowNetwork" = true := by first | (simp [plainName, overriddenIn]; done) | decide +kernel
theorem pn_22 : plainName "com/example/violarc/violarc/graph/FlowNetwork" = true := by first | (simp [plainName, overriddenIn]; done) | decide +kernel
theorem pn_23 : plainName "com/example/violarc/violarc/graph/FlowNetwork" = true := by first | (simp [plainName, overriddenIn]; done) | decide +kernel
theorem pn_24 : plainName "com/example/violarc/violarc/graph/FlowNetwork" = true := by first | (simp [plainName, overriddenIn]; done) | decide +kernel
theorem pn_25 : plainName "com/example/violarc/violarc/graph/NodeHeap" = true := by first | (simp [plainName, overriddenIn]; done) | decide +kernel
theorem pn_26 : plainName "com/example/violarc/violarc/graph/NodeHeap" = true := by first | (simp [plainName, overriddenIn]; done) | decide +kernel
theorem pn_27 : plainName "com/example/violarc/violarc/graph/NodeHeap" = true := by first | (simp [plainName, overriddenIn]; done) | decide +kernel
theorem pn_28 : plainName "com/example/violarc/violarc/graph/NodeHeap" = true := by first | (simp [plainName, overriddenIn]; done) | decide +kernel
theorem pn_29 : plainName "com/example/violarc/violarc/graph/NodeHeap" = true := by first | (simp [plainName, overriddenIn]; done) | decide +kernel
theorem pn_30 : plainName "com/example/violarc/violarc/graph/NodeHeap" = true := by first | (simp [plainName, overriddenIn]; done) | decide +kernel
theorem pn_31 : plainName "com/example/violarc/violarc/graph/FlowNetwork" = true := by first | (simp [plainName, overriddenIn]; done) | decide +kernel

theorem pn_33 : plainName "com/example/violarc/violarc/graph/FlowNetwork" = true := by first | (simp [plainName, overriddenIn]; done) | decide +kernel
theorem pn_34 : plainName "com/example/violarc/violarc/graph/FlowNetwork" = true := by first | (simp [plainName, overriddenIn]; done) | decide +kernel
theorem pn_35 : plainName "com/example/violarc/violarc/graph/FlowNetwork" = true := by first | (simp [plainName, overriddenIn]; done) | decide +kernel

theorem la_22 {Z : State} {a0 : Array Value} (hw : ∀ d ∈ tables_1, d.before a0 Z = true) : Laid Z a0 "com/example/violarc/violarc/graph/NodeHeap" "com/example/violarc/violarc/graph/NodeHeap" "nodes" "[I" := (Or.inr (hw _ (im 42 rfl)))
theorem la_23 {Z : State} {a0 : Array Value} (hw : ∀ d ∈ tables_1, d.before a0 Z = true) : Laid Z a0 "com/example/violarc/violarc/graph/NodeHeap" "com/example/violarc/violarc/graph/NodeHeap" "keys" "[J" := (Or.inr (hw _ (im 40 rfl)))
theorem la_24 {Z : State} {a0 : Array Value} (hw : ∀ d ∈ tables_1, d.before a0 Z = true) : Laid Z a0 "com/example/violarc/violarc/graph/NodeHeap" "com/example/violarc/violarc/graph/NodeHeap" "positions" "[I" := (Or.inr (hw _ (im 44 rfl)))
theorem pd_0 : parseMethodDescriptor "([II)V" = some ⟨[(.array .int), .int], none⟩ := by decide +kernel
theorem la_25 {Z : State} {a0 : Array Value} (hw : ∀ d ∈ tables_1, d.before a0 Z = true) : Laid Z a0 "com/example/violarc/violarc/graph/NodeHeap" "com/example/violarc/violarc/graph/NodeHeap" "size" "I" := (Or.inl (hw _ (im 170 rfl)))
theorem pd_1 : parseMethodDescriptor "([J)V" = some ⟨[(.array .long)], none⟩ := by decide +kernel
theorem pd_2 : parseMethodDescriptor "(J)J" = some ⟨[.long], some .long⟩ := by decide +kernel
theorem pd_3 : parseMethodDescriptor "(I)V" = some ⟨[.int], none⟩ := by decide +kernel
theorem pd_4 : parseMethodDescriptor "(J)V" = some ⟨[.long], none⟩ := by decide +kernel
theorem pd_5 : parseMethodDescriptor "(JJ)J" = some ⟨[.long, .long], some .long⟩ := by decide +kernel
theorem pd_6 : parseMethodDescriptor "(IIIJJ)V" = some ⟨[.int, .int, .int, .long, .long], none⟩ := by decide +kernel
theorem pd_7 : parseMethodDescriptor "([JJ)V" = some ⟨[(.array .long), .long], none⟩ := by decide +kernel
theorem pd_8 : parseMethodDescriptor "(II)V" = some ⟨[.int, .int], none⟩ := by decide +kernel
theorem pd_9 : parseMethodDescriptor "()V" = some ⟨[], none⟩ := by decide +kernel
theorem pd_10 : parseMethodDescriptor "()Z" = some ⟨[], some .boolean⟩ := by decide +kernel
theorem pd_11 : parseMethodDescriptor "()I" = some ⟨[], some .int⟩ := by decide +kernel
theorem pd_12 : parseMethodDescriptor "(IZ)V" = some ⟨[.int, .boolean], none⟩ := by decide +kernel
theorem pd_13 : parseMethodDescriptor "(II)Z" = some ⟨[.int, .int], some .boolean⟩ := by decide +kernel
theorem pd_14 : parseMethodDescriptor "(I)I" = some ⟨[.int], some .int⟩ := by decide +kernel
theorem pd_15 : parseMethodDescriptor "(IJ)V" = some ⟨[.int, .long], none⟩ := by decide +kernel
theorem pd_16 : parseMethodDescriptor "(IIJJ)I" = some ⟨[.int, .int, .long, .long], some .int⟩ := by decide +kernel
theorem pd_17 : parseMethodDescriptor "(IIJ)J" = some ⟨[.int, .int, .long], some .long⟩ := by decide +kernel
theorem pd_18 : parseMethodDescriptor "(I)J" = some ⟨[.int], some .long⟩ := by decide +kernel
theorem pd_19 : parseMethodDescriptor "()J" = some ⟨[], some .long⟩ := by decide +kernel
def own_dec (code : ByteArray) (l : List (Nat × Instr × Nat)) : Bool := l.all fun x => decide (decode code x.1 = .ok (x.2.1, x.2.2))
theorem own_dd {code : ByteArray} {l : List (Nat × Instr × Nat)} (h : own_dec code l = true) (i : Nat) {pc n : Nat} {r : Instr} (q : l[i]? = some (pc, r, n)) : decode code pc = .ok (r, n) := by
  have h2 := List.all_eq_true.mp h (pc, r, n) (List.mem_of_getElem? q)
  simp only [decide_eq_true_eq] at h2
  exact h2
abbrev c1 : ByteArray := prog_45_method_1_code
theorem e1 : own_dec c1 [(0, .aload_n 0, 1), (1, .invokespecial 3, 3), (4, .aload_n 0, 1), (5, .bipush 16, 2), (7, .newarray .int, 2), (9, .putfield 9, 3), (12, .aload_n 0, 1), (13, .bipush 16, 2), (15, .newarray .int, 2), (17, .putfield 15, 3), (20, .aload_n 0, 1), (21, .bipush 16, 2), (23, .newarray .long, 2), (25, .putfield 18, 3), (28, .aload_n 0, 1), (29, .bipush 16, 2), (31, .newarray .long, 2), (33, .putfield 22, 3), (36, .aload_n 0, 1), (37, .iconst (-1), 1), (38, .putfield 25, 3), (41, .aload_n 0, 1), (42, .iconst (-1), 1), (43, .putfield 29, 3), (46, .iload_n 1, 1), (47, .iconst 1, 1), (48, .if_icmp .ge 17, 3), (65, .aload_n 0, 1), (66, .iload_n 1, 1), (67, .newarray .int, 2), (69, .putfield 41, 3), (72, .aload_n 0, 1), (73, .iload_n 1, 1), (74, .newarray .long, 2), (76, .putfield 44, 3), (79, .aload_n 0, 1), (80, .iload_n 1, 1), (81, .newarray .long, 2), (83, .putfield 47, 3), (86, .aload_n 0, 1), (87, .iload_n 1, 1), (88, .newarray .int, 2), (90, .putfield 50, 3), (93, .aload_n 0, 1), (94, .new 53, 3), (97, .dup, 1), (98, .aload_n 0, 1), (99, .getfield 47, 3), (102, .invokespecial 55, 3), (105, .putfield 58, 3), (108, .aload_n 0, 1), (109, .iload_n 1, 1), (110, .newarray .int, 2), (112, .putfield 62, 3), (115, .aload_n 0, 1), (116, .iload_n 1, 1), (117, .newarray .boolean, 2), (119, .putfield 65, 3), (122, .aload_n 0, 1), (123, .iload_n 1, 1), (124, .newarray .int, 2), (126, .putfield 69, 3), (129, .aload_n 0, 1), (130, .iload_n 1, 1), (131, .newarray .int, 2), (133, .putfield 72, 3), (136, .aload_n 0, 1), (137, .iload_n 1, 1), (138, .newarray .int, 2), (140, .putfield 75, 3), (143, .aload_n 0, 1), (144, .iload_n 1, 1), (145, .newarray .long, 2), (147, .putfield 78, 3), (150, .aload_n 0, 1), (151, .getfield 41, 3), (154, .iconst (-1), 1), (155, .invokestatic 81, 3), (158, .return_, 1)] = true := by decide +kernel
abbrev d1_0 := own_dd e1 0 rfl
abbrev d1_1 := own_dd e1 1 rfl
abbrev d1_4 := own_dd e1 2 rfl
abbrev d1_5 := own_dd e1 3 rfl
abbrev d1_7 := own_dd e1 4 rfl
abbrev d1_9 := own_dd e1 5 rfl
abbrev d1_12 := own_dd e1 6 rfl
abbrev d1_13 := own_dd e1 7 rfl
abbrev d1_15 := own_dd e1 8 rfl
abbrev d1_17 := own_dd e1 9 rfl
abbrev d1_20 := own_dd e1 10 rfl
abbrev d1_21 := own_dd e1 11 rfl
abbrev d1_23 := own_dd e1 12 rfl
abbrev d1_25 := own_dd e1 13 rfl
abbrev d1_28 := own_dd e1 14 rfl
abbrev d1_29 := own_dd e1 15 rfl
abbrev d1_31 := own_dd e1 16 rfl
abbrev d1_33 := own_dd e1 17 rfl
abbrev d1_36 := own_dd e1 18 rfl
abbrev d1_37 := own_dd e1 19 rfl
abbrev d1_38 := own_dd e1 20 rfl
abbrev d1_41 := own_dd e1 21 rfl
abbrev d1_42 := own_dd e1 22 rfl
abbrev d1_43 := own_dd e1 23 rfl
abbrev d1_46 := own_dd e1 24 rfl
abbrev d1_47 := own_dd e1 25 rfl
abbrev d1_48 := own_dd e1 26 rfl
abbrev d1_65 := own_dd e1 27 rfl
abbrev d1_66 := own_dd e1 28 rfl
abbrev d1_67 := own_dd e1 29 rfl
abbrev d1_69 := own_dd e1 30 rfl
abbrev d1_72 := own_dd e1 31 rfl
abbrev d1_73 := own_dd e1 32 rfl
abbrev d1_74 := own_dd e1 33 rfl
abbrev d1_76 := own_dd e1 34 rfl
abbrev d1_79 := own_dd e1 35 rfl
abbrev d1_80 := own_dd e1 36 rfl
abbrev d1_81 := own_dd e1 37 rfl
abbrev d1_83 := own_dd e1 38 rfl
abbrev d1_86 := own_dd e1 39 rfl
abbrev d1_87 := own_dd e1 40 rfl
abbrev d1_88 := own_dd e1 41 rfl
abbrev d1_90 := own_dd e1 42 rfl
abbrev d1_93 := own_dd e1 43 rfl
abbrev d1_94 := own_dd e1 44 rfl
abbrev d1_97 := own_dd e1 45 rfl
abbrev d1_98 := own_dd e1 46 rfl
abbrev d1_99 := own_dd e1 47 rfl
abbrev d1_102 := own_dd e1 48 rfl
abbrev d1_105 := own_dd e1 49 rfl
abbrev d1_108 := own_dd e1 50 rfl
abbrev d1_109 := own_dd e1 51 rfl
abbrev d1_110 := own_dd e1 52 rfl
abbrev d1_112 := own_dd e1 53 rfl
abbrev d1_115 := own_dd e1 54 rfl
abbrev d1_116 := own_dd e1 55 rfl
abbrev d1_117 := own_dd e1 56 rfl
abbrev d1_119 := own_dd e1 57 rfl
abbrev d1_122 := own_dd e1 58 rfl
abbrev d1_123 := own_dd e1 59 rfl
abbrev d1_124 := own_dd e1 60 rfl
abbrev d1_126 := own_dd e1 61 rfl
abbrev d1_129 := own_dd e1 62 rfl
abbrev d1_130 := own_dd e1 63 rfl
abbrev d1_131 := own_dd e1 64 rfl
abbrev d1_133 := own_dd e1 65 rfl
abbrev d1_136 := own_dd e1 66 rfl
abbrev d1_137 := own_dd e1 67 rfl
abbrev d1_138 := own_dd e1 68 rfl
abbrev d1_140 := own_dd e1 69 rfl
abbrev d1_143 := own_dd e1 70 rfl
abbrev d1_144 := own_dd e1 71 rfl
abbrev d1_145 := own_dd e1 72 rfl
abbrev d1_147 := own_dd e1 73 rfl
abbrev d1_150 := own_dd e1 74 rfl
abbrev d1_151 := own_dd e1 75 rfl
abbrev d1_154 := own_dd e1 76 rfl
abbrev d1_155 := own_dd e1 77 rfl
abbrev d1_158 := own_dd e1 78 rfl
abbrev c3 : ByteArray := prog_53_method_1_code
theorem e3 : own_dec c3 [(0, .aload_n 0, 1), (1, .invokespecial 1, 3), (4, .aload_n 0, 1), (5, .aload_n 1, 1), (6, .putfield 7, 3), (9, .aload_n 0, 1), (10, .aload_n 1, 1), (11, .arraylength, 1), (12, .newarray .int, 2), (14, .putfield 13, 3), (17, .aload_n 0, 1), (18, .aload_n 1, 1), (19, .arraylength, 1), (20, .newarray .int, 2), (22, .putfield 17, 3), (25, .aload_n 0, 1), (26, .getfield 17, 3), (29, .iconst (-1), 1), (30, .invokestatic 20, 3), (33, .return_, 1)] = true := by decide +kernel
abbrev d3_0 := own_dd e3 0 rfl
abbrev d3_1 := own_dd e3 1 rfl
abbrev d3_4 := own_dd e3 2 rfl
abbrev d3_5 := own_dd e3 3 rfl
abbrev d3_6 := own_dd e3 4 rfl
abbrev d3_9 := own_dd e3 5 rfl
abbrev d3_10 := own_dd e3 6 rfl
abbrev d3_11 := own_dd e3 7 rfl
abbrev d3_12 := own_dd e3 8 rfl
abbrev d3_14 := own_dd e3 9 rfl
abbrev d3_17 := own_dd e3 10 rfl
abbrev d3_18 := own_dd e3 11 rfl
abbrev d3_19 := own_dd e3 12 rfl
abbrev d3_20 := own_dd e3 13 rfl
abbrev d3_22 := own_dd e3 14 rfl
abbrev d3_25 := own_dd e3 15 rfl
abbrev d3_26 := own_dd e3 16 rfl
abbrev d3_29 := own_dd e3 17 rfl
abbrev d3_30 := own_dd e3 18 rfl
abbrev d3_33 := own_dd e3 19 rfl
abbrev c4 : ByteArray := jdk_65_method_103_code
theorem e4 : own_dec c4 [(0, .iconst 0, 1), (1, .istore_n 2, 1), (2, .aload_n 0, 1), (3, .arraylength, 1), (4, .istore_n 3, 1), (5, .iload_n 2, 1), (6, .iload_n 3, 1), (7, .if_icmp .ge 13, 3), (10, .aload_n 0, 1), (11, .iload_n 2, 1), (12, .iload_n 1, 1), (13, .iastore, 1), (14, .iinc 2 1, 3), (17, .goto (-12), 3), (20, .return_, 1)] = true := by decide +kernel
abbrev d4_0 := own_dd e4 0 rfl
abbrev d4_1 := own_dd e4 1 rfl
abbrev d4_2 := own_dd e4 2 rfl
abbrev d4_3 := own_dd e4 3 rfl
abbrev d4_4 := own_dd e4 4 rfl
abbrev d4_5 := own_dd e4 5 rfl
abbrev d4_6 := own_dd e4 6 rfl
abbrev d4_7 := own_dd e4 7 rfl
abbrev d4_10 := own_dd e4 8 rfl
abbrev d4_11 := own_dd e4 9 rfl
abbrev d4_12 := own_dd e4 10 rfl
abbrev d4_13 := own_dd e4 11 rfl
abbrev d4_14 := own_dd e4 12 rfl
abbrev d4_17 := own_dd e4 13 rfl
abbrev d4_20 := own_dd e4 14 rfl
abbrev c5 : ByteArray := prog_45_method_3_code
theorem e5 : own_dec c5 [(0, .aload_n 0, 1), (1, .iload_n 1, 1), (2, .invokevirtual 87, 3), (5, .aload_n 0, 1), (6, .iload_n 2, 1), (7, .invokevirtual 87, 3), (10, .lload_n 3, 1), (11, .invokestatic 91, 3), (14, .aload_n 0, 1), (15, .getfield 95, 3), (18, .lload 5, 2), (20, .invokestatic 99, 3), (23, .invokestatic 105, 3), (26, .lstore 7, 2), (28, .lload 7, 2), (30, .ldc2_w 109, 3), (33, .lcmp, 1), (34, .ifCond .le 13, 3), (47, .iconst 2, 1), (48, .aload_n 0, 1), (49, .getfield 116, 3), (52, .imul, 1), (53, .aload_n 0, 1), (54, .getfield 15, 3), (57, .arraylength, 1), (58, .if_icmp .ne 71, 3), (129, .aload_n 0, 1), (130, .dup, 1), (131, .getfield 116, 3), (134, .dup_x1, 1), (135, .iconst 1, 1), (136, .iadd, 1), (137, .putfield 116, 3), (140, .istore 9, 2), (142, .aload_n 0, 1), (143, .lload 7, 2), (145, .putfield 95, 3), (148, .aload_n 0, 1), (149, .iconst 2, 1), (150, .iload 9, 2), (152, .imul, 1), (153, .iload_n 1, 1), (154, .iload_n 2, 1), (155, .lload_n 3, 1), (156, .lload 5, 2), (158, .invokevirtual 126, 3), (161, .aload_n 0, 1), (162, .iconst 2, 1), (163, .iload 9, 2), (165, .imul, 1), (166, .iconst 1, 1), (167, .iadd, 1), (168, .iload_n 2, 1), (169, .iload_n 1, 1), (170, .lconst 0, 1), (171, .lload 5, 2), (173, .lneg, 1), (174, .invokevirtual 126, 3), (177, .aload_n 0, 1), (178, .iconst 0, 1), (179, .putfield 130, 3), (182, .iload 9, 2), (184, .ireturn, 1)] = true := by decide +kernel
abbrev d5_0 := own_dd e5 0 rfl
abbrev d5_1 := own_dd e5 1 rfl
abbrev d5_2 := own_dd e5 2 rfl
abbrev d5_5 := own_dd e5 3 rfl
abbrev d5_6 := own_dd e5 4 rfl
abbrev d5_7 := own_dd e5 5 rfl
abbrev d5_10 := own_dd e5 6 rfl
abbrev d5_11 := own_dd e5 7 rfl
abbrev d5_14 := own_dd e5 8 rfl
abbrev d5_15 := own_dd e5 9 rfl
abbrev d5_18 := own_dd e5 10 rfl
abbrev d5_20 := own_dd e5 11 rfl
abbrev d5_23 := own_dd e5 12 rfl
abbrev d5_26 := own_dd e5 13 rfl
abbrev d5_28 := own_dd e5 14 rfl
abbrev d5_30 := own_dd e5 15 rfl
abbrev d5_33 := own_dd e5 16 rfl
abbrev d5_34 := own_dd e5 17 rfl
abbrev d5_47 := own_dd e5 18 rfl
abbrev d5_48 := own_dd e5 19 rfl
abbrev d5_49 := own_dd e5 20 rfl
abbrev d5_52 := own_dd e5 21 rfl
abbrev d5_53 := own_dd e5 22 rfl
abbrev d5_54 := own_dd e5 23 rfl
abbrev d5_57 := own_dd e5 24 rfl
abbrev d5_58 := own_dd e5 25 rfl
abbrev d5_129 := own_dd e5 26 rfl
abbrev d5_130 := own_dd e5 27 rfl
abbrev d5_131 := own_dd e5 28 rfl
abbrev d5_134 := own_dd e5 29 rfl
abbrev d5_135 := own_dd e5 30 rfl
abbrev d5_136 := own_dd e5 31 rfl
abbrev d5_137 := own_dd e5 32 rfl
abbrev d5_140 := own_dd e5 33 rfl
abbrev d5_142 := own_dd e5 34 rfl
abbrev d5_143 := own_dd e5 35 rfl
abbrev d5_145 := own_dd e5 36 rfl
abbrev d5_148 := own_dd e5 37 rfl
abbrev d5_149 := own_dd e5 38 rfl
abbrev d5_150 := own_dd e5 39 rfl
abbrev d5_152 := own_dd e5 40 rfl
abbrev d5_153 := own_dd e5 41 rfl
abbrev d5_154 := own_dd e5 42 rfl
abbrev d5_155 := own_dd e5 43 rfl
abbrev d5_156 := own_dd e5 44 rfl
abbrev d5_158 := own_dd e5 45 rfl
abbrev d5_161 := own_dd e5 46 rfl
abbrev d5_162 := own_dd e5 47 rfl
abbrev d5_163 := own_dd e5 48 rfl
abbrev d5_165 := own_dd e5 49 rfl
abbrev d5_166 := own_dd e5 50 rfl
abbrev d5_167 := own_dd e5 51 rfl
abbrev d5_168 := own_dd e5 52 rfl
abbrev d5_169 := own_dd e5 53 rfl
abbrev d5_170 := own_dd e5 54 rfl
abbrev d5_171 := own_dd e5 55 rfl
abbrev d5_173 := own_dd e5 56 rfl
abbrev d5_174 := own_dd e5 57 rfl
abbrev d5_177 := own_dd e5 58 rfl
abbrev d5_178 := own_dd e5 59 rfl
abbrev d5_179 := own_dd e5 60 rfl
abbrev d5_182 := own_dd e5 61 rfl
abbrev d5_184 := own_dd e5 62 rfl
abbrev c6 : ByteArray := prog_45_method_24_code
theorem e6 : own_dec c6 [(0, .iload_n 1, 1), (1, .ifCond .lt 12, 3), (4, .iload_n 1, 1), (5, .aload_n 0, 1), (6, .getfield 41, 3), (9, .arraylength, 1), (10, .if_icmp .lt 17, 3), (27, .return_, 1)] = true := by decide +kernel
abbrev d6_0 := own_dd e6 0 rfl
abbrev d6_1 := own_dd e6 1 rfl
abbrev d6_4 := own_dd e6 2 rfl
abbrev d6_5 := own_dd e6 3 rfl
abbrev d6_6 := own_dd e6 4 rfl
abbrev d6_9 := own_dd e6 5 rfl
abbrev d6_10 := own_dd e6 6 rfl
abbrev d6_27 := own_dd e6 7 rfl
abbrev c7 : ByteArray := prog_45_method_25_code
theorem e7 : own_dec c7 [(0, .lload_n 0, 1), (1, .lconst 0, 1), (2, .lcmp, 1), (3, .ifCond .ge 17, 3), (20, .return_, 1)] = true := by decide +kernel
abbrev d7_0 := own_dd e7 0 rfl
abbrev d7_1 := own_dd e7 1 rfl
abbrev d7_2 := own_dd e7 2 rfl
abbrev d7_3 := own_dd e7 3 rfl
abbrev d7_20 := own_dd e7 4 rfl
abbrev c8 : ByteArray := jdk_29_method_62_code
theorem e8 : own_dec c8 [(0, .lload_n 0, 1), (1, .ldc2_w 128, 3), (4, .lcmp, 1), (5, .ifCond .ne 13, 3), (18, .lload_n 0, 1), (19, .invokestatic 122, 3), (22, .lreturn, 1)] = true := by decide +kernel
abbrev d8_0 := own_dd e8 0 rfl
abbrev d8_1 := own_dd e8 1 rfl
abbrev d8_4 := own_dd e8 2 rfl
abbrev d8_5 := own_dd e8 3 rfl
abbrev d8_18 := own_dd e8 4 rfl
abbrev d8_19 := own_dd e8 5 rfl
abbrev d8_22 := own_dd e8 6 rfl
abbrev c9 : ByteArray := jdk_29_method_61_code
theorem e9 : own_dec c9 [(0, .lload_n 0, 1), (1, .lconst 0, 1), (2, .lcmp, 1), (3, .ifCond .ge 8, 3), (6, .lload_n 0, 1), (7, .lneg, 1), (8, .goto 4, 3), (11, .lload_n 0, 1), (12, .lreturn, 1)] = true := by decide +kernel
abbrev d9_0 := own_dd e9 0 rfl
abbrev d9_1 := own_dd e9 1 rfl
abbrev d9_2 := own_dd e9 2 rfl
abbrev d9_3 := own_dd e9 3 rfl
abbrev d9_6 := own_dd e9 4 rfl
abbrev d9_7 := own_dd e9 5 rfl
abbrev d9_8 := own_dd e9 6 rfl
abbrev d9_11 := own_dd e9 7 rfl
abbrev d9_12 := own_dd e9 8 rfl
abbrev c10 : ByteArray := jdk_29_method_25_code
theorem e10 : own_dec c10 [(0, .lload_n 0, 1), (1, .lload_n 2, 1), (2, .ladd, 1), (3, .lstore 4, 2), (5, .lload_n 0, 1), (6, .lload 4, 2), (8, .lxor, 1), (9, .lload_n 2, 1), (10, .lload 4, 2), (12, .lxor, 1), (13, .land, 1), (14, .lconst 0, 1), (15, .lcmp, 1), (16, .ifCond .ge 13, 3), (29, .lload 4, 2), (31, .lreturn, 1)] = true := by decide +kernel
abbrev d10_0 := own_dd e10 0 rfl
abbrev d10_1 := own_dd e10 1 rfl
abbrev d10_2 := own_dd e10 2 rfl
abbrev d10_3 := own_dd e10 3 rfl
abbrev d10_5 := own_dd e10 4 rfl
abbrev d10_6 := own_dd e10 5 rfl
abbrev d10_8 := own_dd e10 6 rfl
abbrev d10_9 := own_dd e10 7 rfl
abbrev d10_10 := own_dd e10 8 rfl
abbrev d10_12 := own_dd e10 9 rfl
abbrev d10_13 := own_dd e10 10 rfl
abbrev d10_14 := own_dd e10 11 rfl
abbrev d10_15 := own_dd e10 12 rfl
abbrev d10_16 := own_dd e10 13 rfl
abbrev d10_29 := own_dd e10 14 rfl
abbrev d10_31 := own_dd e10 15 rfl
abbrev c11 : ByteArray := prog_45_method_23_code
theorem e11 : own_dec c11 [(0, .aload_n 0, 1), (1, .getfield 15, 3), (4, .iload_n 1, 1), (5, .iload_n 3, 1), (6, .iastore, 1), (7, .aload_n 0, 1), (8, .getfield 9, 3), (11, .iload_n 1, 1), (12, .aload_n 0, 1), (13, .getfield 41, 3), (16, .iload_n 2, 1), (17, .iaload, 1), (18, .iastore, 1), (19, .aload_n 0, 1), (20, .getfield 41, 3), (23, .iload_n 2, 1), (24, .iload_n 1, 1), (25, .iastore, 1), (26, .aload_n 0, 1), (27, .getfield 18, 3), (30, .iload_n 1, 1), (31, .lload 4, 2), (33, .lastore, 1), (34, .aload_n 0, 1), (35, .getfield 22, 3), (38, .iload_n 1, 1), (39, .lload 6, 2), (41, .lastore, 1), (42, .return_, 1)] = true := by decide +kernel
abbrev d11_0 := own_dd e11 0 rfl
abbrev d11_1 := own_dd e11 1 rfl
abbrev d11_4 := own_dd e11 2 rfl
abbrev d11_5 := own_dd e11 3 rfl
abbrev d11_6 := own_dd e11 4 rfl
abbrev d11_7 := own_dd e11 5 rfl
abbrev d11_8 := own_dd e11 6 rfl
abbrev d11_11 := own_dd e11 7 rfl
abbrev d11_12 := own_dd e11 8 rfl
abbrev d11_13 := own_dd e11 9 rfl
abbrev d11_16 := own_dd e11 10 rfl
abbrev d11_17 := own_dd e11 11 rfl
abbrev d11_18 := own_dd e11 12 rfl
abbrev d11_19 := own_dd e11 13 rfl
abbrev d11_20 := own_dd e11 14 rfl
abbrev d11_23 := own_dd e11 15 rfl
abbrev d11_24 := own_dd e11 16 rfl
abbrev d11_25 := own_dd e11 17 rfl
abbrev d11_26 := own_dd e11 18 rfl
abbrev d11_27 := own_dd e11 19 rfl
abbrev d11_30 := own_dd e11 20 rfl
abbrev d11_31 := own_dd e11 21 rfl
abbrev d11_33 := own_dd e11 22 rfl
abbrev d11_34 := own_dd e11 23 rfl
abbrev d11_35 := own_dd e11 24 rfl
abbrev d11_38 := own_dd e11 25 rfl
abbrev d11_39 := own_dd e11 26 rfl
abbrev d11_41 := own_dd e11 27 rfl
abbrev d11_42 := own_dd e11 28 rfl
abbrev c12 : ByteArray := prog_45_method_12_code
theorem e12 : own_dec c12 [(0, .aload_n 0, 1), (1, .iload_n 1, 1), (2, .invokevirtual 87, 3), (5, .aload_n 0, 1), (6, .iload_n 2, 1), (7, .invokevirtual 87, 3), (10, .iload_n 1, 1), (11, .iload_n 2, 1), (12, .if_icmp .eq 9, 3), (15, .lload_n 3, 1), (16, .lconst 0, 1), (17, .lcmp, 1), (18, .ifCond .ge 11, 3), (29, .iload_n 1, 1), (30, .aload_n 0, 1), (31, .getfield 25, 3), (34, .if_icmp .ne 11, 3), (45, .aload_n 0, 1), (46, .iconst 0, 1), (47, .putfield 130, 3), (50, .aload_n 0, 1), (51, .iload_n 1, 1), (52, .putfield 25, 3), (55, .aload_n 0, 1), (56, .iload_n 2, 1), (57, .putfield 29, 3), (60, .aload_n 0, 1), (61, .invokevirtual 156, 3), (64, .lconst 0, 1), (65, .lstore 5, 2), (67, .lload 5, 2), (69, .lload_n 3, 1), (70, .lcmp, 1), (71, .ifCond .ge 152, 3), (74, .aload_n 0, 1), (75, .iload_n 1, 1), (76, .iconst 1, 1), (77, .invokevirtual 159, 3), (80, .aload_n 0, 1), (81, .getfield 47, 3), (84, .iload_n 2, 1), (85, .laload, 1), (86, .lstore 7, 2), (88, .lload 7, 2), (90, .ldc2_w 163, 3), (93, .lcmp, 1), (94, .ifCond .ne 6, 3), (97, .goto 126, 3), (100, .aload_n 0, 1), (101, .lload 7, 2), (103, .invokevirtual 165, 3), (106, .lload 5, 2), (108, .lload_n 3, 1), (109, .lcmp, 1), (110, .ifCond .ge 110, 3), (113, .aload_n 0, 1), (114, .iload_n 1, 1), (115, .iload_n 2, 1), (116, .invokevirtual 168, 3), (119, .ifCond .eq 101, 3), (122, .lload_n 3, 1), (123, .lload 5, 2), (125, .lsub, 1), (126, .lstore 9, 2), (128, .iload_n 2, 1), (129, .istore 11, 2), (131, .iload 11, 2), (133, .iload_n 1, 1), (134, .if_icmp .eq 38, 3), (137, .lload 9, 2), (139, .aload_n 0, 1), (140, .getfield 18, 3), (143, .aload_n 0, 1), (144, .getfield 50, 3), (147, .iload 11, 2), (149, .iaload, 1), (150, .laload, 1), (151, .invokestatic 172, 3), (154, .lstore 9, 2), (156, .aload_n 0, 1), (157, .aload_n 0, 1), (158, .getfield 50, 3), (161, .iload 11, 2), (163, .iaload, 1), (164, .invokevirtual 175, 3), (167, .istore 11, 2), (169, .goto (-38), 3), (172, .iload_n 2, 1), (173, .istore 11, 2), (175, .iload 11, 2), (177, .iload_n 1, 1), (178, .if_icmp .eq 32, 3), (181, .aload_n 0, 1), (182, .aload_n 0, 1), (183, .getfield 50, 3), (186, .iload 11, 2), (188, .iaload, 1), (189, .lload 9, 2), (191, .invokevirtual 179, 3), (194, .aload_n 0, 1), (195, .aload_n 0, 1), (196, .getfield 50, 3), (199, .iload 11, 2), (201, .iaload, 1), (202, .invokevirtual 175, 3), (205, .istore 11, 2), (207, .goto (-32), 3), (210, .lload 5, 2), (212, .lload 9, 2), (214, .ladd, 1), (215, .lstore 5, 2), (217, .goto (-111), 3), (220, .goto (-153), 3), (223, .lload 5, 2), (225, .lreturn, 1)] = true := by decide +kernel
abbrev d12_0 := own_dd e12 0 rfl
abbrev d12_1 := own_dd e12 1 rfl
abbrev d12_2 := own_dd e12 2 rfl
abbrev d12_5 := own_dd e12 3 rfl
abbrev d12_6 := own_dd e12 4 rfl
abbrev d12_7 := own_dd e12 5 rfl
abbrev d12_10 := own_dd e12 6 rfl
abbrev d12_11 := own_dd e12 7 rfl
abbrev d12_12 := own_dd e12 8 rfl
abbrev d12_15 := own_dd e12 9 rfl
abbrev d12_16 := own_dd e12 10 rfl
abbrev d12_17 := own_dd e12 11 rfl
abbrev d12_18 := own_dd e12 12 rfl
abbrev d12_29 := own_dd e12 13 rfl
abbrev d12_30 := own_dd e12 14 rfl
abbrev d12_31 := own_dd e12 15 rfl
abbrev d12_34 := own_dd e12 16 rfl
abbrev d12_45 := own_dd e12 17 rfl
abbrev d12_46 := own_dd e12 18 rfl
abbrev d12_47 := own_dd e12 19 rfl
abbrev d12_50 := own_dd e12 20 rfl
abbrev d12_51 := own_dd e12 21 rfl
abbrev d12_52 := own_dd e12 22 rfl
abbrev d12_55 := own_dd e12 23 rfl
abbrev d12_56 := own_dd e12 24 rfl
abbrev d12_57 := own_dd e12 25 rfl
abbrev d12_60 := own_dd e12 26 rfl
abbrev d12_61 := own_dd e12 27 rfl
abbrev d12_64 := own_dd e12 28 rfl
abbrev d12_65 := own_dd e12 29 rfl
abbrev d12_67 := own_dd e12 30 rfl
abbrev d12_69 := own_dd e12 31 rfl
abbrev d12_70 := own_dd e12 32 rfl
abbrev d12_71 := own_dd e12 33 rfl
abbrev d12_74 := own_dd e12 34 rfl
abbrev d12_75 := own_dd e12 35 rfl
abbrev d12_76 := own_dd e12 36 rfl
abbrev d12_77 := own_dd e12 37 rfl
abbrev d12_80 := own_dd e12 38 rfl
abbrev d12_81 := own_dd e12 39 rfl
abbrev d12_84 := own_dd e12 40 rfl
abbrev d12_85 := own_dd e12 41 rfl
abbrev d12_86 := own_dd e12 42 rfl
abbrev d12_88 := own_dd e12 43 rfl
abbrev d12_90 := own_dd e12 44 rfl
abbrev d12_93 := own_dd e12 45 rfl
abbrev d12_94 := own_dd e12 46 rfl
abbrev d12_97 := own_dd e12 47 rfl
abbrev d12_100 := own_dd e12 48 rfl
abbrev d12_101 := own_dd e12 49 rfl
abbrev d12_103 := own_dd e12 50 rfl
abbrev d12_106 := own_dd e12 51 rfl
abbrev d12_108 := own_dd e12 52 rfl
abbrev d12_109 := own_dd e12 53 rfl
abbrev d12_110 := own_dd e12 54 rfl
abbrev d12_113 := own_dd e12 55 rfl
abbrev d12_114 := own_dd e12 56 rfl
abbrev d12_115 := own_dd e12 57 rfl
abbrev d12_116 := own_dd e12 58 rfl
abbrev d12_119 := own_dd e12 59 rfl
abbrev d12_122 := own_dd e12 60 rfl
abbrev d12_123 := own_dd e12 61 rfl
abbrev d12_125 := own_dd e12 62 rfl
abbrev d12_126 := own_dd e12 63 rfl
abbrev d12_128 := own_dd e12 64 rfl
abbrev d12_129 := own_dd e12 65 rfl
abbrev d12_131 := own_dd e12 66 rfl
abbrev d12_133 := own_dd e12 67 rfl
abbrev d12_134 := own_dd e12 68 rfl
abbrev d12_137 := own_dd e12 69 rfl
abbrev d12_139 := own_dd e12 70 rfl
abbrev d12_140 := own_dd e12 71 rfl
abbrev d12_143 := own_dd e12 72 rfl
abbrev d12_144 := own_dd e12 73 rfl
abbrev d12_147 := own_dd e12 74 rfl
abbrev d12_149 := own_dd e12 75 rfl
abbrev d12_150 := own_dd e12 76 rfl
abbrev d12_151 := own_dd e12 77 rfl
abbrev d12_154 := own_dd e12 78 rfl
abbrev d12_156 := own_dd e12 79 rfl
abbrev d12_157 := own_dd e12 80 rfl
abbrev d12_158 := own_dd e12 81 rfl
abbrev d12_161 := own_dd e12 82 rfl
abbrev d12_163 := own_dd e12 83 rfl
abbrev d12_164 := own_dd e12 84 rfl
abbrev d12_167 := own_dd e12 85 rfl
abbrev d12_169 := own_dd e12 86 rfl
abbrev d12_172 := own_dd e12 87 rfl
abbrev d12_173 := own_dd e12 88 rfl
abbrev d12_175 := own_dd e12 89 rfl
abbrev d12_177 := own_dd e12 90 rfl
abbrev d12_178 := own_dd e12 91 rfl
abbrev d12_181 := own_dd e12 92 rfl
abbrev d12_182 := own_dd e12 93 rfl
abbrev d12_183 := own_dd e12 94 rfl
abbrev d12_186 := own_dd e12 95 rfl
abbrev d12_188 := own_dd e12 96 rfl
abbrev d12_189 := own_dd e12 97 rfl
abbrev d12_191 := own_dd e12 98 rfl
abbrev d12_194 := own_dd e12 99 rfl
abbrev d12_195 := own_dd e12 100 rfl
abbrev d12_196 := own_dd e12 101 rfl
abbrev d12_199 := own_dd e12 102 rfl
abbrev d12_201 := own_dd e12 103 rfl
abbrev d12_202 := own_dd e12 104 rfl
abbrev d12_205 := own_dd e12 105 rfl
abbrev d12_207 := own_dd e12 106 rfl
abbrev d12_210 := own_dd e12 107 rfl
abbrev d12_212 := own_dd e12 108 rfl
abbrev d12_214 := own_dd e12 109 rfl
abbrev d12_215 := own_dd e12 110 rfl
abbrev d12_217 := own_dd e12 111 rfl
abbrev d12_220 := own_dd e12 112 rfl
abbrev d12_223 := own_dd e12 113 rfl
abbrev d12_225 := own_dd e12 114 rfl
abbrev c13 : ByteArray := prog_45_method_17_code
theorem e13 : own_dec c13 [(0, .aload_n 0, 1), (1, .getfield 130, 3), (4, .ifCond .eq 4, 3), (8, .aload_n 0, 1), (9, .getfield 44, 3), (12, .arraylength, 1), (13, .istore_n 1, 1), (14, .aload_n 0, 1), (15, .getfield 44, 3), (18, .lconst 0, 1), (19, .invokestatic 186, 3), (22, .aload_n 0, 1), (23, .getfield 69, 3), (26, .iconst 0, 1), (27, .invokestatic 81, 3), (30, .iconst 0, 1), (31, .istore_n 2, 1), (32, .iload_n 2, 1), (33, .iload_n 1, 1), (34, .if_icmp .ge 23, 3), (37, .aload_n 0, 1), (38, .getfield 62, 3), (41, .iload_n 2, 1), (42, .iload_n 2, 1), (43, .iastore, 1), (44, .aload_n 0, 1), (45, .getfield 65, 3), (48, .iload_n 2, 1), (49, .iconst 1, 1), (50, .bastore, 1), (51, .iinc 2 1, 3), (54, .goto (-22), 3), (57, .iconst 0, 1), (58, .istore_n 2, 1), (59, .iload_n 1, 1), (60, .istore_n 3, 1), (61, .iload_n 3, 1), (62, .ifCond .le 176, 3), (65, .aload_n 0, 1), (66, .getfield 62, 3), (69, .iload_n 2, 1), (70, .iaload, 1), (71, .istore 4, 2), (73, .iload_n 2, 1), (74, .iconst 1, 1), (75, .iadd, 1), (76, .iload_n 1, 1), (77, .irem, 1), (78, .istore_n 2, 1), (79, .iinc 3 (-1), 3), (82, .aload_n 0, 1), (83, .getfield 65, 3), (86, .iload 4, 2), (88, .iconst 0, 1), (89, .bastore, 1), (90, .aload_n 0, 1), (91, .getfield 41, 3), (94, .iload 4, 2), (96, .iaload, 1), (97, .istore 5, 2), (99, .iload 5, 2), (101, .ifCond .lt 134, 3), (104, .aload_n 0, 1), (105, .getfield 15, 3), (108, .iload 5, 2), (110, .iaload, 1), (111, .istore 6, 2), (113, .aload_n 0, 1), (114, .getfield 44, 3), (117, .iload 4, 2), (119, .laload, 1), (120, .aload_n 0, 1), (121, .getfield 22, 3), (124, .iload 5, 2), (126, .laload, 1), (127, .ladd, 1), (128, .lstore 7, 2), (130, .aload_n 0, 1), (131, .getfield 18, 3), (134, .iload 5, 2), (136, .laload, 1), (137, .lconst 0, 1), (138, .lcmp, 1), (139, .ifCond .le 84, 3), (142, .lload 7, 2), (144, .aload_n 0, 1), (145, .getfield 44, 3), (148, .iload 6, 2), (150, .laload, 1), (151, .lcmp, 1), (152, .ifCond .ge 71, 3), (155, .aload_n 0, 1), (156, .getfield 44, 3), (159, .iload 6, 2), (161, .lload 7, 2), (163, .lastore, 1), (164, .aload_n 0, 1), (165, .getfield 69, 3), (168, .iload 6, 2), (170, .dup2, 1), (171, .iaload, 1), (172, .iconst 1, 1), (173, .iadd, 1), (174, .dup_x2, 1), (175, .iastore, 1), (176, .iload_n 1, 1), (177, .if_icmp .le 13, 3), (190, .aload_n 0, 1), (191, .getfield 65, 3), (194, .iload 6, 2), (196, .baload, 1), (197, .ifCond .ne 26, 3), (223, .aload_n 0, 1), (224, .getfield 9, 3), (227, .iload 5, 2), (229, .iaload, 1), (230, .istore 5, 2), (232, .goto (-133), 3), (235, .goto (-174), 3), (238, .aload_n 0, 1), (239, .iconst 1, 1), (240, .putfield 130, 3), (243, .return_, 1)] = true := by decide +kernel
abbrev d13_0 := own_dd e13 0 rfl
abbrev d13_1 := own_dd e13 1 rfl
abbrev d13_4 := own_dd e13 2 rfl
abbrev d13_8 := own_dd e13 3 rfl
abbrev d13_9 := own_dd e13 4 rfl
abbrev d13_12 := own_dd e13 5 rfl
abbrev d13_13 := own_dd e13 6 rfl
abbrev d13_14 := own_dd e13 7 rfl
abbrev d13_15 := own_dd e13 8 rfl
abbrev d13_18 := own_dd e13 9 rfl
abbrev d13_19 := own_dd e13 10 rfl
abbrev d13_22 := own_dd e13 11 rfl
abbrev d13_23 := own_dd e13 12 rfl
abbrev d13_26 := own_dd e13 13 rfl
abbrev d13_27 := own_dd e13 14 rfl
abbrev d13_30 := own_dd e13 15 rfl
abbrev d13_31 := own_dd e13 16 rfl
abbrev d13_32 := own_dd e13 17 rfl
abbrev d13_33 := own_dd e13 18 rfl
abbrev d13_34 := own_dd e13 19 rfl
abbrev d13_37 := own_dd e13 20 rfl
abbrev d13_38 := own_dd e13 21 rfl
abbrev d13_41 := own_dd e13 22 rfl
abbrev d13_42 := own_dd e13 23 rfl
abbrev d13_43 := own_dd e13 24 rfl
abbrev d13_44 := own_dd e13 25 rfl
abbrev d13_45 := own_dd e13 26 rfl
abbrev d13_48 := own_dd e13 27 rfl
abbrev d13_49 := own_dd e13 28 rfl
abbrev d13_50 := own_dd e13 29 rfl
abbrev d13_51 := own_dd e13 30 rfl
abbrev d13_54 := own_dd e13 31 rfl
abbrev d13_57 := own_dd e13 32 rfl
abbrev d13_58 := own_dd e13 33 rfl
abbrev d13_59 := own_dd e13 34 rfl
abbrev d13_60 := own_dd e13 35 rfl
abbrev d13_61 := own_dd e13 36 rfl
abbrev d13_62 := own_dd e13 37 rfl
abbrev d13_65 := own_dd e13 38 rfl
abbrev d13_66 := own_dd e13 39 rfl
abbrev d13_69 := own_dd e13 40 rfl
abbrev d13_70 := own_dd e13 41 rfl
abbrev d13_71 := own_dd e13 42 rfl
abbrev d13_73 := own_dd e13 43 rfl
abbrev d13_74 := own_dd e13 44 rfl
abbrev d13_75 := own_dd e13 45 rfl
abbrev d13_76 := own_dd e13 46 rfl
abbrev d13_77 := own_dd e13 47 rfl
abbrev d13_78 := own_dd e13 48 rfl
abbrev d13_79 := own_dd e13 49 rfl
abbrev d13_82 := own_dd e13 50 rfl
abbrev d13_83 := own_dd e13 51 rfl
abbrev d13_86 := own_dd e13 52 rfl
abbrev d13_88 := own_dd e13 53 rfl
abbrev d13_89 := own_dd e13 54 rfl
abbrev d13_90 := own_dd e13 55 rfl
abbrev d13_91 := own_dd e13 56 rfl
abbrev d13_94 := own_dd e13 57 rfl
abbrev d13_96 := own_dd e13 58 rfl
abbrev d13_97 := own_dd e13 59 rfl
abbrev d13_99 := own_dd e13 60 rfl
abbrev d13_101 := own_dd e13 61 rfl
abbrev d13_104 := own_dd e13 62 rfl
abbrev d13_105 := own_dd e13 63 rfl
abbrev d13_108 := own_dd e13 64 rfl
abbrev d13_110 := own_dd e13 65 rfl
abbrev d13_111 := own_dd e13 66 rfl
abbrev d13_113 := own_dd e13 67 rfl
abbrev d13_114 := own_dd e13 68 rfl
abbrev d13_117 := own_dd e13 69 rfl
abbrev d13_119 := own_dd e13 70 rfl
abbrev d13_120 := own_dd e13 71 rfl
abbrev d13_121 := own_dd e13 72 rfl
abbrev d13_124 := own_dd e13 73 rfl
abbrev d13_126 := own_dd e13 74 rfl
abbrev d13_127 := own_dd e13 75 rfl
abbrev d13_128 := own_dd e13 76 rfl
abbrev d13_130 := own_dd e13 77 rfl
abbrev d13_131 := own_dd e13 78 rfl
abbrev d13_134 := own_dd e13 79 rfl
abbrev d13_136 := own_dd e13 80 rfl
abbrev d13_137 := own_dd e13 81 rfl
abbrev d13_138 := own_dd e13 82 rfl
abbrev d13_139 := own_dd e13 83 rfl
abbrev d13_142 := own_dd e13 84 rfl
abbrev d13_144 := own_dd e13 85 rfl
abbrev d13_145 := own_dd e13 86 rfl
abbrev d13_148 := own_dd e13 87 rfl
abbrev d13_150 := own_dd e13 88 rfl
abbrev d13_151 := own_dd e13 89 rfl
abbrev d13_152 := own_dd e13 90 rfl
abbrev d13_155 := own_dd e13 91 rfl
abbrev d13_156 := own_dd e13 92 rfl
abbrev d13_159 := own_dd e13 93 rfl
abbrev d13_161 := own_dd e13 94 rfl
abbrev d13_163 := own_dd e13 95 rfl
abbrev d13_164 := own_dd e13 96 rfl
abbrev d13_165 := own_dd e13 97 rfl
abbrev d13_168 := own_dd e13 98 rfl
abbrev d13_170 := own_dd e13 99 rfl
abbrev d13_171 := own_dd e13 100 rfl
abbrev d13_172 := own_dd e13 101 rfl
abbrev d13_173 := own_dd e13 102 rfl
abbrev d13_174 := own_dd e13 103 rfl
abbrev d13_175 := own_dd e13 104 rfl
abbrev d13_176 := own_dd e13 105 rfl
abbrev d13_177 := own_dd e13 106 rfl
abbrev d13_190 := own_dd e13 107 rfl
abbrev d13_191 := own_dd e13 108 rfl
abbrev d13_194 := own_dd e13 109 rfl
abbrev d13_196 := own_dd e13 110 rfl
abbrev d13_197 := own_dd e13 111 rfl
abbrev d13_223 := own_dd e13 112 rfl
abbrev d13_224 := own_dd e13 113 rfl
abbrev d13_227 := own_dd e13 114 rfl
abbrev d13_229 := own_dd e13 115 rfl
abbrev d13_230 := own_dd e13 116 rfl
abbrev d13_232 := own_dd e13 117 rfl
abbrev d13_235 := own_dd e13 118 rfl
abbrev d13_238 := own_dd e13 119 rfl
abbrev d13_239 := own_dd e13 120 rfl
abbrev d13_240 := own_dd e13 121 rfl
abbrev d13_243 := own_dd e13 122 rfl
abbrev c14 : ByteArray := jdk_65_method_101_code
theorem e14 : own_dec c14 [(0, .iconst 0, 1), (1, .istore_n 3, 1), (2, .aload_n 0, 1), (3, .arraylength, 1), (4, .istore 4, 2), (6, .iload_n 3, 1), (7, .iload 4, 2), (9, .if_icmp .ge 13, 3), (12, .aload_n 0, 1), (13, .iload_n 3, 1), (14, .lload_n 1, 1), (15, .lastore, 1), (16, .iinc 3 1, 3), (19, .goto (-13), 3), (22, .return_, 1)] = true := by decide +kernel
abbrev d14_0 := own_dd e14 0 rfl
abbrev d14_1 := own_dd e14 1 rfl
abbrev d14_2 := own_dd e14 2 rfl
abbrev d14_3 := own_dd e14 3 rfl
abbrev d14_4 := own_dd e14 4 rfl
abbrev d14_6 := own_dd e14 5 rfl
abbrev d14_7 := own_dd e14 6 rfl
abbrev d14_9 := own_dd e14 7 rfl
abbrev d14_12 := own_dd e14 8 rfl
abbrev d14_13 := own_dd e14 9 rfl
abbrev d14_14 := own_dd e14 10 rfl
abbrev d14_15 := own_dd e14 11 rfl
abbrev d14_16 := own_dd e14 12 rfl
abbrev d14_19 := own_dd e14 13 rfl
abbrev d14_22 := own_dd e14 14 rfl
abbrev c15 : ByteArray := prog_45_method_7_code
theorem e15 : own_dec c15 [(0, .aload_n 0, 1), (1, .iload_n 1, 1), (2, .invokevirtual 134, 3), (5, .aload_n 0, 1), (6, .getfield 18, 3), (9, .iconst 2, 1), (10, .iload_n 1, 1), (11, .imul, 1), (12, .iconst 1, 1), (13, .iadd, 1), (14, .laload, 1), (15, .lreturn, 1)] = true := by decide +kernel
abbrev d15_0 := own_dd e15 0 rfl
abbrev d15_1 := own_dd e15 1 rfl
abbrev d15_2 := own_dd e15 2 rfl
abbrev d15_5 := own_dd e15 3 rfl
abbrev d15_6 := own_dd e15 4 rfl
abbrev d15_9 := own_dd e15 5 rfl
abbrev d15_10 := own_dd e15 6 rfl
abbrev d15_11 := own_dd e15 7 rfl
abbrev d15_12 := own_dd e15 8 rfl
abbrev d15_13 := own_dd e15 9 rfl
abbrev d15_14 := own_dd e15 10 rfl
abbrev d15_15 := own_dd e15 11 rfl
abbrev c16 : ByteArray := prog_45_method_27_code
theorem e16 : own_dec c16 [(0, .iload_n 1, 1), (1, .ifCond .lt 11, 3), (4, .iload_n 1, 1), (5, .aload_n 0, 1), (6, .getfield 116, 3), (9, .if_icmp .lt 17, 3), (26, .return_, 1)] = true := by decide +kernel
abbrev d16_0 := own_dd e16 0 rfl
abbrev d16_1 := own_dd e16 1 rfl
abbrev d16_4 := own_dd e16 2 rfl
abbrev d16_5 := own_dd e16 3 rfl
abbrev d16_6 := own_dd e16 4 rfl
abbrev d16_9 := own_dd e16 5 rfl
abbrev d16_26 := own_dd e16 6 rfl
abbrev c17 : ByteArray := jdk_29_method_66_code
theorem e17 : own_dec c17 [(0, .lload_n 0, 1), (1, .lload_n 2, 1), (2, .lcmp, 1), (3, .ifCond .lt 7, 3), (6, .lload_n 0, 1), (7, .goto 4, 3), (10, .lload_n 2, 1), (11, .lreturn, 1)] = true := by decide +kernel
abbrev d17_0 := own_dd e17 0 rfl
abbrev d17_1 := own_dd e17 1 rfl
abbrev d17_2 := own_dd e17 2 rfl
abbrev d17_3 := own_dd e17 3 rfl
abbrev d17_6 := own_dd e17 4 rfl
abbrev d17_7 := own_dd e17 5 rfl
abbrev d17_10 := own_dd e17 6 rfl
abbrev d17_11 := own_dd e17 7 rfl
abbrev c18 : ByteArray := prog_45_method_4_code
theorem e18 : own_dec c18 [(0, .aload_n 0, 1), (1, .iload_n 1, 1), (2, .invokevirtual 134, 3), (5, .lload_n 2, 1), (6, .invokestatic 91, 3), (9, .aload_n 0, 1), (10, .getfield 18, 3), (13, .iconst 2, 1), (14, .iload_n 1, 1), (15, .imul, 1), (16, .iconst 1, 1), (17, .iadd, 1), (18, .laload, 1), (19, .lstore 4, 2), (21, .lload_n 2, 1), (22, .lload 4, 2), (24, .lcmp, 1), (25, .ifCond .ge 18, 3), (43, .lload_n 2, 1), (44, .lload 4, 2), (46, .lsub, 1), (47, .aload_n 0, 1), (48, .getfield 18, 3), (51, .iconst 2, 1), (52, .iload_n 1, 1), (53, .imul, 1), (54, .laload, 1), (55, .lcmp, 1), (56, .ifCond .le 8, 3), (59, .aload_n 0, 1), (60, .iconst 0, 1), (61, .putfield 130, 3), (64, .aload_n 0, 1), (65, .getfield 18, 3), (68, .iconst 2, 1), (69, .iload_n 1, 1), (70, .imul, 1), (71, .lload_n 2, 1), (72, .lload 4, 2), (74, .lsub, 1), (75, .lastore, 1), (76, .return_, 1)] = true := by decide +kernel
abbrev d18_0 := own_dd e18 0 rfl
abbrev d18_1 := own_dd e18 1 rfl
abbrev d18_2 := own_dd e18 2 rfl
abbrev d18_5 := own_dd e18 3 rfl
abbrev d18_6 := own_dd e18 4 rfl
abbrev d18_9 := own_dd e18 5 rfl
abbrev d18_10 := own_dd e18 6 rfl
abbrev d18_13 := own_dd e18 7 rfl
abbrev d18_14 := own_dd e18 8 rfl
abbrev d18_15 := own_dd e18 9 rfl
abbrev d18_16 := own_dd e18 10 rfl
abbrev d18_17 := own_dd e18 11 rfl
abbrev d18_18 := own_dd e18 12 rfl
abbrev d18_19 := own_dd e18 13 rfl
abbrev d18_21 := own_dd e18 14 rfl
abbrev d18_22 := own_dd e18 15 rfl
abbrev d18_24 := own_dd e18 16 rfl
abbrev d18_25 := own_dd e18 17 rfl
abbrev d18_43 := own_dd e18 18 rfl
abbrev d18_44 := own_dd e18 19 rfl
abbrev d18_46 := own_dd e18 20 rfl
abbrev d18_47 := own_dd e18 21 rfl
abbrev d18_48 := own_dd e18 22 rfl
abbrev d18_51 := own_dd e18 23 rfl
abbrev d18_52 := own_dd e18 24 rfl
abbrev d18_53 := own_dd e18 25 rfl
abbrev d18_54 := own_dd e18 26 rfl
abbrev d18_55 := own_dd e18 27 rfl
abbrev d18_56 := own_dd e18 28 rfl
abbrev d18_59 := own_dd e18 29 rfl
abbrev d18_60 := own_dd e18 30 rfl
abbrev d18_61 := own_dd e18 31 rfl
abbrev d18_64 := own_dd e18 32 rfl
abbrev d18_65 := own_dd e18 33 rfl
abbrev d18_68 := own_dd e18 34 rfl
abbrev d18_69 := own_dd e18 35 rfl
abbrev d18_70 := own_dd e18 36 rfl
abbrev d18_71 := own_dd e18 37 rfl
abbrev d18_72 := own_dd e18 38 rfl
abbrev d18_74 := own_dd e18 39 rfl
abbrev d18_75 := own_dd e18 40 rfl
abbrev d18_76 := own_dd e18 41 rfl
abbrev c19 : ByteArray := prog_45_method_6_code
theorem e19 : own_dec c19 [(0, .iconst 0, 1), (1, .istore_n 1, 1), (2, .iload_n 1, 1), (3, .iconst 2, 1), (4, .aload_n 0, 1), (5, .getfield 116, 3), (8, .imul, 1), (9, .if_icmp .ge 35, 3), (12, .aload_n 0, 1), (13, .getfield 18, 3), (16, .iload_n 1, 1), (17, .dup2, 1), (18, .laload, 1), (19, .aload_n 0, 1), (20, .getfield 18, 3), (23, .iload_n 1, 1), (24, .iconst 1, 1), (25, .iadd, 1), (26, .laload, 1), (27, .ladd, 1), (28, .lastore, 1), (29, .aload_n 0, 1), (30, .getfield 18, 3), (33, .iload_n 1, 1), (34, .iconst 1, 1), (35, .iadd, 1), (36, .lconst 0, 1), (37, .lastore, 1), (38, .iinc 1 2, 3), (41, .goto (-39), 3), (44, .aload_n 0, 1), (45, .lconst 0, 1), (46, .putfield 143, 3), (49, .aload_n 0, 1), (50, .iconst 0, 1), (51, .putfield 130, 3), (54, .return_, 1)] = true := by decide +kernel
abbrev d19_0 := own_dd e19 0 rfl
abbrev d19_1 := own_dd e19 1 rfl
abbrev d19_2 := own_dd e19 2 rfl
abbrev d19_3 := own_dd e19 3 rfl
abbrev d19_4 := own_dd e19 4 rfl
abbrev d19_5 := own_dd e19 5 rfl
abbrev d19_8 := own_dd e19 6 rfl
abbrev d19_9 := own_dd e19 7 rfl
abbrev d19_12 := own_dd e19 8 rfl
abbrev d19_13 := own_dd e19 9 rfl
abbrev d19_16 := own_dd e19 10 rfl
abbrev d19_17 := own_dd e19 11 rfl
abbrev d19_18 := own_dd e19 12 rfl
abbrev d19_19 := own_dd e19 13 rfl
abbrev d19_20 := own_dd e19 14 rfl
abbrev d19_23 := own_dd e19 15 rfl
abbrev d19_24 := own_dd e19 16 rfl
abbrev d19_25 := own_dd e19 17 rfl
abbrev d19_26 := own_dd e19 18 rfl
abbrev d19_27 := own_dd e19 19 rfl
abbrev d19_28 := own_dd e19 20 rfl
abbrev d19_29 := own_dd e19 21 rfl
abbrev d19_30 := own_dd e19 22 rfl
abbrev d19_33 := own_dd e19 23 rfl
abbrev d19_34 := own_dd e19 24 rfl
abbrev d19_35 := own_dd e19 25 rfl
abbrev d19_36 := own_dd e19 26 rfl
abbrev d19_37 := own_dd e19 27 rfl
abbrev d19_38 := own_dd e19 28 rfl
abbrev d19_41 := own_dd e19 29 rfl
abbrev d19_44 := own_dd e19 30 rfl
abbrev d19_45 := own_dd e19 31 rfl
abbrev d19_46 := own_dd e19 32 rfl
abbrev d19_49 := own_dd e19 33 rfl
abbrev d19_50 := own_dd e19 34 rfl
abbrev d19_51 := own_dd e19 35 rfl
abbrev d19_54 := own_dd e19 36 rfl
abbrev c20 : ByteArray := prog_45_method_9_code
theorem e20 : own_dec c20 [(0, .aload_n 0, 1), (1, .aload_n 1, 1), (2, .invokevirtual 146, 3), (5, .aload_n 1, 1), (6, .iconst 0, 1), (7, .aload_n 0, 1), (8, .getfield 143, 3), (11, .lastore, 1), (12, .aload_n 1, 1), (13, .iconst 1, 1), (14, .aload_n 0, 1), (15, .getfield 130, 3), (18, .ifCond .eq 7, 3), (25, .lconst 0, 1), (26, .lastore, 1), (27, .aload_n 1, 1), (28, .iconst 2, 1), (29, .aload_n 0, 1), (30, .getfield 25, 3), (33, .i2l, 1), (34, .lastore, 1), (35, .aload_n 1, 1), (36, .iconst 3, 1), (37, .aload_n 0, 1), (38, .getfield 29, 3), (41, .i2l, 1), (42, .lastore, 1), (43, .aload_n 0, 1), (44, .getfield 18, 3), (47, .iconst 0, 1), (48, .aload_n 1, 1), (49, .iconst 4, 1), (50, .iconst 2, 1), (51, .aload_n 0, 1), (52, .getfield 116, 3), (55, .imul, 1), (56, .invokestatic 149, 3), (59, .aload_n 0, 1), (60, .getfield 44, 3), (63, .iconst 0, 1), (64, .aload_n 1, 1), (65, .iconst 4, 1), (66, .iconst 2, 1), (67, .aload_n 0, 1), (68, .getfield 116, 3), (71, .imul, 1), (72, .iadd, 1), (73, .aload_n 0, 1), (74, .getfield 44, 3), (77, .arraylength, 1), (78, .invokestatic 149, 3), (81, .return_, 1)] = true := by decide +kernel
abbrev d20_0 := own_dd e20 0 rfl
abbrev d20_1 := own_dd e20 1 rfl
abbrev d20_2 := own_dd e20 2 rfl
abbrev d20_5 := own_dd e20 3 rfl
abbrev d20_6 := own_dd e20 4 rfl
abbrev d20_7 := own_dd e20 5 rfl
abbrev d20_8 := own_dd e20 6 rfl
abbrev d20_11 := own_dd e20 7 rfl
abbrev d20_12 := own_dd e20 8 rfl
abbrev d20_13 := own_dd e20 9 rfl
abbrev d20_14 := own_dd e20 10 rfl
abbrev d20_15 := own_dd e20 11 rfl
abbrev d20_18 := own_dd e20 12 rfl
abbrev d20_25 := own_dd e20 13 rfl
abbrev d20_26 := own_dd e20 14 rfl
abbrev d20_27 := own_dd e20 15 rfl
abbrev d20_28 := own_dd e20 16 rfl
abbrev d20_29 := own_dd e20 17 rfl
abbrev d20_30 := own_dd e20 18 rfl
abbrev d20_33 := own_dd e20 19 rfl
abbrev d20_34 := own_dd e20 20 rfl
abbrev d20_35 := own_dd e20 21 rfl
abbrev d20_36 := own_dd e20 22 rfl
abbrev d20_37 := own_dd e20 23 rfl
abbrev d20_38 := own_dd e20 24 rfl
abbrev d20_41 := own_dd e20 25 rfl
abbrev d20_42 := own_dd e20 26 rfl
abbrev d20_43 := own_dd e20 27 rfl
abbrev d20_44 := own_dd e20 28 rfl
abbrev d20_47 := own_dd e20 29 rfl
abbrev d20_48 := own_dd e20 30 rfl
abbrev d20_49 := own_dd e20 31 rfl
abbrev d20_50 := own_dd e20 32 rfl
abbrev d20_51 := own_dd e20 33 rfl
abbrev d20_52 := own_dd e20 34 rfl
abbrev d20_55 := own_dd e20 35 rfl
abbrev d20_56 := own_dd e20 36 rfl
abbrev d20_59 := own_dd e20 37 rfl
abbrev d20_60 := own_dd e20 38 rfl
abbrev d20_63 := own_dd e20 39 rfl
abbrev d20_64 := own_dd e20 40 rfl
abbrev d20_65 := own_dd e20 41 rfl
abbrev d20_66 := own_dd e20 42 rfl
abbrev d20_67 := own_dd e20 43 rfl
abbrev d20_68 := own_dd e20 44 rfl
abbrev d20_71 := own_dd e20 45 rfl
abbrev d20_72 := own_dd e20 46 rfl
abbrev d20_73 := own_dd e20 47 rfl
abbrev d20_74 := own_dd e20 48 rfl
abbrev d20_77 := own_dd e20 49 rfl
abbrev d20_78 := own_dd e20 50 rfl
abbrev d20_81 := own_dd e20 51 rfl
abbrev c21 : ByteArray := prog_45_method_26_code
theorem e21 : own_dec c21 [(0, .aload_n 1, 1), (1, .arraylength, 1), (2, .aload_n 0, 1), (3, .invokevirtual 214, 3), (6, .if_icmp .eq 22, 3), (28, .return_, 1)] = true := by decide +kernel
abbrev d21_0 := own_dd e21 0 rfl
abbrev d21_1 := own_dd e21 1 rfl
abbrev d21_2 := own_dd e21 2 rfl
abbrev d21_3 := own_dd e21 3 rfl
abbrev d21_6 := own_dd e21 4 rfl
abbrev d21_28 := own_dd e21 5 rfl
abbrev c22 : ByteArray := prog_45_method_8_code
theorem e22 : own_dec c22 [(0, .iconst 4, 1), (1, .iconst 2, 1), (2, .aload_n 0, 1), (3, .getfield 116, 3), (6, .imul, 1), (7, .iadd, 1), (8, .aload_n 0, 1), (9, .getfield 44, 3), (12, .arraylength, 1), (13, .iadd, 1), (14, .ireturn, 1)] = true := by decide +kernel
abbrev d22_0 := own_dd e22 0 rfl
abbrev d22_1 := own_dd e22 1 rfl
abbrev d22_2 := own_dd e22 2 rfl
abbrev d22_3 := own_dd e22 3 rfl
abbrev d22_6 := own_dd e22 4 rfl
abbrev d22_7 := own_dd e22 5 rfl
abbrev d22_8 := own_dd e22 6 rfl
abbrev d22_9 := own_dd e22 7 rfl
abbrev d22_12 := own_dd e22 8 rfl
abbrev d22_13 := own_dd e22 9 rfl
abbrev d22_14 := own_dd e22 10 rfl
abbrev c23 : ByteArray := prog_45_method_11_code
theorem e23 : own_dec c23 [(0, .aload_n 0, 1), (1, .getfield 143, 3), (4, .lreturn, 1)] = true := by decide +kernel
abbrev d23_0 := own_dd e23 0 rfl
abbrev d23_1 := own_dd e23 1 rfl
abbrev d23_4 := own_dd e23 2 rfl
abbrev c24 : ByteArray := prog_45_method_18_code
theorem e24 : own_dec c24 [(0, .aload_n 0, 1), (1, .getfield 47, 3), (4, .ldc2_w 163, 3), (7, .invokestatic 186, 3), (10, .aload_n 0, 1), (11, .getfield 50, 3), (14, .iconst (-1), 1), (15, .invokestatic 81, 3), (18, .aload_n 0, 1), (19, .getfield 58, 3), (22, .invokevirtual 191, 3), (25, .aload_n 0, 1), (26, .getfield 47, 3), (29, .iload_n 1, 1), (30, .lconst 0, 1), (31, .lastore, 1), (32, .aload_n 0, 1), (33, .getfield 58, 3), (36, .iload_n 1, 1), (37, .invokevirtual 194, 3), (40, .aload_n 0, 1), (41, .getfield 58, 3), (44, .invokevirtual 196, 3), (47, .ifCond .ne 182, 3), (50, .aload_n 0, 1), (51, .getfield 58, 3), (54, .invokevirtual 200, 3), (57, .istore_n 3, 1), (58, .aload_n 0, 1), (59, .getfield 41, 3), (62, .iload_n 3, 1), (63, .iaload, 1), (64, .istore 4, 2), (66, .iload 4, 2), (68, .ifCond .lt 158, 3), (71, .iload_n 2, 1), (72, .ifCond .eq 8, 3), (75, .iload 4, 2), (77, .goto 7, 3), (84, .istore 5, 2), (86, .aload_n 0, 1), (87, .getfield 15, 3), (90, .iload 4, 2), (92, .iaload, 1), (93, .istore 6, 2), (95, .aload_n 0, 1), (96, .getfield 18, 3), (99, .iload 5, 2), (101, .laload, 1), (102, .lconst 0, 1), (103, .lcmp, 1), (104, .ifCond .ne 6, 3), (107, .goto 107, 3), (110, .iload_n 2, 1), (111, .ifCond .eq 28, 3), (114, .aload_n 0, 1), (115, .getfield 22, 3), (118, .iload 5, 2), (120, .laload, 1), (121, .aload_n 0, 1), (122, .getfield 44, 3), (125, .iload_n 3, 1), (126, .laload, 1), (127, .ladd, 1), (128, .aload_n 0, 1), (129, .getfield 44, 3), (132, .iload 6, 2), (134, .laload, 1), (135, .lsub, 1), (136, .goto 25, 3), (161, .lstore 7, 2), (163, .aload_n 0, 1), (164, .getfield 47, 3), (167, .iload_n 3, 1), (168, .laload, 1), (169, .lload 7, 2), (171, .ladd, 1), (172, .lstore 9, 2), (174, .lload 9, 2), (176, .aload_n 0, 1), (177, .getfield 47, 3), (180, .iload 6, 2), (182, .laload, 1), (183, .lcmp, 1), (184, .ifCond .ge 30, 3), (187, .aload_n 0, 1), (188, .getfield 47, 3), (191, .iload 6, 2), (193, .lload 9, 2), (195, .lastore, 1), (196, .aload_n 0, 1), (197, .getfield 50, 3), (200, .iload 6, 2), (202, .iload 5, 2), (204, .iastore, 1), (205, .aload_n 0, 1), (206, .getfield 58, 3), (209, .iload 6, 2), (211, .invokevirtual 194, 3), (214, .aload_n 0, 1), (215, .getfield 9, 3), (218, .iload 4, 2), (220, .iaload, 1), (221, .istore 4, 2), (223, .goto (-157), 3), (226, .goto (-186), 3), (229, .return_, 1)] = true := by decide +kernel
abbrev d24_0 := own_dd e24 0 rfl
abbrev d24_1 := own_dd e24 1 rfl
abbrev d24_4 := own_dd e24 2 rfl
abbrev d24_7 := own_dd e24 3 rfl
abbrev d24_10 := own_dd e24 4 rfl
abbrev d24_11 := own_dd e24 5 rfl
abbrev d24_14 := own_dd e24 6 rfl
abbrev d24_15 := own_dd e24 7 rfl
abbrev d24_18 := own_dd e24 8 rfl
abbrev d24_19 := own_dd e24 9 rfl
abbrev d24_22 := own_dd e24 10 rfl
abbrev d24_25 := own_dd e24 11 rfl
abbrev d24_26 := own_dd e24 12 rfl
abbrev d24_29 := own_dd e24 13 rfl
abbrev d24_30 := own_dd e24 14 rfl
abbrev d24_31 := own_dd e24 15 rfl
abbrev d24_32 := own_dd e24 16 rfl
abbrev d24_33 := own_dd e24 17 rfl
abbrev d24_36 := own_dd e24 18 rfl
abbrev d24_37 := own_dd e24 19 rfl
abbrev d24_40 := own_dd e24 20 rfl
abbrev d24_41 := own_dd e24 21 rfl
abbrev d24_44 := own_dd e24 22 rfl
abbrev d24_47 := own_dd e24 23 rfl
abbrev d24_50 := own_dd e24 24 rfl
abbrev d24_51 := own_dd e24 25 rfl
abbrev d24_54 := own_dd e24 26 rfl
abbrev d24_57 := own_dd e24 27 rfl
abbrev d24_58 := own_dd e24 28 rfl
abbrev d24_59 := own_dd e24 29 rfl
abbrev d24_62 := own_dd e24 30 rfl
abbrev d24_63 := own_dd e24 31 rfl
abbrev d24_64 := own_dd e24 32 rfl
abbrev d24_66 := own_dd e24 33 rfl
abbrev d24_68 := own_dd e24 34 rfl
abbrev d24_71 := own_dd e24 35 rfl
abbrev d24_72 := own_dd e24 36 rfl
abbrev d24_75 := own_dd e24 37 rfl
abbrev d24_77 := own_dd e24 38 rfl
abbrev d24_84 := own_dd e24 39 rfl
abbrev d24_86 := own_dd e24 40 rfl
abbrev d24_87 := own_dd e24 41 rfl
abbrev d24_90 := own_dd e24 42 rfl
abbrev d24_92 := own_dd e24 43 rfl
abbrev d24_93 := own_dd e24 44 rfl
abbrev d24_95 := own_dd e24 45 rfl
abbrev d24_96 := own_dd e24 46 rfl
abbrev d24_99 := own_dd e24 47 rfl
abbrev d24_101 := own_dd e24 48 rfl
abbrev d24_102 := own_dd e24 49 rfl
abbrev d24_103 := own_dd e24 50 rfl
abbrev d24_104 := own_dd e24 51 rfl
abbrev d24_107 := own_dd e24 52 rfl
abbrev d24_110 := own_dd e24 53 rfl
abbrev d24_111 := own_dd e24 54 rfl
abbrev d24_114 := own_dd e24 55 rfl
abbrev d24_115 := own_dd e24 56 rfl
abbrev d24_118 := own_dd e24 57 rfl
abbrev d24_120 := own_dd e24 58 rfl
abbrev d24_121 := own_dd e24 59 rfl
abbrev d24_122 := own_dd e24 60 rfl
abbrev d24_125 := own_dd e24 61 rfl
abbrev d24_126 := own_dd e24 62 rfl
abbrev d24_127 := own_dd e24 63 rfl
abbrev d24_128 := own_dd e24 64 rfl
abbrev d24_129 := own_dd e24 65 rfl
abbrev d24_132 := own_dd e24 66 rfl
abbrev d24_134 := own_dd e24 67 rfl
abbrev d24_135 := own_dd e24 68 rfl
abbrev d24_136 := own_dd e24 69 rfl
abbrev d24_161 := own_dd e24 70 rfl
abbrev d24_163 := own_dd e24 71 rfl
abbrev d24_164 := own_dd e24 72 rfl
abbrev d24_167 := own_dd e24 73 rfl
abbrev d24_168 := own_dd e24 74 rfl
abbrev d24_169 := own_dd e24 75 rfl
abbrev d24_171 := own_dd e24 76 rfl
abbrev d24_172 := own_dd e24 77 rfl
abbrev d24_174 := own_dd e24 78 rfl
abbrev d24_176 := own_dd e24 79 rfl
abbrev d24_177 := own_dd e24 80 rfl
abbrev d24_180 := own_dd e24 81 rfl
abbrev d24_182 := own_dd e24 82 rfl
abbrev d24_183 := own_dd e24 83 rfl
abbrev d24_184 := own_dd e24 84 rfl
abbrev d24_187 := own_dd e24 85 rfl
abbrev d24_188 := own_dd e24 86 rfl
abbrev d24_191 := own_dd e24 87 rfl
abbrev d24_193 := own_dd e24 88 rfl
abbrev d24_195 := own_dd e24 89 rfl
abbrev d24_196 := own_dd e24 90 rfl
abbrev d24_197 := own_dd e24 91 rfl
abbrev d24_200 := own_dd e24 92 rfl
abbrev d24_202 := own_dd e24 93 rfl
abbrev d24_204 := own_dd e24 94 rfl
abbrev d24_205 := own_dd e24 95 rfl
abbrev d24_206 := own_dd e24 96 rfl
abbrev d24_209 := own_dd e24 97 rfl
abbrev d24_211 := own_dd e24 98 rfl
abbrev d24_214 := own_dd e24 99 rfl
abbrev d24_215 := own_dd e24 100 rfl
abbrev d24_218 := own_dd e24 101 rfl
abbrev d24_220 := own_dd e24 102 rfl
abbrev d24_221 := own_dd e24 103 rfl
abbrev d24_223 := own_dd e24 104 rfl
abbrev d24_226 := own_dd e24 105 rfl
abbrev d24_229 := own_dd e24 106 rfl
abbrev c25 : ByteArray := prog_53_method_3_code
theorem e25 : own_dec c25 [(0, .iconst 0, 1), (1, .istore_n 1, 1), (2, .iload_n 1, 1), (3, .aload_n 0, 1), (4, .getfield 26, 3), (7, .if_icmp .ge 21, 3), (28, .aload_n 0, 1), (29, .iconst 0, 1), (30, .putfield 26, 3), (33, .return_, 1)] = true := by decide +kernel
abbrev d25_0 := own_dd e25 0 rfl
abbrev d25_1 := own_dd e25 1 rfl
abbrev d25_2 := own_dd e25 2 rfl
abbrev d25_3 := own_dd e25 3 rfl
abbrev d25_4 := own_dd e25 4 rfl
abbrev d25_7 := own_dd e25 5 rfl
abbrev d25_28 := own_dd e25 6 rfl
abbrev d25_29 := own_dd e25 7 rfl
abbrev d25_30 := own_dd e25 8 rfl
abbrev d25_33 := own_dd e25 9 rfl
abbrev c26 : ByteArray := prog_53_method_4_code
theorem e26 : own_dec c26 [(0, .aload_n 0, 1), (1, .getfield 17, 3), (4, .iload_n 1, 1), (5, .iaload, 1), (6, .istore_n 2, 1), (7, .iload_n 2, 1), (8, .ifCond .ge 15, 3), (11, .aload_n 0, 1), (12, .dup, 1), (13, .getfield 26, 3), (16, .dup_x1, 1), (17, .iconst 1, 1), (18, .iadd, 1), (19, .putfield 26, 3), (22, .istore_n 2, 1), (23, .aload_n 0, 1), (24, .iload_n 1, 1), (25, .iload_n 2, 1), (26, .invokevirtual 30, 3), (29, .return_, 1)] = true := by decide +kernel
abbrev d26_0 := own_dd e26 0 rfl
abbrev d26_1 := own_dd e26 1 rfl
abbrev d26_4 := own_dd e26 2 rfl
abbrev d26_5 := own_dd e26 3 rfl
abbrev d26_6 := own_dd e26 4 rfl
abbrev d26_7 := own_dd e26 5 rfl
abbrev d26_8 := own_dd e26 6 rfl
abbrev d26_11 := own_dd e26 7 rfl
abbrev d26_12 := own_dd e26 8 rfl
abbrev d26_13 := own_dd e26 9 rfl
abbrev d26_16 := own_dd e26 10 rfl
abbrev d26_17 := own_dd e26 11 rfl
abbrev d26_18 := own_dd e26 12 rfl
abbrev d26_19 := own_dd e26 13 rfl
abbrev d26_22 := own_dd e26 14 rfl
abbrev d26_23 := own_dd e26 15 rfl
abbrev d26_24 := own_dd e26 16 rfl
abbrev d26_25 := own_dd e26 17 rfl
abbrev d26_26 := own_dd e26 18 rfl
abbrev d26_29 := own_dd e26 19 rfl
abbrev c27 : ByteArray := prog_53_method_6_code
theorem e27 : own_dec c27 [(0, .iload_n 2, 1), (1, .ifCond .le 49, 3), (50, .aload_n 0, 1), (51, .iload_n 1, 1), (52, .iload_n 2, 1), (53, .invokevirtual 37, 3), (56, .return_, 1)] = true := by decide +kernel
abbrev d27_0 := own_dd e27 0 rfl
abbrev d27_1 := own_dd e27 1 rfl
abbrev d27_50 := own_dd e27 2 rfl
abbrev d27_51 := own_dd e27 3 rfl
abbrev d27_52 := own_dd e27 4 rfl
abbrev d27_53 := own_dd e27 5 rfl
abbrev d27_56 := own_dd e27 6 rfl
abbrev c28 : ByteArray := prog_53_method_8_code
theorem e28 : own_dec c28 [(0, .aload_n 0, 1), (1, .getfield 13, 3), (4, .iload_n 2, 1), (5, .iload_n 1, 1), (6, .iastore, 1), (7, .aload_n 0, 1), (8, .getfield 17, 3), (11, .iload_n 1, 1), (12, .iload_n 2, 1), (13, .iastore, 1), (14, .return_, 1)] = true := by decide +kernel
abbrev d28_0 := own_dd e28 0 rfl
abbrev d28_1 := own_dd e28 1 rfl
abbrev d28_4 := own_dd e28 2 rfl
abbrev d28_5 := own_dd e28 3 rfl
abbrev d28_6 := own_dd e28 4 rfl
abbrev d28_7 := own_dd e28 5 rfl
abbrev d28_8 := own_dd e28 6 rfl
abbrev d28_11 := own_dd e28 7 rfl
abbrev d28_12 := own_dd e28 8 rfl
abbrev d28_13 := own_dd e28 9 rfl
abbrev d28_14 := own_dd e28 10 rfl
abbrev c29 : ByteArray := prog_53_method_2_code
theorem e29 : own_dec c29 [(0, .aload_n 0, 1), (1, .getfield 26, 3), (4, .ifCond .ne 7, 3), (7, .iconst 1, 1), (8, .goto 4, 3), (11, .iconst 0, 1), (12, .ireturn, 1)] = true := by decide +kernel
abbrev d29_0 := own_dd e29 0 rfl
abbrev d29_1 := own_dd e29 1 rfl
abbrev d29_4 := own_dd e29 2 rfl
abbrev d29_7 := own_dd e29 3 rfl
abbrev d29_8 := own_dd e29 4 rfl
abbrev d29_11 := own_dd e29 5 rfl
abbrev d29_12 := own_dd e29 6 rfl
abbrev c30 : ByteArray := prog_53_method_5_code
theorem e30 : own_dec c30 [(0, .aload_n 0, 1), (1, .getfield 13, 3), (4, .iconst 0, 1), (5, .iaload, 1), (6, .istore_n 1, 1), (7, .aload_n 0, 1), (8, .getfield 13, 3), (11, .aload_n 0, 1), (12, .dup, 1), (13, .getfield 26, 3), (16, .iconst 1, 1), (17, .isub, 1), (18, .dup_x1, 1), (19, .putfield 26, 3), (22, .iaload, 1), (23, .istore_n 2, 1), (24, .aload_n 0, 1), (25, .getfield 17, 3), (28, .iload_n 1, 1), (29, .iconst (-1), 1), (30, .iastore, 1), (31, .aload_n 0, 1), (32, .getfield 26, 3), (35, .ifCond .le 9, 3), (44, .iload_n 1, 1), (45, .ireturn, 1)] = true := by decide +kernel
abbrev d30_0 := own_dd e30 0 rfl
abbrev d30_1 := own_dd e30 1 rfl
abbrev d30_4 := own_dd e30 2 rfl
abbrev d30_5 := own_dd e30 3 rfl
abbrev d30_6 := own_dd e30 4 rfl
abbrev d30_7 := own_dd e30 5 rfl
abbrev d30_8 := own_dd e30 6 rfl
abbrev d30_11 := own_dd e30 7 rfl
abbrev d30_12 := own_dd e30 8 rfl
abbrev d30_13 := own_dd e30 9 rfl
abbrev d30_16 := own_dd e30 10 rfl
abbrev d30_17 := own_dd e30 11 rfl
abbrev d30_18 := own_dd e30 12 rfl
abbrev d30_19 := own_dd e30 13 rfl
abbrev d30_22 := own_dd e30 14 rfl
abbrev d30_23 := own_dd e30 15 rfl
abbrev d30_24 := own_dd e30 16 rfl
abbrev d30_25 := own_dd e30 17 rfl
abbrev d30_28 := own_dd e30 18 rfl
abbrev d30_29 := own_dd e30 19 rfl
abbrev d30_30 := own_dd e30 20 rfl
abbrev d30_31 := own_dd e30 21 rfl
abbrev d30_32 := own_dd e30 22 rfl
abbrev d30_35 := own_dd e30 23 rfl
abbrev d30_44 := own_dd e30 24 rfl
abbrev d30_45 := own_dd e30 25 rfl
abbrev c31 : ByteArray := prog_45_method_19_code
theorem e31 : own_dec c31 [(0, .iconst 0, 1), (1, .istore_n 3, 1), (2, .iload_n 3, 1), (3, .aload_n 0, 1), (4, .getfield 44, 3), (7, .arraylength, 1), (8, .if_icmp .ge 46, 3), (11, .aload_n 0, 1), (12, .getfield 44, 3), (15, .iload_n 3, 1), (16, .dup2, 1), (17, .laload, 1), (18, .aload_n 0, 1), (19, .getfield 47, 3), (22, .iload_n 3, 1), (23, .laload, 1), (24, .lload_n 1, 1), (25, .invokestatic 172, 3), (28, .ladd, 1), (29, .lastore, 1), (30, .aload_n 0, 1), (31, .getfield 44, 3), (34, .iload_n 3, 1), (35, .laload, 1), (36, .ldc2_w 109, 3), (39, .lcmp, 1), (40, .ifCond .le 8, 3), (48, .iinc 3 1, 3), (51, .goto (-49), 3), (54, .return_, 1)] = true := by decide +kernel
abbrev d31_0 := own_dd e31 0 rfl
abbrev d31_1 := own_dd e31 1 rfl
abbrev d31_2 := own_dd e31 2 rfl
abbrev d31_3 := own_dd e31 3 rfl
abbrev d31_4 := own_dd e31 4 rfl
abbrev d31_7 := own_dd e31 5 rfl
abbrev d31_8 := own_dd e31 6 rfl
abbrev d31_11 := own_dd e31 7 rfl
abbrev d31_12 := own_dd e31 8 rfl
abbrev d31_15 := own_dd e31 9 rfl
abbrev d31_16 := own_dd e31 10 rfl
abbrev d31_17 := own_dd e31 11 rfl
abbrev d31_18 := own_dd e31 12 rfl
abbrev d31_19 := own_dd e31 13 rfl
abbrev d31_22 := own_dd e31 14 rfl
abbrev d31_23 := own_dd e31 15 rfl
abbrev d31_24 := own_dd e31 16 rfl
abbrev d31_25 := own_dd e31 17 rfl
abbrev d31_28 := own_dd e31 18 rfl
abbrev d31_29 := own_dd e31 19 rfl
abbrev d31_30 := own_dd e31 20 rfl
abbrev d31_31 := own_dd e31 21 rfl
abbrev d31_34 := own_dd e31 22 rfl
abbrev d31_35 := own_dd e31 23 rfl
abbrev d31_36 := own_dd e31 24 rfl
abbrev d31_39 := own_dd e31 25 rfl
abbrev d31_40 := own_dd e31 26 rfl
abbrev d31_48 := own_dd e31 27 rfl
abbrev d31_51 := own_dd e31 28 rfl
abbrev d31_54 := own_dd e31 29 rfl
abbrev c32 : ByteArray := jdk_29_method_70_code
theorem e32 : own_dec c32 [(0, .lload_n 0, 1), (1, .lload_n 2, 1), (2, .lcmp, 1), (3, .ifCond .gt 7, 3), (6, .lload_n 0, 1), (7, .goto 4, 3), (10, .lload_n 2, 1), (11, .lreturn, 1)] = true := by decide +kernel
abbrev d32_0 := own_dd e32 0 rfl
abbrev d32_1 := own_dd e32 1 rfl
abbrev d32_2 := own_dd e32 2 rfl
abbrev d32_3 := own_dd e32 3 rfl
abbrev d32_6 := own_dd e32 4 rfl
abbrev d32_7 := own_dd e32 5 rfl
abbrev d32_10 := own_dd e32 6 rfl
abbrev d32_11 := own_dd e32 7 rfl
abbrev c33 : ByteArray := prog_45_method_20_code
theorem e33 : own_dec c33 [(0, .aload_n 0, 1), (1, .dup, 1), (2, .getfield 204, 3), (5, .lconst 1, 1), (6, .ladd, 1), (7, .putfield 204, 3), (10, .iconst 0, 1), (11, .istore_n 3, 1), (12, .aload_n 0, 1), (13, .getfield 72, 3), (16, .iconst 0, 1), (17, .iload_n 1, 1), (18, .iastore, 1), (19, .aload_n 0, 1), (20, .getfield 78, 3), (23, .iload_n 1, 1), (24, .aload_n 0, 1), (25, .getfield 204, 3), (28, .lastore, 1), (29, .aload_n 0, 1), (30, .getfield 75, 3), (33, .iload_n 1, 1), (34, .aload_n 0, 1), (35, .getfield 41, 3), (38, .iload_n 1, 1), (39, .iaload, 1), (40, .iastore, 1), (41, .iload_n 3, 1), (42, .ifCond .lt 165, 3), (45, .aload_n 0, 1), (46, .getfield 72, 3), (49, .iload_n 3, 1), (50, .iaload, 1), (51, .istore 4, 2), (53, .iload 4, 2), (55, .iload_n 2, 1), (56, .if_icmp .ne 5, 3), (59, .iconst 1, 1), (60, .ireturn, 1), (61, .aload_n 0, 1), (62, .getfield 75, 3), (65, .iload 4, 2), (67, .iaload, 1), (68, .istore 5, 2), (70, .iload 5, 2), (72, .ifCond .ge 9, 3), (75, .iinc 3 (-1), 3), (78, .goto (-37), 3), (81, .aload_n 0, 1), (82, .getfield 75, 3), (85, .iload 4, 2), (87, .aload_n 0, 1), (88, .getfield 9, 3), (91, .iload 5, 2), (93, .iaload, 1), (94, .iastore, 1), (95, .aload_n 0, 1), (96, .getfield 15, 3), (99, .iload 5, 2), (101, .iaload, 1), (102, .istore 6, 2), (104, .aload_n 0, 1), (105, .getfield 18, 3), (108, .iload 5, 2), (110, .laload, 1), (111, .lconst 0, 1), (112, .lcmp, 1), (113, .ifCond .le 91, 3), (116, .aload_n 0, 1), (117, .getfield 78, 3), (120, .iload 6, 2), (122, .laload, 1), (123, .aload_n 0, 1), (124, .getfield 204, 3), (127, .lcmp, 1), (128, .ifCond .eq 76, 3), (131, .aload_n 0, 1), (132, .getfield 22, 3), (135, .iload 5, 2), (137, .laload, 1), (138, .aload_n 0, 1), (139, .getfield 44, 3), (142, .iload 4, 2), (144, .laload, 1), (145, .ladd, 1), (146, .aload_n 0, 1), (147, .getfield 44, 3), (150, .iload 6, 2), (152, .laload, 1), (153, .lsub, 1), (154, .lconst 0, 1), (155, .lcmp, 1), (156, .ifCond .ne 48, 3), (159, .aload_n 0, 1), (160, .getfield 78, 3), (163, .iload 6, 2), (165, .aload_n 0, 1), (166, .getfield 204, 3), (169, .lastore, 1), (170, .aload_n 0, 1), (171, .getfield 50, 3), (174, .iload 6, 2), (176, .iload 5, 2), (178, .iastore, 1), (179, .aload_n 0, 1), (180, .getfield 75, 3), (183, .iload 6, 2), (185, .aload_n 0, 1), (186, .getfield 41, 3), (189, .iload 6, 2), (191, .iaload, 1), (192, .iastore, 1), (193, .aload_n 0, 1), (194, .getfield 72, 3), (197, .iinc 3 1, 3), (200, .iload_n 3, 1), (201, .iload 6, 2), (203, .iastore, 1), (204, .goto (-163), 3), (207, .iconst 0, 1), (208, .ireturn, 1)] = true := by decide +kernel
abbrev d33_0 := own_dd e33 0 rfl
abbrev d33_1 := own_dd e33 1 rfl
abbrev d33_2 := own_dd e33 2 rfl
abbrev d33_5 := own_dd e33 3 rfl
abbrev d33_6 := own_dd e33 4 rfl
abbrev d33_7 := own_dd e33 5 rfl
abbrev d33_10 := own_dd e33 6 rfl
abbrev d33_11 := own_dd e33 7 rfl
abbrev d33_12 := own_dd e33 8 rfl
abbrev d33_13 := own_dd e33 9 rfl
abbrev d33_16 := own_dd e33 10 rfl
abbrev d33_17 := own_dd e33 11 rfl
abbrev d33_18 := own_dd e33 12 rfl
abbrev d33_19 := own_dd e33 13 rfl
abbrev d33_20 := own_dd e33 14 rfl
abbrev d33_23 := own_dd e33 15 rfl
abbrev d33_24 := own_dd e33 16 rfl
abbrev d33_25 := own_dd e33 17 rfl
abbrev d33_28 := own_dd e33 18 rfl
abbrev d33_29 := own_dd e33 19 rfl
abbrev d33_30 := own_dd e33 20 rfl
abbrev d33_33 := own_dd e33 21 rfl
abbrev d33_34 := own_dd e33 22 rfl
abbrev d33_35 := own_dd e33 23 rfl
abbrev d33_38 := own_dd e33 24 rfl
abbrev d33_39 := own_dd e33 25 rfl
abbrev d33_40 := own_dd e33 26 rfl
abbrev d33_41 := own_dd e33 27 rfl
abbrev d33_42 := own_dd e33 28 rfl
abbrev d33_45 := own_dd e33 29 rfl
abbrev d33_46 := own_dd e33 30 rfl
abbrev d33_49 := own_dd e33 31 rfl
abbrev d33_50 := own_dd e33 32 rfl
abbrev d33_51 := own_dd e33 33 rfl
abbrev d33_53 := own_dd e33 34 rfl
abbrev d33_55 := own_dd e33 35 rfl
abbrev d33_56 := own_dd e33 36 rfl
abbrev d33_59 := own_dd e33 37 rfl
abbrev d33_60 := own_dd e33 38 rfl
abbrev d33_61 := own_dd e33 39 rfl
abbrev d33_62 := own_dd e33 40 rfl
abbrev d33_65 := own_dd e33 41 rfl
abbrev d33_67 := own_dd e33 42 rfl
abbrev d33_68 := own_dd e33 43 rfl
abbrev d33_70 := own_dd e33 44 rfl
abbrev d33_72 := own_dd e33 45 rfl
abbrev d33_75 := own_dd e33 46 rfl
abbrev d33_78 := own_dd e33 47 rfl
abbrev d33_81 := own_dd e33 48 rfl
abbrev d33_82 := own_dd e33 49 rfl
abbrev d33_85 := own_dd e33 50 rfl
abbrev d33_87 := own_dd e33 51 rfl
abbrev d33_88 := own_dd e33 52 rfl
abbrev d33_91 := own_dd e33 53 rfl
abbrev d33_93 := own_dd e33 54 rfl
abbrev d33_94 := own_dd e33 55 rfl
abbrev d33_95 := own_dd e33 56 rfl
abbrev d33_96 := own_dd e33 57 rfl
abbrev d33_99 := own_dd e33 58 rfl
abbrev d33_101 := own_dd e33 59 rfl
abbrev d33_102 := own_dd e33 60 rfl
abbrev d33_104 := own_dd e33 61 rfl
abbrev d33_105 := own_dd e33 62 rfl
abbrev d33_108 := own_dd e33 63 rfl
abbrev d33_110 := own_dd e33 64 rfl
abbrev d33_111 := own_dd e33 65 rfl
abbrev d33_112 := own_dd e33 66 rfl
abbrev d33_113 := own_dd e33 67 rfl
abbrev d33_116 := own_dd e33 68 rfl
abbrev d33_117 := own_dd e33 69 rfl
abbrev d33_120 := own_dd e33 70 rfl
abbrev d33_122 := own_dd e33 71 rfl
abbrev d33_123 := own_dd e33 72 rfl
abbrev d33_124 := own_dd e33 73 rfl
abbrev d33_127 := own_dd e33 74 rfl
abbrev d33_128 := own_dd e33 75 rfl
abbrev d33_131 := own_dd e33 76 rfl
abbrev d33_132 := own_dd e33 77 rfl
abbrev d33_135 := own_dd e33 78 rfl
abbrev d33_137 := own_dd e33 79 rfl
abbrev d33_138 := own_dd e33 80 rfl
abbrev d33_139 := own_dd e33 81 rfl
abbrev d33_142 := own_dd e33 82 rfl
abbrev d33_144 := own_dd e33 83 rfl
abbrev d33_145 := own_dd e33 84 rfl
abbrev d33_146 := own_dd e33 85 rfl
abbrev d33_147 := own_dd e33 86 rfl
abbrev d33_150 := own_dd e33 87 rfl
abbrev d33_152 := own_dd e33 88 rfl
abbrev d33_153 := own_dd e33 89 rfl
abbrev d33_154 := own_dd e33 90 rfl
abbrev d33_155 := own_dd e33 91 rfl
abbrev d33_156 := own_dd e33 92 rfl
abbrev d33_159 := own_dd e33 93 rfl
abbrev d33_160 := own_dd e33 94 rfl
abbrev d33_163 := own_dd e33 95 rfl
abbrev d33_165 := own_dd e33 96 rfl
abbrev d33_166 := own_dd e33 97 rfl
abbrev d33_169 := own_dd e33 98 rfl
abbrev d33_170 := own_dd e33 99 rfl
abbrev d33_171 := own_dd e33 100 rfl
abbrev d33_174 := own_dd e33 101 rfl
abbrev d33_176 := own_dd e33 102 rfl
abbrev d33_178 := own_dd e33 103 rfl
abbrev d33_179 := own_dd e33 104 rfl
abbrev d33_180 := own_dd e33 105 rfl
abbrev d33_183 := own_dd e33 106 rfl
abbrev d33_185 := own_dd e33 107 rfl
abbrev d33_186 := own_dd e33 108 rfl
abbrev d33_189 := own_dd e33 109 rfl
abbrev d33_191 := own_dd e33 110 rfl
abbrev d33_192 := own_dd e33 111 rfl
abbrev d33_193 := own_dd e33 112 rfl
abbrev d33_194 := own_dd e33 113 rfl
abbrev d33_197 := own_dd e33 114 rfl
abbrev d33_200 := own_dd e33 115 rfl
abbrev d33_201 := own_dd e33 116 rfl
abbrev d33_203 := own_dd e33 117 rfl
abbrev d33_204 := own_dd e33 118 rfl
abbrev d33_207 := own_dd e33 119 rfl
abbrev d33_208 := own_dd e33 120 rfl
abbrev c34 : ByteArray := prog_45_method_22_code
theorem e34 : own_dec c34 [(0, .aload_n 0, 1), (1, .getfield 15, 3), (4, .iload_n 1, 1), (5, .iconst 1, 1), (6, .ixor, 1), (7, .iaload, 1), (8, .ireturn, 1)] = true := by decide +kernel
abbrev d34_0 := own_dd e34 0 rfl
abbrev d34_1 := own_dd e34 1 rfl
abbrev d34_4 := own_dd e34 2 rfl
abbrev d34_5 := own_dd e34 3 rfl
abbrev d34_6 := own_dd e34 4 rfl
abbrev d34_7 := own_dd e34 5 rfl
abbrev d34_8 := own_dd e34 6 rfl
abbrev c35 : ByteArray := prog_45_method_21_code
theorem e35 : own_dec c35 [(0, .aload_n 0, 1), (1, .getfield 18, 3), (4, .iload_n 1, 1), (5, .dup2, 1), (6, .laload, 1), (7, .lload_n 2, 1), (8, .lsub, 1), (9, .lastore, 1), (10, .aload_n 0, 1), (11, .getfield 18, 3), (14, .iload_n 1, 1), (15, .iconst 1, 1), (16, .ixor, 1), (17, .dup2, 1), (18, .laload, 1), (19, .lload_n 2, 1), (20, .ladd, 1), (21, .lastore, 1), (22, .aload_n 0, 1), (23, .aload_n 0, 1), (24, .getfield 143, 3), (27, .lload_n 2, 1), (28, .aload_n 0, 1), (29, .getfield 22, 3), (32, .iload_n 1, 1), (33, .laload, 1), (34, .invokestatic 207, 3), (37, .invokestatic 105, 3), (40, .putfield 143, 3), (43, .return_, 1)] = true := by decide +kernel
abbrev d35_0 := own_dd e35 0 rfl
abbrev d35_1 := own_dd e35 1 rfl
abbrev d35_4 := own_dd e35 2 rfl
abbrev d35_5 := own_dd e35 3 rfl
abbrev d35_6 := own_dd e35 4 rfl
abbrev d35_7 := own_dd e35 5 rfl
abbrev d35_8 := own_dd e35 6 rfl
abbrev d35_9 := own_dd e35 7 rfl
abbrev d35_10 := own_dd e35 8 rfl
abbrev d35_11 := own_dd e35 9 rfl
abbrev d35_14 := own_dd e35 10 rfl
abbrev d35_15 := own_dd e35 11 rfl
abbrev d35_16 := own_dd e35 12 rfl
abbrev d35_17 := own_dd e35 13 rfl
abbrev d35_18 := own_dd e35 14 rfl
abbrev d35_19 := own_dd e35 15 rfl
abbrev d35_20 := own_dd e35 16 rfl
abbrev d35_21 := own_dd e35 17 rfl
abbrev d35_22 := own_dd e35 18 rfl
abbrev d35_23 := own_dd e35 19 rfl
abbrev d35_24 := own_dd e35 20 rfl
abbrev d35_27 := own_dd e35 21 rfl
abbrev d35_28 := own_dd e35 22 rfl
abbrev d35_29 := own_dd e35 23 rfl
abbrev d35_32 := own_dd e35 24 rfl
abbrev d35_33 := own_dd e35 25 rfl
abbrev d35_34 := own_dd e35 26 rfl
abbrev d35_37 := own_dd e35 27 rfl
abbrev d35_40 := own_dd e35 28 rfl
abbrev d35_43 := own_dd e35 29 rfl
abbrev c36 : ByteArray := jdk_29_method_30_code
theorem e36 : own_dec c36 [(0, .lload_n 0, 1), (1, .lload_n 2, 1), (2, .lmul, 1), (3, .lstore 4, 2), (5, .lload_n 0, 1), (6, .invokestatic 122, 3), (9, .lstore 6, 2), (11, .lload_n 2, 1), (12, .invokestatic 122, 3), (15, .lstore 8, 2), (17, .lload 6, 2), (19, .lload 8, 2), (21, .lor, 1), (22, .bipush 31, 2), (24, .lushr, 1), (25, .lconst 0, 1), (26, .lcmp, 1), (27, .ifCond .eq 44, 3), (30, .lload_n 2, 1), (31, .lconst 0, 1), (32, .lcmp, 1), (33, .ifCond .eq 12, 3), (36, .lload 4, 2), (38, .lload_n 2, 1), (39, .ldiv, 1), (40, .lload_n 0, 1), (41, .lcmp, 1), (42, .ifCond .ne 19, 3), (45, .lload_n 0, 1), (46, .ldc2_w 128, 3), (49, .lcmp, 1), (50, .ifCond .ne 21, 3), (71, .lload 4, 2), (73, .lreturn, 1)] = true := by decide +kernel
abbrev d36_0 := own_dd e36 0 rfl
abbrev d36_1 := own_dd e36 1 rfl
abbrev d36_2 := own_dd e36 2 rfl
abbrev d36_3 := own_dd e36 3 rfl
abbrev d36_5 := own_dd e36 4 rfl
abbrev d36_6 := own_dd e36 5 rfl
abbrev d36_9 := own_dd e36 6 rfl
abbrev d36_11 := own_dd e36 7 rfl
abbrev d36_12 := own_dd e36 8 rfl
abbrev d36_15 := own_dd e36 9 rfl
abbrev d36_17 := own_dd e36 10 rfl
abbrev d36_19 := own_dd e36 11 rfl
abbrev d36_21 := own_dd e36 12 rfl
abbrev d36_22 := own_dd e36 13 rfl
abbrev d36_24 := own_dd e36 14 rfl
abbrev d36_25 := own_dd e36 15 rfl
abbrev d36_26 := own_dd e36 16 rfl
abbrev d36_27 := own_dd e36 17 rfl
abbrev d36_30 := own_dd e36 18 rfl
abbrev d36_31 := own_dd e36 19 rfl
abbrev d36_32 := own_dd e36 20 rfl
abbrev d36_33 := own_dd e36 21 rfl
abbrev d36_36 := own_dd e36 22 rfl
abbrev d36_38 := own_dd e36 23 rfl
abbrev d36_39 := own_dd e36 24 rfl
abbrev d36_40 := own_dd e36 25 rfl
abbrev d36_41 := own_dd e36 26 rfl
abbrev d36_42 := own_dd e36 27 rfl
abbrev d36_45 := own_dd e36 28 rfl
abbrev d36_46 := own_dd e36 29 rfl
abbrev d36_49 := own_dd e36 30 rfl
abbrev d36_50 := own_dd e36 31 rfl
abbrev d36_71 := own_dd e36 32 rfl
abbrev d36_73 := own_dd e36 33 rfl
def own_inc : List Nat → Prop
  | [] => True
  | [_] => True
  | a :: b :: l => a < b ∧ own_inc (b :: l)
theorem own_inc_tl {a : Nat} {l : List Nat} (h : own_inc (a :: l)) : own_inc l := by
  cases l with
  | nil => trivial
  | cons b l => exact h.2
theorem own_inc_hd {a : Nat} : ∀ {l : List Nat}, own_inc (a :: l) → ∀ (i : Nat) {b : Nat}, l[i]? = some b → a < b
  | [], _, i, b, hb => by simp at hb
  | c :: l, h, 0, b, hb => by simp at hb; exact hb ▸ h.1
  | c :: l, h, i + 1, b, hb => Nat.lt_trans h.1 (own_inc_hd h.2 i (by simpa using hb))
theorem own_inc_lt : ∀ {l : List Nat}, own_inc l → ∀ (i j : Nat) {a b : Nat}, l[i]? = some a → l[j]? = some b → i < j → a < b
  | [], _, i, j, a, b, ha, _, _ => by simp at ha
  | c :: l, h, 0, j + 1, a, b, ha, hb, _ => by
    simp at ha
    exact ha ▸ own_inc_hd h j (by simpa using hb)
  | c :: l, h, i + 1, j + 1, a, b, ha, hb, hij => own_inc_lt (own_inc_tl h) i j (by simpa using ha) (by simpa using hb) (by omega)
theorem own_on {l : List Nat} (h : own_inc l) (i j : Nat) {a b : Nat} (ha : l[i]? = some a) (hb : l[j]? = some b) (hij : i ≠ j := by decide) : a ≠ b := by
  rcases Nat.lt_or_gt_of_ne hij with q | q
  · exact Nat.ne_of_lt (own_inc_lt h i j ha hb q)
  · exact Nat.ne_of_gt (own_inc_lt h j i hb ha q)
theorem own_onb {x : Nat} {l : List Nat} (h : own_inc (x :: l)) {u : Nat} (hu : u < x) (i : Nat) {a : Nat} (ha : (x :: l)[i]? = some a) : u ≠ a := by
  cases i with
  | zero => simp at ha; exact Nat.ne_of_lt (ha ▸ hu)
  | succ i => exact Nat.ne_of_lt (Nat.lt_trans hu (own_inc_hd h i (by simpa using ha)))
theorem own_ong {x n : Nat} {l : List Nat} (h : own_inc (x :: l)) (g : n ≤ x) (i : Nat) {a : Nat} (ha : (x :: l)[i]? = some a) : n ≤ a := by
  cases i with
  | zero => simp at ha; exact ha ▸ g
  | succ i => exact Nat.le_trans g (Nat.le_of_lt (own_inc_hd h i (by simpa using ha)))
theorem own_selp {Z s : State} {a0 args : Array Value} {y : MethodName} {n : Nat} (hZ : Z.Warmed39 s.vm) (wi : (Jvm.Cond.instantiable y.cls n).before a0 Z = true) (wp : (Jvm.Cond.privateMethod y).before a0 Z = true) (wm : (Jvm.Cond.instanceMethod y).before a0 Z = true) (hy : y.cls ≠ "java/lang/invoke/MethodHandle" ∧ y.cls ≠ "java/lang/invoke/VarHandle") : (Jvm.Cond.selects y.cls y y).before args s = true := by
  obtain ⟨c, k, h1, h2, -, h4, -, -⟩ := Cond.instantiable_spec (mvT (args := args) hZ wi)
  have h5 : k.isInterface = false := by
    cases hi : k.isInterface with
    | false => rfl
    | true => simp [hi] at h4
  exact selects_self_of_private h1 h2 h5 (Cond.privateMethod_at (mvP (args := args) hZ wp)) (mvT hZ wm) hy
def own_abs (x : Int64) : Int64 := if x < (0 : Int64) then (-x) else x
def own_S (c0 c1 k0 k1 pp : Int64) : Prop := (-2147483648 ≤ pp.toInt ∧ pp.toInt ≤ 2147483647) ∧ ((0 : Int64) < c1 → pp.toInt ≤ k1.toInt) ∧ ((0 : Int64) < c0 → pp.toInt ≤ k0.toInt)
theorem own_0 : (0 : Int64).toInt = 0 := by decide
section Ss
variable {c0 c1 k0 k1 : Int64}
theorem own_S_nn (h2 : (0 : Int64) < c1 → ¬ (((0 : Int64) + k1) < (0 : Int64))) (h0 : (0 : Int64) < c0 → ¬ (((0 : Int64) + k0) < (0 : Int64))) (b0 : -2147483648 ≤ k0.toInt ∧ k0.toInt ≤ 2147483647) (b1 : -2147483648 ≤ k1.toInt ∧ k1.toInt ≤ 2147483647) : own_S c0 c1 k0 k1 0 := by
  simp only [Int64.zero_add, Int64.lt_iff_toInt_lt, own_0] at h2 h0
  simp only [own_S, own_0, Int64.lt_iff_toInt_lt]
  exact ⟨by omega, fun q => by have := h2 q; omega, fun q => by have := h0 q; omega⟩
theorem own_S_nl (h2 : (0 : Int64) < c1 → ¬ (((0 : Int64) + k1) < (0 : Int64))) (g0 : (0 : Int64) < c0) (l0 : ((0 : Int64) + k0) < (0 : Int64)) (b0 : -2147483648 ≤ k0.toInt ∧ k0.toInt ≤ 2147483647) (b1 : -2147483648 ≤ k1.toInt ∧ k1.toInt ≤ 2147483647) : own_S c0 c1 k0 k1 ((0 : Int64) + k0) := by
  simp only [Int64.zero_add, Int64.lt_iff_toInt_lt, own_0] at h2 g0 l0
  simp only [own_S, own_0, Int64.lt_iff_toInt_lt, Int64.zero_add]
  exact ⟨by omega, fun q => by have := h2 q; omega, fun q => by omega⟩
theorem own_S_ln (g2 : (0 : Int64) < c1) (l2 : ((0 : Int64) + k1) < (0 : Int64)) (h0 : (0 : Int64) < c0 → ¬ (((0 : Int64) + k0) < ((0 : Int64) + k1))) (b0 : -2147483648 ≤ k0.toInt ∧ k0.toInt ≤ 2147483647) (b1 : -2147483648 ≤ k1.toInt ∧ k1.toInt ≤ 2147483647) : own_S c0 c1 k0 k1 ((0 : Int64) + k1) := by
  simp only [Int64.zero_add, Int64.lt_iff_toInt_lt, own_0] at g2 l2 h0
  simp only [own_S, own_0, Int64.lt_iff_toInt_lt, Int64.zero_add]
  exact ⟨by omega, fun q => by omega, fun q => by have := h0 q; omega⟩
theorem own_S_ll (g2 : (0 : Int64) < c1) (l2 : ((0 : Int64) + k1) < (0 : Int64)) (g0 : (0 : Int64) < c0) (l0 : ((0 : Int64) + k0) < ((0 : Int64) + k1)) (b0 : -2147483648 ≤ k0.toInt ∧ k0.toInt ≤ 2147483647) (b1 : -2147483648 ≤ k1.toInt ∧ k1.toInt ≤ 2147483647) : own_S c0 c1 k0 k1 ((0 : Int64) + k0) := by
  simp only [Int64.zero_add, Int64.lt_iff_toInt_lt, own_0] at g2 l2 g0 l0
  simp only [own_S, own_0, Int64.lt_iff_toInt_lt, Int64.zero_add]
  exact ⟨by omega, fun q => by omega, fun q => by omega⟩
end Ss
section Sn
variable {k p k0 k1 np A s c f fc x : Int64}
theorem own_1 : (1 : Int64).toInt = 1 := by decide
theorem own_MX : (9223372036854775807 : Int64).toInt = 9223372036854775807 := by decide
theorem own_BG : (1152921504606846975 : Int64).toInt = 1152921504606846975 := by decide
theorem own_MN : (-9223372036854775808 : Int64).toInt = -9223372036854775808 := by decide
theorem own_eqi {a b : Int64} : a = b ↔ a.toInt = b.toInt := Int64.toInt_inj.symm
theorem own_pos (b : 0 ≤ c.toInt ∧ c.toInt ≤ 2147483647) (z : ¬ (c = (0 : Int64))) : (0 : Int64) < c := by
  simp only [own_eqi, Int64.lt_iff_toInt_lt, own_0] at z ⊢; omega
theorem own_ne0 (q : (0 : Int64) < c) : ¬ (c = (0 : Int64)) := by
  simp only [own_eqi, Int64.lt_iff_toInt_lt, own_0] at q ⊢; omega
theorem own_nlt (z : x = (0 : Int64)) : ¬ ((0 : Int64) < x) := by
  simp only [own_eqi, Int64.lt_iff_toInt_lt, own_0] at z ⊢; omega
theorem own_nneg (b : 0 ≤ x.toInt ∧ x.toInt ≤ 2147483647) : ¬ (x < (0 : Int64)) := by
  simp only [Int64.lt_iff_toInt_lt, own_0]; omega
theorem own_D (hk : -2147483648 ≤ k.toInt ∧ k.toInt ≤ 2147483647) (hp : -2147483648 ≤ p.toInt ∧ p.toInt ≤ 2147483647) : ((0 : Int64) + ((k + (0 : Int64)) - p)).toInt = k.toInt - p.toInt := by
  have h1 := c_lsub k p
  have r1 := rng64 (k - p)
  rw [Int64.zero_add, Int64.add_zero]; omega
theorem own_yb (hk : -2147483648 ≤ k.toInt ∧ k.toInt ≤ 2147483647) (hp : -2147483648 ≤ p.toInt ∧ p.toInt ≤ 2147483647) : ((0 : Int64) + ((k + (0 : Int64)) - p)) < (9223372036854775807 : Int64) := by
  rw [Int64.lt_iff_toInt_lt, own_D hk hp, own_MX]; omega
theorem own_neM (q : x < (9223372036854775807 : Int64)) : ¬ (x = (9223372036854775807 : Int64)) := by
  simp only [own_eqi, Int64.lt_iff_toInt_lt, own_MX] at q ⊢; omega
theorem own_dlt (h0 : -2147483648 ≤ k0.toInt ∧ k0.toInt ≤ 2147483647) (h1 : -2147483648 ≤ k1.toInt ∧ k1.toInt ≤ 2147483647) (hp : -2147483648 ≤ p.toInt ∧ p.toInt ≤ 2147483647) : (((0 : Int64) + ((k0 + (0 : Int64)) - p)) < ((0 : Int64) + ((k1 + (0 : Int64)) - p))) ↔ k0.toInt < k1.toInt := by
  rw [Int64.lt_iff_toInt_lt, own_D h0 hp, own_D h1 hp]; omega
theorem own_hD (hk : -2147483648 ≤ k.toInt ∧ k.toInt ≤ 2147483647) (hp : -2147483648 ≤ p.toInt ∧ p.toInt ≤ 2147483647) (le : p.toInt ≤ k.toInt) : ¬ (((0 : Int64) + ((k + (0 : Int64)) - p)) < (0 : Int64)) := by
  rw [Int64.lt_iff_toInt_lt, own_D hk hp, own_0]; omega
theorem own_zz (k : Int64) : (((-k) + k) - (0 : Int64)) = (0 : Int64) := by
  rw [own_eqi, own_0]
  have h1 := c_lneg k
  have h2 := c_ladd (-k) k
  have h3 := c_lsub ((-k) + k) 0
  have r1 := rng64 k
  have r2 := rng64 (-k)
  have r3 := rng64 ((-k) + k)
  have r4 := rng64 (((-k) + k) - 0)
  have := own_0
  omega
theorem own_rev (hk : -2147483648 ≤ k.toInt ∧ k.toInt ≤ 2147483647) (hp : -2147483648 ≤ p.toInt ∧ p.toInt ≤ 2147483647) (le : p.toInt ≤ k.toInt) : ¬ ((((0 : Int64) + ((k + (0 : Int64)) - p)) + (((-p) + p) - (0 : Int64))) < (0 : Int64)) := by
  rw [own_zz, Int64.add_zero]; exact own_hD hk hp le
theorem own_hnp (p k : Int64) : (p + ((0 : Int64) + ((k + (0 : Int64)) - p))) = k := by
  rw [Int64.zero_add, Int64.add_zero, own_eqi]
  have h1 := c_lsub k p
  have h2 := c_ladd p (k - p)
  have r1 := rng64 k
  have r4 := rng64 (p + (k - p))
  omega
theorem own_hmax (b : -2147483648 ≤ np.toInt ∧ np.toInt ≤ 2147483647) : ¬ ((1152921504606846975 : Int64) < np) := by
  rw [Int64.lt_iff_toInt_lt, own_BG]; omega
theorem own_rc2 (kk : k0.toInt = k1.toInt) : ((k0 + (0 : Int64)) - k1) = (0 : Int64) := by
  rw [Int64.add_zero, own_eqi, own_0]
  have h1 := c_lsub k0 k1
  have r1 := rng64 (k0 - k1)
  omega
theorem own_rc (k : Int64) : ((k + (0 : Int64)) - k) = (0 : Int64) := own_rc2 rfl
theorem own_rcne (hk : -2147483648 ≤ k.toInt ∧ k.toInt ≤ 2147483647) (hp : -2147483648 ≤ p.toInt ∧ p.toInt ≤ 2147483647) (ne : k.toInt ≠ p.toInt) : ¬ (((k + (0 : Int64)) - p) = (0 : Int64)) := by
  rw [Int64.add_zero, own_eqi, own_0]
  have h1 := c_lsub k p
  have r1 := rng64 (k - p)
  omega
theorem own_s0 : 0 ≤ (0 : Int64).toInt ∧ (0 : Int64).toInt ≤ 2147483647 := by decide
theorem own_s1 (b : 0 ≤ f.toInt ∧ f.toInt ≤ 2147483647) : 0 ≤ ((0 : Int64) + f).toInt ∧ ((0 : Int64) + f).toInt ≤ 2147483647 := by rw [Int64.zero_add]; exact b
theorem own_As (hA : 0 ≤ A.toInt ∧ A.toInt ≤ 2147483647) (bs : 0 ≤ s.toInt ∧ s.toInt ≤ 2147483647) : (A - s).toInt = A.toInt - s.toInt := by
  have h1 := c_lsub A s
  have r1 := rng64 (A - s)
  omega
theorem own_f (hA : 0 ≤ A.toInt ∧ A.toInt ≤ 2147483647) (bs : 0 ≤ s.toInt ∧ s.toInt ≤ 2147483647) (bc : 0 ≤ c.toInt ∧ c.toInt ≤ 2147483647) (lt : s < A) (hf : f = (if c < (A - s) then c else (A - s))) : 0 ≤ f.toInt ∧ f.toInt ≤ 2147483647 := by
  have h1 := own_As hA bs
  rw [Int64.lt_iff_toInt_lt] at lt
  rw [hf]; split <;> omega
theorem own_fx (hA : 0 ≤ A.toInt ∧ A.toInt ≤ 2147483647) (bs : 0 ≤ s.toInt ∧ s.toInt ≤ 2147483647) (bc : 0 ≤ c.toInt ∧ c.toInt ≤ 2147483647) (hf : f = (if c < (A - s) then c else (A - s))) (lt : (s + f) < A) : (c - f) = (0 : Int64) := by
  have h1 := own_As hA bs
  rw [Int64.lt_iff_toInt_lt] at lt
  by_cases q : c < (A - s)
  · rw [if_pos q] at hf
    rw [hf, own_eqi, own_0]
    have h2 := c_lsub c c
    have r2 := rng64 (c - c)
    omega
  · rw [if_neg q] at hf
    rw [Int64.lt_iff_toInt_lt] at q
    have h2 := c_ladd s f
    have r2 := rng64 (s + f)
    rw [hf] at h2 r2 lt
    omega
theorem own_hmin (b : 0 ≤ f.toInt ∧ f.toInt ≤ 2147483647) : ¬ (f = (-9223372036854775808 : Int64)) := by
  rw [own_eqi, own_MN]; omega
theorem own_mul (b : 0 ≤ f.toInt ∧ f.toInt ≤ 2147483647) (hk : -2147483648 ≤ k.toInt ∧ k.toInt ≤ 2147483647) : (f * k).toInt = f.toInt * k.toInt ∧ -4611686018427387904 ≤ f.toInt * k.toInt ∧ f.toInt * k.toInt ≤ 4611686018427387904 := by
  have hb : (f.toInt * k.toInt).natAbs ≤ 2 ^ 31 * 2 ^ 31 := by rw [Int.natAbs_mul]; exact Nat.mul_le_mul (by omega) (by omega)
  refine ⟨Jvm.Free.XT.mul64 ?_, by omega, by omega⟩
  constructor <;> omega
theorem own_hdiv (b : 0 ≤ f.toInt ∧ f.toInt ≤ 2147483647) (hk : -2147483648 ≤ k.toInt ∧ k.toInt ≤ 2147483647) (z : ¬ (k = (0 : Int64))) : ((f * k) / k) = f := by
  rw [own_eqi, own_0] at z
  rw [own_eqi, Int64.toInt_div, (own_mul b hk).1, Int.mul_tdiv_cancel _ z]
  exact Jvm.Free.XT.bmod64 ⟨by omega, by omega⟩
theorem own_bf0 : -4611686018427387904 ≤ (0 : Int64).toInt ∧ (0 : Int64).toInt ≤ 4611686018427387904 := by decide
theorem own_bf1 (b : 0 ≤ f.toInt ∧ f.toInt ≤ 2147483647) (hk : -2147483648 ≤ k.toInt ∧ k.toInt ≤ 2147483647) : -4611686018427387904 ≤ ((0 : Int64) + (f * k)).toInt ∧ ((0 : Int64) + (f * k)).toInt ≤ 4611686018427387904 := by
  rw [Int64.zero_add, (own_mul b hk).1]; exact (own_mul b hk).2
theorem own_hadd (bq : -4611686018427387904 ≤ fc.toInt ∧ fc.toInt ≤ 4611686018427387904) (b : 0 ≤ f.toInt ∧ f.toInt ≤ 2147483647) (hk : -2147483648 ≤ k.toInt ∧ k.toInt ≤ 2147483647) : ¬ (((fc ^^^ (fc + (f * k))) &&& ((f * k) ^^^ (fc + (f * k)))) < (0 : Int64)) := by
  have hb : (f.toInt * k.toInt).natAbs ≤ 2147483647 * 2 ^ 31 := by rw [Int.natAbs_mul]; exact Nat.mul_le_mul (by omega) (by omega)
  have h1 := (own_mul b hk).1
  exact Jvm.Free.XT.addOk64 ⟨by rw [h1]; omega, by rw [h1]; omega⟩
theorem own_p0 (c : Int64) : (c + (0 : Int64)) = c := Int64.add_zero c
theorem own_p1 (c f : Int64) : ((c - f) + ((0 : Int64) + f)) = c := by
  rw [Int64.zero_add, own_eqi]
  have h1 := c_lsub c f
  have h2 := c_ladd (c - f) f
  have r1 := rng64 c
  have r2 := rng64 ((c - f) + f)
  omega
end Sn
theorem own_bd (x : Int32) : -2147483648 ≤ x.toInt64.toInt ∧ x.toInt64.toInt ≤ 2147483647 := by
  rw [c_i2l]; have := rng32 x; omega
theorem own_bp (x : Int32) : 0 ≤ (x.toInt64 &&& (2147483647 : Int64)).toInt ∧ (x.toInt64 &&& (2147483647 : Int64)).toInt ≤ 2147483647 := by
  have h := c_maskL x.toInt64 2147483647 31 (by decide) (by decide)
  rw [h]; omega
theorem own_cap (x : Int32) : ¬ ((x.toInt64 &&& (2147483647 : Int64)) < (0 : Int64)) := own_nneg (own_bp x)
theorem own_hab (x : Int32) : ¬ (x.toInt64 = (-9223372036854775808 : Int64)) := by
  rw [own_eqi, own_MN]; have := own_bd x; omega
theorem own_ab (x : Int32) : 0 ≤ (own_abs x.toInt64).toInt ∧ (own_abs x.toInt64).toInt ≤ 2147483648 := by
  have b := own_bd x
  unfold own_abs
  split
  · rename_i q
    rw [Int64.lt_iff_toInt_lt, own_0] at q
    have h := c_lneg x.toInt64
    have r := rng64 (-x.toInt64)
    omega
  · rename_i q
    rw [Int64.lt_iff_toInt_lt, own_0] at q
    omega
theorem own_ab2 (x y : Int32) : (((0 : Int64) + own_abs x.toInt64) + own_abs y.toInt64).toInt = (own_abs x.toInt64).toInt + (own_abs y.toInt64).toInt := by
  rw [Int64.zero_add]
  have h := c_ladd (own_abs x.toInt64) (own_abs y.toInt64)
  have r := rng64 (own_abs x.toInt64 + own_abs y.toInt64)
  have := own_ab x
  have := own_ab y
  omega
theorem own_had1 (x : Int32) : ¬ ((((0 : Int64) ^^^ ((0 : Int64) + (own_abs x.toInt64))) &&& ((own_abs x.toInt64) ^^^ ((0 : Int64) + (own_abs x.toInt64)))) < (0 : Int64)) := by
  have := own_ab x
  exact Jvm.Free.XT.addOk64 ⟨by rw [own_0]; omega, by rw [own_0]; omega⟩
theorem own_had2 (x y : Int32) : ¬ (((((0 : Int64) + (own_abs x.toInt64)) ^^^ (((0 : Int64) + (own_abs x.toInt64)) + (own_abs y.toInt64))) &&& ((own_abs y.toInt64) ^^^ (((0 : Int64) + (own_abs x.toInt64)) + (own_abs y.toInt64)))) < (0 : Int64)) := by
  have := own_ab x
  have := own_ab y
  exact Jvm.Free.XT.addOk64 ⟨by rw [Int64.zero_add]; omega, by rw [Int64.zero_add]; omega⟩
theorem own_hmx1 (x : Int32) : ¬ ((1152921504606846975 : Int64) < ((0 : Int64) + (own_abs x.toInt64))) := by
  have := own_ab x
  rw [Int64.zero_add, Int64.lt_iff_toInt_lt, own_BG]; omega
theorem own_hmx2 (x y : Int32) : ¬ ((1152921504606846975 : Int64) < (((0 : Int64) + (own_abs x.toInt64)) + (own_abs y.toInt64))) := by
  have := own_ab x
  have := own_ab y
  rw [Int64.lt_iff_toInt_lt, own_BG, own_ab2]; omega
theorem own_mx1 (r y : Int64) : ¬ ((if r < (y &&& (9223372036854775807 : Int64)) then (y &&& (9223372036854775807 : Int64)) else r) < (0 : Int64)) := by
  have h := c_maskL y 9223372036854775807 63 (by decide) (by decide)
  rw [Int64.lt_iff_toInt_lt, own_0]
  split
  · omega
  · rename_i q
    rw [Int64.lt_iff_toInt_lt] at q
    omega
theorem own_mx2 (r y : Int64) : ¬ ((if r < y then y else r) < r) := by
  rw [Int64.lt_iff_toInt_lt]
  split
  · rename_i q
    rw [Int64.lt_iff_toInt_lt] at q
    omega
  · omega
theorem own_mx3 (z r : Int64) : ((z - r) + r) = z := by
  rw [own_eqi]
  have h1 := c_lsub z r
  have h2 := c_ladd (z - r) r
  have r1 := rng64 z
  have r2 := rng64 ((z - r) + r)
  omega
def own_XF (Z : State) (h : Heap) (n0 : Nat) (x : Addr) (nx : Addr) (tg : Addr) (rs : Addr) (co : Addr) (fi : Addr) (po : Addr) (di : Addr) (pa : Addr) (hp : Addr) (hn : Addr) (hq : Addr) (qu : Addr) (qd : Addr) (lw : Addr) (sk : Addr) (cu : Addr) (vi : Addr) (ar : Int32) (ac : Int64) (fc : Int64) (vl : Int32) (so : Int32) (si : Int32) (vt : Int64) : Prop := Exa Z h x "com/example/violarc/violarc/graph/FlowNetwork" ∧ Fld Z h x "com/example/violarc/violarc/graph/FlowNetwork" "next" "[I" (.ref nx) ∧ Fld Z h x "com/example/violarc/violarc/graph/FlowNetwork" "target" "[I" (.ref tg) ∧ Fld Z h x "com/example/violarc/violarc/graph/FlowNetwork" "residual" "[J" (.ref rs) ∧ Fld Z h x "com/example/violarc/violarc/graph/FlowNetwork" "cost" "[J" (.ref co) ∧ Fld Z h x "com/example/violarc/violarc/graph/FlowNetwork" "first" "[I" (.ref fi) ∧ Fld Z h x "com/example/violarc/violarc/graph/FlowNetwork" "potentials" "[J" (.ref po) ∧ Fld Z h x "com/example/violarc/violarc/graph/FlowNetwork" "distances" "[J" (.ref di) ∧ Fld Z h x "com/example/violarc/violarc/graph/FlowNetwork" "parents" "[I" (.ref pa) ∧ Fld Z h x "com/example/violarc/violarc/graph/FlowNetwork" "heap" "Lcom/example/violarc/violarc/graph/NodeHeap;" (.ref hp) ∧ Fld Z h x "com/example/violarc/violarc/graph/FlowNetwork" "queue" "[I" (.ref qu) ∧ Fld Z h x "com/example/violarc/violarc/graph/FlowNetwork" "queued" "[Z" (.ref qd) ∧ Fld Z h x "com/example/violarc/violarc/graph/FlowNetwork" "lowered" "[I" (.ref lw) ∧ Fld Z h x "com/example/violarc/violarc/graph/FlowNetwork" "stack" "[I" (.ref sk) ∧ Fld Z h x "com/example/violarc/violarc/graph/FlowNetwork" "cursors" "[I" (.ref cu) ∧ Fld Z h x "com/example/violarc/violarc/graph/FlowNetwork" "visits" "[J" (.ref vi) ∧ Fld Z h x "com/example/violarc/violarc/graph/FlowNetwork" "arcs" "I" (.int ar) ∧ Fld Z h x "com/example/violarc/violarc/graph/FlowNetwork" "absoluteCosts" "J" (.long ac) ∧ Fld Z h x "com/example/violarc/violarc/graph/FlowNetwork" "flowCost" "J" (.long fc) ∧ Fld Z h x "com/example/violarc/violarc/graph/FlowNetwork" "valid" "Z" (.int vl) ∧ Fld Z h x "com/example/violarc/violarc/graph/FlowNetwork" "source" "I" (.int so) ∧ Fld Z h x "com/example/violarc/violarc/graph/FlowNetwork" "sink" "I" (.int si) ∧ Fld Z h x "com/example/violarc/violarc/graph/FlowNetwork" "visit" "J" (.long vt) ∧ n0 ≤ x ∧ own_inc [x, nx, tg, rs, co, fi, po, di, pa, hp, hn, hq, qu, qd, lw, sk, cu, vi]
def own_HP (Z : State) (h : Heap) (n0 : Nat) (hp : Addr) (di : Addr) (hn : Addr) (hq : Addr) (hz : Int32) : Prop := Exa Z h hp "com/example/violarc/violarc/graph/NodeHeap" ∧ Fld Z h hp "com/example/violarc/violarc/graph/NodeHeap" "keys" "[J" (.ref di) ∧ Fld Z h hp "com/example/violarc/violarc/graph/NodeHeap" "nodes" "[I" (.ref hn) ∧ Fld Z h hp "com/example/violarc/violarc/graph/NodeHeap" "positions" "[I" (.ref hq) ∧ Fld Z h hp "com/example/violarc/violarc/graph/NodeHeap" "size" "I" (.int hz)
theorem own_XF_ext {Z : State} {h h' : Heap} {n0 : Nat} {x : Addr} {nx : Addr} {tg : Addr} {rs : Addr} {co : Addr} {fi : Addr} {po : Addr} {di : Addr} {pa : Addr} {hp : Addr} {hn : Addr} {hq : Addr} {qu : Addr} {qd : Addr} {lw : Addr} {sk : Addr} {cu : Addr} {vi : Addr} {ar : Int32} {ac : Int64} {fc : Int64} {vl : Int32} {so : Int32} {si : Int32} {vt : Int64} (B : own_XF Z h n0 x nx tg rs co fi po di pa hp hn hq qu qd lw sk cu vi ar ac fc vl so si vt) (E : Ext h h') : own_XF Z h' n0 x nx tg rs co fi po di pa hp hn hq qu qd lw sk cu vi ar ac fc vl so si vt := by
  obtain ⟨u0, u1, u2, u3, u4, u5, u6, u7, u8, u9, u10, u11, u12, u13, u14, u15, u16, u17, u18, u19, u20, u21, u22, u23, u24⟩ := B
  exact ⟨u0.ext E, u1.ext E, u2.ext E, u3.ext E, u4.ext E, u5.ext E, u6.ext E, u7.ext E, u8.ext E, u9.ext E, u10.ext E, u11.ext E, u12.ext E, u13.ext E, u14.ext E, u15.ext E, u16.ext E, u17.ext E, u18.ext E, u19.ext E, u20.ext E, u21.ext E, u22.ext E, u23, u24⟩
theorem own_XF_keep {Z : State} {h h' : Heap} {n0 : Nat} {x : Addr} {nx : Addr} {tg : Addr} {rs : Addr} {co : Addr} {fi : Addr} {po : Addr} {di : Addr} {pa : Addr} {hp : Addr} {hn : Addr} {hq : Addr} {qu : Addr} {qd : Addr} {lw : Addr} {sk : Addr} {cu : Addr} {vi : Addr} {ar : Int32} {ac : Int64} {fc : Int64} {vl : Int32} {so : Int32} {si : Int32} {vt : Int64} (B : own_XF Z h n0 x nx tg rs co fi po di pa hp hn hq qu qd lw sk cu vi ar ac fc vl so si vt) {ws : List Addr} (K : Keep h h' ws) (q : x ∉ ws) : own_XF Z h' n0 x nx tg rs co fi po di pa hp hn hq qu qd lw sk cu vi ar ac fc vl so si vt := by
  obtain ⟨u0, u1, u2, u3, u4, u5, u6, u7, u8, u9, u10, u11, u12, u13, u14, u15, u16, u17, u18, u19, u20, u21, u22, u23, u24⟩ := B
  exact ⟨u0.keep K, u1.keep K q, u2.keep K q, u3.keep K q, u4.keep K q, u5.keep K q, u6.keep K q, u7.keep K q, u8.keep K q, u9.keep K q, u10.keep K q, u11.keep K q, u12.keep K q, u13.keep K q, u14.keep K q, u15.keep K q, u16.keep K q, u17.keep K q, u18.keep K q, u19.keep K q, u20.keep K q, u21.keep K q, u22.keep K q, u23, u24⟩
theorem own_XF_wr {Z : State} {h h' : Heap} {n0 : Nat} {x : Addr} {nx : Addr} {tg : Addr} {rs : Addr} {co : Addr} {fi : Addr} {po : Addr} {di : Addr} {pa : Addr} {hp : Addr} {hn : Addr} {hq : Addr} {qu : Addr} {qd : Addr} {lw : Addr} {sk : Addr} {cu : Addr} {vi : Addr} {ar : Int32} {ac : Int64} {fc : Int64} {vl : Int32} {so : Int32} {si : Int32} {vt : Int64} (B : own_XF Z h n0 x nx tg rs co fi po di pa hp hn hq qu qd lw sk cu vi ar ac fc vl so si vt) {b : Addr} {sl : Nat} {w : Value} (W : Wr h h' b sl w) (q : x ≠ b) : own_XF Z h' n0 x nx tg rs co fi po di pa hp hn hq qu qd lw sk cu vi ar ac fc vl so si vt := by
  obtain ⟨u0, u1, u2, u3, u4, u5, u6, u7, u8, u9, u10, u11, u12, u13, u14, u15, u16, u17, u18, u19, u20, u21, u22, u23, u24⟩ := B
  exact ⟨u0.wr W, u1.other W (Or.inl q), u2.other W (Or.inl q), u3.other W (Or.inl q), u4.other W (Or.inl q), u5.other W (Or.inl q), u6.other W (Or.inl q), u7.other W (Or.inl q), u8.other W (Or.inl q), u9.other W (Or.inl q), u10.other W (Or.inl q), u11.other W (Or.inl q), u12.other W (Or.inl q), u13.other W (Or.inl q), u14.other W (Or.inl q), u15.other W (Or.inl q), u16.other W (Or.inl q), u17.other W (Or.inl q), u18.other W (Or.inl q), u19.other W (Or.inl q), u20.other W (Or.inl q), u21.other W (Or.inl q), u22.other W (Or.inl q), u23, u24⟩
theorem own_XF_p_arcs {Z : State} {a0 : Array Value} (hw : ∀ d ∈ tables_1, d.before a0 Z = true) {h h' : Heap} {n0 : Nat} {x : Addr} {nx : Addr} {tg : Addr} {rs : Addr} {co : Addr} {fi : Addr} {po : Addr} {di : Addr} {pa : Addr} {hp : Addr} {hn : Addr} {hq : Addr} {qu : Addr} {qd : Addr} {lw : Addr} {sk : Addr} {cu : Addr} {vi : Addr} {ar : Int32} {ac : Int64} {fc : Int64} {vl : Int32} {so : Int32} {si : Int32} {vt : Int64} {z' : Int32} (B : own_XF Z h n0 x nx tg rs co fi po di pa hp hn hq qu qd lw sk cu vi ar ac fc vl so si vt) {w : Value} (W : Wr h h' x (Jvm.RoadKit.slotOf Z "com/example/violarc/violarc/graph/FlowNetwork" "arcs" "I") w) (F : Fld Z h' x "com/example/violarc/violarc/graph/FlowNetwork" "arcs" "I" (.int z')) : own_XF Z h' n0 x nx tg rs co fi po di pa hp hn hq qu qd lw sk cu vi z' ac fc vl so si vt := by
  obtain ⟨u0, u1, u2, u3, u4, u5, u6, u7, u8, u9, u10, u11, u12, u13, u14, u15, u16, u17, u18, u19, u20, u21, u22, u23, u24⟩ := B
  exact ⟨u0.wr W, u1.other W (Or.inr (own_sn (la_1 hw) (la_0 hw))), u2.other W (Or.inr (own_sn (la_2 hw) (la_0 hw))), u3.other W (Or.inr (own_sn (la_3 hw) (la_0 hw))), u4.other W (Or.inr (own_sn (la_4 hw) (la_0 hw))), u5.other W (Or.inr (own_sn (la_5 hw) (la_0 hw))), u6.other W (Or.inr (own_sn (la_6 hw) (la_0 hw))), u7.other W (Or.inr (own_sn (la_7 hw) (la_0 hw))), u8.other W (Or.inr (own_sn (la_8 hw) (la_0 hw))), u9.other W (Or.inr (own_sn (la_9 hw) (la_0 hw))), u10.other W (Or.inr (own_sn (la_10 hw) (la_0 hw))), u11.other W (Or.inr (own_sn (la_11 hw) (la_0 hw))), u12.other W (Or.inr (own_sn (la_12 hw) (la_0 hw))), u13.other W (Or.inr (own_sn (la_13 hw) (la_0 hw))), u14.other W (Or.inr (own_sn (la_14 hw) (la_0 hw))), u15.other W (Or.inr (own_sn (la_15 hw) (la_0 hw))), F, u17.other W (Or.inr (own_sn (la_16 hw) (la_0 hw))), u18.other W (Or.inr (own_sn (la_17 hw) (la_0 hw))), u19.other W (Or.inr (own_sn (la_18 hw) (la_0 hw))), u20.other W (Or.inr (own_sn (la_19 hw) (la_0 hw))), u21.other W (Or.inr (own_sn (la_20 hw) (la_0 hw))), u22.other W (Or.inr (own_sn (la_21 hw) (la_0 hw))), u23, u24⟩
theorem own_XF_p_absoluteCosts {Z : State} {a0 : Array Value} (hw : ∀ d ∈ tables_1, d.before a0 Z = true) {h h' : Heap} {n0 : Nat} {x : Addr} {nx : Addr} {tg : Addr} {rs : Addr} {co : Addr} {fi : Addr} {po : Addr} {di : Addr} {pa : Addr} {hp : Addr} {hn : Addr} {hq : Addr} {qu : Addr} {qd : Addr} {lw : Addr} {sk : Addr} {cu : Addr} {vi : Addr} {ar : Int32} {ac : Int64} {fc : Int64} {vl : Int32} {so : Int32} {si : Int32} {vt : Int64} {z' : Int64} (B : own_XF Z h n0 x nx tg rs co fi po di pa hp hn hq qu qd lw sk cu vi ar ac fc vl so si vt) {w : Value} (W : Wr h h' x (Jvm.RoadKit.slotOf Z "com/example/violarc/violarc/graph/FlowNetwork" "absoluteCosts" "J") w) (F : Fld Z h' x "com/example/violarc/violarc/graph/FlowNetwork" "absoluteCosts" "J" (.long z')) : own_XF Z h' n0 x nx tg rs co fi po di pa hp hn hq qu qd lw sk cu vi ar z' fc vl so si vt := by
  obtain ⟨u0, u1, u2, u3, u4, u5, u6, u7, u8, u9, u10, u11, u12, u13, u14, u15, u16, u17, u18, u19, u20, u21, u22, u23, u24⟩ := B
  exact ⟨u0.wr W, u1.other W (Or.inr (own_sn (la_1 hw) (la_16 hw))), u2.other W (Or.inr (own_sn (la_2 hw) (la_16 hw))), u3.other W (Or.inr (own_sn (la_3 hw) (la_16 hw))), u4.other W (Or.inr (own_sn (la_4 hw) (la_16 hw))), u5.other W (Or.inr (own_sn (la_5 hw) (la_16 hw))), u6.other W (Or.inr (own_sn (la_6 hw) (la_16 hw))), u7.other W (Or.inr (own_sn (la_7 hw) (la_16 hw))), u8.other W (Or.inr (own_sn (la_8 hw) (la_16 hw))), u9.other W (Or.inr (own_sn (la_9 hw) (la_16 hw))), u10.other W (Or.inr (own_sn (la_10 hw) (la_16 hw))), u11.other W (Or.inr (own_sn (la_11 hw) (la_16 hw))), u12.other W (Or.inr (own_sn (la_12 hw) (la_16 hw))), u13.other W (Or.inr (own_sn (la_13 hw) (la_16 hw))), u14.other W (Or.inr (own_sn (la_14 hw) (la_16 hw))), u15.other W (Or.inr (own_sn (la_15 hw) (la_16 hw))), u16.other W (Or.inr (own_sn (la_0 hw) (la_16 hw))), F, u18.other W (Or.inr (own_sn (la_17 hw) (la_16 hw))), u19.other W (Or.inr (own_sn (la_18 hw) (la_16 hw))), u20.other W (Or.inr (own_sn (la_19 hw) (la_16 hw))), u21.other W (Or.inr (own_sn (la_20 hw) (la_16 hw))), u22.other W (Or.inr (own_sn (la_21 hw) (la_16 hw))), u23, u24⟩
theorem own_XF_p_flowCost {Z : State} {a0 : Array Value} (hw : ∀ d ∈ tables_1, d.before a0 Z = true) {h h' : Heap} {n0 : Nat} {x : Addr} {nx : Addr} {tg : Addr} {rs : Addr} {co : Addr} {fi : Addr} {po : Addr} {di : Addr} {pa : Addr} {hp : Addr} {hn : Addr} {hq : Addr} {qu : Addr} {qd : Addr} {lw : Addr} {sk : Addr} {cu : Addr} {vi : Addr} {ar : Int32} {ac : Int64} {fc : Int64} {vl : Int32} {so : Int32} {si : Int32} {vt : Int64} {z' : Int64} (B : own_XF Z h n0 x nx tg rs co fi po di pa hp hn hq qu qd lw sk cu vi ar ac fc vl so si vt) {w : Value} (W : Wr h h' x (Jvm.RoadKit.slotOf Z "com/example/violarc/violarc/graph/FlowNetwork" "flowCost" "J") w) (F : Fld Z h' x "com/example/violarc/violarc/graph/FlowNetwork" "flowCost" "J" (.long z')) : own_XF Z h' n0 x nx tg rs co fi po di pa hp hn hq qu qd lw sk cu vi ar ac z' vl so si vt := by
  obtain ⟨u0, u1, u2, u3, u4, u5, u6, u7, u8, u9, u10, u11, u12, u13, u14, u15, u16, u17, u18, u19, u20, u21, u22, u23, u24⟩ := B
  exact ⟨u0.wr W, u1.other W (Or.inr (own_sn (la_1 hw) (la_17 hw))), u2.other W (Or.inr (own_sn (la_2 hw) (la_17 hw))), u3.other W (Or.inr (own_sn (la_3 hw) (la_17 hw))), u4.other W (Or.inr (own_sn (la_4 hw) (la_17 hw))), u5.other W (Or.inr (own_sn (la_5 hw) (la_17 hw))), u6.other W (Or.inr (own_sn (la_6 hw) (la_17 hw))), u7.other W (Or.inr (own_sn (la_7 hw) (la_17 hw))), u8.other W (Or.inr (own_sn (la_8 hw) (la_17 hw))), u9.other W (Or.inr (own_sn (la_9 hw) (la_17 hw))), u10.other W (Or.inr (own_sn (la_10 hw) (la_17 hw))), u11.other W (Or.inr (own_sn (la_11 hw) (la_17 hw))), u12.other W (Or.inr (own_sn (la_12 hw) (la_17 hw))), u13.other W (Or.inr (own_sn (la_13 hw) (la_17 hw))), u14.other W (Or.inr (own_sn (la_14 hw) (la_17 hw))), u15.other W (Or.inr (own_sn (la_15 hw) (la_17 hw))), u16.other W (Or.inr (own_sn (la_0 hw) (la_17 hw))), u17.other W (Or.inr (own_sn (la_16 hw) (la_17 hw))), F, u19.other W (Or.inr (own_sn (la_18 hw) (la_17 hw))), u20.other W (Or.inr (own_sn (la_19 hw) (la_17 hw))), u21.other W (Or.inr (own_sn (la_20 hw) (la_17 hw))), u22.other W (Or.inr (own_sn (la_21 hw) (la_17 hw))), u23, u24⟩
theorem own_XF_p_valid {Z : State} {a0 : Array Value} (hw : ∀ d ∈ tables_1, d.before a0 Z = true) {h h' : Heap} {n0 : Nat} {x : Addr} {nx : Addr} {tg : Addr} {rs : Addr} {co : Addr} {fi : Addr} {po : Addr} {di : Addr} {pa : Addr} {hp : Addr} {hn : Addr} {hq : Addr} {qu : Addr} {qd : Addr} {lw : Addr} {sk : Addr} {cu : Addr} {vi : Addr} {ar : Int32} {ac : Int64} {fc : Int64} {vl : Int32} {so : Int32} {si : Int32} {vt : Int64} {z' : Int32} (B : own_XF Z h n0 x nx tg rs co fi po di pa hp hn hq qu qd lw sk cu vi ar ac fc vl so si vt) {w : Value} (W : Wr h h' x (Jvm.RoadKit.slotOf Z "com/example/violarc/violarc/graph/FlowNetwork" "valid" "Z") w) (F : Fld Z h' x "com/example/violarc/violarc/graph/FlowNetwork" "valid" "Z" (.int z')) : own_XF Z h' n0 x nx tg rs co fi po di pa hp hn hq qu qd lw sk cu vi ar ac fc z' so si vt := by
  obtain ⟨u0, u1, u2, u3, u4, u5, u6, u7, u8, u9, u10, u11, u12, u13, u14, u15, u16, u17, u18, u19, u20, u21, u22, u23, u24⟩ := B
  exact ⟨u0.wr W, u1.other W (Or.inr (own_sn (la_1 hw) (la_18 hw))), u2.other W (Or.inr (own_sn (la_2 hw) (la_18 hw))), u3.other W (Or.inr (own_sn (la_3 hw) (la_18 hw))), u4.other W (Or.inr (own_sn (la_4 hw) (la_18 hw))), u5.other W (Or.inr (own_sn (la_5 hw) (la_18 hw))), u6.other W (Or.inr (own_sn (la_6 hw) (la_18 hw))), u7.other W (Or.inr (own_sn (la_7 hw) (la_18 hw))), u8.other W (Or.inr (own_sn (la_8 hw) (la_18 hw))), u9.other W (Or.inr (own_sn (la_9 hw) (la_18 hw))), u10.other W (Or.inr (own_sn (la_10 hw) (la_18 hw))), u11.other W (Or.inr (own_sn (la_11 hw) (la_18 hw))), u12.other W (Or.inr (own_sn (la_12 hw) (la_18 hw))), u13.other W (Or.inr (own_sn (la_13 hw) (la_18 hw))), u14.other W (Or.inr (own_sn (la_14 hw) (la_18 hw))), u15.other W (Or.inr (own_sn (la_15 hw) (la_18 hw))), u16.other W (Or.inr (own_sn (la_0 hw) (la_18 hw))), u17.other W (Or.inr (own_sn (la_16 hw) (la_18 hw))), u18.other W (Or.inr (own_sn (la_17 hw) (la_18 hw))), F, u20.other W (Or.inr (own_sn (la_19 hw) (la_18 hw))), u21.other W (Or.inr (own_sn (la_20 hw) (la_18 hw))), u22.other W (Or.inr (own_sn (la_21 hw) (la_18 hw))), u23, u24⟩
theorem own_XF_p_source {Z : State} {a0 : Array Value} (hw : ∀ d ∈ tables_1, d.before a0 Z = true) {h h' : Heap} {n0 : Nat} {x : Addr} {nx : Addr} {tg : Addr} {rs : Addr} {co : Addr} {fi : Addr} {po : Addr} {di : Addr} {pa : Addr} {hp : Addr} {hn : Addr} {hq : Addr} {qu : Addr} {qd : Addr} {lw : Addr} {sk : Addr} {cu : Addr} {vi : Addr} {ar : Int32} {ac : Int64} {fc : Int64} {vl : Int32} {so : Int32} {si : Int32} {vt : Int64} {z' : Int32} (B : own_XF Z h n0 x nx tg rs co fi po di pa hp hn hq qu qd lw sk cu vi ar ac fc vl so si vt) {w : Value} (W : Wr h h' x (Jvm.RoadKit.slotOf Z "com/example/violarc/violarc/graph/FlowNetwork" "source" "I") w) (F : Fld Z h' x "com/example/violarc/violarc/graph/FlowNetwork" "source" "I" (.int z')) : own_XF Z h' n0 x nx tg rs co fi po di pa hp hn hq qu qd lw sk cu vi ar ac fc vl z' si vt := by
  obtain ⟨u0, u1, u2, u3, u4, u5, u6, u7, u8, u9, u10, u11, u12, u13, u14, u15, u16, u17, u18, u19, u20, u21, u22, u23, u24⟩ := B
  exact ⟨u0.wr W, u1.other W (Or.inr (own_sn (la_1 hw) (la_19 hw))), u2.other W (Or.inr (own_sn (la_2 hw) (la_19 hw))), u3.other W (Or.inr (own_sn (la_3 hw) (la_19 hw))), u4.other W (Or.inr (own_sn (la_4 hw) (la_19 hw))), u5.other W (Or.inr (own_sn (la_5 hw) (la_19 hw))), u6.other W (Or.inr (own_sn (la_6 hw) (la_19 hw))), u7.other W (Or.inr (own_sn (la_7 hw) (la_19 hw))), u8.other W (Or.inr (own_sn (la_8 hw) (la_19 hw))), u9.other W (Or.inr (own_sn (la_9 hw) (la_19 hw))), u10.other W (Or.inr (own_sn (la_10 hw) (la_19 hw))), u11.other W (Or.inr (own_sn (la_11 hw) (la_19 hw))), u12.other W (Or.inr (own_sn (la_12 hw) (la_19 hw))), u13.other W (Or.inr (own_sn (la_13 hw) (la_19 hw))), u14.other W (Or.inr (own_sn (la_14 hw) (la_19 hw))), u15.other W (Or.inr (own_sn (la_15 hw) (la_19 hw))), u16.other W (Or.inr (own_sn (la_0 hw) (la_19 hw))), u17.other W (Or.inr (own_sn (la_16 hw) (la_19 hw))), u18.other W (Or.inr (own_sn (la_17 hw) (la_19 hw))), u19.other W (Or.inr (own_sn (la_18 hw) (la_19 hw))), F, u21.other W (Or.inr (own_sn (la_20 hw) (la_19 hw))), u22.other W (Or.inr (own_sn (la_21 hw) (la_19 hw))), u23, u24⟩
theorem own_XF_p_sink {Z : State} {a0 : Array Value} (hw : ∀ d ∈ tables_1, d.before a0 Z = true) {h h' : Heap} {n0 : Nat} {x : Addr} {nx : Addr} {tg : Addr} {rs : Addr} {co : Addr} {fi : Addr} {po : Addr} {di : Addr} {pa : Addr} {hp : Addr} {hn : Addr} {hq : Addr} {qu : Addr} {qd : Addr} {lw : Addr} {sk : Addr} {cu : Addr} {vi : Addr} {ar : Int32} {ac : Int64} {fc : Int64} {vl : Int32} {so : Int32} {si : Int32} {vt : Int64} {z' : Int32} (B : own_XF Z h n0 x nx tg rs co fi po di pa hp hn hq qu qd lw sk cu vi ar ac fc vl so si vt) {w : Value} (W : Wr h h' x (Jvm.RoadKit.slotOf Z "com/example/violarc/violarc/graph/FlowNetwork" "sink" "I") w) (F : Fld Z h' x "com/example/violarc/violarc/graph/FlowNetwork" "sink" "I" (.int z')) : own_XF Z h' n0 x nx tg rs co fi po di pa hp hn hq qu qd lw sk cu vi ar ac fc vl so z' vt := by
  obtain ⟨u0, u1, u2, u3, u4, u5, u6, u7, u8, u9, u10, u11, u12, u13, u14, u15, u16, u17, u18, u19, u20, u21, u22, u23, u24⟩ := B
  exact ⟨u0.wr W, u1.other W (Or.inr (own_sn (la_1 hw) (la_20 hw))), u2.other W (Or.inr (own_sn (la_2 hw) (la_20 hw))), u3.other W (Or.inr (own_sn (la_3 hw) (la_20 hw))), u4.other W (Or.inr (own_sn (la_4 hw) (la_20 hw))), u5.other W (Or.inr (own_sn (la_5 hw) (la_20 hw))), u6.other W (Or.inr (own_sn (la_6 hw) (la_20 hw))), u7.other W (Or.inr (own_sn (la_7 hw) (la_20 hw))), u8.other W (Or.inr (own_sn (la_8 hw) (la_20 hw))), u9.other W (Or.inr (own_sn (la_9 hw) (la_20 hw))), u10.other W (Or.inr (own_sn (la_10 hw) (la_20 hw))), u11.other W (Or.inr (own_sn (la_11 hw) (la_20 hw))), u12.other W (Or.inr (own_sn (la_12 hw) (la_20 hw))), u13.other W (Or.inr (own_sn (la_13 hw) (la_20 hw))), u14.other W (Or.inr (own_sn (la_14 hw) (la_20 hw))), u15.other W (Or.inr (own_sn (la_15 hw) (la_20 hw))), u16.other W (Or.inr (own_sn (la_0 hw) (la_20 hw))), u17.other W (Or.inr (own_sn (la_16 hw) (la_20 hw))), u18.other W (Or.inr (own_sn (la_17 hw) (la_20 hw))), u19.other W (Or.inr (own_sn (la_18 hw) (la_20 hw))), u20.other W (Or.inr (own_sn (la_19 hw) (la_20 hw))), F, u22.other W (Or.inr (own_sn (la_21 hw) (la_20 hw))), u23, u24⟩
theorem own_XF_p_visit {Z : State} {a0 : Array Value} (hw : ∀ d ∈ tables_1, d.before a0 Z = true) {h h' : Heap} {n0 : Nat} {x : Addr} {nx : Addr} {tg : Addr} {rs : Addr} {co : Addr} {fi : Addr} {po : Addr} {di : Addr} {pa : Addr} {hp : Addr} {hn : Addr} {hq : Addr} {qu : Addr} {qd : Addr} {lw : Addr} {sk : Addr} {cu : Addr} {vi : Addr} {ar : Int32} {ac : Int64} {fc : Int64} {vl : Int32} {so : Int32} {si : Int32} {vt : Int64} {z' : Int64} (B : own_XF Z h n0 x nx tg rs co fi po di pa hp hn hq qu qd lw sk cu vi ar ac fc vl so si vt) {w : Value} (W : Wr h h' x (Jvm.RoadKit.slotOf Z "com/example/violarc/violarc/graph/FlowNetwork" "visit" "J") w) (F : Fld Z h' x "com/example/violarc/violarc/graph/FlowNetwork" "visit" "J" (.long z')) : own_XF Z h' n0 x nx tg rs co fi po di pa hp hn hq qu qd lw sk cu vi ar ac fc vl so si z' := by
  obtain ⟨u0, u1, u2, u3, u4, u5, u6, u7, u8, u9, u10, u11, u12, u13, u14, u15, u16, u17, u18, u19, u20, u21, u22, u23, u24⟩ := B
  exact ⟨u0.wr W, u1.other W (Or.inr (own_sn (la_1 hw) (la_21 hw))), u2.other W (Or.inr (own_sn (la_2 hw) (la_21 hw))), u3.other W (Or.inr (own_sn (la_3 hw) (la_21 hw))), u4.other W (Or.inr (own_sn (la_4 hw) (la_21 hw))), u5.other W (Or.inr (own_sn (la_5 hw) (la_21 hw))), u6.other W (Or.inr (own_sn (la_6 hw) (la_21 hw))), u7.other W (Or.inr (own_sn (la_7 hw) (la_21 hw))), u8.other W (Or.inr (own_sn (la_8 hw) (la_21 hw))), u9.other W (Or.inr (own_sn (la_9 hw) (la_21 hw))), u10.other W (Or.inr (own_sn (la_10 hw) (la_21 hw))), u11.other W (Or.inr (own_sn (la_11 hw) (la_21 hw))), u12.other W (Or.inr (own_sn (la_12 hw) (la_21 hw))), u13.other W (Or.inr (own_sn (la_13 hw) (la_21 hw))), u14.other W (Or.inr (own_sn (la_14 hw) (la_21 hw))), u15.other W (Or.inr (own_sn (la_15 hw) (la_21 hw))), u16.other W (Or.inr (own_sn (la_0 hw) (la_21 hw))), u17.other W (Or.inr (own_sn (la_16 hw) (la_21 hw))), u18.other W (Or.inr (own_sn (la_17 hw) (la_21 hw))), u19.other W (Or.inr (own_sn (la_18 hw) (la_21 hw))), u20.other W (Or.inr (own_sn (la_19 hw) (la_21 hw))), u21.other W (Or.inr (own_sn (la_20 hw) (la_21 hw))), F, u23, u24⟩
section Cps
variable {p : Program} {l : Launch} {e : Env} {R : Room} {s : State} {m : MethodId} {args : Array Value} {below : List Frame} {meth : Method} {c : Code} {T : State} {locs : List Loc} {cells slots : Nat} {Z : State} {a0 : Array Value} {code : ByteArray} {own : String} {Rp : State → Outcome → Prop} {h : Heap} {L : Array Slot} {S : List Value} {pc : Nat}
def Gl (p : Program) (e : Env) (below : List Frame) (Rp : State → Outcome → Prop) (S : State) : Prop := ∃ U o, Steps p.tables e below S U ∧ Rp U o
def own_K (p : Program) (c : Code) (code : ByteArray) (Z s : State) (own : String) (m : MethodId) (a0 : Array Value) : Prop := p.tables.exec = Jvm.exec ∧ c.code = code ∧ Z.Warmed39 s.vm ∧ s.vm.findClass own = some m.cls ∧ ∀ d ∈ tables_1, d.before a0 Z = true
theorem gB {S S' : State} (k : Gl p e below Rp S') (q : ∀ t, Steps p.tables e below S' t → Steps p.tables e below S t) : Gl p e below Rp S := by obtain ⟨U, o, a, b⟩ := k; exact ⟨U, o, q _ a, b⟩
theorem gStart {R0 : State → Outcome → Prop} {S S' : State} (q : S = S') (k : ∀ Rp, (∀ U o, R0 U o → Rp U o) → Gl p e below Rp S') : ∃ U o, Steps p.tables e below S U ∧ R0 U o := by rw [q]; exact k R0 fun _ _ q => q
theorem gEnd {R0 : State → Outcome → Prop} {S : State} (hR : ∀ U o, R0 U o → Rp U o) (k : ∃ U o, Steps p.tables e below S U ∧ R0 U o) : Gl p e below Rp S := by obtain ⟨U, o, a, b⟩ := k; exact ⟨U, o, a, hR _ _ b⟩
abbrev uu : Slot := .unset
theorem g_aloadN (X : Stand p l e R s m args below meth c T locs cells slots) (K : own_K p c code Z s own m a0) {k : Fin 4} {v : Value} (hd : decode code pc = .ok (.aload_n k, 1)) (hl : L[k.val]? = some (.val v)) (hv : v.isRef = true) (r : Gl p e below Rp (T.setTop (mkF m (pc + 1) L (v :: S)))) : Gl p e below Rp (T.setTop (mkF m pc L S)) := gB r fun t k => XS.aloadN X.here K.1 rfl (hb K.2.1 hd) hl hv k
theorem g_aload (X : Stand p l e R s m args below meth c T locs cells slots) (K : own_K p c code Z s own m a0) {k : Nat} {v : Value} (hd : decode code pc = .ok (.aload k, 2)) (hl : L[k]? = some (.val v)) (hv : v.isRef = true) (r : Gl p e below Rp (T.setTop (mkF m (pc + 2) L (v :: S)))) : Gl p e below Rp (T.setTop (mkF m pc L S)) := gB r fun t k => XS.aload X.here K.1 rfl (hb K.2.1 hd) hl hv k
theorem g_iloadN (X : Stand p l e R s m args below meth c T locs cells slots) (K : own_K p c code Z s own m a0) {k : Fin 4} {v : Int32} (hd : decode code pc = .ok (.iload_n k, 1)) (hl : L[k.val]? = some (.val (.int v))) (r : Gl p e below Rp (T.setTop (mkF m (pc + 1) L (.int v :: S)))) : Gl p e below Rp (T.setTop (mkF m pc L S)) := gB r fun t k => XS.iloadN X.here K.1 rfl (hb K.2.1 hd) hl k
theorem g_iload (X : Stand p l e R s m args below meth c T locs cells slots) (K : own_K p c code Z s own m a0) {k : Nat} {v : Int32} (hd : decode code pc = .ok (.iload k, 2)) (hl : L[k]? = some (.val (.int v))) (r : Gl p e below Rp (T.setTop (mkF m (pc + 2) L (.int v :: S)))) : Gl p e below Rp (T.setTop (mkF m pc L S)) := gB r fun t k => XS.iload X.here K.1 rfl (hb K.2.1 hd) hl k
theorem g_istoreN (X : Stand p l e R s m args below meth c T locs cells slots) (K : own_K p c code Z s own m a0) {k : Fin 4} {x : Int32} {L' : Array Slot} (hd : decode code pc = .ok (.istore_n k, 1)) (hl : storeLocals L k.val (.int x) = some L') (r : Gl p e below Rp (T.setTop (mkF m (pc + 1) L' S))) : Gl p e below Rp (T.setTop (mkF m pc L (.int x :: S))) := gB r fun t k => XS.istoreN X.here K.1 rfl (hb K.2.1 hd) rfl hl k
theorem g_istore (X : Stand p l e R s m args below meth c T locs cells slots) (K : own_K p c code Z s own m a0) {k : Nat} {x : Int32} {L' : Array Slot} (hd : decode code pc = .ok (.istore k, 2)) (hl : storeLocals L k (.int x) = some L') (r : Gl p e below Rp (T.setTop (mkF m (pc + 2) L' S))) : Gl p e below Rp (T.setTop (mkF m pc L (.int x :: S))) := gB r fun t k => XS.istore X.here K.1 rfl (hb K.2.1 hd) rfl hl k
theorem g_lloadN (X : Stand p l e R s m args below meth c T locs cells slots) (K : own_K p c code Z s own m a0) {k : Fin 4} {v : Int64} (hd : decode code pc = .ok (.lload_n k, 1)) (hl : L[k.val]? = some (.val (.long v))) (r : Gl p e below Rp (T.setTop (mkF m (pc + 1) L (.long v :: S)))) : Gl p e below Rp (T.setTop (mkF m pc L S)) := gB r fun t k => XS.lloadN X.here K.1 rfl (hb K.2.1 hd) hl k
theorem g_lload (X : Stand p l e R s m args below meth c T locs cells slots) (K : own_K p c code Z s own m a0) {k : Nat} {v : Int64} (hd : decode code pc = .ok (.lload k, 2)) (hl : L[k]? = some (.val (.long v))) (r : Gl p e below Rp (T.setTop (mkF m (pc + 2) L (.long v :: S)))) : Gl p e below Rp (T.setTop (mkF m pc L S)) := gB r fun t k => XS.lload X.here K.1 rfl (hb K.2.1 hd) hl k
theorem g_lstoreN (X : Stand p l e R s m args below meth c T locs cells slots) (K : own_K p c code Z s own m a0) {k : Fin 4} {x : Int64} {L' : Array Slot} (hd : decode code pc = .ok (.lstore_n k, 1)) (hl : storeLocals L k.val (.long x) = some L') (r : Gl p e below Rp (T.setTop (mkF m (pc + 1) L' S))) : Gl p e below Rp (T.setTop (mkF m pc L (.long x :: S))) := gB r fun t k => XS.lstoreN X.here K.1 rfl (hb K.2.1 hd) rfl hl k
theorem g_lstore (X : Stand p l e R s m args below meth c T locs cells slots) (K : own_K p c code Z s own m a0) {k : Nat} {x : Int64} {L' : Array Slot} (hd : decode code pc = .ok (.lstore k, 2)) (hl : storeLocals L k (.long x) = some L') (r : Gl p e below Rp (T.setTop (mkF m (pc + 2) L' S))) : Gl p e below Rp (T.setTop (mkF m pc L (.long x :: S))) := gB r fun t k => XS.lstore X.here K.1 rfl (hb K.2.1 hd) rfl hl k
theorem g_astoreN (X : Stand p l e R s m args below meth c T locs cells slots) (K : own_K p c code Z s own m a0) {k : Fin 4} {x : Value} {L' : Array Slot} (hd : decode code pc = .ok (.astore_n k, 1)) (hv : x.isRef = true) (hl : storeLocals L k.val x = some L') (r : Gl p e below Rp (T.setTop (mkF m (pc + 1) L' S))) : Gl p e below Rp (T.setTop (mkF m pc L (x :: S))) := gB r fun t k => XS.astoreN X.here K.1 rfl (hb K.2.1 hd) rfl hv hl k
theorem g_astore (X : Stand p l e R s m args below meth c T locs cells slots) (K : own_K p c code Z s own m a0) {k : Nat} {x : Value} {L' : Array Slot} (hd : decode code pc = .ok (.astore k, 2)) (hv : x.isRef = true) (hl : storeLocals L k x = some L') (r : Gl p e below Rp (T.setTop (mkF m (pc + 2) L' S))) : Gl p e below Rp (T.setTop (mkF m pc L (x :: S))) := gB r fun t k => XS.astore X.here K.1 rfl (hb K.2.1 hd) rfl hv hl k
theorem g_iconst (X : Stand p l e R s m args below meth c T locs cells slots) (K : own_K p c code Z s own m a0) {i : Int} {z : Int32} (hd : decode code pc = .ok (.iconst i, 1)) (hz : Int32.ofInt i = z) (r : Gl p e below Rp (T.setTop (mkF m (pc + 1) L (.int z :: S)))) : Gl p e below Rp (T.setTop (mkF m pc L S)) := by subst hz; exact gB r fun t k => XS.iconst X.here K.1 rfl (hb K.2.1 hd)  k
theorem g_bipush (X : Stand p l e R s m args below meth c T locs cells slots) (K : own_K p c code Z s own m a0) {i : Int} {z : Int32} (hd : decode code pc = .ok (.bipush i, 2)) (hz : (Int8.ofInt i).toInt32 = z) (r : Gl p e below Rp (T.setTop (mkF m (pc + 2) L (.int z :: S)))) : Gl p e below Rp (T.setTop (mkF m pc L S)) := by subst hz; exact gB r fun t k => XS.bipush X.here K.1 rfl (hb K.2.1 hd)  k
theorem g_lconst (X : Stand p l e R s m args below meth c T locs cells slots) (K : own_K p c code Z s own m a0) {i : Fin 2} {z : Int64} (hd : decode code pc = .ok (.lconst i, 1)) (hz : Int64.ofNat i = z) (r : Gl p e below Rp (T.setTop (mkF m (pc + 1) L (.long z :: S)))) : Gl p e below Rp (T.setTop (mkF m pc L S)) := by subst hz; exact gB r fun t k => XS.lconst X.here K.1 rfl (hb K.2.1 hd)  k
theorem g_iadd (X : Stand p l e R s m args below meth c T locs cells slots) (K : own_K p c code Z s own m a0) {x y z : Int32} (hd : decode code pc = .ok (.iadd, 1)) (hz : x + y = z) (r : Gl p e below Rp (T.setTop (mkF m (pc + 1) L (.int z :: S)))) : Gl p e below Rp (T.setTop (mkF m pc L (.int y :: .int x :: S))) := by subst hz; exact gB r fun t k => XS.iadd X.here K.1 rfl (hb K.2.1 hd) rfl k
theorem g_isub (X : Stand p l e R s m args below meth c T locs cells slots) (K : own_K p c code Z s own m a0) {x y z : Int32} (hd : decode code pc = .ok (.isub, 1)) (hz : x - y = z) (r : Gl p e below Rp (T.setTop (mkF m (pc + 1) L (.int z :: S)))) : Gl p e below Rp (T.setTop (mkF m pc L (.int y :: .int x :: S))) := by subst hz; exact gB r fun t k => XS.isub X.here K.1 rfl (hb K.2.1 hd) rfl k
theorem g_imul (X : Stand p l e R s m args below meth c T locs cells slots) (K : own_K p c code Z s own m a0) {x y z : Int32} (hd : decode code pc = .ok (.imul, 1)) (hz : x * y = z) (r : Gl p e below Rp (T.setTop (mkF m (pc + 1) L (.int z :: S)))) : Gl p e below Rp (T.setTop (mkF m pc L (.int y :: .int x :: S))) := by subst hz; exact gB r fun t k => XS.imul X.here K.1 rfl (hb K.2.1 hd) rfl k
theorem g_iand (X : Stand p l e R s m args below meth c T locs cells slots) (K : own_K p c code Z s own m a0) {x y z : Int32} (hd : decode code pc = .ok (.iand, 1)) (hz : x &&& y = z) (r : Gl p e below Rp (T.setTop (mkF m (pc + 1) L (.int z :: S)))) : Gl p e below Rp (T.setTop (mkF m pc L (.int y :: .int x :: S))) := by subst hz; exact gB r fun t k => XS.iand X.here K.1 rfl (hb K.2.1 hd) rfl k
theorem g_ladd (X : Stand p l e R s m args below meth c T locs cells slots) (K : own_K p c code Z s own m a0) {x y z : Int64} (hd : decode code pc = .ok (.ladd, 1)) (hz : x + y = z) (r : Gl p e below Rp (T.setTop (mkF m (pc + 1) L (.long z :: S)))) : Gl p e below Rp (T.setTop (mkF m pc L (.long y :: .long x :: S))) := by subst hz; exact gB r fun t k => XS.ladd X.here K.1 rfl (hb K.2.1 hd) rfl k
theorem g_lsub (X : Stand p l e R s m args below meth c T locs cells slots) (K : own_K p c code Z s own m a0) {x y z : Int64} (hd : decode code pc = .ok (.lsub, 1)) (hz : x - y = z) (r : Gl p e below Rp (T.setTop (mkF m (pc + 1) L (.long z :: S)))) : Gl p e below Rp (T.setTop (mkF m pc L (.long y :: .long x :: S))) := by subst hz; exact gB r fun t k => XS.lsub X.here K.1 rfl (hb K.2.1 hd) rfl k
theorem g_lmul (X : Stand p l e R s m args below meth c T locs cells slots) (K : own_K p c code Z s own m a0) {x y z : Int64} (hd : decode code pc = .ok (.lmul, 1)) (hz : x * y = z) (r : Gl p e below Rp (T.setTop (mkF m (pc + 1) L (.long z :: S)))) : Gl p e below Rp (T.setTop (mkF m pc L (.long y :: .long x :: S))) := by subst hz; exact gB r fun t k => XS.lmul X.here K.1 rfl (hb K.2.1 hd) rfl k
theorem g_lneg (X : Stand p l e R s m args below meth c T locs cells slots) (K : own_K p c code Z s own m a0) {x z : Int64} (hd : decode code pc = .ok (.lneg, 1)) (hz : -x = z) (r : Gl p e below Rp (T.setTop (mkF m (pc + 1) L (.long z :: S)))) : Gl p e below Rp (T.setTop (mkF m pc L (.long x :: S))) := by subst hz; exact gB r fun t k => XS.lneg X.here K.1 rfl (hb K.2.1 hd) rfl k
theorem g_i2l (X : Stand p l e R s m args below meth c T locs cells slots) (K : own_K p c code Z s own m a0) {x : Int32} {z : Int64} (hd : decode code pc = .ok (.i2l, 1)) (hz : x.toInt64 = z) (r : Gl p e below Rp (T.setTop (mkF m (pc + 1) L (.long z :: S)))) : Gl p e below Rp (T.setTop (mkF m pc L (.int x :: S))) := by subst hz; exact gB r fun t k => XS.i2l X.here K.1 rfl (hb K.2.1 hd) rfl k
theorem g_lcmp (X : Stand p l e R s m args below meth c T locs cells slots) (K : own_K p c code Z s own m a0) {x y : Int64} {z : Int32} (hd : decode code pc = .ok (.lcmp, 1)) (hz : lcmpW x y = z) (r : Gl p e below Rp (T.setTop (mkF m (pc + 1) L (.int z :: S)))) : Gl p e below Rp (T.setTop (mkF m pc L (.long y :: .long x :: S))) := by subst hz; exact gB r fun t k => XS.lcmp X.here K.1 rfl (hb K.2.1 hd) rfl k
theorem g_dup (X : Stand p l e R s m args below meth c T locs cells slots) (K : own_K p c code Z s own m a0) {x : Value} (hd : decode code pc = .ok (.dup, 1)) (hc : x.category = 1) (r : Gl p e below Rp (T.setTop (mkF m (pc + 1) L (x :: x :: S)))) : Gl p e below Rp (T.setTop (mkF m pc L (x :: S))) := gB r fun t k => XS.dup X.here K.1 rfl (hb K.2.1 hd) rfl hc k
theorem g_dupX1 (X : Stand p l e R s m args below meth c T locs cells slots) (K : own_K p c code Z s own m a0) {x y : Value} (hd : decode code pc = .ok (.dup_x1, 1)) (hc : x.category = 1) (hc' : y.category = 1) (r : Gl p e below Rp (T.setTop (mkF m (pc + 1) L (x :: y :: x :: S)))) : Gl p e below Rp (T.setTop (mkF m pc L (x :: y :: S))) := gB r fun t k => XS.dupX1 X.here K.1 rfl (hb K.2.1 hd) rfl hc hc' k
theorem g_dupX2 (X : Stand p l e R s m args below meth c T locs cells slots) (K : own_K p c code Z s own m a0) {x y z : Value} (hd : decode code pc = .ok (.dup_x2, 1)) (hc : x.category = 1) (hc' : y.category = 1) (hc2 : z.category = 1) (r : Gl p e below Rp (T.setTop (mkF m (pc + 1) L (x :: y :: z :: x :: S)))) : Gl p e below Rp (T.setTop (mkF m pc L (x :: y :: z :: S))) := by
  refine gB r fun t q => ?_
  jvm_step X.here [X.here.top, K.1, hb K.2.1 hd, hc, hc', hc2]
  exact q
theorem g_dup2 (X : Stand p l e R s m args below meth c T locs cells slots) (K : own_K p c code Z s own m a0) {x y : Value} (hd : decode code pc = .ok (.dup2, 1)) (hc : x.category = 1) (hc' : y.category = 1) (r : Gl p e below Rp (T.setTop (mkF m (pc + 1) L (x :: y :: x :: y :: S)))) : Gl p e below Rp (T.setTop (mkF m pc L (x :: y :: S))) := gB r fun t k => Jvm.Free.XT.dup2 X.here K.1 rfl (hb K.2.1 hd) rfl hc hc' k
theorem g_dup2L (X : Stand p l e R s m args below meth c T locs cells slots) (K : own_K p c code Z s own m a0) {x : Int64} (hd : decode code pc = .ok (.dup2, 1)) (r : Gl p e below Rp (T.setTop (mkF m (pc + 1) L (.long x :: .long x :: S)))) : Gl p e below Rp (T.setTop (mkF m pc L (.long x :: S))) := gB r fun t k => Jvm.Free.XT.dup2L X.here K.1 rfl (hb K.2.1 hd) rfl k
theorem g_pop (X : Stand p l e R s m args below meth c T locs cells slots) (K : own_K p c code Z s own m a0) {x : Value} (hd : decode code pc = .ok (.pop, 1)) (hc : x.category = 1) (r : Gl p e below Rp (T.setTop (mkF m (pc + 1) L S))) : Gl p e below Rp (T.setTop (mkF m pc L (x :: S))) := gB r fun t k => XS.pop X.here K.1 rfl (hb K.2.1 hd) rfl hc k
theorem g_iinc (X : Stand p l e R s m args below meth c T locs cells slots) (K : own_K p c code Z s own m a0) {k : Nat} {cst : Int} {x : Int32} {L' : Array Slot} (hd : decode code pc = .ok (.iinc k cst, 3)) (hl : L[k]? = some (.val (.int x))) (hl' : storeLocals L k (.int (x + Int32.ofInt cst)) = some L') (r : Gl p e below Rp (T.setTop (mkF m (pc + 3) L' S))) : Gl p e below Rp (T.setTop (mkF m pc L S)) := gB r fun t k => XS.iinc X.here K.1 rfl (hb K.2.1 hd) hl hl' k
theorem g_ldc2 (X : Stand p l e R s m args below meth c T locs cells slots) (K : own_K p c code Z s own m a0) {idx : Nat} {v z : Int64} (i : Nat) (hi : tables_1[i]? = some (Cond.constantLong own idx v)) (hd : decode code pc = .ok (.ldc2_w idx, 3)) (hz : v = z) (r : Gl p e below Rp (T.setTop (mkF m (pc + 3) L (.long z :: S)))) : Gl p e below Rp (T.setTop (mkF m pc L S)) := by subst hz; exact gB r (X.ldc2Long K.1 K.2.2.2.1 (mvT K.2.2.1 (K.2.2.2.2 _ (im i hi))) (g := mkF m pc L S) rfl (hb K.2.1 hd))
theorem g_goto (X : Stand p l e R s m args below meth c T locs cells slots) (K : own_K p c code Z s own m a0) {o : Int} (n : Nat) (hd : decode code pc = .ok (.goto o, 3)) (hq : 0 ≤ (pc : Int) + o ∧ ((pc : Int) + o).toNat = n) (r : Gl p e below Rp (T.setTop (mkF m n L S))) : Gl p e below Rp (T.setTop (mkF m pc L S)) := gB r fun t k => XS.goto X.here K.1 rfl rfl (hb K.2.1 hd) hq.1 hq.2 k
theorem g_ifY (X : Stand p l e R s m args below meth c T locs cells slots) (K : own_K p c code Z s own m a0) {cd : ClassFile.Cond} {x : Int32} {o : Int} (n : Nat) (hd : decode code pc = .ok (.ifCond cd o, 3)) (hq : 0 ≤ (pc : Int) + o ∧ ((pc : Int) + o).toNat = n) (hc : ifCond.holds cd x = true) (r : Gl p e below Rp (T.setTop (mkF m n L S))) : Gl p e below Rp (T.setTop (mkF m pc L (.int x :: S))) := gB r fun t k => XS.ifYes X.here K.1 rfl rfl (hb K.2.1 hd) rfl hc hq.1 hq.2 k
theorem g_ifN (X : Stand p l e R s m args below meth c T locs cells slots) (K : own_K p c code Z s own m a0) {cd : ClassFile.Cond} {x : Int32} {o : Int} (hd : decode code pc = .ok (.ifCond cd o, 3)) (hc : ifCond.holds cd x = false) (r : Gl p e below Rp (T.setTop (mkF m (pc + 3) L S))) : Gl p e below Rp (T.setTop (mkF m pc L (.int x :: S))) := gB r fun t k => XS.ifNo X.here K.1 rfl (hb K.2.1 hd) rfl hc k
theorem g_icY (X : Stand p l e R s m args below meth c T locs cells slots) (K : own_K p c code Z s own m a0) {cd : ClassFile.Cond} {x y : Int32} {o : Int} (n : Nat) (hd : decode code pc = .ok (.if_icmp cd o, 3)) (hq : 0 ≤ (pc : Int) + o ∧ ((pc : Int) + o).toNat = n) (hc : if_icmp.holds cd x y = true) (r : Gl p e below Rp (T.setTop (mkF m n L S))) : Gl p e below Rp (T.setTop (mkF m pc L (.int y :: .int x :: S))) := gB r fun t k => XS.icmpYes X.here K.1 rfl rfl (hb K.2.1 hd) rfl hc hq.1 hq.2 k
theorem g_icN (X : Stand p l e R s m args below meth c T locs cells slots) (K : own_K p c code Z s own m a0) {cd : ClassFile.Cond} {x y : Int32} {o : Int} (hd : decode code pc = .ok (.if_icmp cd o, 3)) (hc : if_icmp.holds cd x y = false) (r : Gl p e below Rp (T.setTop (mkF m (pc + 3) L S))) : Gl p e below Rp (T.setTop (mkF m pc L (.int y :: .int x :: S))) := gB r fun t k => XS.icmpNo X.here K.1 rfl (hb K.2.1 hd) rfl hc k
theorem g_getF (X : Stand p l e R s m args below meth c T locs cells slots) (K : own_K p c code Z s own m a0) (eT : T.heap = h) {a : Addr} {v : Value} {O n d : String} {index : Nat} (i : Nat) (hi : tables_1[i]? = some (Cond.fieldLink own index O n d)) (F : Fld Z h a O n d v) (hd : decode code pc = .ok (.getfield index, 3)) (r : ∀ T', Stand p l e R s m args below meth c T' locs cells slots → T'.heap = h → Gl p e below Rp (T'.setTop (mkF m (pc + 3) L (v :: S)))) : Gl p e below Rp (T.setTop (mkF m pc L (.ref a :: S))) := by
  obtain ⟨T', X', e', st⟩ := getF X K.1 K.2.2.1 K.2.2.2.1 (host := "") (Or.inl (K.2.2.2.2 _ (im i hi))) Via.refl eT F (g := mkF m pc L (.ref a :: S)) rfl rfl (hb K.2.1 hd)
  exact gB (r T' X' e') st
theorem g_ag (X : Stand p l e R s m args below meth c T locs cells slots) (K : own_K p c code Z s own m a0) (eT : T.heap = h) {a : Addr} {v : Value} {O n d : String} {index : Nat} (i : Nat) (hi : tables_1[i]? = some (Cond.fieldLink own index O n d)) (F : Fld Z h a O n d v) (hd0 : decode code pc = .ok (.aload_n 0, 1)) (hd : decode code (pc + 1) = .ok (.getfield index, 3)) (hl : L[0]? = some (rv a)) (r : ∀ T', Stand p l e R s m args below meth c T' locs cells slots → T'.heap = h → Gl p e below Rp (T'.setTop (mkF m (pc + 1 + 3) L (v :: S)))) : Gl p e below Rp (T.setTop (mkF m pc L S)) := g_aloadN X K hd0 hl rfl (g_getF X K eT i hi F hd r)
theorem g_putF (X : Stand p l e R s m args below meth c T locs cells slots) (K : own_K p c code Z s own m a0) (eT : T.heap = h) {a : Addr} {v old : Value} {O n d Cc : String} {index kk : Nat} {ty : FieldType} (i : Nat) (hi : tables_1[i]? = some (Cond.fieldLink own index O n d)) (F : Fld Z h a O n d old) (E : Exa Z h a Cc) (w2 : (Cond.lays Cc O n d).before a0 Z = true ∨ ((Cond.laysFinal Cc O n d).before a0 Z = true ∧ own = O ∧ meth.name = "<init>")) (wi : (Cond.instantiable Cc kk).before a0 Z = true) (hty : parseFieldDescriptor d = some ty) (hn : narrow ty v = v) (hf : fits ty v = true) (hd : decode code pc = .ok (.putfield index, 3)) (r : ∀ T' h', Stand p l e R s m args below meth c T' (locs ++ [⟨a, Jvm.RoadKit.slotOf Z O n d⟩]) cells slots → T'.heap = h' → Wr h h' a (Jvm.RoadKit.slotOf Z O n d) v → Fld Z h' a O n d v → Gl p e below Rp (T'.setTop (mkF m (pc + 3) L S))) : Gl p e below Rp (T.setTop (mkF m pc L (v :: .ref a :: S))) := by
  obtain ⟨T', h', X', e', W, st⟩ := putF X K.1 K.2.2.1 K.2.2.2.1 (host := "") (Or.inl (K.2.2.2.2 _ (im i hi))) Via.refl eT F E w2 wi hty hn hf (g := mkF m pc L (v :: .ref a :: S)) rfl rfl (hb K.2.1 hd)
  exact gB (r T' h' X' e' W (F.same W)) st
theorem g_iaload (X : Stand p l e R s m args below meth c T locs cells slots) (K : own_K p c code Z s own m a0) (eT : T.heap = h) {a : Addr} {k : ClassId} {n : Int32} {vs : List Value} {dv : Value} {j : Int32} {v : Value} (A : Arv Z h a k .int n vs dv) (hd : decode code pc = .ok (.iaload, 1)) (hj : ¬ j < 0 ∧ j < n) (hv : vs.getD j.toNatClampNeg dv = v) (r : Gl p e below Rp (T.setTop (mkF m (pc + 1) L (v :: S)))) : Gl p e below Rp (T.setTop (mkF m pc L (.int j :: .ref a :: S))) := by
  obtain ⟨cl, Ar, qa, Sz, Nn, H, G⟩ := A
  have hin := inb_of Sz hj
  exact gB r fun t q => X.iaload K.1 (j := j) (v := v) (by rw [eT]; exact Ar.1) (State.isArrayOf_alike K.2.2.1.alike Ar.2.1) Ar.2.2 hin (Has.at H hin hv) (g := mkF m pc L (.int j :: .ref a :: S)) rfl rfl (hb K.2.1 hd) _ q
theorem g_laload (X : Stand p l e R s m args below meth c T locs cells slots) (K : own_K p c code Z s own m a0) (eT : T.heap = h) {a : Addr} {k : ClassId} {n : Int32} {vs : List Value} {dv : Value} {j : Int32} {v : Value} (A : Arv Z h a k .long n vs dv) (hd : decode code pc = .ok (.laload, 1)) (hj : ¬ j < 0 ∧ j < n) (hv : vs.getD j.toNatClampNeg dv = v) (r : Gl p e below Rp (T.setTop (mkF m (pc + 1) L (v :: S)))) : Gl p e below Rp (T.setTop (mkF m pc L (.int j :: .ref a :: S))) := by
  obtain ⟨cl, Ar, qa, Sz, Nn, H, G⟩ := A
  have hin := inb_of Sz hj
  exact gB r fun t q => X.laload K.1 (j := j) (v := v) (by rw [eT]; exact Ar.1) (State.isArrayOf_alike K.2.2.1.alike Ar.2.1) Ar.2.2 hin (Has.at H hin hv) (g := mkF m pc L (.int j :: .ref a :: S)) rfl rfl (hb K.2.1 hd) _ q
theorem g_len (X : Stand p l e R s m args below meth c T locs cells slots) (K : own_K p c code Z s own m a0) (eT : T.heap = h) {a : Addr} {k : ClassId} {n : Int32} {vs : List Value} {dv : Value} {ty : FieldType} (A : Arv Z h a k ty n vs dv) (hd : decode code pc = .ok (.arraylength, 1)) (r : Gl p e below Rp (T.setTop (mkF m (pc + 1) L (.int n :: S)))) : Gl p e below Rp (T.setTop (mkF m pc L (.ref a :: S))) := by
  obtain ⟨cl, Ar, qa, Sz, Nn, H, G⟩ := A
  refine gB r fun t q => X.arraylength K.1 (by rw [eT]; exact Ar.1) (State.isArrayOf_alike K.2.2.1.alike Ar.2.1) (g := mkF m pc L (.ref a :: S)) rfl rfl (hb K.2.1 hd) _ ?_
  rw [len_of Sz Nn]
  exact q
theorem g_iastore (X : Stand p l e R s m args below meth c T locs cells slots) (K : own_K p c code Z s own m a0) (eT : T.heap = h) {a : Addr} {k : ClassId} {n : Int32} {vs : List Value} {dv : Value} {j : Int32} {x : Int32} (A : Arv Z h a k .int n vs dv) (hd : decode code pc = .ok (.iastore, 1)) (hj : ¬ j < 0 ∧ j < n) (i : Nat) (hi : j.toNatClampNeg = i ∧ i < vs.length) {w : List Value} (hw' : vs.set i (.int x) = w) (hf : fits .int (.int x) = true) (r : ∀ T' h', Stand p l e R s m args below meth c T' (locs ++ [⟨a, j.toNatClampNeg⟩]) cells slots → T'.heap = h' → Wr h h' a j.toNatClampNeg (.int x) → Arv Z h' a k .int n w dv → Gl p e below Rp (T'.setTop (mkF m (pc + 1) L S))) : Gl p e below Rp (T.setTop (mkF m pc L (.int x :: .int j :: .ref a :: S))) := by
  obtain ⟨cl, Ar, qa, Sz, Nn, H, G⟩ := A
  obtain ⟨T', h', X', e', W, st⟩ := stI X K.1 K.2.2.1 eT Ar (j := j) (inb_of Sz hj) (g := mkF m pc L (.int x :: .int j :: .ref a :: S)) rfl rfl (hb K.2.1 hd)
  exact gB (r T' h' X' e' W (hw' ▸ Arv.set Ar qa Sz Nn H G hf W i hi.1 hi.2)) st
theorem g_lastore (X : Stand p l e R s m args below meth c T locs cells slots) (K : own_K p c code Z s own m a0) (eT : T.heap = h) {a : Addr} {k : ClassId} {n : Int32} {vs : List Value} {dv : Value} {j : Int32} {x : Int64} (A : Arv Z h a k .long n vs dv) (hd : decode code pc = .ok (.lastore, 1)) (hj : ¬ j < 0 ∧ j < n) (i : Nat) (hi : j.toNatClampNeg = i ∧ i < vs.length) {w : List Value} (hw' : vs.set i (.long x) = w) (hf : fits .long (.long x) = true) (r : ∀ T' h', Stand p l e R s m args below meth c T' (locs ++ [⟨a, j.toNatClampNeg⟩]) cells slots → T'.heap = h' → Wr h h' a j.toNatClampNeg (.long x) → Arv Z h' a k .long n w dv → Gl p e below Rp (T'.setTop (mkF m (pc + 1) L S))) : Gl p e below Rp (T.setTop (mkF m pc L (.long x :: .int j :: .ref a :: S))) := by
  obtain ⟨cl, Ar, qa, Sz, Nn, H, G⟩ := A
  obtain ⟨T', h', X', e', W, st⟩ := stJ X K.1 K.2.2.1 eT Ar (j := j) (inb_of Sz hj) (g := mkF m pc L (.long x :: .int j :: .ref a :: S)) rfl rfl (hb K.2.1 hd)
  exact gB (r T' h' X' e' W (hw' ▸ Arv.set Ar qa Sz Nn H G hf W i hi.1 hi.2)) st
theorem g_bastore (X : Stand p l e R s m args below meth c T locs cells slots) (K : own_K p c code Z s own m a0) (eT : T.heap = h) {a : Addr} {k : ClassId} {n : Int32} {vs : List Value} {dv : Value} {j : Int32} {x : Int32} (A : Arv Z h a k .boolean n vs dv) (hd : decode code pc = .ok (.bastore, 1)) (hj : ¬ j < 0 ∧ j < n) (i : Nat) (hi : j.toNatClampNeg = i ∧ i < vs.length) {w : List Value} (hw' : vs.set i (.int (nar .boolean x)) = w) (hf : fits .boolean (.int (nar .boolean x)) = true) (r : ∀ T' h', Stand p l e R s m args below meth c T' (locs ++ [⟨a, j.toNatClampNeg⟩]) cells slots → T'.heap = h' → Wr h h' a j.toNatClampNeg (.int (nar .boolean x)) → Arv Z h' a k .boolean n w dv → Gl p e below Rp (T'.setTop (mkF m (pc + 1) L S))) : Gl p e below Rp (T.setTop (mkF m pc L (.int x :: .int j :: .ref a :: S))) := by
  obtain ⟨cl, Ar, qa, Sz, Nn, H, G⟩ := A
  obtain ⟨T', h', X', e', W, st⟩ := stZ X K.1 K.2.2.1 eT Ar (j := j) (inb_of Sz hj) (g := mkF m pc L (.int x :: .int j :: .ref a :: S)) rfl rfl (hb K.2.1 hd)
  exact gB (r T' h' X' e' W (hw' ▸ Arv.set Ar qa Sz Nn H G hf W i hi.1 hi.2)) st
theorem own_o {h' : Heap} {a : Addr} {K O n d O' n' d' : String} {v w : Value} (F : Fld Z h a O n d v) (W : Wr h h' a (Jvm.RoadKit.slotOf Z O' n' d') w) (q : Laid Z a0 K O n d) (q' : Laid Z a0 K O' n' d') (hn : n ≠ n' := by decide) (ht : (parseFieldDescriptor d).isSome = true := by decide) (ht' : (parseFieldDescriptor d').isSome = true := by decide) : Fld Z h' a O n d v := F.other W (Or.inr (own_sn q q' hn ht ht'))
theorem own_al {P : Addr → Prop} {ws : List Addr} : ∀ (js : List Nat) {w2 : List Addr}, js.map (fun j => ws[j]?) = w2.map some → ∀ x ∈ w2, x ∈ ws ∨ P x
  | [], [], _ => fun _ q => nomatch q
  | j :: js, w :: w2, q => allS (Or.inl (List.mem_of_getElem? (i := j) (List.cons.inj q).1)) (own_al js (List.cons.inj q).2)
  | [], _ :: _, q => nomatch q
  | _ :: _, [], q => nomatch q
theorem own_nin {os : List Nat} (B : own_inc os) (i : Nat) {a : Nat} (ha : os[i]? = some a) : ∀ (js : List Nat) (ws : List Nat), js.map (fun j => os[j]?) = ws.map some → i ∉ js → a ∉ ws
  | [], [], _, _ => nin0
  | j :: js, w :: ws, q, nn => ninS (own_on B i j ha (List.cons.inj q).1 (fun z => nn (z ▸ List.mem_cons_self ..))) (own_nin B i ha js ws (List.cons.inj q).2 (fun z => nn (List.mem_cons_of_mem _ z)))
  | [], _ :: _, q, _ => nomatch q
  | _ :: _, [], q, _ => nomatch q
theorem own_aw {h : Heap} (ws : List Addr) : ∀ x ∈ ws, x ∈ ws ∨ h.size ≤ x := fun _ q => Or.inl q
def own_M (l : Launch) (y : MethodName) (bytes : ByteArray) (maxL : Nat) (ret : Option FieldType) (rm : Room) (as' : Array Value) (Z : State) (h : Heap) (Q : Option Value → Heap → List Loc → Prop) : Prop := MetFree l y (head1 [Jvm.Cond.code y bytes maxL ret] rm) (fun a U => a = as' ∧ Z.Warmed39 U.vm ∧ U.heap = h) (fun _ _ _ _ _ => True) (fun _ U o U' => ∃ v L, o = .returned v ∧ Q v U'.heap L ∧ FrameEnd U o U' L rm.cells rm.slots)
theorem g_callS (X : Stand p l e R s m args below meth c T locs cells slots) (K : own_K p c code Z s own m a0) (eT : T.heap = h) {y : MethodName} {bytes : ByteArray} {maxL index : Nat} {ret : Option FieldType} {rm : Room} {Q : Option Value → Heap → List Loc → Prop} {argsL stk : List Value} (i0 : Nat) (i1 : Nat) (i2 : Nat) (i3 : Nat) (w0 : tables_1[i0]? = some (Jvm.Cond.methodLink own index y)) (w1 : tables_1[i1]? = some (Jvm.Cond.static y)) (w2 : tables_1[i2]? = some (Jvm.Cond.initialized y.cls)) (w3 : tables_1[i3]? = some (Jvm.Cond.code y bytes maxL ret)) (hy : y.cls ≠ "java/lang/invoke/MethodHandle" ∧ y.cls ≠ "java/lang/invoke/VarHandle") (M : own_M l y bytes maxL ret rm argsL.toArray Z h Q) (hd : decode code pc = .ok (.invokestatic index, 3)) (hsz : L.size = c.maxLocals) (hlen : ∀ sig, parseMethodDescriptor y.desc = some sig → argsL.length = sig.parameters.length) (hst : stk = argsL.reverse ++ S) (W : Nat) (hW : (S.map fun v => v.category).sum ≤ W) (ha : rm.frames + 1 ≤ R.frames ∧ W + (maxL + 11) + rm.locals ≤ R.locals ∧ cells + rm.cells ≤ R.cells ∧ slots + rm.slots ≤ R.slots) (r : ∀ v T' Lc, Q v T'.heap Lc → Stand p l e R s m args below meth c T' (locs ++ Lc) (cells + rm.cells) (slots + rm.slots) → Gl p e below Rp (T'.setTop (mkF m (pc + 3) L (v.toList ++ S)))) : Gl p e below Rp (T.setTop (mkF m pc L stk)) := by
  obtain ⟨v, _, ⟨T', L', k', n'⟩, -, X', ⟨Lc, hQ, l', y', z'⟩, st⟩ := Jvm.LawKit.callS X K.1 (y := y) K.2.2.2.1 (mvT K.2.2.1 (K.2.2.2.2 _ (im i0 w0))) (mvT K.2.2.1 (K.2.2.2.2 _ (im i1 w1))) (mvT K.2.2.1 (K.2.2.2.2 _ (im i2 w2))) (mvT K.2.2.1 (K.2.2.2.2 _ (im i3 w3))) hy (backOf (W := W) M K.2.2.1 (K.2.2.2.2 _ (im i3 w3)) (K.2.2.2.2 _ (im i2 w2)) ha.1 ha.2.1) (g := mkF m pc L stk) rfl hsz (argsL := argsL) (rest := S) hlen hst (by show 2 * 0 + _ ≤ _; rw [Nat.mul_zero, Nat.zero_add]; exact hW) (hb K.2.1 hd) (fun _ _ => ⟨rfl, eT, ha.2.2.1, ha.2.2.2⟩)
  dsimp only [Pt.U, Pt.locs, Pt.cells, Pt.slots] at X' l' y' z' st hQ
  subst l' y' z'
  exact gB (r v T' Lc hQ X') st
theorem g_callP (X : Stand p l e R s m args below meth c T locs cells slots) (K : own_K p c code Z s own m a0) (eT : T.heap = h) {y : MethodName} {bytes : ByteArray} {maxL index nn : Nat} {ret : Option FieldType} {rm : Room} {Q : Option Value → Heap → List Loc → Prop} {a : Addr} {Cn : String} {argsL stk : List Value} (i0 : Nat) (i1 : Nat) (i2 : Nat) (i3 : Nat) (i4 : Nat) (i5 : Nat) (w0 : tables_1[i0]? = some (Jvm.Cond.methodLink own index y)) (w1 : tables_1[i1]? = some (Jvm.Cond.instanceMethod y)) (w2 : tables_1[i2]? = some (Jvm.Cond.initialized y.cls)) (w3 : tables_1[i3]? = some (Jvm.Cond.code y bytes maxL ret)) (w4 : tables_1[i4]? = some (Jvm.Cond.privateMethod y)) (w5 : tables_1[i5]? = some (Jvm.Cond.instantiable y.cls nn)) (hy : y.cls ≠ "java/lang/invoke/MethodHandle" ∧ y.cls ≠ "java/lang/invoke/VarHandle") (M : own_M l y bytes maxL ret rm (.ref a :: argsL).toArray Z h Q) (E : Exa Z h a Cn) (hd : decode code pc = .ok (.invokevirtual index, 3)) (hsz : L.size = c.maxLocals) (hlen : ∀ sig, parseMethodDescriptor y.desc = some sig → argsL.length = sig.parameters.length) (hst : stk = argsL.reverse ++ .ref a :: S) (W : Nat) (hW : (S.map fun v => v.category).sum ≤ W) (ha : rm.frames + 1 ≤ R.frames ∧ W + (maxL + 11) + rm.locals ≤ R.locals ∧ cells + rm.cells ≤ R.cells ∧ slots + rm.slots ≤ R.slots) (r : ∀ v T' Lc, Q v T'.heap Lc → Stand p l e R s m args below meth c T' (locs ++ Lc) (cells + rm.cells) (slots + rm.slots) → Gl p e below Rp (T'.setTop (mkF m (pc + 3) L (v.toList ++ S)))) : Gl p e below Rp (T.setTop (mkF m pc L stk)) := by
  obtain ⟨cq, q1, q2⟩ := E.cell
  obtain ⟨v, _, ⟨T', L', k', n'⟩, -, X', ⟨Lc, hQ, l', y', z'⟩, st⟩ := X.privateBack K.1 (y := y) K.2.2.2.1 (mvT K.2.2.1 (K.2.2.2.2 _ (im i0 w0))) (mvT K.2.2.1 (K.2.2.2.2 _ (im i1 w1))) (own_selp K.2.2.1 (K.2.2.2.2 _ (im i5 w5)) (K.2.2.2.2 _ (im i4 w4)) (K.2.2.2.2 _ (im i1 w1)) hy) (Cond.privateMethod_at (mvP K.2.2.1 (K.2.2.2.2 _ (im i4 w4)) (args := #[]))) (mvT K.2.2.1 (K.2.2.2.2 _ (im i3 w3))) hy (backOf (W := W) M K.2.2.1 (K.2.2.2.2 _ (im i3 w3)) (K.2.2.2.2 _ (im i2 w2)) ha.1 ha.2.1) (g := mkF m pc L stk) rfl hsz (Steps.refl _) (a := a) (by rw [eT]; exact q1) q2 (argsL := argsL) (rest := S) hlen hst (by show 2 * 0 + _ ≤ _; rw [Nat.mul_zero, Nat.zero_add]; exact hW) (hb K.2.1 hd) (fun _ _ => ⟨rfl, eT, ha.2.2.1, ha.2.2.2⟩)
  dsimp only [Pt.U, Pt.locs, Pt.cells, Pt.slots] at X' l' y' z' st hQ
  subst l' y' z'
  exact gB (r v T' Lc hQ X') (fun _ => st.trans)
theorem g_callV (X : Stand p l e R s m args below meth c T locs cells slots) (K : own_K p c code Z s own m a0) (eT : T.heap = h) {y : MethodName} {bytes : ByteArray} {maxL index : Nat} {ret : Option FieldType} {rm : Room} {Q : Option Value → Heap → List Loc → Prop} {a : Addr} {argsL stk : List Value} (i0 : Nat) (i1 : Nat) (i2 : Nat) (i3 : Nat) (i4 : Nat) (i5 : Nat) (w0 : tables_1[i0]? = some (Jvm.Cond.methodLink own index y)) (w1 : tables_1[i1]? = some (Jvm.Cond.instanceMethod y)) (w2 : tables_1[i2]? = some (Jvm.Cond.initialized y.cls)) (w3 : tables_1[i3]? = some (Jvm.Cond.code y bytes maxL ret)) (w4 : tables_1[i4]? = some (Jvm.Cond.declares y)) (w5 : tables_1[i5]? = some (Jvm.Cond.selects y.cls y y)) (hy : y.cls ≠ "java/lang/invoke/MethodHandle" ∧ y.cls ≠ "java/lang/invoke/VarHandle") (M : own_M l y bytes maxL ret rm (.ref a :: argsL).toArray Z h Q) (E : Exa Z h a y.cls) (hd : decode code pc = .ok (.invokevirtual index, 3)) (hsz : L.size = c.maxLocals) (hlen : ∀ sig, parseMethodDescriptor y.desc = some sig → argsL.length = sig.parameters.length) (hst : stk = argsL.reverse ++ .ref a :: S) (W : Nat) (hW : (S.map fun v => v.category).sum ≤ W) (ha : rm.frames + 1 ≤ R.frames ∧ W + (maxL + 11) + rm.locals ≤ R.locals ∧ cells + rm.cells ≤ R.cells ∧ slots + rm.slots ≤ R.slots) (r : ∀ v T' Lc, Q v T'.heap Lc → Stand p l e R s m args below meth c T' (locs ++ Lc) (cells + rm.cells) (slots + rm.slots) → Gl p e below Rp (T'.setTop (mkF m (pc + 3) L (v.toList ++ S)))) : Gl p e below Rp (T.setTop (mkF m pc L stk)) := by
  obtain ⟨cq, kq, q1, q2, q3⟩ := isOf K.2.2.1 eT E
  obtain ⟨v, _, ⟨T', L', k', n'⟩, -, X', ⟨Lc, hQ, l', y', z'⟩, st⟩ := X.virtualBack K.1 (y := y) (z := y) K.2.2.2.1 (mvT K.2.2.1 (K.2.2.2.2 _ (im i0 w0))) (mvT K.2.2.1 (K.2.2.2.2 _ (im i4 w4))) (notFace_of_selects (args := #[]) (mvT K.2.2.1 (K.2.2.2.2 _ (im i5 w5)))) (mvT K.2.2.1 (K.2.2.2.2 _ (im i5 w5))) (mvT K.2.2.1 (K.2.2.2.2 _ (im i1 w1))) hy (backOf (W := W) M K.2.2.1 (K.2.2.2.2 _ (im i3 w3)) (K.2.2.2.2 _ (im i2 w2)) ha.1 ha.2.1) q1 q3 (g := mkF m pc L stk) rfl hsz (Steps.refl _) (argsL := argsL) (rest := S) hlen hst (by show 2 * 0 + _ ≤ _; rw [Nat.mul_zero, Nat.zero_add]; exact hW) (hb K.2.1 hd) (fun _ _ => ⟨rfl, eT, ha.2.2.1, ha.2.2.2⟩)
  dsimp only [Pt.U, Pt.locs, Pt.cells, Pt.slots] at X' l' y' z' st hQ
  subst l' y' z'
  exact gB (r v T' Lc hQ X') (fun _ => st.trans)
theorem g_lv0 (X : Stand p l e R s m args below meth c T locs cells slots) (K : own_K p c code Z s own m a0) {Q : Option Value → Heap → List Loc → Prop} {rm : Room} (hlk : meth.locks = false) (hrt : meth.sig.returnType = none) (hR : ∀ U o, (U.status = .running ∧ Ended U below o ∧ ∃ v L, o = .returned v ∧ Q v U.heap L ∧ FrameEnd s o U L rm.cells rm.slots) → Rp U o) (hd : decode code pc = .ok (.return_, 1)) (hc : cells ≤ rm.cells ∧ slots ≤ rm.slots) (q : Q none T.heap locs) : Gl p e below Rp (T.setTop (mkF m pc L [])) := by
  obtain ⟨fs, hr, hrun, hended, hW, hsame⟩ := X.leave (v := none) (fun _ => rfl) hlk
  exact gEnd hR ⟨_, _, X.returnOut K.1 hrt (hb K.2.1 hd) hr, hrun, hended, _, _, rfl, q, ⟨_, rfl⟩, hW, hsame.mono hc.1 hc.2⟩
theorem g_lvI (X : Stand p l e R s m args below meth c T locs cells slots) (K : own_K p c code Z s own m a0) {Q : Option Value → Heap → List Loc → Prop} {rm : Room} {z : Int32} (hlk : meth.locks = false) (hrt : meth.sig.returnType = some .int) (hR : ∀ U o, (U.status = .running ∧ Ended U below o ∧ ∃ v L, o = .returned v ∧ Q v U.heap L ∧ FrameEnd s o U L rm.cells rm.slots) → Rp U o) (hd : decode code pc = .ok (.ireturn, 1)) (hc : cells ≤ rm.cells ∧ slots ≤ rm.slots) (q : Q (some (.int z)) T.heap locs) : Gl p e below Rp (T.setTop (mkF m pc L (.int z :: S))) := by
  obtain ⟨fs, hr, hrun, hended, hW, hsame⟩ := X.leave (v := (some (.int z))) (fun h => by rw [hrt] at h; cases h) hlk
  exact gEnd hR ⟨_, _, retI X K.1 hrt (hb K.2.1 hd) hr, hrun, hended, _, _, rfl, q, ⟨_, rfl⟩, hW, hsame.mono hc.1 hc.2⟩
theorem g_lvZ (X : Stand p l e R s m args below meth c T locs cells slots) (K : own_K p c code Z s own m a0) {Q : Option Value → Heap → List Loc → Prop} {rm : Room} {z : Int32} (hlk : meth.locks = false) (hrt : meth.sig.returnType = some .boolean) (hR : ∀ U o, (U.status = .running ∧ Ended U below o ∧ ∃ v L, o = .returned v ∧ Q v U.heap L ∧ FrameEnd s o U L rm.cells rm.slots) → Rp U o) (hd : decode code pc = .ok (.ireturn, 1)) (hc : cells ≤ rm.cells ∧ slots ≤ rm.slots) (hz : nar .boolean z = z) (q : Q (some (.int z)) T.heap locs) : Gl p e below Rp (T.setTop (mkF m pc L (.int z :: S))) := by
  obtain ⟨fs, hr, hrun, hended, hW, hsame⟩ := X.leave (v := (some (.int z))) (fun h => by rw [hrt] at h; cases h) hlk
  exact gEnd hR ⟨_, _, retN X K.1 (t := .boolean) hrt (Or.inl rfl) (hb K.2.1 hd) (by rw [hz]; exact hr), hrun, hended, _, _, rfl, q, ⟨_, rfl⟩, hW, hsame.mono hc.1 hc.2⟩
theorem g_lvJ (X : Stand p l e R s m args below meth c T locs cells slots) (K : own_K p c code Z s own m a0) {Q : Option Value → Heap → List Loc → Prop} {rm : Room} {z : Int64} (hlk : meth.locks = false) (hrt : meth.sig.returnType = some .long) (hR : ∀ U o, (U.status = .running ∧ Ended U below o ∧ ∃ v L, o = .returned v ∧ Q v U.heap L ∧ FrameEnd s o U L rm.cells rm.slots) → Rp U o) (hd : decode code pc = .ok (.lreturn, 1)) (hc : cells ≤ rm.cells ∧ slots ≤ rm.slots) (q : Q (some (.long z)) T.heap locs) : Gl p e below Rp (T.setTop (mkF m pc L (.long z :: S))) := by
  obtain ⟨fs, hr, hrun, hended, hW, hsame⟩ := X.leave (v := (some (.long z))) (fun h => by rw [hrt] at h; cases h) hlk
  exact gEnd hR ⟨_, _, retOut X K.1 (t := .long) hrt rfl (Or.inr (Or.inl ⟨rfl, rfl, _, rfl⟩)) (hb K.2.1 hd) hr, hrun, hended, _, _, rfl, q, ⟨_, rfl⟩, hW, hsame.mono hc.1 hc.2⟩
end Cps
def Q4 (Z : State) (x0 : Addr) (x1 : Int32) (k : ClassId) (y0 : Int32) (y1 : Int32) (h0 : Heap) (n0 : Nat) (v : Option Value) (h : Heap) (L : List Loc) : Prop := v = none ∧ Fr n0 L ∧ Keep h0 h [x0] ∧ Arv Z h x0 k .int (2 : Int32) [(.int x1), (.int x1)] (.int 0)
theorem ef_4 (m : MethodId) (x0 : Addr) (x1 : Int32) : entryFrame m #[(.ref x0), (.int x1)] 4 = mkF m 0 #[rv x0, iv x1, .unset, .unset] [] := by first | (simp [entryFrame, mkF, argsToLocals, Value.category]; done) | rfl
set_option maxRecDepth 65536 in
set_option maxHeartbeats 40000000 in
theorem rm4 (l : Launch) (Z : State) (a0 : Array Value) (hw : ∀ d ∈ tables_1, d.before a0 Z = true) {x0 : Addr} (x1 : Int32) {k : ClassId} {y0 : Int32} {y1 : Int32} (h0 : Heap) (n0 : Nat) (Z0 : n0 ≤ h0.size) (pre_A_x0 : Arv Z h0 x0 k .int (2 : Int32) [(.int y0), (.int y1)] (.int 0)) (g_x0 : n0 ≤ x0) :
    own_M l (⟨"java/util/Arrays", "fill", "([II)V"⟩ : MethodName) c4 4 none ({ frames := 0, cells := 0, slots := 0, locals := 0 } : Room) #[(.ref x0), (.int x1)] Z h0 (Q4 Z x0 x1 k y0 y1 h0 n0) := by
  refine MetFree.of_bodySF (plainFor_of_name pn_4) hisR ?_
  intro p e s m args below meth c s₁ Bd hml0 hP hK
  obtain ⟨rfl, hZ, hh⟩ := hP
  have hx := Bd.exec
  have hby := Bd.bytes
  have hml : c.maxLocals = 4 := hml0
  have hown : s.vm.findClass "java/util/Arrays" = some m.cls := findClass_of_methodNamed Bd.named
  have hnm := (name_of_methodNamed Bd.named Bd.method).1
  have X0 : Stand p l e ({ frames := 0, cells := 0, slots := 0, locals := 0 } : Room) s m #[(.ref x0), (.int x1)] below meth c s₁ [] 0 0 := Stand.of_body Bd
  have e0 : s₁.heap = h0 := by rw [← hh, Bd.state]; rfl
  have N0 := Fr.nil n0
  have Kp0 := Keep.refl h0 [x0]
  have hlk := BodyLoose.notSynchronized Bd
  have hrt := Bd.returns
  have K : own_K p c c4 Z s "java/util/Arrays" m a0 := ⟨hx, hby, hZ, hown, hw⟩
  refine gStart (S' := s₁.setTop (mkF m 0 #[rv x0, iv x1, uu, uu] [])) (congrArg (fun f => s₁.setTop f) (ef_4 m x0 x1)) fun Rp hR => ?_
  refine g_iconst X0 K d4_0 (z := 0) rfl (g_istoreN X0 K d4_1 (L' := #[rv x0, iv x1, iv 0, uu]) rfl (g_aloadN X0 K d4_2 rfl rfl (g_len X0 K e0 pre_A_x0 d4_3 (g_istoreN X0 K d4_4 (L' := #[rv x0, iv x1, iv 0, iv 2]) rfl (g_iloadN X0 K d4_5 rfl (g_iloadN X0 K d4_6 rfl (g_icN X0 K d4_7 (tlt (by decide)).2.1 (g_aloadN X0 K d4_10 rfl rfl (g_iloadN X0 K d4_11 rfl (g_iloadN X0 K d4_12 rfl (g_iastore X0 K e0 pre_A_x0 d4_13 (by decide) 0 ⟨rfl, Nat.le_of_ble_eq_true rfl⟩ (w := [(.int x1), (.int y1)]) rfl rfl fun T2 h2 X2 e2 W2 V2 => ?_)))))))))))
  have N2 := Fr.snoc X2 N0 g_x0
  have KK2 := Kp0.wr W2 (Or.inl (List.mem_of_getElem? (i := 0) rfl))
  refine g_iinc X2 K d4_14 rfl (L' := #[rv x0, iv x1, iv 1, iv 2]) rfl (g_goto X2 K 5 d4_17 (by decide) (g_iloadN X2 K d4_5 rfl (g_iloadN X2 K d4_6 rfl (g_icN X2 K d4_7 (tlt (by decide)).2.1 (g_aloadN X2 K d4_10 rfl rfl (g_iloadN X2 K d4_11 rfl (g_iloadN X2 K d4_12 rfl (g_iastore X2 K e2 V2 d4_13 (by decide) 1 ⟨rfl, Nat.le_of_ble_eq_true rfl⟩ (w := [(.int x1), (.int x1)]) rfl rfl fun T4 h4 X4 e4 W4 V4 => ?_))))))))
  have N4 := Fr.snoc X4 N2 g_x0
  have KK4 := KK2.wr W4 (Or.inl (List.mem_of_getElem? (i := 0) rfl))
  refine g_iinc X4 K d4_14 rfl (L' := #[rv x0, iv x1, iv 2, iv 2]) rfl (g_goto X4 K 5 d4_17 (by decide) (g_iloadN X4 K d4_5 rfl (g_iloadN X4 K d4_6 rfl (g_icY X4 K 20 d4_7 (by decide) (flt (by decide)).2.1 ?_))))
  exact g_lv0 X4 K hlk hrt hR d4_20 (by decide) (by rw [e4]; exact ⟨rfl, N4, KK4, V4⟩)
def Q14 (Z : State) (x0 : Addr) (x1 : Int64) (k : ClassId) (y0 : Int64) (y1 : Int64) (h0 : Heap) (n0 : Nat) (v : Option Value) (h : Heap) (L : List Loc) : Prop := v = none ∧ Fr n0 L ∧ Keep h0 h [x0] ∧ Arv Z h x0 k .long (2 : Int32) [(.long x1), (.long x1)] (.long 0)
theorem ef_14 (m : MethodId) (x0 : Addr) (x1 : Int64) : entryFrame m #[(.ref x0), (.long x1)] 5 = mkF m 0 #[rv x0, lv x1, .second, .unset, .unset] [] := by first | (simp [entryFrame, mkF, argsToLocals, Value.category]; done) | rfl
set_option maxRecDepth 65536 in
set_option maxHeartbeats 40000000 in
theorem rm14 (l : Launch) (Z : State) (a0 : Array Value) (hw : ∀ d ∈ tables_1, d.before a0 Z = true) {x0 : Addr} (x1 : Int64) {k : ClassId} {y0 : Int64} {y1 : Int64} (h0 : Heap) (n0 : Nat) (Z0 : n0 ≤ h0.size) (pre_A_x0 : Arv Z h0 x0 k .long (2 : Int32) [(.long y0), (.long y1)] (.long 0)) (g_x0 : n0 ≤ x0) :
    own_M l (⟨"java/util/Arrays", "fill", "([JJ)V"⟩ : MethodName) c14 5 none ({ frames := 0, cells := 0, slots := 0, locals := 0 } : Room) #[(.ref x0), (.long x1)] Z h0 (Q14 Z x0 x1 k y0 y1 h0 n0) := by
  refine MetFree.of_bodySF (plainFor_of_name pn_14) hisR ?_
  intro p e s m args below meth c s₁ Bd hml0 hP hK
  obtain ⟨rfl, hZ, hh⟩ := hP
  have hx := Bd.exec
  have hby := Bd.bytes
  have hml : c.maxLocals = 5 := hml0
  have hown : s.vm.findClass "java/util/Arrays" = some m.cls := findClass_of_methodNamed Bd.named
  have hnm := (name_of_methodNamed Bd.named Bd.method).1
  have X0 : Stand p l e ({ frames := 0, cells := 0, slots := 0, locals := 0 } : Room) s m #[(.ref x0), (.long x1)] below meth c s₁ [] 0 0 := Stand.of_body Bd
  have e0 : s₁.heap = h0 := by rw [← hh, Bd.state]; rfl
  have N0 := Fr.nil n0
  have Kp0 := Keep.refl h0 [x0]
  have hlk := BodyLoose.notSynchronized Bd
  have hrt := Bd.returns
  have K : own_K p c c14 Z s "java/util/Arrays" m a0 := ⟨hx, hby, hZ, hown, hw⟩
  refine gStart (S' := s₁.setTop (mkF m 0 #[rv x0, lv x1, .second, uu, uu] [])) (congrArg (fun f => s₁.setTop f) (ef_14 m x0 x1)) fun Rp hR => ?_
  refine g_iconst X0 K d14_0 (z := 0) rfl (g_istoreN X0 K d14_1 (L' := #[rv x0, lv x1, .second, iv 0, uu]) rfl (g_aloadN X0 K d14_2 rfl rfl (g_len X0 K e0 pre_A_x0 d14_3 (g_istore X0 K d14_4 (L' := #[rv x0, lv x1, .second, iv 0, iv 2]) rfl (g_iloadN X0 K d14_6 rfl (g_iload X0 K d14_7 rfl (g_icN X0 K d14_9 (tlt (by decide)).2.1 (g_aloadN X0 K d14_12 rfl rfl (g_iloadN X0 K d14_13 rfl (g_lloadN X0 K d14_14 rfl (g_lastore X0 K e0 pre_A_x0 d14_15 (by decide) 0 ⟨rfl, Nat.le_of_ble_eq_true rfl⟩ (w := [(.long x1), (.long y1)]) rfl rfl fun T2 h2 X2 e2 W2 V2 => ?_)))))))))))
  have N2 := Fr.snoc X2 N0 g_x0
  have KK2 := Kp0.wr W2 (Or.inl (List.mem_of_getElem? (i := 0) rfl))
  refine g_iinc X2 K d14_16 rfl (L' := #[rv x0, lv x1, .second, iv 1, iv 2]) rfl (g_goto X2 K 6 d14_19 (by decide) (g_iloadN X2 K d14_6 rfl (g_iload X2 K d14_7 rfl (g_icN X2 K d14_9 (tlt (by decide)).2.1 (g_aloadN X2 K d14_12 rfl rfl (g_iloadN X2 K d14_13 rfl (g_lloadN X2 K d14_14 rfl (g_lastore X2 K e2 V2 d14_15 (by decide) 1 ⟨rfl, Nat.le_of_ble_eq_true rfl⟩ (w := [(.long x1), (.long x1)]) rfl rfl fun T4 h4 X4 e4 W4 V4 => ?_))))))))
  have N4 := Fr.snoc X4 N2 g_x0
  have KK4 := KK2.wr W4 (Or.inl (List.mem_of_getElem? (i := 0) rfl))
  refine g_iinc X4 K d14_16 rfl (L' := #[rv x0, lv x1, .second, iv 2, iv 2]) rfl (g_goto X4 K 6 d14_19 (by decide) (g_iloadN X4 K d14_6 rfl (g_iload X4 K d14_7 rfl (g_icY X4 K 22 d14_9 (by decide) (flt (by decide)).2.1 ?_))))
  exact g_lv0 X4 K hlk hrt hR d14_22 (by decide) (by rw [e4]; exact ⟨rfl, N4, KK4, V4⟩)
def Q3 (Z : State) (x0 : Addr) (x1 : Addr) (k : ClassId) (y0 : Int64) (y1 : Int64) (h0 : Heap) (n0 : Nat) (v : Option Value) (h : Heap) (L : List Loc) : Prop := ∃ (hn : Addr), ∃ (hq : Addr), ∃ (khn : ClassId), ∃ (khq : ClassId), v = none ∧ Fr n0 L ∧ Keep h0 h [x0] ∧ Exa Z h x0 "com/example/violarc/violarc/graph/NodeHeap" ∧ Fld Z h x0 "com/example/violarc/violarc/graph/NodeHeap" "keys" "[J" (.ref x1) ∧ Fld Z h x0 "com/example/violarc/violarc/graph/NodeHeap" "nodes" "[I" (.ref hn) ∧ Fld Z h x0 "com/example/violarc/violarc/graph/NodeHeap" "positions" "[I" (.ref hq) ∧ Fld Z h x0 "com/example/violarc/violarc/graph/NodeHeap" "size" "I" (.int 0) ∧ Arv Z h hn khn .int (2 : Int32) [(.int 0), (.int 0)] (.int 0) ∧ Arv Z h hq khq .int (2 : Int32) [(.int (-1)), (.int (-1))] (.int 0) ∧ h0.size ≤ hn ∧ h0.size ≤ hq ∧ n0 ≤ hn ∧ n0 ≤ hq ∧ x0 < hn ∧ hn < hq
theorem ef_3 (m : MethodId) (x0 : Addr) (x1 : Addr) : entryFrame m #[(.ref x0), (.ref x1)] 2 = mkF m 0 #[rv x0, rv x1] [] := by first | (simp [entryFrame, mkF, argsToLocals, Value.category]; done) | rfl
set_option maxRecDepth 65536 in
set_option maxHeartbeats 40000000 in
theorem rm3 (l : Launch) (Z : State) (a0 : Array Value) (hw : ∀ d ∈ tables_1, d.before a0 Z = true) (x0 : Addr) (x1 : Addr) (k : ClassId) (y0 : Int64) (y1 : Int64) (h0 : Heap) (n0 : Nat) (Z0 : n0 ≤ h0.size) (pre_E_x0 : Exa Z h0 x0 "com/example/violarc/violarc/graph/NodeHeap") (pre_F_x0_keys : Fld Z h0 x0 "com/example/violarc/violarc/graph/NodeHeap" "keys" "[J" .null) (pre_F_x0_nodes : Fld Z h0 x0 "com/example/violarc/violarc/graph/NodeHeap" "nodes" "[I" .null) (pre_F_x0_positions : Fld Z h0 x0 "com/example/violarc/violarc/graph/NodeHeap" "positions" "[I" .null) (pre_F_x0_size : Fld Z h0 x0 "com/example/violarc/violarc/graph/NodeHeap" "size" "I" (.int 0)) (g_x0 : n0 ≤ x0) (pre_A_x1 : Arv Z h0 x1 k .long (2 : Int32) [(.long y0), (.long y1)] (.long 0)) (ne_x0_x1 : x0 ≠ x1) :
    own_M l (⟨"com/example/violarc/violarc/graph/NodeHeap", "<init>", "([J)V"⟩ : MethodName) c3 2 none ({ frames := 1, cells := 2, slots := 4, locals := 15 } : Room) #[(.ref x0), (.ref x1)] Z h0 (Q3 Z x0 x1 k y0 y1 h0 n0) := by
  refine MetFree.of_bodySF (plainFor_of_name pn_3) hisR ?_
  intro p e s m args below meth c s₁ Bd hml0 hP hK
  obtain ⟨rfl, hZ, hh⟩ := hP
  have hx := Bd.exec
  have hby := Bd.bytes
  have hml : c.maxLocals = 2 := hml0
  have hown : s.vm.findClass "com/example/violarc/violarc/graph/NodeHeap" = some m.cls := findClass_of_methodNamed Bd.named
  have hnm := (name_of_methodNamed Bd.named Bd.method).1
  have X0 : Stand p l e ({ frames := 1, cells := 2, slots := 4, locals := 15 } : Room) s m #[(.ref x0), (.ref x1)] below meth c s₁ [] 0 0 := Stand.of_body Bd
  have e0 : s₁.heap = h0 := by rw [← hh, Bd.state]; rfl
  have N0 := Fr.nil n0
  have Kp0 := Keep.refl h0 [x0]
  have hlk := BodyLoose.notSynchronized Bd
  have hrt := Bd.returns
  have K : own_K p c c3 Z s "com/example/violarc/violarc/graph/NodeHeap" m a0 := ⟨hx, hby, hZ, hown, hw⟩
  refine gStart (S' := s₁.setTop (mkF m 0 #[rv x0, rv x1] [])) (congrArg (fun f => s₁.setTop f) (ef_3 m x0 x1)) fun Rp hR => ?_
  refine g_aloadN X0 K d3_0 rfl rfl ?_
  obtain ⟨T1, X1, e1, st1⟩ := initO X0 hx hZ hown (hw _ (im 38 rfl)) (hw _ (im 9 rfl)) (hw _ (im 10 rfl)) e0 (g := (mkF m 1 #[rv x0, rv x1] [(.ref x0)])) rfl (by rw [hml]; rfl) rfl (hb hby d3_1) (by decide) (W := 0) (by show 2 * 0 + _ ≤ _; exact Nat.le_of_eq rfl) (by decide)
  refine gB (S' := T1.setTop (mkF m 4 #[rv x0, rv x1] [])) ?_ st1
  refine g_aloadN X1 K d3_4 rfl rfl (g_aloadN X1 K d3_5 rfl rfl (g_putF X1 K e1 39 rfl pre_F_x0_keys pre_E_x0 (Or.inr ⟨(hw _ (im 40 rfl)), rfl, hnm⟩) (hw _ (im 33 rfl)) (ty := (.array .long)) (by decide) rfl rfl d3_6 fun T2 h2 X2 e2 W2 Fw2 => ?_))
  have N2 := Fr.snoc X2 N0 g_x0
  have KK2 := Kp0.wr W2 (Or.inl (List.mem_of_getElem? (i := 0) rfl))
  refine g_aloadN X2 K d3_9 rfl rfl (g_aloadN X2 K d3_10 rfl rfl ?_)
  have q3 := (pre_A_x1.other W2 (Ne.symm ne_x0_x1))
  refine g_len X2 K e2 q3 d3_11 ?_
  obtain ⟨T4, h4, k4, X4, e4, E4, A4, st4⟩ := newP X2 hx hZ (hw _ (im 11 rfl)) e2 (g := (mkF m 12 #[rv x0, rv x1] [(.int 2), (.ref x0)])) rfl (hb hby d3_12) rfl (by decide) (cap := 2) (by decide) (by decide) (by decide) (by decide)
  obtain ⟨b4, g4⟩ : ∃ z, z = h2.size := ⟨_, rfl⟩
  rw [← g4] at A4 st4
  have ge_b4 : n0 ≤ b4 := Nat.le_trans (Nat.le_trans Z0 KK2.1) (Nat.le_of_eq g4.symm)
  have sz_b4 : h0.size ≤ b4 := Nat.le_trans KK2.1 (Nat.le_of_eq g4.symm)
  have KK4 := KK2.ext E4
  have V4 : Arv Z h4 b4 k4 .int (2 : Int32) [(.int 0), (.int 0)] (.int 0) := (Arv.new A4 (by decide)).pad (pad_rep [] (.int 0) 2)
  refine gB (S' := T4.setTop (mkF m 14 #[rv x0, rv x1] [(.ref b4), (.ref x0)])) ?_ st4
  have A22 := la_22 hw
  have A23 := la_23 hw
  have q5 := ((own_o pre_F_x0_nodes W2 A22 A23).ext E4)
  have q6 := ((pre_E_x0.wr W2).ext E4)
  refine g_putF X4 K e4 41 rfl q5 q6 (Or.inr ⟨(hw _ (im 42 rfl)), rfl, hnm⟩) (hw _ (im 33 rfl)) (ty := (.array .int)) (by decide) rfl rfl d3_14 fun T7 h7 X7 e7 W7 Fw7 => ?_
  have N7 := Fr.snoc X7 N2 g_x0
  have KK7 := KK4.wr W7 (Or.inl (List.mem_of_getElem? (i := 0) rfl))
  refine g_aloadN X7 K d3_17 rfl rfl (g_aloadN X7 K d3_18 rfl rfl ?_)
  have q8 := ((q3.ext E4).other W7 (Ne.symm ne_x0_x1))
  refine g_len X7 K e7 q8 d3_19 ?_
  obtain ⟨T9, h9, k9, X9, e9, E9, A9, st9⟩ := newP X7 hx hZ (hw _ (im 11 rfl)) e7 (g := (mkF m 20 #[rv x0, rv x1] [(.int 2), (.ref x0)])) rfl (hb hby d3_20) rfl (by decide) (cap := 2) (by decide) (by decide) (by decide) (by decide)
  obtain ⟨b9, g9⟩ : ∃ z, z = h7.size := ⟨_, rfl⟩
  rw [← g9] at A9 st9
  have ge_b9 : n0 ≤ b9 := Nat.le_trans (Nat.le_trans Z0 KK7.1) (Nat.le_of_eq g9.symm)
  have sz_b9 : h0.size ≤ b9 := Nat.le_trans KK7.1 (Nat.le_of_eq g9.symm)
  have KK9 := KK7.ext E9
  have V9 : Arv Z h9 b9 k9 .int (2 : Int32) [(.int 0), (.int 0)] (.int 0) := (Arv.new A9 (by decide)).pad (pad_rep [] (.int 0) 2)
  refine gB (S' := T9.setTop (mkF m 22 #[rv x0, rv x1] [(.ref b9), (.ref x0)])) ?_ st9
  have A24 := la_24 hw
  have q10 := ((own_o ((own_o pre_F_x0_positions W2 A24 A23).ext E4) W7 A24 A22).ext E9)
  have q11 := ((q6.wr W7).ext E9)
  refine g_putF X9 K e9 43 rfl q10 q11 (Or.inr ⟨(hw _ (im 44 rfl)), rfl, hnm⟩) (hw _ (im 33 rfl)) (ty := (.array .int)) (by decide) rfl rfl d3_22 fun T12 h12 X12 e12 W12 Fw12 => ?_
  have N12 := Fr.snoc X12 N7 g_x0
  have KK12 := KK9.wr W12 (Or.inl (List.mem_of_getElem? (i := 0) rfl))
  refine g_ag X12 K e12 43 rfl Fw12 d3_25 d3_26 rfl fun T13 X13 e13 => g_iconst X13 K d3_29 (z := -1) rfl ?_
  have q15 := (Nat.lt_of_lt_of_le (Nat.lt_of_lt_of_le (Nat.lt_of_lt_of_le pre_E_x0.lt (Nat.le_of_eq W2.size.symm)) E4.1) (Nat.le_of_eq W7.size.symm))
  have ne14 : x0 ≠ b9 := Nat.ne_of_lt (Nat.lt_of_lt_of_le q15 (Nat.le_of_eq g9.symm))
  have q16 := (V9.other W12 (Ne.symm ne14))
  refine g_callS X13 K e13 45 46 47 48 rfl rfl rfl rfl (by decide) (rm4 l Z a0 hw (-1 : Int32) h12 n0 (Nat.le_trans Z0 KK12.1) q16 ge_b9) d3_30 hml.symm (argsL := [(.ref b9), (.int (-1))]) (lenOf pd_0 rfl) rfl 0 (Nat.le_of_ble_eq_true rfl) (by decide) fun v17 T17 Lc17 hQ17 X17 => ?_
  obtain ⟨rfl, N17q, K17, r17_0⟩ := hQ17
  have N17 := Fr.app N12 N17q
  have KK17 := KK12.trans K17 (allS (Or.inr sz_b9) all0)
  dsimp only [Option.toList, List.cons_append, List.nil_append]
  have q18 := ((q11.wr W12).keep K17)
  have ni19 := (ninS ne14 nin0)
  have q20 := ((own_o ((own_o (Fw2.ext E4) W7 A23 A22).ext E9) W12 A23 A24).keep K17 ni19)
  have q21 := ((own_o (Fw7.ext E9) W12 A22 A24).keep K17 ni19)
  have q22 := (Fw12.keep K17 ni19)
  have A25 := la_25 hw
  have q23 := ((own_o ((own_o ((own_o pre_F_x0_size W2 A25 A23).ext E4) W7 A25 A22).ext E9) W12 A25 A24).keep K17 ni19)
  have q25 := (Nat.lt_of_lt_of_le pre_E_x0.lt (Nat.le_of_eq W2.size.symm))
  have ne24 : x0 ≠ b4 := Nat.ne_of_lt (Nat.lt_of_lt_of_le q25 (Nat.le_of_eq g4.symm))
  have q27 := (Nat.lt_of_lt_of_le V4.lt (Nat.le_of_eq W7.size.symm))
  have ne26 : b4 ≠ b9 := Nat.ne_of_lt (Nat.lt_of_lt_of_le q27 (Nat.le_of_eq g9.symm))
  have ni28 := (ninS ne26 nin0)
  have q29 := ((((V4.other W7 (Ne.symm ne24)).ext E9).other W12 (Ne.symm ne24)).keep K17 ni28)
  exact g_lv0 X17 K hlk hrt hR d3_33 (by decide) (⟨b4, b9, k4, k9, rfl, N17, KK17, q18, q20, q21, q22, q23, q29, r17_0, sz_b4, sz_b9, ge_b4, ge_b9, (Nat.lt_of_lt_of_le q25 (Nat.le_of_eq g4.symm)), (Nat.lt_of_lt_of_le q27 (Nat.le_of_eq g9.symm))⟩)
def Q1 (Z : State) (x0 : Addr) (h0 : Heap) (n0 : Nat) (v : Option Value) (h : Heap) (L : List Loc) : Prop := ∃ (nx : Addr), ∃ (tg : Addr), ∃ (rs : Addr), ∃ (co : Addr), ∃ (fi : Addr), ∃ (po : Addr), ∃ (di : Addr), ∃ (pa : Addr), ∃ (hp : Addr), ∃ (hn : Addr), ∃ (hq : Addr), ∃ (qu : Addr), ∃ (qd : Addr), ∃ (lw : Addr), ∃ (sk : Addr), ∃ (cu : Addr), ∃ (vi : Addr), ∃ (knx : ClassId), ∃ (ktg : ClassId), ∃ (krs : ClassId), ∃ (kco : ClassId), ∃ (kfi : ClassId), ∃ (kpo : ClassId), ∃ (kdi : ClassId), ∃ (kpa : ClassId), ∃ (khn : ClassId), ∃ (khq : ClassId), ∃ (kqu : ClassId), ∃ (kqd : ClassId), ∃ (klw : ClassId), ∃ (ksk : ClassId), ∃ (kcu : ClassId), ∃ (kvi : ClassId), v = none ∧ Fr n0 L ∧ Keep h0 h [x0] ∧ own_XF Z h n0 x0 nx tg rs co fi po di pa hp hn hq qu qd lw sk cu vi (0 : Int32) (0 : Int64) (0 : Int64) (0 : Int32) (-1 : Int32) (-1 : Int32) (0 : Int64) ∧ own_HP Z h n0 hp di hn hq (0 : Int32) ∧ Arv Z h nx knx .int (16 : Int32) [(.int 0), (.int 0), (.int 0), (.int 0)] (.int 0) ∧ Arv Z h tg ktg .int (16 : Int32) [(.int 0), (.int 0), (.int 0), (.int 0)] (.int 0) ∧ Arv Z h rs krs .long (16 : Int32) [(.long 0), (.long 0), (.long 0), (.long 0)] (.long 0) ∧ Arv Z h co kco .long (16 : Int32) [(.long 0), (.long 0), (.long 0), (.long 0)] (.long 0) ∧ Arv Z h fi kfi .int (2 : Int32) [(.int (-1)), (.int (-1))] (.int 0) ∧ Arv Z h po kpo .long (2 : Int32) [(.long 0), (.long 0)] (.long 0) ∧ Arv Z h di kdi .long (2 : Int32) [(.long 0), (.long 0)] (.long 0) ∧ Arv Z h pa kpa .int (2 : Int32) [(.int 0), (.int 0)] (.int 0) ∧ Arv Z h hn khn .int (2 : Int32) [(.int 0), (.int 0)] (.int 0) ∧ Arv Z h hq khq .int (2 : Int32) [(.int (-1)), (.int (-1))] (.int 0) ∧ Arv Z h qu kqu .int (2 : Int32) [(.int 0), (.int 0)] (.int 0) ∧ Arv Z h qd kqd .boolean (2 : Int32) [(.int 0), (.int 0)] (.int 0) ∧ Arv Z h lw klw .int (2 : Int32) [(.int 0), (.int 0)] (.int 0) ∧ Arv Z h sk ksk .int (2 : Int32) [(.int 0), (.int 0)] (.int 0) ∧ Arv Z h cu kcu .int (2 : Int32) [(.int 0), (.int 0)] (.int 0) ∧ Arv Z h vi kvi .long (2 : Int32) [(.long 0), (.long 0)] (.long 0)
theorem ef_1 (m : MethodId) (x0 : Addr) : entryFrame m #[(.ref x0), (.int 2)] 2 = mkF m 0 #[rv x0, iv 2] [] := by first | (simp [entryFrame, mkF, argsToLocals, Value.category]; done) | rfl
set_option maxRecDepth 65536 in
set_option maxHeartbeats 40000000 in
theorem rm1 (l : Launch) (Z : State) (a0 : Array Value) (hw : ∀ d ∈ tables_1, d.before a0 Z = true) (x0 : Addr) (h0 : Heap) (n0 : Nat) (Z0 : n0 ≤ h0.size) (pre_E_x0 : Exa Z h0 x0 "com/example/violarc/violarc/graph/FlowNetwork") (pre_F_x0_next : Fld Z h0 x0 "com/example/violarc/violarc/graph/FlowNetwork" "next" "[I" .null) (pre_F_x0_target : Fld Z h0 x0 "com/example/violarc/violarc/graph/FlowNetwork" "target" "[I" .null) (pre_F_x0_residual : Fld Z h0 x0 "com/example/violarc/violarc/graph/FlowNetwork" "residual" "[J" .null) (pre_F_x0_cost : Fld Z h0 x0 "com/example/violarc/violarc/graph/FlowNetwork" "cost" "[J" .null) (pre_F_x0_first : Fld Z h0 x0 "com/example/violarc/violarc/graph/FlowNetwork" "first" "[I" .null) (pre_F_x0_potentials : Fld Z h0 x0 "com/example/violarc/violarc/graph/FlowNetwork" "potentials" "[J" .null) (pre_F_x0_distances : Fld Z h0 x0 "com/example/violarc/violarc/graph/FlowNetwork" "distances" "[J" .null) (pre_F_x0_parents : Fld Z h0 x0 "com/example/violarc/violarc/graph/FlowNetwork" "parents" "[I" .null) (pre_F_x0_heap : Fld Z h0 x0 "com/example/violarc/violarc/graph/FlowNetwork" "heap" "Lcom/example/violarc/violarc/graph/NodeHeap;" .null) (pre_F_x0_queue : Fld Z h0 x0 "com/example/violarc/violarc/graph/FlowNetwork" "queue" "[I" .null) (pre_F_x0_queued : Fld Z h0 x0 "com/example/violarc/violarc/graph/FlowNetwork" "queued" "[Z" .null) (pre_F_x0_lowered : Fld Z h0 x0 "com/example/violarc/violarc/graph/FlowNetwork" "lowered" "[I" .null) (pre_F_x0_stack : Fld Z h0 x0 "com/example/violarc/violarc/graph/FlowNetwork" "stack" "[I" .null) (pre_F_x0_cursors : Fld Z h0 x0 "com/example/violarc/violarc/graph/FlowNetwork" "cursors" "[I" .null) (pre_F_x0_visits : Fld Z h0 x0 "com/example/violarc/violarc/graph/FlowNetwork" "visits" "[J" .null) (pre_F_x0_arcs : Fld Z h0 x0 "com/example/violarc/violarc/graph/FlowNetwork" "arcs" "I" (.int 0)) (pre_F_x0_absoluteCosts : Fld Z h0 x0 "com/example/violarc/violarc/graph/FlowNetwork" "absoluteCosts" "J" (.long 0)) (pre_F_x0_flowCost : Fld Z h0 x0 "com/example/violarc/violarc/graph/FlowNetwork" "flowCost" "J" (.long 0)) (pre_F_x0_valid : Fld Z h0 x0 "com/example/violarc/violarc/graph/FlowNetwork" "valid" "Z" (.int 0)) (pre_F_x0_source : Fld Z h0 x0 "com/example/violarc/violarc/graph/FlowNetwork" "source" "I" (.int 0)) (pre_F_x0_sink : Fld Z h0 x0 "com/example/violarc/violarc/graph/FlowNetwork" "sink" "I" (.int 0)) (pre_F_x0_visit : Fld Z h0 x0 "com/example/violarc/violarc/graph/FlowNetwork" "visit" "J" (.long 0)) (g_x0 : n0 ≤ x0) :
    own_M l (⟨"com/example/violarc/violarc/graph/FlowNetwork", "<init>", "(I)V"⟩ : MethodName) c1 2 none ({ frames := 2, cells := 17, slots := 92, locals := 30 } : Room) #[(.ref x0), (.int 2)] Z h0 (Q1 Z x0 h0 n0) := by
  refine MetFree.of_bodySF (plainFor_of_name pn_1) hisR ?_
  intro p e s m args below meth c s₁ Bd hml0 hP hK
  obtain ⟨rfl, hZ, hh⟩ := hP
  have hx := Bd.exec
  have hby := Bd.bytes
  have hml : c.maxLocals = 2 := hml0
  have hown : s.vm.findClass "com/example/violarc/violarc/graph/FlowNetwork" = some m.cls := findClass_of_methodNamed Bd.named
  have hnm := (name_of_methodNamed Bd.named Bd.method).1
  have X0 : Stand p l e ({ frames := 2, cells := 17, slots := 92, locals := 30 } : Room) s m #[(.ref x0), (.int 2)] below meth c s₁ [] 0 0 := Stand.of_body Bd
  have e0 : s₁.heap = h0 := by rw [← hh, Bd.state]; rfl
  have N0 := Fr.nil n0
  have Kp0 := Keep.refl h0 [x0]
  have hlk := BodyLoose.notSynchronized Bd
  have hrt := Bd.returns
  have K : own_K p c c1 Z s "com/example/violarc/violarc/graph/FlowNetwork" m a0 := ⟨hx, hby, hZ, hown, hw⟩
  refine gStart (S' := s₁.setTop (mkF m 0 #[rv x0, iv 2] [])) (congrArg (fun f => s₁.setTop f) (ef_1 m x0)) fun Rp hR => ?_
  refine g_aloadN X0 K d1_0 rfl rfl ?_
  obtain ⟨T1, X1, e1, st1⟩ := initO X0 hx hZ hown (hw _ (im 8 rfl)) (hw _ (im 9 rfl)) (hw _ (im 10 rfl)) e0 (g := (mkF m 1 #[rv x0, iv 2] [(.ref x0)])) rfl (by rw [hml]; rfl) rfl (hb hby d1_1) (by decide) (W := 0) (by show 2 * 0 + _ ≤ _; exact Nat.le_of_eq rfl) (by decide)
  refine gB (S' := T1.setTop (mkF m 4 #[rv x0, iv 2] [])) ?_ st1
  refine g_aloadN X1 K d1_4 rfl rfl (g_bipush X1 K d1_5 (z := 16) rfl ?_)
  obtain ⟨T2, h2, k2, X2, e2, E2, A2, st2⟩ := newP X1 hx hZ (hw _ (im 11 rfl)) e1 (g := (mkF m 7 #[rv x0, iv 2] [(.int 16), (.ref x0)])) rfl (hb hby d1_7) rfl (by decide) (cap := 16) (by decide) (by decide) (by decide) (by decide)
  obtain ⟨b2, g2⟩ : ∃ z, z = h0.size := ⟨_, rfl⟩
  rw [← g2] at A2 st2
  have ge_b2 : n0 ≤ b2 := Nat.le_trans Z0 (Nat.le_of_eq g2.symm)
  have sz_b2 : h0.size ≤ b2 := Nat.le_trans Kp0.1 (Nat.le_of_eq g2.symm)
  have KK2 := Kp0.ext E2
  have V2 : Arv Z h2 b2 k2 .int (16 : Int32) [(.int 0), (.int 0), (.int 0), (.int 0)] (.int 0) := (Arv.new A2 (by decide)).pad (pad_rep [] (.int 0) 4)
  refine gB (S' := T2.setTop (mkF m 9 #[rv x0, iv 2] [(.ref b2), (.ref x0)])) ?_ st2
  have q3 := (pre_F_x0_next.ext E2)
  have q4 := (pre_E_x0.ext E2)
  refine g_putF X2 K e2 12 rfl q3 q4 (Or.inl (hw _ (im 13 rfl))) (hw _ (im 3 rfl)) (ty := (.array .int)) (by decide) rfl rfl d1_9 fun T5 h5 X5 e5 W5 Fw5 => ?_
  have N5 := Fr.snoc X5 N0 g_x0
  have KK5 := KK2.wr W5 (Or.inl (List.mem_of_getElem? (i := 0) rfl))
  refine g_aloadN X5 K d1_12 rfl rfl (g_bipush X5 K d1_13 (z := 16) rfl ?_)
  obtain ⟨T6, h6, k6, X6, e6, E6, A6, st6⟩ := newP X5 hx hZ (hw _ (im 11 rfl)) e5 (g := (mkF m 15 #[rv x0, iv 2] [(.int 16), (.ref x0)])) rfl (hb hby d1_15) rfl (by decide) (cap := 16) (by decide) (by decide) (by decide) (by decide)
  obtain ⟨b6, g6⟩ : ∃ z, z = h5.size := ⟨_, rfl⟩
  rw [← g6] at A6 st6
  have ge_b6 : n0 ≤ b6 := Nat.le_trans (Nat.le_trans Z0 KK5.1) (Nat.le_of_eq g6.symm)
  have sz_b6 : h0.size ≤ b6 := Nat.le_trans KK5.1 (Nat.le_of_eq g6.symm)
  have KK6 := KK5.ext E6
  have V6 : Arv Z h6 b6 k6 .int (16 : Int32) [(.int 0), (.int 0), (.int 0), (.int 0)] (.int 0) := (Arv.new A6 (by decide)).pad (pad_rep [] (.int 0) 4)
  refine gB (S' := T6.setTop (mkF m 17 #[rv x0, iv 2] [(.ref b6), (.ref x0)])) ?_ st6
  have A2 := la_2 hw
  have A1 := la_1 hw
  have q7 := ((own_o (pre_F_x0_target.ext E2) W5 A2 A1).ext E6)
  have q8 := ((q4.wr W5).ext E6)
  refine g_putF X6 K e6 14 rfl q7 q8 (Or.inl (hw _ (im 15 rfl))) (hw _ (im 3 rfl)) (ty := (.array .int)) (by decide) rfl rfl d1_17 fun T9 h9 X9 e9 W9 Fw9 => ?_
  have N9 := Fr.snoc X9 N5 g_x0
  have KK9 := KK6.wr W9 (Or.inl (List.mem_of_getElem? (i := 0) rfl))
  refine g_aloadN X9 K d1_20 rfl rfl (g_bipush X9 K d1_21 (z := 16) rfl ?_)
  obtain ⟨T10, h10, k10, X10, e10, E10, A10, st10⟩ := newP X9 hx hZ (hw _ (im 0 rfl)) e9 (g := (mkF m 23 #[rv x0, iv 2] [(.int 16), (.ref x0)])) rfl (hb hby d1_23) rfl (by decide) (cap := 16) (by decide) (by decide) (by decide) (by decide)
  obtain ⟨b10, g10⟩ : ∃ z, z = h9.size := ⟨_, rfl⟩
  rw [← g10] at A10 st10
  have ge_b10 : n0 ≤ b10 := Nat.le_trans (Nat.le_trans Z0 KK9.1) (Nat.le_of_eq g10.symm)
  have sz_b10 : h0.size ≤ b10 := Nat.le_trans KK9.1 (Nat.le_of_eq g10.symm)
  have KK10 := KK9.ext E10
  have V10 : Arv Z h10 b10 k10 .long (16 : Int32) [(.long 0), (.long 0), (.long 0), (.long 0)] (.long 0) := (Arv.new A10 (by decide)).pad (pad_rep [] (.long 0) 4)
  refine gB (S' := T10.setTop (mkF m 25 #[rv x0, iv 2] [(.ref b10), (.ref x0)])) ?_ st10
  have A3 := la_3 hw
  have q11 := ((own_o ((own_o (pre_F_x0_residual.ext E2) W5 A3 A1).ext E6) W9 A3 A2).ext E10)
  have q12 := ((q8.wr W9).ext E10)
  refine g_putF X10 K e10 16 rfl q11 q12 (Or.inl (hw _ (im 17 rfl))) (hw _ (im 3 rfl)) (ty := (.array .long)) (by decide) rfl rfl d1_25 fun T13 h13 X13 e13 W13 Fw13 => ?_
  have N13 := Fr.snoc X13 N9 g_x0
  have KK13 := KK10.wr W13 (Or.inl (List.mem_of_getElem? (i := 0) rfl))
  refine g_aloadN X13 K d1_28 rfl rfl (g_bipush X13 K d1_29 (z := 16) rfl ?_)
  obtain ⟨T14, h14, k14, X14, e14, E14, A14, st14⟩ := newP X13 hx hZ (hw _ (im 0 rfl)) e13 (g := (mkF m 31 #[rv x0, iv 2] [(.int 16), (.ref x0)])) rfl (hb hby d1_31) rfl (by decide) (cap := 16) (by decide) (by decide) (by decide) (by decide)
  obtain ⟨b14, g14⟩ : ∃ z, z = h13.size := ⟨_, rfl⟩
  rw [← g14] at A14 st14
  have ge_b14 : n0 ≤ b14 := Nat.le_trans (Nat.le_trans Z0 KK13.1) (Nat.le_of_eq g14.symm)
  have sz_b14 : h0.size ≤ b14 := Nat.le_trans KK13.1 (Nat.le_of_eq g14.symm)
  have KK14 := KK13.ext E14
  have V14 : Arv Z h14 b14 k14 .long (16 : Int32) [(.long 0), (.long 0), (.long 0), (.long 0)] (.long 0) := (Arv.new A14 (by decide)).pad (pad_rep [] (.long 0) 4)
  refine gB (S' := T14.setTop (mkF m 33 #[rv x0, iv 2] [(.ref b14), (.ref x0)])) ?_ st14
  have A4 := la_4 hw
  have q15 := ((own_o ((own_o ((own_o (pre_F_x0_cost.ext E2) W5 A4 A1).ext E6) W9 A4 A2).ext E10) W13 A4 A3).ext E14)
  have q16 := ((q12.wr W13).ext E14)
  refine g_putF X14 K e14 18 rfl q15 q16 (Or.inl (hw _ (im 19 rfl))) (hw _ (im 3 rfl)) (ty := (.array .long)) (by decide) rfl rfl d1_33 fun T17 h17 X17 e17 W17 Fw17 => ?_
  have N17 := Fr.snoc X17 N13 g_x0
  have KK17 := KK14.wr W17 (Or.inl (List.mem_of_getElem? (i := 0) rfl))
  refine g_aloadN X17 K d1_36 rfl rfl (g_iconst X17 K d1_37 (z := -1) rfl ?_)
  have A19 := la_19 hw
  have q18 := (own_o ((own_o ((own_o ((own_o (pre_F_x0_source.ext E2) W5 A19 A1).ext E6) W9 A19 A2).ext E10) W13 A19 A3).ext E14) W17 A19 A4)
  have q19 := (q16.wr W17)
  refine g_putF X17 K e17 20 rfl q18 q19 (Or.inl (hw _ (im 21 rfl))) (hw _ (im 3 rfl)) (ty := .int) (by decide) rfl rfl d1_38 fun T20 h20 X20 e20 W20 Fw20 => ?_
  have N20 := Fr.snoc X20 N17 g_x0
  have KK20 := KK17.wr W20 (Or.inl (List.mem_of_getElem? (i := 0) rfl))
  refine g_aloadN X20 K d1_41 rfl rfl (g_iconst X20 K d1_42 (z := -1) rfl ?_)
  have A20 := la_20 hw
  have q21 := (own_o (own_o ((own_o ((own_o ((own_o (pre_F_x0_sink.ext E2) W5 A20 A1).ext E6) W9 A20 A2).ext E10) W13 A20 A3).ext E14) W17 A20 A4) W20 A20 A19)
  have q22 := (q19.wr W20)
  refine g_putF X20 K e20 22 rfl q21 q22 (Or.inl (hw _ (im 23 rfl))) (hw _ (im 3 rfl)) (ty := .int) (by decide) rfl rfl d1_43 fun T23 h23 X23 e23 W23 Fw23 => ?_
  have N23 := Fr.snoc X23 N20 g_x0
  have KK23 := KK20.wr W23 (Or.inl (List.mem_of_getElem? (i := 0) rfl))
  refine g_iloadN X23 K d1_46 rfl (g_iconst X23 K d1_47 (z := 1) rfl (g_icY X23 K 65 d1_48 (by decide) (flt (by decide)).2.1 (g_aloadN X23 K d1_65 rfl rfl (g_iloadN X23 K d1_66 rfl ?_))))
  obtain ⟨T25, h25, k25, X25, e25, E25, A25, st25⟩ := newP X23 hx hZ (hw _ (im 11 rfl)) e23 (g := (mkF m 67 #[rv x0, iv 2] [(.int 2), (.ref x0)])) rfl (hb hby d1_67) rfl (by decide) (cap := 2) (by decide) (by decide) (by decide) (by decide)
  obtain ⟨b25, g25⟩ : ∃ z, z = h23.size := ⟨_, rfl⟩
  rw [← g25] at A25 st25
  have ge_b25 : n0 ≤ b25 := Nat.le_trans (Nat.le_trans Z0 KK23.1) (Nat.le_of_eq g25.symm)
  have sz_b25 : h0.size ≤ b25 := Nat.le_trans KK23.1 (Nat.le_of_eq g25.symm)
  have KK25 := KK23.ext E25
  have V25 : Arv Z h25 b25 k25 .int (2 : Int32) [(.int 0), (.int 0)] (.int 0) := (Arv.new A25 (by decide)).pad (pad_rep [] (.int 0) 2)
  refine gB (S' := T25.setTop (mkF m 69 #[rv x0, iv 2] [(.ref b25), (.ref x0)])) ?_ st25
  have A5 := la_5 hw
  have q26 := ((own_o (own_o (own_o ((own_o ((own_o ((own_o (pre_F_x0_first.ext E2) W5 A5 A1).ext E6) W9 A5 A2).ext E10) W13 A5 A3).ext E14) W17 A5 A4) W20 A5 A19) W23 A5 A20).ext E25)
  have q27 := ((q22.wr W23).ext E25)
  refine g_putF X25 K e25 24 rfl q26 q27 (Or.inr ⟨(hw _ (im 25 rfl)), rfl, hnm⟩) (hw _ (im 3 rfl)) (ty := (.array .int)) (by decide) rfl rfl d1_69 fun T28 h28 X28 e28 W28 Fw28 => ?_
  have N28 := Fr.snoc X28 N23 g_x0
  have KK28 := KK25.wr W28 (Or.inl (List.mem_of_getElem? (i := 0) rfl))
  refine g_aloadN X28 K d1_72 rfl rfl (g_iloadN X28 K d1_73 rfl ?_)
  obtain ⟨T29, h29, k29, X29, e29, E29, A29, st29⟩ := newP X28 hx hZ (hw _ (im 0 rfl)) e28 (g := (mkF m 74 #[rv x0, iv 2] [(.int 2), (.ref x0)])) rfl (hb hby d1_74) rfl (by decide) (cap := 2) (by decide) (by decide) (by decide) (by decide)
  obtain ⟨b29, g29⟩ : ∃ z, z = h28.size := ⟨_, rfl⟩
  rw [← g29] at A29 st29
  have ge_b29 : n0 ≤ b29 := Nat.le_trans (Nat.le_trans Z0 KK28.1) (Nat.le_of_eq g29.symm)
  have sz_b29 : h0.size ≤ b29 := Nat.le_trans KK28.1 (Nat.le_of_eq g29.symm)
  have KK29 := KK28.ext E29
  have V29 : Arv Z h29 b29 k29 .long (2 : Int32) [(.long 0), (.long 0)] (.long 0) := (Arv.new A29 (by decide)).pad (pad_rep [] (.long 0) 2)
  refine gB (S' := T29.setTop (mkF m 76 #[rv x0, iv 2] [(.ref b29), (.ref x0)])) ?_ st29
  have A6 := la_6 hw
  have q30 := ((own_o ((own_o (own_o (own_o ((own_o ((own_o ((own_o (pre_F_x0_potentials.ext E2) W5 A6 A1).ext E6) W9 A6 A2).ext E10) W13 A6 A3).ext E14) W17 A6 A4) W20 A6 A19) W23 A6 A20).ext E25) W28 A6 A5).ext E29)
  have q31 := ((q27.wr W28).ext E29)
  refine g_putF X29 K e29 26 rfl q30 q31 (Or.inr ⟨(hw _ (im 27 rfl)), rfl, hnm⟩) (hw _ (im 3 rfl)) (ty := (.array .long)) (by decide) rfl rfl d1_76 fun T32 h32 X32 e32 W32 Fw32 => ?_
  have N32 := Fr.snoc X32 N28 g_x0
  have KK32 := KK29.wr W32 (Or.inl (List.mem_of_getElem? (i := 0) rfl))
  refine g_aloadN X32 K d1_79 rfl rfl (g_iloadN X32 K d1_80 rfl ?_)
  obtain ⟨T33, h33, k33, X33, e33, E33, A33, st33⟩ := newP X32 hx hZ (hw _ (im 0 rfl)) e32 (g := (mkF m 81 #[rv x0, iv 2] [(.int 2), (.ref x0)])) rfl (hb hby d1_81) rfl (by decide) (cap := 2) (by decide) (by decide) (by decide) (by decide)
  obtain ⟨b33, g33⟩ : ∃ z, z = h32.size := ⟨_, rfl⟩
  rw [← g33] at A33 st33
  have ge_b33 : n0 ≤ b33 := Nat.le_trans (Nat.le_trans Z0 KK32.1) (Nat.le_of_eq g33.symm)
  have sz_b33 : h0.size ≤ b33 := Nat.le_trans KK32.1 (Nat.le_of_eq g33.symm)
  have KK33 := KK32.ext E33
  have V33 : Arv Z h33 b33 k33 .long (2 : Int32) [(.long 0), (.long 0)] (.long 0) := (Arv.new A33 (by decide)).pad (pad_rep [] (.long 0) 2)
  refine gB (S' := T33.setTop (mkF m 83 #[rv x0, iv 2] [(.ref b33), (.ref x0)])) ?_ st33
  have A7 := la_7 hw
  have q34 := ((own_o ((own_o ((own_o (own_o (own_o ((own_o ((own_o ((own_o (pre_F_x0_distances.ext E2) W5 A7 A1).ext E6) W9 A7 A2).ext E10) W13 A7 A3).ext E14) W17 A7 A4) W20 A7 A19) W23 A7 A20).ext E25) W28 A7 A5).ext E29) W32 A7 A6).ext E33)
  have q35 := ((q31.wr W32).ext E33)
  refine g_putF X33 K e33 28 rfl q34 q35 (Or.inr ⟨(hw _ (im 29 rfl)), rfl, hnm⟩) (hw _ (im 3 rfl)) (ty := (.array .long)) (by decide) rfl rfl d1_83 fun T36 h36 X36 e36 W36 Fw36 => ?_
  have N36 := Fr.snoc X36 N32 g_x0
  have KK36 := KK33.wr W36 (Or.inl (List.mem_of_getElem? (i := 0) rfl))
  refine g_aloadN X36 K d1_86 rfl rfl (g_iloadN X36 K d1_87 rfl ?_)
  obtain ⟨T37, h37, k37, X37, e37, E37, A37, st37⟩ := newP X36 hx hZ (hw _ (im 11 rfl)) e36 (g := (mkF m 88 #[rv x0, iv 2] [(.int 2), (.ref x0)])) rfl (hb hby d1_88) rfl (by decide) (cap := 2) (by decide) (by decide) (by decide) (by decide)
  obtain ⟨b37, g37⟩ : ∃ z, z = h36.size := ⟨_, rfl⟩
  rw [← g37] at A37 st37
  have ge_b37 : n0 ≤ b37 := Nat.le_trans (Nat.le_trans Z0 KK36.1) (Nat.le_of_eq g37.symm)
  have sz_b37 : h0.size ≤ b37 := Nat.le_trans KK36.1 (Nat.le_of_eq g37.symm)
  have KK37 := KK36.ext E37
  have V37 : Arv Z h37 b37 k37 .int (2 : Int32) [(.int 0), (.int 0)] (.int 0) := (Arv.new A37 (by decide)).pad (pad_rep [] (.int 0) 2)
  refine gB (S' := T37.setTop (mkF m 90 #[rv x0, iv 2] [(.ref b37), (.ref x0)])) ?_ st37
  have A8 := la_8 hw
  have q38 := ((own_o ((own_o ((own_o ((own_o (own_o (own_o ((own_o ((own_o ((own_o (pre_F_x0_parents.ext E2) W5 A8 A1).ext E6) W9 A8 A2).ext E10) W13 A8 A3).ext E14) W17 A8 A4) W20 A8 A19) W23 A8 A20).ext E25) W28 A8 A5).ext E29) W32 A8 A6).ext E33) W36 A8 A7).ext E37)
  have q39 := ((q35.wr W36).ext E37)
  refine g_putF X37 K e37 30 rfl q38 q39 (Or.inr ⟨(hw _ (im 31 rfl)), rfl, hnm⟩) (hw _ (im 3 rfl)) (ty := (.array .int)) (by decide) rfl rfl d1_90 fun T40 h40 X40 e40 W40 Fw40 => ?_
  have N40 := Fr.snoc X40 N36 g_x0
  have KK40 := KK37.wr W40 (Or.inl (List.mem_of_getElem? (i := 0) rfl))
  refine g_aloadN X40 K d1_93 rfl rfl ?_
  obtain ⟨T41, h41, X41, e41, E41, A41, D41, -, st41⟩ := newO X40 hx hZ hown (hw _ (im 32 rfl)) (hw _ (im 33 rfl)) (hw _ (im 34 rfl)) e40 (g := (mkF m 94 #[rv x0, iv 2] [(.ref x0)])) rfl (hb hby d1_94) (by decide) (by decide)
  obtain ⟨b41, g41⟩ : ∃ z, z = h40.size := ⟨_, rfl⟩
  rw [← g41] at A41 D41 st41
  have ge_b41 : n0 ≤ b41 := Nat.le_trans (Nat.le_trans Z0 KK40.1) (Nat.le_of_eq g41.symm)
  have sz_b41 : h0.size ≤ b41 := Nat.le_trans KK40.1 (Nat.le_of_eq g41.symm)
  have KK41 := KK40.ext E41
  have F41_keys : Fld Z h41 b41 "com/example/violarc/violarc/graph/NodeHeap" "keys" "[J" .null := D41 (Or.inr (hw _ (im 40 rfl))) (ty := (.array .long)) (by decide)
  have F41_nodes : Fld Z h41 b41 "com/example/violarc/violarc/graph/NodeHeap" "nodes" "[I" .null := D41 (Or.inr (hw _ (im 42 rfl))) (ty := (.array .int)) (by decide)
  have F41_positions : Fld Z h41 b41 "com/example/violarc/violarc/graph/NodeHeap" "positions" "[I" .null := D41 (Or.inr (hw _ (im 44 rfl))) (ty := (.array .int)) (by decide)
  have F41_size : Fld Z h41 b41 "com/example/violarc/violarc/graph/NodeHeap" "size" "I" (.int 0) := D41 (Or.inl (hw _ (im 170 rfl))) (ty := .int) (by decide)
  refine gB (S' := T41.setTop (mkF m 97 #[rv x0, iv 2] [(.ref b41), (.ref x0)])) ?_ st41
  refine g_dup X41 K d1_97 rfl ?_
  have q42 := ((own_o (Fw36.ext E37) W40 A7 A8).ext E41)
  refine g_ag X41 K e41 28 rfl q42 d1_98 d1_99 rfl fun T43 X43 e43 => ?_
  have q45 := (Nat.lt_of_lt_of_le (Nat.lt_of_lt_of_le (Nat.lt_of_lt_of_le (Nat.lt_of_lt_of_le (Nat.lt_of_lt_of_le (Nat.lt_of_lt_of_le (Nat.lt_of_lt_of_le (Nat.lt_of_lt_of_le (Nat.lt_of_lt_of_le (Nat.lt_of_lt_of_le (Nat.lt_of_lt_of_le (Nat.lt_of_lt_of_le (Nat.lt_of_lt_of_le (Nat.lt_of_lt_of_le pre_E_x0.lt E2.1) (Nat.le_of_eq W5.size.symm)) E6.1) (Nat.le_of_eq W9.size.symm)) E10.1) (Nat.le_of_eq W13.size.symm)) E14.1) (Nat.le_of_eq W17.size.symm)) (Nat.le_of_eq W20.size.symm)) (Nat.le_of_eq W23.size.symm)) E25.1) (Nat.le_of_eq W28.size.symm)) E29.1) (Nat.le_of_eq W32.size.symm))
  have ne44 : x0 ≠ b33 := Nat.ne_of_lt (Nat.lt_of_lt_of_le q45 (Nat.le_of_eq g33.symm))
  have q46 := ((((V33.other W36 (Ne.symm ne44)).ext E37).other W40 (Ne.symm ne44)).ext E41)
  have q48 := (Nat.lt_of_lt_of_le (Nat.lt_of_lt_of_le (Nat.lt_of_lt_of_le V33.lt (Nat.le_of_eq W36.size.symm)) E37.1) (Nat.le_of_eq W40.size.symm))
  have ne47 : b33 ≠ b41 := Nat.ne_of_lt (Nat.lt_of_lt_of_le q48 (Nat.le_of_eq g41.symm))
  obtain ⟨_, _, ⟨T49, L49, k49, n49⟩, -, X49, ⟨Lc49, hQ49, l49, y49, z49⟩, st49⟩ := X43.specialBack hx (y := (⟨"com/example/violarc/violarc/graph/NodeHeap", "<init>", "([J)V"⟩ : MethodName)) rfl hown (mvT hZ (hw _ (im 35 rfl))) (mvT hZ (hw _ (im 36 rfl))) (mvT hZ (hw _ (im 37 rfl))) (by decide) (backOf (W := 2) (rm3 l Z a0 hw b41 b33 k33 (0 : Int64) (0 : Int64) h41 n0 (Nat.le_trans Z0 KK41.1) A41 F41_keys F41_nodes F41_positions F41_size ge_b41 q46 (Ne.symm ne47)) hZ (hw _ (im 37 rfl)) (hw _ (im 34 rfl)) (by decide) (by decide)) (g := (mkF m 102 #[rv x0, iv 2] [(.ref b33), (.ref b41), (.ref b41), (.ref x0)])) rfl (by rw [hml]; rfl) (Steps.refl _) (a := b41) (argsL := [(.ref b33)]) (rest := [(.ref b41), (.ref x0)]) (lenOf pd_1 rfl) rfl (by show 2 * 0 + _ ≤ _; exact Nat.le_of_eq rfl) (hb hby d1_102) (fun _ _ => ⟨rfl, e43, (by decide : 9 + 2 ≤ _), (by decide : 76 + 4 ≤ _)⟩)
  dsimp only [Pt.U, Pt.locs, Pt.cells, Pt.slots] at X49 l49 y49 z49 st49 hQ49
  subst l49 y49 z49
  obtain ⟨hn_49, hq_49, khn_49, khq_49, rfl, N49q, K49, r49_0, r49_1, r49_2, r49_3, r49_4, r49_5, r49_6, r49_7, r49_8, r49_9, r49_10, r49_11, r49_12⟩ := hQ49
  have N49 := Fr.app N40 N49q
  have KK49 := KK41.trans K49 (allS (Or.inr sz_b41) all0)
  have szz_hn_49 : h0.size ≤ hn_49 := Nat.le_trans KK41.1 r49_7
  have szz_hq_49 : h0.size ≤ hq_49 := Nat.le_trans KK41.1 r49_8
  refine gB (S' := T49.setTop (mkF m 105 #[rv x0, iv 2] [(.ref b41), (.ref x0)])) ?_ fun _ => st49.trans
  have A9 := la_9 hw
  have q51 := (Nat.lt_of_lt_of_le (Nat.lt_of_lt_of_le (Nat.lt_of_lt_of_le (Nat.lt_of_lt_of_le q45 E33.1) (Nat.le_of_eq W36.size.symm)) E37.1) (Nat.le_of_eq W40.size.symm))
  have ne50 : x0 ≠ b41 := Nat.ne_of_lt (Nat.lt_of_lt_of_le q51 (Nat.le_of_eq g41.symm))
  have ni52 := (ninS ne50 nin0)
  have q53 := (((own_o ((own_o ((own_o ((own_o ((own_o (own_o (own_o ((own_o ((own_o ((own_o (pre_F_x0_heap.ext E2) W5 A9 A1).ext E6) W9 A9 A2).ext E10) W13 A9 A3).ext E14) W17 A9 A4) W20 A9 A19) W23 A9 A20).ext E25) W28 A9 A5).ext E29) W32 A9 A6).ext E33) W36 A9 A7).ext E37) W40 A9 A8).ext E41).keep K49 ni52)
  have q54 := (((q39.wr W40).ext E41).keep K49)
  refine g_putF X49 K rfl 49 rfl q53 q54 (Or.inr ⟨(hw _ (im 50 rfl)), rfl, hnm⟩) (hw _ (im 3 rfl)) (ty := (.object "com/example/violarc/violarc/graph/NodeHeap")) (by decide) rfl rfl d1_105 fun T55 h55 X55 e55 W55 Fw55 => ?_
  have N55 := Fr.snoc X55 N49 g_x0
  have KK55 := KK49.wr W55 (Or.inl (List.mem_of_getElem? (i := 0) rfl))
  refine g_aloadN X55 K d1_108 rfl rfl (g_iloadN X55 K d1_109 rfl ?_)
  obtain ⟨T56, h56, k56, X56, e56, E56, A56, st56⟩ := newP X55 hx hZ (hw _ (im 11 rfl)) e55 (g := (mkF m 110 #[rv x0, iv 2] [(.int 2), (.ref x0)])) rfl (hb hby d1_110) rfl (by decide) (cap := 2) (by decide) (by decide) (by decide) (by decide)
  obtain ⟨b56, g56⟩ : ∃ z, z = h55.size := ⟨_, rfl⟩
  rw [← g56] at A56 st56
  have ge_b56 : n0 ≤ b56 := Nat.le_trans (Nat.le_trans Z0 KK55.1) (Nat.le_of_eq g56.symm)
  have sz_b56 : h0.size ≤ b56 := Nat.le_trans KK55.1 (Nat.le_of_eq g56.symm)
  have KK56 := KK55.ext E56
  have V56 : Arv Z h56 b56 k56 .int (2 : Int32) [(.int 0), (.int 0)] (.int 0) := (Arv.new A56 (by decide)).pad (pad_rep [] (.int 0) 2)
  refine gB (S' := T56.setTop (mkF m 112 #[rv x0, iv 2] [(.ref b56), (.ref x0)])) ?_ st56
  have A10 := la_10 hw
  have q57 := ((own_o (((own_o ((own_o ((own_o ((own_o ((own_o (own_o (own_o ((own_o ((own_o ((own_o (pre_F_x0_queue.ext E2) W5 A10 A1).ext E6) W9 A10 A2).ext E10) W13 A10 A3).ext E14) W17 A10 A4) W20 A10 A19) W23 A10 A20).ext E25) W28 A10 A5).ext E29) W32 A10 A6).ext E33) W36 A10 A7).ext E37) W40 A10 A8).ext E41).keep K49 ni52) W55 A10 A9).ext E56)
  have q58 := ((q54.wr W55).ext E56)
  refine g_putF X56 K e56 51 rfl q57 q58 (Or.inr ⟨(hw _ (im 52 rfl)), rfl, hnm⟩) (hw _ (im 3 rfl)) (ty := (.array .int)) (by decide) rfl rfl d1_112 fun T59 h59 X59 e59 W59 Fw59 => ?_
  have N59 := Fr.snoc X59 N55 g_x0
  have KK59 := KK56.wr W59 (Or.inl (List.mem_of_getElem? (i := 0) rfl))
  refine g_aloadN X59 K d1_115 rfl rfl (g_iloadN X59 K d1_116 rfl ?_)
  obtain ⟨T60, h60, k60, X60, e60, E60, A60, st60⟩ := newP X59 hx hZ (hw _ (im 53 rfl)) e59 (g := (mkF m 117 #[rv x0, iv 2] [(.int 2), (.ref x0)])) rfl (hb hby d1_117) rfl (by decide) (cap := 2) (by decide) (by decide) (by decide) (by decide)
  obtain ⟨b60, g60⟩ : ∃ z, z = h59.size := ⟨_, rfl⟩
  rw [← g60] at A60 st60
  have ge_b60 : n0 ≤ b60 := Nat.le_trans (Nat.le_trans Z0 KK59.1) (Nat.le_of_eq g60.symm)
  have sz_b60 : h0.size ≤ b60 := Nat.le_trans KK59.1 (Nat.le_of_eq g60.symm)
  have KK60 := KK59.ext E60
  have V60 : Arv Z h60 b60 k60 .boolean (2 : Int32) [(.int 0), (.int 0)] (.int 0) := (Arv.new A60 (by decide)).pad (pad_rep [] (.int 0) 2)
  refine gB (S' := T60.setTop (mkF m 119 #[rv x0, iv 2] [(.ref b60), (.ref x0)])) ?_ st60
  have A11 := la_11 hw
  have q61 := ((own_o ((own_o (((own_o ((own_o ((own_o ((own_o ((own_o (own_o (own_o ((own_o ((own_o ((own_o (pre_F_x0_queued.ext E2) W5 A11 A1).ext E6) W9 A11 A2).ext E10) W13 A11 A3).ext E14) W17 A11 A4) W20 A11 A19) W23 A11 A20).ext E25) W28 A11 A5).ext E29) W32 A11 A6).ext E33) W36 A11 A7).ext E37) W40 A11 A8).ext E41).keep K49 ni52) W55 A11 A9).ext E56) W59 A11 A10).ext E60)
  have q62 := ((q58.wr W59).ext E60)
  refine g_putF X60 K e60 54 rfl q61 q62 (Or.inr ⟨(hw _ (im 55 rfl)), rfl, hnm⟩) (hw _ (im 3 rfl)) (ty := (.array .boolean)) (by decide) rfl rfl d1_119 fun T63 h63 X63 e63 W63 Fw63 => ?_
  have N63 := Fr.snoc X63 N59 g_x0
  have KK63 := KK60.wr W63 (Or.inl (List.mem_of_getElem? (i := 0) rfl))
  refine g_aloadN X63 K d1_122 rfl rfl (g_iloadN X63 K d1_123 rfl ?_)
  obtain ⟨T64, h64, k64, X64, e64, E64, A64, st64⟩ := newP X63 hx hZ (hw _ (im 11 rfl)) e63 (g := (mkF m 124 #[rv x0, iv 2] [(.int 2), (.ref x0)])) rfl (hb hby d1_124) rfl (by decide) (cap := 2) (by decide) (by decide) (by decide) (by decide)
  obtain ⟨b64, g64⟩ : ∃ z, z = h63.size := ⟨_, rfl⟩
  rw [← g64] at A64 st64
  have ge_b64 : n0 ≤ b64 := Nat.le_trans (Nat.le_trans Z0 KK63.1) (Nat.le_of_eq g64.symm)
  have sz_b64 : h0.size ≤ b64 := Nat.le_trans KK63.1 (Nat.le_of_eq g64.symm)
  have KK64 := KK63.ext E64
  have V64 : Arv Z h64 b64 k64 .int (2 : Int32) [(.int 0), (.int 0)] (.int 0) := (Arv.new A64 (by decide)).pad (pad_rep [] (.int 0) 2)
  refine gB (S' := T64.setTop (mkF m 126 #[rv x0, iv 2] [(.ref b64), (.ref x0)])) ?_ st64
  have A12 := la_12 hw
  have q65 := ((own_o ((own_o ((own_o (((own_o ((own_o ((own_o ((own_o ((own_o (own_o (own_o ((own_o ((own_o ((own_o (pre_F_x0_lowered.ext E2) W5 A12 A1).ext E6) W9 A12 A2).ext E10) W13 A12 A3).ext E14) W17 A12 A4) W20 A12 A19) W23 A12 A20).ext E25) W28 A12 A5).ext E29) W32 A12 A6).ext E33) W36 A12 A7).ext E37) W40 A12 A8).ext E41).keep K49 ni52) W55 A12 A9).ext E56) W59 A12 A10).ext E60) W63 A12 A11).ext E64)
  have q66 := ((q62.wr W63).ext E64)
  refine g_putF X64 K e64 56 rfl q65 q66 (Or.inr ⟨(hw _ (im 57 rfl)), rfl, hnm⟩) (hw _ (im 3 rfl)) (ty := (.array .int)) (by decide) rfl rfl d1_126 fun T67 h67 X67 e67 W67 Fw67 => ?_
  have N67 := Fr.snoc X67 N63 g_x0
  have KK67 := KK64.wr W67 (Or.inl (List.mem_of_getElem? (i := 0) rfl))
  refine g_aloadN X67 K d1_129 rfl rfl (g_iloadN X67 K d1_130 rfl ?_)
  obtain ⟨T68, h68, k68, X68, e68, E68, A68, st68⟩ := newP X67 hx hZ (hw _ (im 11 rfl)) e67 (g := (mkF m 131 #[rv x0, iv 2] [(.int 2), (.ref x0)])) rfl (hb hby d1_131) rfl (by decide) (cap := 2) (by decide) (by decide) (by decide) (by decide)
  obtain ⟨b68, g68⟩ : ∃ z, z = h67.size := ⟨_, rfl⟩
  rw [← g68] at A68 st68
  have ge_b68 : n0 ≤ b68 := Nat.le_trans (Nat.le_trans Z0 KK67.1) (Nat.le_of_eq g68.symm)
  have sz_b68 : h0.size ≤ b68 := Nat.le_trans KK67.1 (Nat.le_of_eq g68.symm)
  have KK68 := KK67.ext E68
  have V68 : Arv Z h68 b68 k68 .int (2 : Int32) [(.int 0), (.int 0)] (.int 0) := (Arv.new A68 (by decide)).pad (pad_rep [] (.int 0) 2)
  refine gB (S' := T68.setTop (mkF m 133 #[rv x0, iv 2] [(.ref b68), (.ref x0)])) ?_ st68
  have A13 := la_13 hw
  have q69 := ((own_o ((own_o ((own_o ((own_o (((own_o ((own_o ((own_o ((own_o ((own_o (own_o (own_o ((own_o ((own_o ((own_o (pre_F_x0_stack.ext E2) W5 A13 A1).ext E6) W9 A13 A2).ext E10) W13 A13 A3).ext E14) W17 A13 A4) W20 A13 A19) W23 A13 A20).ext E25) W28 A13 A5).ext E29) W32 A13 A6).ext E33) W36 A13 A7).ext E37) W40 A13 A8).ext E41).keep K49 ni52) W55 A13 A9).ext E56) W59 A13 A10).ext E60) W63 A13 A11).ext E64) W67 A13 A12).ext E68)
  have q70 := ((q66.wr W67).ext E68)
  refine g_putF X68 K e68 58 rfl q69 q70 (Or.inr ⟨(hw _ (im 59 rfl)), rfl, hnm⟩) (hw _ (im 3 rfl)) (ty := (.array .int)) (by decide) rfl rfl d1_133 fun T71 h71 X71 e71 W71 Fw71 => ?_
  have N71 := Fr.snoc X71 N67 g_x0
  have KK71 := KK68.wr W71 (Or.inl (List.mem_of_getElem? (i := 0) rfl))
  refine g_aloadN X71 K d1_136 rfl rfl (g_iloadN X71 K d1_137 rfl ?_)
  obtain ⟨T72, h72, k72, X72, e72, E72, A72, st72⟩ := newP X71 hx hZ (hw _ (im 11 rfl)) e71 (g := (mkF m 138 #[rv x0, iv 2] [(.int 2), (.ref x0)])) rfl (hb hby d1_138) rfl (by decide) (cap := 2) (by decide) (by decide) (by decide) (by decide)
  obtain ⟨b72, g72⟩ : ∃ z, z = h71.size := ⟨_, rfl⟩
  rw [← g72] at A72 st72
  have ge_b72 : n0 ≤ b72 := Nat.le_trans (Nat.le_trans Z0 KK71.1) (Nat.le_of_eq g72.symm)
  have sz_b72 : h0.size ≤ b72 := Nat.le_trans KK71.1 (Nat.le_of_eq g72.symm)
  have KK72 := KK71.ext E72
  have V72 : Arv Z h72 b72 k72 .int (2 : Int32) [(.int 0), (.int 0)] (.int 0) := (Arv.new A72 (by decide)).pad (pad_rep [] (.int 0) 2)
  refine gB (S' := T72.setTop (mkF m 140 #[rv x0, iv 2] [(.ref b72), (.ref x0)])) ?_ st72
  have A14 := la_14 hw
  have q73 := ((own_o ((own_o ((own_o ((own_o ((own_o (((own_o ((own_o ((own_o ((own_o ((own_o (own_o (own_o ((own_o ((own_o ((own_o (pre_F_x0_cursors.ext E2) W5 A14 A1).ext E6) W9 A14 A2).ext E10) W13 A14 A3).ext E14) W17 A14 A4) W20 A14 A19) W23 A14 A20).ext E25) W28 A14 A5).ext E29) W32 A14 A6).ext E33) W36 A14 A7).ext E37) W40 A14 A8).ext E41).keep K49 ni52) W55 A14 A9).ext E56) W59 A14 A10).ext E60) W63 A14 A11).ext E64) W67 A14 A12).ext E68) W71 A14 A13).ext E72)
  have q74 := ((q70.wr W71).ext E72)
  refine g_putF X72 K e72 60 rfl q73 q74 (Or.inr ⟨(hw _ (im 61 rfl)), rfl, hnm⟩) (hw _ (im 3 rfl)) (ty := (.array .int)) (by decide) rfl rfl d1_140 fun T75 h75 X75 e75 W75 Fw75 => ?_
  have N75 := Fr.snoc X75 N71 g_x0
  have KK75 := KK72.wr W75 (Or.inl (List.mem_of_getElem? (i := 0) rfl))
  refine g_aloadN X75 K d1_143 rfl rfl (g_iloadN X75 K d1_144 rfl ?_)
  obtain ⟨T76, h76, k76, X76, e76, E76, A76, st76⟩ := newP X75 hx hZ (hw _ (im 0 rfl)) e75 (g := (mkF m 145 #[rv x0, iv 2] [(.int 2), (.ref x0)])) rfl (hb hby d1_145) rfl (by decide) (cap := 2) (by decide) (by decide) (by decide) (by decide)
  obtain ⟨b76, g76⟩ : ∃ z, z = h75.size := ⟨_, rfl⟩
  rw [← g76] at A76 st76
  have ge_b76 : n0 ≤ b76 := Nat.le_trans (Nat.le_trans Z0 KK75.1) (Nat.le_of_eq g76.symm)
  have sz_b76 : h0.size ≤ b76 := Nat.le_trans KK75.1 (Nat.le_of_eq g76.symm)
  have KK76 := KK75.ext E76
  have V76 : Arv Z h76 b76 k76 .long (2 : Int32) [(.long 0), (.long 0)] (.long 0) := (Arv.new A76 (by decide)).pad (pad_rep [] (.long 0) 2)
  refine gB (S' := T76.setTop (mkF m 147 #[rv x0, iv 2] [(.ref b76), (.ref x0)])) ?_ st76
  have A15 := la_15 hw
  have q77 := ((own_o ((own_o ((own_o ((own_o ((own_o ((own_o (((own_o ((own_o ((own_o ((own_o ((own_o (own_o (own_o ((own_o ((own_o ((own_o (pre_F_x0_visits.ext E2) W5 A15 A1).ext E6) W9 A15 A2).ext E10) W13 A15 A3).ext E14) W17 A15 A4) W20 A15 A19) W23 A15 A20).ext E25) W28 A15 A5).ext E29) W32 A15 A6).ext E33) W36 A15 A7).ext E37) W40 A15 A8).ext E41).keep K49 ni52) W55 A15 A9).ext E56) W59 A15 A10).ext E60) W63 A15 A11).ext E64) W67 A15 A12).ext E68) W71 A15 A13).ext E72) W75 A15 A14).ext E76)
  have q78 := ((q74.wr W75).ext E76)
  refine g_putF X76 K e76 62 rfl q77 q78 (Or.inr ⟨(hw _ (im 63 rfl)), rfl, hnm⟩) (hw _ (im 3 rfl)) (ty := (.array .long)) (by decide) rfl rfl d1_147 fun T79 h79 X79 e79 W79 Fw79 => ?_
  have N79 := Fr.snoc X79 N75 g_x0
  have KK79 := KK76.wr W79 (Or.inl (List.mem_of_getElem? (i := 0) rfl))
  have q80 := (own_o ((own_o ((own_o ((own_o ((own_o ((own_o ((own_o (((own_o ((own_o ((own_o (Fw28.ext E29) W32 A5 A6).ext E33) W36 A5 A7).ext E37) W40 A5 A8).ext E41).keep K49 ni52) W55 A5 A9).ext E56) W59 A5 A10).ext E60) W63 A5 A11).ext E64) W67 A5 A12).ext E68) W71 A5 A13).ext E72) W75 A5 A14).ext E76) W79 A5 A15)
  refine g_ag X79 K e79 24 rfl q80 d1_150 d1_151 rfl fun T81 X81 e81 => g_iconst X81 K d1_154 (z := -1) rfl ?_
  have ks82 := (Keep.refl h76 [x0, b41]).wr W79 (Or.inl (List.mem_of_getElem? (i := 0) rfl))
  have ks83 := ((Keep.refl h75 [x0, b41]).ext E76).trans ks82 (own_aw _)
  have ks84 := ((Keep.refl h72 [x0, b41]).wr W75 (Or.inl (List.mem_of_getElem? (i := 0) rfl))).trans ks83 (own_aw _)
  have ks85 := ((Keep.refl h71 [x0, b41]).ext E72).trans ks84 (own_aw _)
  have ks86 := ((Keep.refl h68 [x0, b41]).wr W71 (Or.inl (List.mem_of_getElem? (i := 0) rfl))).trans ks85 (own_aw _)
  have ks87 := ((Keep.refl h67 [x0, b41]).ext E68).trans ks86 (own_aw _)
  have ks88 := ((Keep.refl h64 [x0, b41]).wr W67 (Or.inl (List.mem_of_getElem? (i := 0) rfl))).trans ks87 (own_aw _)
  have ks89 := ((Keep.refl h63 [x0, b41]).ext E64).trans ks88 (own_aw _)
  have ks90 := ((Keep.refl h60 [x0, b41]).wr W63 (Or.inl (List.mem_of_getElem? (i := 0) rfl))).trans ks89 (own_aw _)
  have ks91 := ((Keep.refl h59 [x0, b41]).ext E60).trans ks90 (own_aw _)
  have ks92 := ((Keep.refl h56 [x0, b41]).wr W59 (Or.inl (List.mem_of_getElem? (i := 0) rfl))).trans ks91 (own_aw _)
  have ks93 := ((Keep.refl h55 [x0, b41]).ext E56).trans ks92 (own_aw _)
  have ks94 := ((Keep.refl T49.heap [x0, b41]).wr W55 (Or.inl (List.mem_of_getElem? (i := 0) rfl))).trans ks93 (own_aw _)
  have ks95 := ((Keep.refl h41 [x0, b41]).trans K49 (allS (Or.inl (List.mem_of_getElem? (i := 1) rfl)) all0)).trans ks94 (own_aw _)
  have ks96 := ((Keep.refl h40 [x0, b41]).ext E41).trans ks95 (own_aw _)
  have ks97 := ((Keep.refl h37 [x0, b41]).wr W40 (Or.inl (List.mem_of_getElem? (i := 0) rfl))).trans ks96 (own_aw _)
  have ks98 := ((Keep.refl h36 [x0, b41]).ext E37).trans ks97 (own_aw _)
  have ks99 := ((Keep.refl h33 [x0, b41]).wr W36 (Or.inl (List.mem_of_getElem? (i := 0) rfl))).trans ks98 (own_aw _)
  have ks100 := ((Keep.refl h32 [x0, b41]).ext E33).trans ks99 (own_aw _)
  have ks101 := ((Keep.refl h29 [x0, b41]).wr W32 (Or.inl (List.mem_of_getElem? (i := 0) rfl))).trans ks100 (own_aw _)
  have ks102 := ((Keep.refl h28 [x0, b41]).ext E29).trans ks101 (own_aw _)
  have ks103 := ((Keep.refl h25 [x0, b41]).wr W28 (Or.inl (List.mem_of_getElem? (i := 0) rfl))).trans ks102 (own_aw _)
  have q105 := (Nat.lt_of_lt_of_le (Nat.lt_of_lt_of_le (Nat.lt_of_lt_of_le (Nat.lt_of_lt_of_le (Nat.lt_of_lt_of_le (Nat.lt_of_lt_of_le (Nat.lt_of_lt_of_le V25.lt (Nat.le_of_eq W28.size.symm)) E29.1) (Nat.le_of_eq W32.size.symm)) E33.1) (Nat.le_of_eq W36.size.symm)) E37.1) (Nat.le_of_eq W40.size.symm))
  have ne104 : b25 ≠ b41 := Nat.ne_of_lt (Nat.lt_of_lt_of_le q105 (Nat.le_of_eq g41.symm))
  have q107 := (Nat.lt_of_lt_of_le (Nat.lt_of_lt_of_le (Nat.lt_of_lt_of_le (Nat.lt_of_lt_of_le (Nat.lt_of_lt_of_le (Nat.lt_of_lt_of_le (Nat.lt_of_lt_of_le (Nat.lt_of_lt_of_le (Nat.lt_of_lt_of_le (Nat.lt_of_lt_of_le pre_E_x0.lt E2.1) (Nat.le_of_eq W5.size.symm)) E6.1) (Nat.le_of_eq W9.size.symm)) E10.1) (Nat.le_of_eq W13.size.symm)) E14.1) (Nat.le_of_eq W17.size.symm)) (Nat.le_of_eq W20.size.symm)) (Nat.le_of_eq W23.size.symm))
  have ne106 : x0 ≠ b25 := Nat.ne_of_lt (Nat.lt_of_lt_of_le q107 (Nat.le_of_eq g25.symm))
  have ni108 := (ninS (Ne.symm ne106) (ninS ne104 nin0))
  refine g_callS X81 K e81 64 46 47 48 rfl rfl rfl rfl (by decide) (rm4 l Z a0 hw (-1 : Int32) h79 n0 (Nat.le_trans Z0 KK79.1) (V25.keep ks103 ni108) ge_b25) d1_155 hml.symm (argsL := [(.ref b25), (.int (-1))]) (lenOf pd_0 rfl) rfl 0 (Nat.le_of_ble_eq_true rfl) (by decide) fun v109 T109 Lc109 hQ109 X109 => ?_
  obtain ⟨rfl, N109q, K109, r109_0⟩ := hQ109
  have N109 := Fr.app N79 N109q
  have KK109 := KK79.trans K109 (allS (Or.inr sz_b25) all0)
  dsimp only [Option.toList, List.cons_append, List.nil_append]
  have q110 := ((q78.wr W79).keep K109)
  have ni111 := (ninS ne106 nin0)
  have q112 := ((own_o ((own_o ((own_o ((own_o ((own_o ((own_o ((own_o (((own_o ((own_o ((own_o ((own_o ((own_o (own_o (own_o ((own_o ((own_o (Fw5.ext E6) W9 A1 A2).ext E10) W13 A1 A3).ext E14) W17 A1 A4) W20 A1 A19) W23 A1 A20).ext E25) W28 A1 A5).ext E29) W32 A1 A6).ext E33) W36 A1 A7).ext E37) W40 A1 A8).ext E41).keep K49 ni52) W55 A1 A9).ext E56) W59 A1 A10).ext E60) W63 A1 A11).ext E64) W67 A1 A12).ext E68) W71 A1 A13).ext E72) W75 A1 A14).ext E76) W79 A1 A15).keep K109 ni111)
  have q113 := ((own_o ((own_o ((own_o ((own_o ((own_o ((own_o ((own_o (((own_o ((own_o ((own_o ((own_o ((own_o (own_o (own_o ((own_o (Fw9.ext E10) W13 A2 A3).ext E14) W17 A2 A4) W20 A2 A19) W23 A2 A20).ext E25) W28 A2 A5).ext E29) W32 A2 A6).ext E33) W36 A2 A7).ext E37) W40 A2 A8).ext E41).keep K49 ni52) W55 A2 A9).ext E56) W59 A2 A10).ext E60) W63 A2 A11).ext E64) W67 A2 A12).ext E68) W71 A2 A13).ext E72) W75 A2 A14).ext E76) W79 A2 A15).keep K109 ni111)
  have q114 := ((own_o ((own_o ((own_o ((own_o ((own_o ((own_o ((own_o (((own_o ((own_o ((own_o ((own_o ((own_o (own_o (own_o (Fw13.ext E14) W17 A3 A4) W20 A3 A19) W23 A3 A20).ext E25) W28 A3 A5).ext E29) W32 A3 A6).ext E33) W36 A3 A7).ext E37) W40 A3 A8).ext E41).keep K49 ni52) W55 A3 A9).ext E56) W59 A3 A10).ext E60) W63 A3 A11).ext E64) W67 A3 A12).ext E68) W71 A3 A13).ext E72) W75 A3 A14).ext E76) W79 A3 A15).keep K109 ni111)
  have q115 := ((own_o ((own_o ((own_o ((own_o ((own_o ((own_o ((own_o (((own_o ((own_o ((own_o ((own_o ((own_o (own_o Fw17 W20 A4 A19) W23 A4 A20).ext E25) W28 A4 A5).ext E29) W32 A4 A6).ext E33) W36 A4 A7).ext E37) W40 A4 A8).ext E41).keep K49 ni52) W55 A4 A9).ext E56) W59 A4 A10).ext E60) W63 A4 A11).ext E64) W67 A4 A12).ext E68) W71 A4 A13).ext E72) W75 A4 A14).ext E76) W79 A4 A15).keep K109 ni111)
  have q116 := (q80.keep K109 ni111)
  have q117 := ((own_o ((own_o ((own_o ((own_o ((own_o ((own_o ((own_o (((own_o ((own_o (Fw32.ext E33) W36 A6 A7).ext E37) W40 A6 A8).ext E41).keep K49 ni52) W55 A6 A9).ext E56) W59 A6 A10).ext E60) W63 A6 A11).ext E64) W67 A6 A12).ext E68) W71 A6 A13).ext E72) W75 A6 A14).ext E76) W79 A6 A15).keep K109 ni111)
  have q118 := ((own_o ((own_o ((own_o ((own_o ((own_o ((own_o ((own_o (q42.keep K49 ni52) W55 A7 A9).ext E56) W59 A7 A10).ext E60) W63 A7 A11).ext E64) W67 A7 A12).ext E68) W71 A7 A13).ext E72) W75 A7 A14).ext E76) W79 A7 A15).keep K109 ni111)
  have q119 := ((own_o ((own_o ((own_o ((own_o ((own_o ((own_o ((own_o ((Fw40.ext E41).keep K49 ni52) W55 A8 A9).ext E56) W59 A8 A10).ext E60) W63 A8 A11).ext E64) W67 A8 A12).ext E68) W71 A8 A13).ext E72) W75 A8 A14).ext E76) W79 A8 A15).keep K109 ni111)
  have q120 := ((own_o ((own_o ((own_o ((own_o ((own_o ((own_o (Fw55.ext E56) W59 A9 A10).ext E60) W63 A9 A11).ext E64) W67 A9 A12).ext E68) W71 A9 A13).ext E72) W75 A9 A14).ext E76) W79 A9 A15).keep K109 ni111)
  have q121 := ((own_o ((own_o ((own_o ((own_o ((own_o (Fw59.ext E60) W63 A10 A11).ext E64) W67 A10 A12).ext E68) W71 A10 A13).ext E72) W75 A10 A14).ext E76) W79 A10 A15).keep K109 ni111)
  have q122 := ((own_o ((own_o ((own_o ((own_o (Fw63.ext E64) W67 A11 A12).ext E68) W71 A11 A13).ext E72) W75 A11 A14).ext E76) W79 A11 A15).keep K109 ni111)
  have q123 := ((own_o ((own_o ((own_o (Fw67.ext E68) W71 A12 A13).ext E72) W75 A12 A14).ext E76) W79 A12 A15).keep K109 ni111)
  have q124 := ((own_o ((own_o (Fw71.ext E72) W75 A13 A14).ext E76) W79 A13 A15).keep K109 ni111)
  have q125 := ((own_o (Fw75.ext E76) W79 A14 A15).keep K109 ni111)
  have q126 := (Fw79.keep K109 ni111)
  have A0 := la_0 hw
  have q127 := ((own_o ((own_o ((own_o ((own_o ((own_o ((own_o ((own_o (((own_o ((own_o ((own_o ((own_o ((own_o (own_o (own_o ((own_o ((own_o ((own_o (pre_F_x0_arcs.ext E2) W5 A0 A1).ext E6) W9 A0 A2).ext E10) W13 A0 A3).ext E14) W17 A0 A4) W20 A0 A19) W23 A0 A20).ext E25) W28 A0 A5).ext E29) W32 A0 A6).ext E33) W36 A0 A7).ext E37) W40 A0 A8).ext E41).keep K49 ni52) W55 A0 A9).ext E56) W59 A0 A10).ext E60) W63 A0 A11).ext E64) W67 A0 A12).ext E68) W71 A0 A13).ext E72) W75 A0 A14).ext E76) W79 A0 A15).keep K109 ni111)
  have A16 := la_16 hw
  have q128 := ((own_o ((own_o ((own_o ((own_o ((own_o ((own_o ((own_o (((own_o ((own_o ((own_o ((own_o ((own_o (own_o (own_o ((own_o ((own_o ((own_o (pre_F_x0_absoluteCosts.ext E2) W5 A16 A1).ext E6) W9 A16 A2).ext E10) W13 A16 A3).ext E14) W17 A16 A4) W20 A16 A19) W23 A16 A20).ext E25) W28 A16 A5).ext E29) W32 A16 A6).ext E33) W36 A16 A7).ext E37) W40 A16 A8).ext E41).keep K49 ni52) W55 A16 A9).ext E56) W59 A16 A10).ext E60) W63 A16 A11).ext E64) W67 A16 A12).ext E68) W71 A16 A13).ext E72) W75 A16 A14).ext E76) W79 A16 A15).keep K109 ni111)
  have A17 := la_17 hw
  have q129 := ((own_o ((own_o ((own_o ((own_o ((own_o ((own_o ((own_o (((own_o ((own_o ((own_o ((own_o ((own_o (own_o (own_o ((own_o ((own_o ((own_o (pre_F_x0_flowCost.ext E2) W5 A17 A1).ext E6) W9 A17 A2).ext E10) W13 A17 A3).ext E14) W17 A17 A4) W20 A17 A19) W23 A17 A20).ext E25) W28 A17 A5).ext E29) W32 A17 A6).ext E33) W36 A17 A7).ext E37) W40 A17 A8).ext E41).keep K49 ni52) W55 A17 A9).ext E56) W59 A17 A10).ext E60) W63 A17 A11).ext E64) W67 A17 A12).ext E68) W71 A17 A13).ext E72) W75 A17 A14).ext E76) W79 A17 A15).keep K109 ni111)
  have A18 := la_18 hw
  have q130 := ((own_o ((own_o ((own_o ((own_o ((own_o ((own_o ((own_o (((own_o ((own_o ((own_o ((own_o ((own_o (own_o (own_o ((own_o ((own_o ((own_o (pre_F_x0_valid.ext E2) W5 A18 A1).ext E6) W9 A18 A2).ext E10) W13 A18 A3).ext E14) W17 A18 A4) W20 A18 A19) W23 A18 A20).ext E25) W28 A18 A5).ext E29) W32 A18 A6).ext E33) W36 A18 A7).ext E37) W40 A18 A8).ext E41).keep K49 ni52) W55 A18 A9).ext E56) W59 A18 A10).ext E60) W63 A18 A11).ext E64) W67 A18 A12).ext E68) W71 A18 A13).ext E72) W75 A18 A14).ext E76) W79 A18 A15).keep K109 ni111)
  have q131 := ((own_o ((own_o ((own_o ((own_o ((own_o ((own_o ((own_o (((own_o ((own_o ((own_o ((own_o ((own_o Fw20 W23 A19 A20).ext E25) W28 A19 A5).ext E29) W32 A19 A6).ext E33) W36 A19 A7).ext E37) W40 A19 A8).ext E41).keep K49 ni52) W55 A19 A9).ext E56) W59 A19 A10).ext E60) W63 A19 A11).ext E64) W67 A19 A12).ext E68) W71 A19 A13).ext E72) W75 A19 A14).ext E76) W79 A19 A15).keep K109 ni111)
  have q132 := ((own_o ((own_o ((own_o ((own_o ((own_o ((own_o ((own_o (((own_o ((own_o ((own_o ((own_o (Fw23.ext E25) W28 A20 A5).ext E29) W32 A20 A6).ext E33) W36 A20 A7).ext E37) W40 A20 A8).ext E41).keep K49 ni52) W55 A20 A9).ext E56) W59 A20 A10).ext E60) W63 A20 A11).ext E64) W67 A20 A12).ext E68) W71 A20 A13).ext E72) W75 A20 A14).ext E76) W79 A20 A15).keep K109 ni111)
  have A21 := la_21 hw
  have q133 := ((own_o ((own_o ((own_o ((own_o ((own_o ((own_o ((own_o (((own_o ((own_o ((own_o ((own_o ((own_o (own_o (own_o ((own_o ((own_o ((own_o (pre_F_x0_visit.ext E2) W5 A21 A1).ext E6) W9 A21 A2).ext E10) W13 A21 A3).ext E14) W17 A21 A4) W20 A21 A19) W23 A21 A20).ext E25) W28 A21 A5).ext E29) W32 A21 A6).ext E33) W36 A21 A7).ext E37) W40 A21 A8).ext E41).keep K49 ni52) W55 A21 A9).ext E56) W59 A21 A10).ext E60) W63 A21 A11).ext E64) W67 A21 A12).ext E68) W71 A21 A13).ext E72) W75 A21 A14).ext E76) W79 A21 A15).keep K109 ni111)
  have q134 := (Nat.lt_of_lt_of_le V2.lt (Nat.le_of_eq W5.size.symm))
  have q135 := (Nat.lt_of_lt_of_le V6.lt (Nat.le_of_eq W9.size.symm))
  have q136 := (Nat.lt_of_lt_of_le V10.lt (Nat.le_of_eq W13.size.symm))
  have q137 := (Nat.lt_of_lt_of_le (Nat.lt_of_lt_of_le (Nat.lt_of_lt_of_le V14.lt (Nat.le_of_eq W17.size.symm)) (Nat.le_of_eq W20.size.symm)) (Nat.le_of_eq W23.size.symm))
  have q138 := (Nat.lt_of_lt_of_le V25.lt (Nat.le_of_eq W28.size.symm))
  have q139 := (Nat.lt_of_lt_of_le V29.lt (Nat.le_of_eq W32.size.symm))
  have q140 := (Nat.lt_of_lt_of_le V33.lt (Nat.le_of_eq W36.size.symm))
  have q141 := (Nat.lt_of_lt_of_le V37.lt (Nat.le_of_eq W40.size.symm))
  have q142 := (Nat.lt_of_lt_of_le r49_6.lt (Nat.le_of_eq W55.size.symm))
  have q143 := (Nat.lt_of_lt_of_le V56.lt (Nat.le_of_eq W59.size.symm))
  have q144 := (Nat.lt_of_lt_of_le V60.lt (Nat.le_of_eq W63.size.symm))
  have q145 := (Nat.lt_of_lt_of_le V64.lt (Nat.le_of_eq W67.size.symm))
  have q146 := (Nat.lt_of_lt_of_le V68.lt (Nat.le_of_eq W71.size.symm))
  have q147 := (Nat.lt_of_lt_of_le V72.lt (Nat.le_of_eq W75.size.symm))
  have q148 := ((((((((((((((r49_0.wr W55).ext E56).wr W59).ext E60).wr W63).ext E64).wr W67).ext E68).wr W71).ext E72).wr W75).ext E76).wr W79).keep K109)
  have ni149 := (ninS (Ne.symm ne104) nin0)
  have q150 := ((((((((((((((r49_1.other W55 (Or.inl (Ne.symm ne50))).ext E56).other W59 (Or.inl (Ne.symm ne50))).ext E60).other W63 (Or.inl (Ne.symm ne50))).ext E64).other W67 (Or.inl (Ne.symm ne50))).ext E68).other W71 (Or.inl (Ne.symm ne50))).ext E72).other W75 (Or.inl (Ne.symm ne50))).ext E76).other W79 (Or.inl (Ne.symm ne50))).keep K109 ni149)
  have q151 := ((((((((((((((r49_2.other W55 (Or.inl (Ne.symm ne50))).ext E56).other W59 (Or.inl (Ne.symm ne50))).ext E60).other W63 (Or.inl (Ne.symm ne50))).ext E64).other W67 (Or.inl (Ne.symm ne50))).ext E68).other W71 (Or.inl (Ne.symm ne50))).ext E72).other W75 (Or.inl (Ne.symm ne50))).ext E76).other W79 (Or.inl (Ne.symm ne50))).keep K109 ni149)
  have q152 := ((((((((((((((r49_3.other W55 (Or.inl (Ne.symm ne50))).ext E56).other W59 (Or.inl (Ne.symm ne50))).ext E60).other W63 (Or.inl (Ne.symm ne50))).ext E64).other W67 (Or.inl (Ne.symm ne50))).ext E68).other W71 (Or.inl (Ne.symm ne50))).ext E72).other W75 (Or.inl (Ne.symm ne50))).ext E76).other W79 (Or.inl (Ne.symm ne50))).keep K109 ni149)
  have q153 := ((((((((((((((r49_4.other W55 (Or.inl (Ne.symm ne50))).ext E56).other W59 (Or.inl (Ne.symm ne50))).ext E60).other W63 (Or.inl (Ne.symm ne50))).ext E64).other W67 (Or.inl (Ne.symm ne50))).ext E68).other W71 (Or.inl (Ne.symm ne50))).ext E72).other W75 (Or.inl (Ne.symm ne50))).ext E76).other W79 (Or.inl (Ne.symm ne50))).keep K109 ni149)
  have ne154 : x0 ≠ b2 := Nat.ne_of_lt (Nat.lt_of_lt_of_le pre_E_x0.lt (Nat.le_of_eq g2.symm))
  have q156 := (Nat.lt_of_lt_of_le (Nat.lt_of_lt_of_le (Nat.lt_of_lt_of_le (Nat.lt_of_lt_of_le (Nat.lt_of_lt_of_le (Nat.lt_of_lt_of_le (Nat.lt_of_lt_of_le (Nat.lt_of_lt_of_le (Nat.lt_of_lt_of_le (Nat.lt_of_lt_of_le (Nat.lt_of_lt_of_le (Nat.lt_of_lt_of_le (Nat.lt_of_lt_of_le (Nat.lt_of_lt_of_le (Nat.lt_of_lt_of_le (Nat.lt_of_lt_of_le q134 E6.1) (Nat.le_of_eq W9.size.symm)) E10.1) (Nat.le_of_eq W13.size.symm)) E14.1) (Nat.le_of_eq W17.size.symm)) (Nat.le_of_eq W20.size.symm)) (Nat.le_of_eq W23.size.symm)) E25.1) (Nat.le_of_eq W28.size.symm)) E29.1) (Nat.le_of_eq W32.size.symm)) E33.1) (Nat.le_of_eq W36.size.symm)) E37.1) (Nat.le_of_eq W40.size.symm))
  have ne155 : b2 ≠ b41 := Nat.ne_of_lt (Nat.lt_of_lt_of_le q156 (Nat.le_of_eq g41.symm))
  have ni157 := (ninS ne155 nin0)
  have q159 := (Nat.lt_of_lt_of_le (Nat.lt_of_lt_of_le (Nat.lt_of_lt_of_le (Nat.lt_of_lt_of_le (Nat.lt_of_lt_of_le (Nat.lt_of_lt_of_le (Nat.lt_of_lt_of_le (Nat.lt_of_lt_of_le q134 E6.1) (Nat.le_of_eq W9.size.symm)) E10.1) (Nat.le_of_eq W13.size.symm)) E14.1) (Nat.le_of_eq W17.size.symm)) (Nat.le_of_eq W20.size.symm)) (Nat.le_of_eq W23.size.symm))
  have ne158 : b2 ≠ b25 := Nat.ne_of_lt (Nat.lt_of_lt_of_le q159 (Nat.le_of_eq g25.symm))
  have ni160 := (ninS ne158 nin0)
  have q161 := (((((((((((((((((((((((((((((((((V2.other W5 (Ne.symm ne154)).ext E6).other W9 (Ne.symm ne154)).ext E10).other W13 (Ne.symm ne154)).ext E14).other W17 (Ne.symm ne154)).other W20 (Ne.symm ne154)).other W23 (Ne.symm ne154)).ext E25).other W28 (Ne.symm ne154)).ext E29).other W32 (Ne.symm ne154)).ext E33).other W36 (Ne.symm ne154)).ext E37).other W40 (Ne.symm ne154)).ext E41).keep K49 ni157).other W55 (Ne.symm ne154)).ext E56).other W59 (Ne.symm ne154)).ext E60).other W63 (Ne.symm ne154)).ext E64).other W67 (Ne.symm ne154)).ext E68).other W71 (Ne.symm ne154)).ext E72).other W75 (Ne.symm ne154)).ext E76).other W79 (Ne.symm ne154)).keep K109 ni160)
  have q163 := (Nat.lt_of_lt_of_le (Nat.lt_of_lt_of_le pre_E_x0.lt E2.1) (Nat.le_of_eq W5.size.symm))
  have ne162 : x0 ≠ b6 := Nat.ne_of_lt (Nat.lt_of_lt_of_le q163 (Nat.le_of_eq g6.symm))
  have q165 := (Nat.lt_of_lt_of_le (Nat.lt_of_lt_of_le (Nat.lt_of_lt_of_le (Nat.lt_of_lt_of_le (Nat.lt_of_lt_of_le (Nat.lt_of_lt_of_le (Nat.lt_of_lt_of_le (Nat.lt_of_lt_of_le (Nat.lt_of_lt_of_le (Nat.lt_of_lt_of_le (Nat.lt_of_lt_of_le (Nat.lt_of_lt_of_le (Nat.lt_of_lt_of_le (Nat.lt_of_lt_of_le q135 E10.1) (Nat.le_of_eq W13.size.symm)) E14.1) (Nat.le_of_eq W17.size.symm)) (Nat.le_of_eq W20.size.symm)) (Nat.le_of_eq W23.size.symm)) E25.1) (Nat.le_of_eq W28.size.symm)) E29.1) (Nat.le_of_eq W32.size.symm)) E33.1) (Nat.le_of_eq W36.size.symm)) E37.1) (Nat.le_of_eq W40.size.symm))
  have ne164 : b6 ≠ b41 := Nat.ne_of_lt (Nat.lt_of_lt_of_le q165 (Nat.le_of_eq g41.symm))
  have ni166 := (ninS ne164 nin0)
  have q168 := (Nat.lt_of_lt_of_le (Nat.lt_of_lt_of_le (Nat.lt_of_lt_of_le (Nat.lt_of_lt_of_le (Nat.lt_of_lt_of_le (Nat.lt_of_lt_of_le q135 E10.1) (Nat.le_of_eq W13.size.symm)) E14.1) (Nat.le_of_eq W17.size.symm)) (Nat.le_of_eq W20.size.symm)) (Nat.le_of_eq W23.size.symm))
  have ne167 : b6 ≠ b25 := Nat.ne_of_lt (Nat.lt_of_lt_of_le q168 (Nat.le_of_eq g25.symm))
  have ni169 := (ninS ne167 nin0)
  have q170 := (((((((((((((((((((((((((((((((V6.other W9 (Ne.symm ne162)).ext E10).other W13 (Ne.symm ne162)).ext E14).other W17 (Ne.symm ne162)).other W20 (Ne.symm ne162)).other W23 (Ne.symm ne162)).ext E25).other W28 (Ne.symm ne162)).ext E29).other W32 (Ne.symm ne162)).ext E33).other W36 (Ne.symm ne162)).ext E37).other W40 (Ne.symm ne162)).ext E41).keep K49 ni166).other W55 (Ne.symm ne162)).ext E56).other W59 (Ne.symm ne162)).ext E60).other W63 (Ne.symm ne162)).ext E64).other W67 (Ne.symm ne162)).ext E68).other W71 (Ne.symm ne162)).ext E72).other W75 (Ne.symm ne162)).ext E76).other W79 (Ne.symm ne162)).keep K109 ni169)
  have q172 := (Nat.lt_of_lt_of_le (Nat.lt_of_lt_of_le q163 E6.1) (Nat.le_of_eq W9.size.symm))
  have ne171 : x0 ≠ b10 := Nat.ne_of_lt (Nat.lt_of_lt_of_le q172 (Nat.le_of_eq g10.symm))
  have q174 := (Nat.lt_of_lt_of_le (Nat.lt_of_lt_of_le (Nat.lt_of_lt_of_le (Nat.lt_of_lt_of_le (Nat.lt_of_lt_of_le (Nat.lt_of_lt_of_le (Nat.lt_of_lt_of_le (Nat.lt_of_lt_of_le (Nat.lt_of_lt_of_le (Nat.lt_of_lt_of_le (Nat.lt_of_lt_of_le (Nat.lt_of_lt_of_le q136 E14.1) (Nat.le_of_eq W17.size.symm)) (Nat.le_of_eq W20.size.symm)) (Nat.le_of_eq W23.size.symm)) E25.1) (Nat.le_of_eq W28.size.symm)) E29.1) (Nat.le_of_eq W32.size.symm)) E33.1) (Nat.le_of_eq W36.size.symm)) E37.1) (Nat.le_of_eq W40.size.symm))
  have ne173 : b10 ≠ b41 := Nat.ne_of_lt (Nat.lt_of_lt_of_le q174 (Nat.le_of_eq g41.symm))
  have ni175 := (ninS ne173 nin0)
  have q177 := (Nat.lt_of_lt_of_le (Nat.lt_of_lt_of_le (Nat.lt_of_lt_of_le (Nat.lt_of_lt_of_le q136 E14.1) (Nat.le_of_eq W17.size.symm)) (Nat.le_of_eq W20.size.symm)) (Nat.le_of_eq W23.size.symm))
  have ne176 : b10 ≠ b25 := Nat.ne_of_lt (Nat.lt_of_lt_of_le q177 (Nat.le_of_eq g25.symm))
  have ni178 := (ninS ne176 nin0)
  have q179 := (((((((((((((((((((((((((((((V10.other W13 (Ne.symm ne171)).ext E14).other W17 (Ne.symm ne171)).other W20 (Ne.symm ne171)).other W23 (Ne.symm ne171)).ext E25).other W28 (Ne.symm ne171)).ext E29).other W32 (Ne.symm ne171)).ext E33).other W36 (Ne.symm ne171)).ext E37).other W40 (Ne.symm ne171)).ext E41).keep K49 ni175).other W55 (Ne.symm ne171)).ext E56).other W59 (Ne.symm ne171)).ext E60).other W63 (Ne.symm ne171)).ext E64).other W67 (Ne.symm ne171)).ext E68).other W71 (Ne.symm ne171)).ext E72).other W75 (Ne.symm ne171)).ext E76).other W79 (Ne.symm ne171)).keep K109 ni178)
  have q181 := (Nat.lt_of_lt_of_le (Nat.lt_of_lt_of_le q172 E10.1) (Nat.le_of_eq W13.size.symm))
  have ne180 : x0 ≠ b14 := Nat.ne_of_lt (Nat.lt_of_lt_of_le q181 (Nat.le_of_eq g14.symm))
  have q183 := (Nat.lt_of_lt_of_le (Nat.lt_of_lt_of_le (Nat.lt_of_lt_of_le (Nat.lt_of_lt_of_le (Nat.lt_of_lt_of_le (Nat.lt_of_lt_of_le (Nat.lt_of_lt_of_le (Nat.lt_of_lt_of_le q137 E25.1) (Nat.le_of_eq W28.size.symm)) E29.1) (Nat.le_of_eq W32.size.symm)) E33.1) (Nat.le_of_eq W36.size.symm)) E37.1) (Nat.le_of_eq W40.size.symm))
  have ne182 : b14 ≠ b41 := Nat.ne_of_lt (Nat.lt_of_lt_of_le q183 (Nat.le_of_eq g41.symm))
  have ni184 := (ninS ne182 nin0)
  have ne185 : b14 ≠ b25 := Nat.ne_of_lt (Nat.lt_of_lt_of_le q137 (Nat.le_of_eq g25.symm))
  have ni186 := (ninS ne185 nin0)
  have q187 := (((((((((((((((((((((((((((V14.other W17 (Ne.symm ne180)).other W20 (Ne.symm ne180)).other W23 (Ne.symm ne180)).ext E25).other W28 (Ne.symm ne180)).ext E29).other W32 (Ne.symm ne180)).ext E33).other W36 (Ne.symm ne180)).ext E37).other W40 (Ne.symm ne180)).ext E41).keep K49 ni184).other W55 (Ne.symm ne180)).ext E56).other W59 (Ne.symm ne180)).ext E60).other W63 (Ne.symm ne180)).ext E64).other W67 (Ne.symm ne180)).ext E68).other W71 (Ne.symm ne180)).ext E72).other W75 (Ne.symm ne180)).ext E76).other W79 (Ne.symm ne180)).keep K109 ni186)
  have q189 := (Nat.lt_of_lt_of_le (Nat.lt_of_lt_of_le q107 E25.1) (Nat.le_of_eq W28.size.symm))
  have ne188 : x0 ≠ b29 := Nat.ne_of_lt (Nat.lt_of_lt_of_le q189 (Nat.le_of_eq g29.symm))
  have q191 := (Nat.lt_of_lt_of_le (Nat.lt_of_lt_of_le (Nat.lt_of_lt_of_le (Nat.lt_of_lt_of_le q139 E33.1) (Nat.le_of_eq W36.size.symm)) E37.1) (Nat.le_of_eq W40.size.symm))
  have ne190 : b29 ≠ b41 := Nat.ne_of_lt (Nat.lt_of_lt_of_le q191 (Nat.le_of_eq g41.symm))
  have ni192 := (ninS ne190 nin0)
  have ne193 : b25 ≠ b29 := Nat.ne_of_lt (Nat.lt_of_lt_of_le q138 (Nat.le_of_eq g29.symm))
  have ni194 := (ninS (Ne.symm ne193) nin0)
  have q195 := (((((((((((((((((((((V29.other W32 (Ne.symm ne188)).ext E33).other W36 (Ne.symm ne188)).ext E37).other W40 (Ne.symm ne188)).ext E41).keep K49 ni192).other W55 (Ne.symm ne188)).ext E56).other W59 (Ne.symm ne188)).ext E60).other W63 (Ne.symm ne188)).ext E64).other W67 (Ne.symm ne188)).ext E68).other W71 (Ne.symm ne188)).ext E72).other W75 (Ne.symm ne188)).ext E76).other W79 (Ne.symm ne188)).keep K109 ni194)
  have ni196 := (ninS ne47 nin0)
  have q198 := (Nat.lt_of_lt_of_le (Nat.lt_of_lt_of_le q138 E29.1) (Nat.le_of_eq W32.size.symm))
  have ne197 : b25 ≠ b33 := Nat.ne_of_lt (Nat.lt_of_lt_of_le q198 (Nat.le_of_eq g33.symm))
  have ni199 := (ninS (Ne.symm ne197) nin0)
  have q200 := (((((((((((((((q46.keep K49 ni196).other W55 (Ne.symm ne44)).ext E56).other W59 (Ne.symm ne44)).ext E60).other W63 (Ne.symm ne44)).ext E64).other W67 (Ne.symm ne44)).ext E68).other W71 (Ne.symm ne44)).ext E72).other W75 (Ne.symm ne44)).ext E76).other W79 (Ne.symm ne44)).keep K109 ni199)
  have q202 := (Nat.lt_of_lt_of_le (Nat.lt_of_lt_of_le q45 E33.1) (Nat.le_of_eq W36.size.symm))
  have ne201 : x0 ≠ b37 := Nat.ne_of_lt (Nat.lt_of_lt_of_le q202 (Nat.le_of_eq g37.symm))
  have ne203 : b37 ≠ b41 := Nat.ne_of_lt (Nat.lt_of_lt_of_le q141 (Nat.le_of_eq g41.symm))
  have ni204 := (ninS ne203 nin0)
  have q206 := (Nat.lt_of_lt_of_le (Nat.lt_of_lt_of_le q198 E33.1) (Nat.le_of_eq W36.size.symm))
  have ne205 : b25 ≠ b37 := Nat.ne_of_lt (Nat.lt_of_lt_of_le q206 (Nat.le_of_eq g37.symm))
  have ni207 := (ninS (Ne.symm ne205) nin0)
  have q208 := (((((((((((((((((V37.other W40 (Ne.symm ne201)).ext E41).keep K49 ni204).other W55 (Ne.symm ne201)).ext E56).other W59 (Ne.symm ne201)).ext E60).other W63 (Ne.symm ne201)).ext E64).other W67 (Ne.symm ne201)).ext E68).other W71 (Ne.symm ne201)).ext E72).other W75 (Ne.symm ne201)).ext E76).other W79 (Ne.symm ne201)).keep K109 ni207)
  have ne209 : x0 ≠ hn_49 := Nat.ne_of_lt (Nat.lt_trans (Nat.lt_of_lt_of_le q51 (Nat.le_of_eq g41.symm)) r49_11)
  have ne210 : b25 ≠ hn_49 := Nat.ne_of_lt (Nat.lt_trans (Nat.lt_of_lt_of_le q105 (Nat.le_of_eq g41.symm)) r49_11)
  have ni211 := (ninS (Ne.symm ne210) nin0)
  have q212 := ((((((((((((((r49_5.other W55 (Ne.symm ne209)).ext E56).other W59 (Ne.symm ne209)).ext E60).other W63 (Ne.symm ne209)).ext E64).other W67 (Ne.symm ne209)).ext E68).other W71 (Ne.symm ne209)).ext E72).other W75 (Ne.symm ne209)).ext E76).other W79 (Ne.symm ne209)).keep K109 ni211)
  have ne213 : x0 ≠ hq_49 := Nat.ne_of_lt (Nat.lt_trans (Nat.lt_of_lt_of_le q51 (Nat.le_of_eq g41.symm)) (Nat.lt_trans r49_11 r49_12))
  have ne214 : b25 ≠ hq_49 := Nat.ne_of_lt (Nat.lt_trans (Nat.lt_of_lt_of_le q105 (Nat.le_of_eq g41.symm)) (Nat.lt_trans r49_11 r49_12))
  have ni215 := (ninS (Ne.symm ne214) nin0)
  have q216 := ((((((((((((((r49_6.other W55 (Ne.symm ne213)).ext E56).other W59 (Ne.symm ne213)).ext E60).other W63 (Ne.symm ne213)).ext E64).other W67 (Ne.symm ne213)).ext E68).other W71 (Ne.symm ne213)).ext E72).other W75 (Ne.symm ne213)).ext E76).other W79 (Ne.symm ne213)).keep K109 ni215)
  have q218 := (Nat.lt_of_lt_of_le (Nat.lt_of_lt_of_le (Nat.lt_of_lt_of_le q51 E41.1) K49.1) (Nat.le_of_eq W55.size.symm))
  have ne217 : x0 ≠ b56 := Nat.ne_of_lt (Nat.lt_of_lt_of_le q218 (Nat.le_of_eq g56.symm))
  have q220 := (Nat.lt_of_lt_of_le (Nat.lt_of_lt_of_le (Nat.lt_of_lt_of_le q105 E41.1) K49.1) (Nat.le_of_eq W55.size.symm))
  have ne219 : b25 ≠ b56 := Nat.ne_of_lt (Nat.lt_of_lt_of_le q220 (Nat.le_of_eq g56.symm))
  have ni221 := (ninS (Ne.symm ne219) nin0)
  have q222 := ((((((((((((V56.other W59 (Ne.symm ne217)).ext E60).other W63 (Ne.symm ne217)).ext E64).other W67 (Ne.symm ne217)).ext E68).other W71 (Ne.symm ne217)).ext E72).other W75 (Ne.symm ne217)).ext E76).other W79 (Ne.symm ne217)).keep K109 ni221)
  have q224 := (Nat.lt_of_lt_of_le (Nat.lt_of_lt_of_le q218 E56.1) (Nat.le_of_eq W59.size.symm))
  have ne223 : x0 ≠ b60 := Nat.ne_of_lt (Nat.lt_of_lt_of_le q224 (Nat.le_of_eq g60.symm))
  have q226 := (Nat.lt_of_lt_of_le (Nat.lt_of_lt_of_le q220 E56.1) (Nat.le_of_eq W59.size.symm))
  have ne225 : b25 ≠ b60 := Nat.ne_of_lt (Nat.lt_of_lt_of_le q226 (Nat.le_of_eq g60.symm))
  have ni227 := (ninS (Ne.symm ne225) nin0)
  have q228 := ((((((((((V60.other W63 (Ne.symm ne223)).ext E64).other W67 (Ne.symm ne223)).ext E68).other W71 (Ne.symm ne223)).ext E72).other W75 (Ne.symm ne223)).ext E76).other W79 (Ne.symm ne223)).keep K109 ni227)
  have q230 := (Nat.lt_of_lt_of_le (Nat.lt_of_lt_of_le q224 E60.1) (Nat.le_of_eq W63.size.symm))
  have ne229 : x0 ≠ b64 := Nat.ne_of_lt (Nat.lt_of_lt_of_le q230 (Nat.le_of_eq g64.symm))
  have q232 := (Nat.lt_of_lt_of_le (Nat.lt_of_lt_of_le q226 E60.1) (Nat.le_of_eq W63.size.symm))
  have ne231 : b25 ≠ b64 := Nat.ne_of_lt (Nat.lt_of_lt_of_le q232 (Nat.le_of_eq g64.symm))
  have ni233 := (ninS (Ne.symm ne231) nin0)
  have q234 := ((((((((V64.other W67 (Ne.symm ne229)).ext E68).other W71 (Ne.symm ne229)).ext E72).other W75 (Ne.symm ne229)).ext E76).other W79 (Ne.symm ne229)).keep K109 ni233)
  have q236 := (Nat.lt_of_lt_of_le (Nat.lt_of_lt_of_le q230 E64.1) (Nat.le_of_eq W67.size.symm))
  have ne235 : x0 ≠ b68 := Nat.ne_of_lt (Nat.lt_of_lt_of_le q236 (Nat.le_of_eq g68.symm))
  have q238 := (Nat.lt_of_lt_of_le (Nat.lt_of_lt_of_le q232 E64.1) (Nat.le_of_eq W67.size.symm))
  have ne237 : b25 ≠ b68 := Nat.ne_of_lt (Nat.lt_of_lt_of_le q238 (Nat.le_of_eq g68.symm))
  have ni239 := (ninS (Ne.symm ne237) nin0)
  have q240 := ((((((V68.other W71 (Ne.symm ne235)).ext E72).other W75 (Ne.symm ne235)).ext E76).other W79 (Ne.symm ne235)).keep K109 ni239)
  have q242 := (Nat.lt_of_lt_of_le (Nat.lt_of_lt_of_le q236 E68.1) (Nat.le_of_eq W71.size.symm))
  have ne241 : x0 ≠ b72 := Nat.ne_of_lt (Nat.lt_of_lt_of_le q242 (Nat.le_of_eq g72.symm))
  have q244 := (Nat.lt_of_lt_of_le (Nat.lt_of_lt_of_le q238 E68.1) (Nat.le_of_eq W71.size.symm))
  have ne243 : b25 ≠ b72 := Nat.ne_of_lt (Nat.lt_of_lt_of_le q244 (Nat.le_of_eq g72.symm))
  have ni245 := (ninS (Ne.symm ne243) nin0)
  have q246 := ((((V72.other W75 (Ne.symm ne241)).ext E76).other W79 (Ne.symm ne241)).keep K109 ni245)
  have q248 := (Nat.lt_of_lt_of_le (Nat.lt_of_lt_of_le q242 E72.1) (Nat.le_of_eq W75.size.symm))
  have ne247 : x0 ≠ b76 := Nat.ne_of_lt (Nat.lt_of_lt_of_le q248 (Nat.le_of_eq g76.symm))
  have q250 := (Nat.lt_of_lt_of_le (Nat.lt_of_lt_of_le q244 E72.1) (Nat.le_of_eq W75.size.symm))
  have ne249 : b25 ≠ b76 := Nat.ne_of_lt (Nat.lt_of_lt_of_le q250 (Nat.le_of_eq g76.symm))
  have ni251 := (ninS (Ne.symm ne249) nin0)
  have q252 := ((V76.other W79 (Ne.symm ne247)).keep K109 ni251)
  exact g_lv0 X109 K hlk hrt hR d1_158 (by decide) (⟨b2, b6, b10, b14, b25, b29, b33, b37, b41, hn_49, hq_49, b56, b60, b64, b68, b72, b76, k2, k6, k10, k14, k25, k29, k33, k37, khn_49, khq_49, k56, k60, k64, k68, k72, k76, rfl, N109, KK109, ⟨q110, q112, q113, q114, q115, q116, q117, q118, q119, q120, q121, q122, q123, q124, q125, q126, q127, q128, q129, q130, q131, q132, q133, g_x0, ⟨(Nat.lt_of_lt_of_le pre_E_x0.lt (Nat.le_of_eq g2.symm)), (Nat.lt_of_lt_of_le q134 (Nat.le_of_eq g6.symm)), (Nat.lt_of_lt_of_le q135 (Nat.le_of_eq g10.symm)), (Nat.lt_of_lt_of_le q136 (Nat.le_of_eq g14.symm)), (Nat.lt_of_lt_of_le q137 (Nat.le_of_eq g25.symm)), (Nat.lt_of_lt_of_le q138 (Nat.le_of_eq g29.symm)), (Nat.lt_of_lt_of_le q139 (Nat.le_of_eq g33.symm)), (Nat.lt_of_lt_of_le q140 (Nat.le_of_eq g37.symm)), (Nat.lt_of_lt_of_le q141 (Nat.le_of_eq g41.symm)), r49_11, r49_12, (Nat.lt_of_lt_of_le q142 (Nat.le_of_eq g56.symm)), (Nat.lt_of_lt_of_le q143 (Nat.le_of_eq g60.symm)), (Nat.lt_of_lt_of_le q144 (Nat.le_of_eq g64.symm)), (Nat.lt_of_lt_of_le q145 (Nat.le_of_eq g68.symm)), (Nat.lt_of_lt_of_le q146 (Nat.le_of_eq g72.symm)), (Nat.lt_of_lt_of_le q147 (Nat.le_of_eq g76.symm)), trivial⟩⟩, ⟨q148, q150, q151, q152, q153⟩, q161, q170, q179, q187, r109_0, q195, q200, q208, q212, q216, q222, q228, q234, q240, q246, q252⟩)
def Qckn0 (Z : State) (x0 : Addr) (fi : Addr) (kfi : ClassId) (fi0 : Int32) (fi1 : Int32) (h0 : Heap) (n0 : Nat) (v : Option Value) (h : Heap) (L : List Loc) : Prop := v = none ∧ Fr n0 L ∧ h = h0
theorem ef_ckn0 (m : MethodId) (x0 : Addr) : entryFrame m #[(.ref x0), (.int 0)] 2 = mkF m 0 #[rv x0, iv 0] [] := by first | (simp [entryFrame, mkF, argsToLocals, Value.category]; done) | rfl
set_option maxRecDepth 65536 in
set_option maxHeartbeats 40000000 in
theorem rmckn0 (l : Launch) (Z : State) (a0 : Array Value) (hw : ∀ d ∈ tables_1, d.before a0 Z = true) (x0 : Addr) {fi : Addr} {kfi : ClassId} {fi0 : Int32} {fi1 : Int32} (h0 : Heap) (n0 : Nat) (Z0 : n0 ≤ h0.size) (pre_F_x0_first : Fld Z h0 x0 "com/example/violarc/violarc/graph/FlowNetwork" "first" "[I" (.ref fi)) (pre_A_fi : Arv Z h0 fi kfi .int (2 : Int32) [(.int fi0), (.int fi1)] (.int 0)) :
    own_M l (⟨"com/example/violarc/violarc/graph/FlowNetwork", "checkNode", "(I)V"⟩ : MethodName) c6 2 none ({ frames := 0, cells := 0, slots := 0, locals := 0 } : Room) #[(.ref x0), (.int 0)] Z h0 (Qckn0 Z x0 fi kfi fi0 fi1 h0 n0) := by
  refine MetFree.of_bodySF (plainFor_of_name pn_6) hisR ?_
  intro p e s m args below meth c s₁ Bd hml0 hP hK
  obtain ⟨rfl, hZ, hh⟩ := hP
  have hx := Bd.exec
  have hby := Bd.bytes
  have hml : c.maxLocals = 2 := hml0
  have hown : s.vm.findClass "com/example/violarc/violarc/graph/FlowNetwork" = some m.cls := findClass_of_methodNamed Bd.named
  have hnm := (name_of_methodNamed Bd.named Bd.method).1
  have X0 : Stand p l e ({ frames := 0, cells := 0, slots := 0, locals := 0 } : Room) s m #[(.ref x0), (.int 0)] below meth c s₁ [] 0 0 := Stand.of_body Bd
  have e0 : s₁.heap = h0 := by rw [← hh, Bd.state]; rfl
  have N0 := Fr.nil n0
  have Kp0 := Keep.refl h0 []
  have hlk := BodyLoose.notSynchronized Bd
  have hrt := Bd.returns
  have K : own_K p c c6 Z s "com/example/violarc/violarc/graph/FlowNetwork" m a0 := ⟨hx, hby, hZ, hown, hw⟩
  refine gStart (S' := s₁.setTop (mkF m 0 #[rv x0, iv 0] [])) (congrArg (fun f => s₁.setTop f) (ef_ckn0 m x0)) fun Rp hR => ?_
  refine g_iloadN X0 K d6_0 rfl (g_ifN X0 K d6_1 ((if0 _ _).trans (flt (by decide)).1) (g_iloadN X0 K d6_4 rfl (g_ag X0 K e0 24 rfl pre_F_x0_first d6_5 d6_6 rfl fun T2 X2 e2 => g_len X2 K e2 pre_A_fi d6_9 (g_icY X2 K 27 d6_10 (by decide) (tlt (by decide)).1 ?_))))
  exact g_lv0 X2 K hlk hrt hR d6_27 (by decide) (by rw [e2]; exact ⟨rfl, N0, rfl⟩)
def Qckn1 (Z : State) (x0 : Addr) (fi : Addr) (kfi : ClassId) (fi0 : Int32) (fi1 : Int32) (h0 : Heap) (n0 : Nat) (v : Option Value) (h : Heap) (L : List Loc) : Prop := v = none ∧ Fr n0 L ∧ h = h0
theorem ef_ckn1 (m : MethodId) (x0 : Addr) : entryFrame m #[(.ref x0), (.int 1)] 2 = mkF m 0 #[rv x0, iv 1] [] := by first | (simp [entryFrame, mkF, argsToLocals, Value.category]; done) | rfl
set_option maxRecDepth 65536 in
set_option maxHeartbeats 40000000 in
theorem rmckn1 (l : Launch) (Z : State) (a0 : Array Value) (hw : ∀ d ∈ tables_1, d.before a0 Z = true) (x0 : Addr) {fi : Addr} {kfi : ClassId} {fi0 : Int32} {fi1 : Int32} (h0 : Heap) (n0 : Nat) (Z0 : n0 ≤ h0.size) (pre_F_x0_first : Fld Z h0 x0 "com/example/violarc/violarc/graph/FlowNetwork" "first" "[I" (.ref fi)) (pre_A_fi : Arv Z h0 fi kfi .int (2 : Int32) [(.int fi0), (.int fi1)] (.int 0)) :
    own_M l (⟨"com/example/violarc/violarc/graph/FlowNetwork", "checkNode", "(I)V"⟩ : MethodName) c6 2 none ({ frames := 0, cells := 0, slots := 0, locals := 0 } : Room) #[(.ref x0), (.int 1)] Z h0 (Qckn1 Z x0 fi kfi fi0 fi1 h0 n0) := by
  refine MetFree.of_bodySF (plainFor_of_name pn_6) hisR ?_
  intro p e s m args below meth c s₁ Bd hml0 hP hK
  obtain ⟨rfl, hZ, hh⟩ := hP
  have hx := Bd.exec
  have hby := Bd.bytes
  have hml : c.maxLocals = 2 := hml0
  have hown : s.vm.findClass "com/example/violarc/violarc/graph/FlowNetwork" = some m.cls := findClass_of_methodNamed Bd.named
  have hnm := (name_of_methodNamed Bd.named Bd.method).1
  have X0 : Stand p l e ({ frames := 0, cells := 0, slots := 0, locals := 0 } : Room) s m #[(.ref x0), (.int 1)] below meth c s₁ [] 0 0 := Stand.of_body Bd
  have e0 : s₁.heap = h0 := by rw [← hh, Bd.state]; rfl
  have N0 := Fr.nil n0
  have Kp0 := Keep.refl h0 []
  have hlk := BodyLoose.notSynchronized Bd
  have hrt := Bd.returns
  have K : own_K p c c6 Z s "com/example/violarc/violarc/graph/FlowNetwork" m a0 := ⟨hx, hby, hZ, hown, hw⟩
  refine gStart (S' := s₁.setTop (mkF m 0 #[rv x0, iv 1] [])) (congrArg (fun f => s₁.setTop f) (ef_ckn1 m x0)) fun Rp hR => ?_
  refine g_iloadN X0 K d6_0 rfl (g_ifN X0 K d6_1 ((if0 _ _).trans (flt (by decide)).1) (g_iloadN X0 K d6_4 rfl (g_ag X0 K e0 24 rfl pre_F_x0_first d6_5 d6_6 rfl fun T2 X2 e2 => g_len X2 K e2 pre_A_fi d6_9 (g_icY X2 K 27 d6_10 (by decide) (tlt (by decide)).1 ?_))))
  exact g_lv0 X2 K hlk hrt hR d6_27 (by decide) (by rw [e2]; exact ⟨rfl, N0, rfl⟩)
def Q7 (Z : State) (x0 : Int64) (h0 : Heap) (n0 : Nat) (v : Option Value) (h : Heap) (L : List Loc) : Prop := v = none ∧ Fr n0 L ∧ h = h0
theorem ef_7 (m : MethodId) (x0 : Int64) : entryFrame m #[(.long x0)] 2 = mkF m 0 #[lv x0, .second] [] := by first | (simp [entryFrame, mkF, argsToLocals, Value.category]; done) | rfl
set_option maxRecDepth 65536 in
set_option maxHeartbeats 40000000 in
theorem rm7 (l : Launch) (Z : State) (a0 : Array Value) (hw : ∀ d ∈ tables_1, d.before a0 Z = true) (x0 : Int64) (h0 : Heap) (n0 : Nat) (Z0 : n0 ≤ h0.size) (hcap : ¬ (x0 < (0 : Int64))) :
    own_M l (⟨"com/example/violarc/violarc/graph/FlowNetwork", "checkCapacity", "(J)V"⟩ : MethodName) c7 2 none ({ frames := 0, cells := 0, slots := 0, locals := 0 } : Room) #[(.long x0)] Z h0 (Q7 Z x0 h0 n0) := by
  refine MetFree.of_bodySF (plainFor_of_name pn_7) hisR ?_
  intro p e s m args below meth c s₁ Bd hml0 hP hK
  obtain ⟨rfl, hZ, hh⟩ := hP
  have hx := Bd.exec
  have hby := Bd.bytes
  have hml : c.maxLocals = 2 := hml0
  have hown : s.vm.findClass "com/example/violarc/violarc/graph/FlowNetwork" = some m.cls := findClass_of_methodNamed Bd.named
  have hnm := (name_of_methodNamed Bd.named Bd.method).1
  have X0 : Stand p l e ({ frames := 0, cells := 0, slots := 0, locals := 0 } : Room) s m #[(.long x0)] below meth c s₁ [] 0 0 := Stand.of_body Bd
  have e0 : s₁.heap = h0 := by rw [← hh, Bd.state]; rfl
  have N0 := Fr.nil n0
  have Kp0 := Keep.refl h0 []
  have hlk := BodyLoose.notSynchronized Bd
  have hrt := Bd.returns
  have K : own_K p c c7 Z s "com/example/violarc/violarc/graph/FlowNetwork" m a0 := ⟨hx, hby, hZ, hown, hw⟩
  refine gStart (S' := s₁.setTop (mkF m 0 #[lv x0, .second] [])) (congrArg (fun f => s₁.setTop f) (ef_7 m x0)) fun Rp hR => ?_
  refine g_lloadN X0 K d7_0 rfl (g_lconst X0 K d7_1 (z := 0) rfl (g_lcmp X0 K d7_2 rfl ?_))
  have hc3_1 : ¬ (x0 < (0 : Int64)) := hcap
  refine g_ifY X0 K 20 d7_3 (by decide) ((if0 _ _).trans (flt (fun q => hc3_1 ((lw_lt x0 (0 : Int64)).mp q))).2.1) ?_
  exact g_lv0 X0 K hlk hrt hR d7_20 (by decide) (by rw [e0]; exact ⟨rfl, N0, rfl⟩)
def Q9 (Z : State) (x0 : Int64) (h0 : Heap) (n0 : Nat) (v : Option Value) (h : Heap) (L : List Loc) : Prop := v = some (.long (own_abs x0)) ∧ Fr n0 L ∧ h = h0
theorem ef_9 (m : MethodId) (x0 : Int64) : entryFrame m #[(.long x0)] 2 = mkF m 0 #[lv x0, .second] [] := by first | (simp [entryFrame, mkF, argsToLocals, Value.category]; done) | rfl
set_option maxRecDepth 65536 in
set_option maxHeartbeats 40000000 in
theorem rm9 (l : Launch) (Z : State) (a0 : Array Value) (hw : ∀ d ∈ tables_1, d.before a0 Z = true) (x0 : Int64) (h0 : Heap) (n0 : Nat) (Z0 : n0 ≤ h0.size) :
    own_M l (⟨"java/lang/Math", "abs", "(J)J"⟩ : MethodName) c9 2 (some .long) ({ frames := 0, cells := 0, slots := 0, locals := 0 } : Room) #[(.long x0)] Z h0 (Q9 Z x0 h0 n0) := by
  refine MetFree.of_bodySF (Jvm.Free.JP.mathPlain rfl (by decide +kernel)) hisR ?_
  intro p e s m args below meth c s₁ Bd hml0 hP hK
  obtain ⟨rfl, hZ, hh⟩ := hP
  have hx := Bd.exec
  have hby := Bd.bytes
  have hml : c.maxLocals = 2 := hml0
  have hown : s.vm.findClass "java/lang/Math" = some m.cls := findClass_of_methodNamed Bd.named
  have hnm := (name_of_methodNamed Bd.named Bd.method).1
  have X0 : Stand p l e ({ frames := 0, cells := 0, slots := 0, locals := 0 } : Room) s m #[(.long x0)] below meth c s₁ [] 0 0 := Stand.of_body Bd
  have e0 : s₁.heap = h0 := by rw [← hh, Bd.state]; rfl
  have N0 := Fr.nil n0
  have Kp0 := Keep.refl h0 []
  have hlk := BodyLoose.notSynchronized Bd
  have hrt := Bd.returns
  have K : own_K p c c9 Z s "java/lang/Math" m a0 := ⟨hx, hby, hZ, hown, hw⟩
  refine gStart (S' := s₁.setTop (mkF m 0 #[lv x0, .second] [])) (congrArg (fun f => s₁.setTop f) (ef_9 m x0)) fun Rp hR => ?_
  refine g_lloadN X0 K d9_0 rfl (g_lconst X0 K d9_1 (z := 0) rfl (g_lcmp X0 K d9_2 rfl ?_))
  by_cases hc3_1 : x0 < (0 : Int64)
  refine g_ifN X0 K d9_3 ((if0 _ _).trans (tlt ((lw_lt x0 (0 : Int64)).mpr hc3_1)).2.1) ?_
  ·
   refine g_lloadN X0 K d9_6 rfl (g_lneg X0 K d9_7 rfl (g_goto X0 K 12 d9_8 (by decide) ?_))
   exact g_lvJ X0 K hlk hrt hR d9_12 (by decide) (by rw [e0]; exact ⟨(by simp [own_abs, hc3_1]), N0, rfl⟩)
  refine g_ifY X0 K 11 d9_3 (by decide) ((if0 _ _).trans (flt (fun q => hc3_1 ((lw_lt x0 (0 : Int64)).mp q))).2.1) ?_
  ·
   refine g_lloadN X0 K d9_11 rfl ?_
   exact g_lvJ X0 K hlk hrt hR d9_12 (by decide) (by rw [e0]; exact ⟨(by simp [own_abs, hc3_1]), N0, rfl⟩)
def Q8 (Z : State) (x0 : Int64) (h0 : Heap) (n0 : Nat) (v : Option Value) (h : Heap) (L : List Loc) : Prop := v = some (.long (own_abs x0)) ∧ Fr n0 L ∧ h = h0
theorem ef_8 (m : MethodId) (x0 : Int64) : entryFrame m #[(.long x0)] 2 = mkF m 0 #[lv x0, .second] [] := by first | (simp [entryFrame, mkF, argsToLocals, Value.category]; done) | rfl
set_option maxRecDepth 65536 in
set_option maxHeartbeats 40000000 in
theorem rm8 (l : Launch) (Z : State) (a0 : Array Value) (hw : ∀ d ∈ tables_1, d.before a0 Z = true) (x0 : Int64) (h0 : Heap) (n0 : Nat) (Z0 : n0 ≤ h0.size) (hab : ¬ (x0 = (-9223372036854775808 : Int64))) :
    own_M l (⟨"java/lang/Math", "absExact", "(J)J"⟩ : MethodName) c8 2 (some .long) ({ frames := 1, cells := 0, slots := 0, locals := 13 } : Room) #[(.long x0)] Z h0 (Q8 Z x0 h0 n0) := by
  refine MetFree.of_bodySF (Jvm.Free.JP.mathPlain rfl (by decide +kernel)) hisR ?_
  intro p e s m args below meth c s₁ Bd hml0 hP hK
  obtain ⟨rfl, hZ, hh⟩ := hP
  have hx := Bd.exec
  have hby := Bd.bytes
  have hml : c.maxLocals = 2 := hml0
  have hown : s.vm.findClass "java/lang/Math" = some m.cls := findClass_of_methodNamed Bd.named
  have hnm := (name_of_methodNamed Bd.named Bd.method).1
  have X0 : Stand p l e ({ frames := 1, cells := 0, slots := 0, locals := 13 } : Room) s m #[(.long x0)] below meth c s₁ [] 0 0 := Stand.of_body Bd
  have e0 : s₁.heap = h0 := by rw [← hh, Bd.state]; rfl
  have N0 := Fr.nil n0
  have Kp0 := Keep.refl h0 []
  have hlk := BodyLoose.notSynchronized Bd
  have hrt := Bd.returns
  have K : own_K p c c8 Z s "java/lang/Math" m a0 := ⟨hx, hby, hZ, hown, hw⟩
  refine gStart (S' := s₁.setTop (mkF m 0 #[lv x0, .second] [])) (congrArg (fun f => s₁.setTop f) (ef_8 m x0)) fun Rp hR => ?_
  refine g_lloadN X0 K d8_0 rfl (g_ldc2 X0 K 83 rfl d8_1 (z := (-9223372036854775808 : Int64)) rfl (g_lcmp X0 K d8_4 rfl ?_))
  have hc5_1 : ¬ (x0 = (-9223372036854775808 : Int64)) := hab
  refine g_ifY X0 K 18 d8_5 (by decide) ((if0 _ _).trans (feq (fun q => hc5_1 ((lw_eq x0 (-9223372036854775808 : Int64)).mp q))).2) (g_lloadN X0 K d8_18 rfl (g_callS X0 K e0 84 85 81 86 rfl rfl rfl rfl (by decide) (rm9 l Z a0 hw x0 h0 n0 Z0 ) d8_19 hml.symm (argsL := [(.long x0)]) (lenOf pd_2 rfl) rfl 0 (Nat.le_of_ble_eq_true rfl) (by decide) fun v2 T2 Lc2 hQ2 X2 => ?_))
  obtain ⟨rfl, N2q, e2⟩ := hQ2
  have N2 := Fr.app N0 N2q
  dsimp only [Option.toList, List.cons_append, List.nil_append]
  exact g_lvJ X2 K hlk hrt hR d8_22 (by decide) (by rw [e2]; exact ⟨rfl, N2, rfl⟩)
def Q10 (Z : State) (x0 : Int64) (x1 : Int64) (h0 : Heap) (n0 : Nat) (v : Option Value) (h : Heap) (L : List Loc) : Prop := v = some (.long (x0 + x1)) ∧ Fr n0 L ∧ h = h0
theorem ef_10 (m : MethodId) (x0 : Int64) (x1 : Int64) : entryFrame m #[(.long x0), (.long x1)] 6 = mkF m 0 #[lv x0, .second, lv x1, .second, .unset, .unset] [] := by first | (simp [entryFrame, mkF, argsToLocals, Value.category]; done) | rfl
set_option maxRecDepth 65536 in
set_option maxHeartbeats 40000000 in
theorem rm10 (l : Launch) (Z : State) (a0 : Array Value) (hw : ∀ d ∈ tables_1, d.before a0 Z = true) (x0 : Int64) (x1 : Int64) (h0 : Heap) (n0 : Nat) (Z0 : n0 ≤ h0.size) (hadd : ¬ (((x0 ^^^ (x0 + x1)) &&& (x1 ^^^ (x0 + x1))) < (0 : Int64))) :
    own_M l (⟨"java/lang/Math", "addExact", "(JJ)J"⟩ : MethodName) c10 6 (some .long) ({ frames := 0, cells := 0, slots := 0, locals := 0 } : Room) #[(.long x0), (.long x1)] Z h0 (Q10 Z x0 x1 h0 n0) := by
  refine MetFree.of_bodySF (Jvm.Free.JP.mathPlain rfl (by decide +kernel)) hisR ?_
  intro p e s m args below meth c s₁ Bd hml0 hP hK
  obtain ⟨rfl, hZ, hh⟩ := hP
  have hx := Bd.exec
  have hby := Bd.bytes
  have hml : c.maxLocals = 6 := hml0
  have hown : s.vm.findClass "java/lang/Math" = some m.cls := findClass_of_methodNamed Bd.named
  have hnm := (name_of_methodNamed Bd.named Bd.method).1
  have X0 : Stand p l e ({ frames := 0, cells := 0, slots := 0, locals := 0 } : Room) s m #[(.long x0), (.long x1)] below meth c s₁ [] 0 0 := Stand.of_body Bd
  have e0 : s₁.heap = h0 := by rw [← hh, Bd.state]; rfl
  have N0 := Fr.nil n0
  have Kp0 := Keep.refl h0 []
  have hlk := BodyLoose.notSynchronized Bd
  have hrt := Bd.returns
  have K : own_K p c c10 Z s "java/lang/Math" m a0 := ⟨hx, hby, hZ, hown, hw⟩
  refine gStart (S' := s₁.setTop (mkF m 0 #[lv x0, .second, lv x1, .second, uu, uu] [])) (congrArg (fun f => s₁.setTop f) (ef_10 m x0 x1)) fun Rp hR => ?_
  refine g_lloadN X0 K d10_0 rfl (g_lloadN X0 K d10_1 rfl (g_ladd X0 K d10_2 rfl (g_lstore X0 K d10_3 (L' := #[lv x0, .second, lv x1, .second, lv (x0 + x1), .second]) rfl (g_lloadN X0 K d10_5 rfl (g_lload X0 K d10_6 rfl ?_)))))
  refine gB (S' := s₁.setTop (mkF m 9 #[lv x0, .second, lv x1, .second, lv (x0 + x1), .second] [(.long (x0 ^^^ (x0 + x1)))])) ?_ (by
    intro t k
    refine XS.lxor X0.here hx rfl (hb hby d10_8) rfl ?_
    exact k)
  refine g_lloadN X0 K d10_9 rfl (g_lload X0 K d10_10 rfl ?_)
  refine gB (S' := s₁.setTop (mkF m 14 #[lv x0, .second, lv x1, .second, lv (x0 + x1), .second] [(.long ((x0 ^^^ (x0 + x1)) &&& (x1 ^^^ (x0 + x1))))])) ?_ (by
    intro t k
    refine XS.lxor X0.here hx rfl (hb hby d10_12) rfl ?_
    refine XS.land X0.here hx rfl (hb hby d10_13) rfl ?_
    exact k)
  refine g_lconst X0 K d10_14 (z := 0) rfl (g_lcmp X0 K d10_15 rfl ?_)
  have hc16_1 : ¬ (((x0 ^^^ (x0 + x1)) &&& (x1 ^^^ (x0 + x1))) < (0 : Int64)) := hadd
  refine g_ifY X0 K 29 d10_16 (by decide) ((if0 _ _).trans (flt (fun q => hc16_1 ((lw_lt ((x0 ^^^ (x0 + x1)) &&& (x1 ^^^ (x0 + x1))) (0 : Int64)).mp q))).2.1) (g_lload X0 K d10_29 rfl ?_)
  exact g_lvJ X0 K hlk hrt hR d10_31 (by decide) (by rw [e0]; exact ⟨rfl, N0, rfl⟩)
def Q36 (Z : State) (x0 : Int64) (x1 : Int64) (h0 : Heap) (n0 : Nat) (v : Option Value) (h : Heap) (L : List Loc) : Prop := v = some (.long (x0 * x1)) ∧ Fr n0 L ∧ h = h0
theorem ef_36 (m : MethodId) (x0 : Int64) (x1 : Int64) : entryFrame m #[(.long x0), (.long x1)] 10 = mkF m 0 #[lv x0, .second, lv x1, .second, .unset, .unset, .unset, .unset, .unset, .unset] [] := by first | (simp [entryFrame, mkF, argsToLocals, Value.category]; done) | rfl
set_option maxRecDepth 65536 in
set_option maxHeartbeats 40000000 in
theorem rm36 (l : Launch) (Z : State) (a0 : Array Value) (hw : ∀ d ∈ tables_1, d.before a0 Z = true) (x0 : Int64) (x1 : Int64) (h0 : Heap) (n0 : Nat) (Z0 : n0 ≤ h0.size) (hmin : ¬ (x0 = (-9223372036854775808 : Int64))) (hdiv : ¬ (x1 = (0 : Int64)) → ((x0 * x1) / x1) = x0) :
    own_M l (⟨"java/lang/Math", "multiplyExact", "(JJ)J"⟩ : MethodName) c36 10 (some .long) ({ frames := 1, cells := 0, slots := 0, locals := 13 } : Room) #[(.long x0), (.long x1)] Z h0 (Q36 Z x0 x1 h0 n0) := by
  refine MetFree.of_bodySF (Jvm.Free.JP.mathPlain rfl (by decide +kernel)) hisR ?_
  intro p e s m args below meth c s₁ Bd hml0 hP hK
  obtain ⟨rfl, hZ, hh⟩ := hP
  have hx := Bd.exec
  have hby := Bd.bytes
  have hml : c.maxLocals = 10 := hml0
  have hown : s.vm.findClass "java/lang/Math" = some m.cls := findClass_of_methodNamed Bd.named
  have hnm := (name_of_methodNamed Bd.named Bd.method).1
  have X0 : Stand p l e ({ frames := 1, cells := 0, slots := 0, locals := 13 } : Room) s m #[(.long x0), (.long x1)] below meth c s₁ [] 0 0 := Stand.of_body Bd
  have e0 : s₁.heap = h0 := by rw [← hh, Bd.state]; rfl
  have N0 := Fr.nil n0
  have Kp0 := Keep.refl h0 []
  have hlk := BodyLoose.notSynchronized Bd
  have hrt := Bd.returns
  have K : own_K p c c36 Z s "java/lang/Math" m a0 := ⟨hx, hby, hZ, hown, hw⟩
  refine gStart (S' := s₁.setTop (mkF m 0 #[lv x0, .second, lv x1, .second, uu, uu, uu, uu, uu, uu] [])) (congrArg (fun f => s₁.setTop f) (ef_36 m x0 x1)) fun Rp hR => ?_
  refine g_lloadN X0 K d36_0 rfl (g_lloadN X0 K d36_1 rfl (g_lmul X0 K d36_2 rfl (g_lstore X0 K d36_3 (L' := #[lv x0, .second, lv x1, .second, lv (x0 * x1), .second, uu, uu, uu, uu]) rfl (g_lloadN X0 K d36_5 rfl (g_callS X0 K e0 84 85 81 86 rfl rfl rfl rfl (by decide) (rm9 l Z a0 hw x0 h0 n0 Z0 ) d36_6 hml.symm (argsL := [(.long x0)]) (lenOf pd_2 rfl) rfl 0 (Nat.le_of_ble_eq_true rfl) (by decide) fun v1 T1 Lc1 hQ1 X1 => ?_)))))
  obtain ⟨rfl, N1q, e1⟩ := hQ1
  have N1 := Fr.app N0 N1q
  dsimp only [Option.toList, List.cons_append, List.nil_append]
  refine g_lstore X1 K d36_9 (L' := #[lv x0, .second, lv x1, .second, lv (x0 * x1), .second, lv (own_abs x0), .second, uu, uu]) rfl (g_lloadN X1 K d36_11 rfl (g_callS X1 K e1 84 85 81 86 rfl rfl rfl rfl (by decide) (rm9 l Z a0 hw x1 h0 n0 Z0 ) d36_12 hml.symm (argsL := [(.long x1)]) (lenOf pd_2 rfl) rfl 0 (Nat.le_of_ble_eq_true rfl) (by decide) fun v2 T2 Lc2 hQ2 X2 => ?_))
  obtain ⟨rfl, N2q, e2⟩ := hQ2
  have N2 := Fr.app N1 N2q
  dsimp only [Option.toList, List.cons_append, List.nil_append]
  refine g_lstore X2 K d36_15 (L' := #[lv x0, .second, lv x1, .second, lv (x0 * x1), .second, lv (own_abs x0), .second, lv (own_abs x1), .second]) rfl (g_lload X2 K d36_17 rfl (g_lload X2 K d36_19 rfl ?_))
  refine gB (S' := T2.setTop (mkF m 22 #[lv x0, .second, lv x1, .second, lv (x0 * x1), .second, lv (own_abs x0), .second, lv (own_abs x1), .second] [(.long ((own_abs x0) ||| (own_abs x1)))])) ?_ (by
    intro t k
    refine XS.lor X2.here hx rfl (hb hby d36_21) rfl ?_
    exact k)
  refine g_bipush X2 K d36_22 (z := 31) rfl ?_
  refine gB (S' := T2.setTop (mkF m 25 #[lv x0, .second, lv x1, .second, lv (x0 * x1), .second, lv (own_abs x0), .second, lv (own_abs x1), .second] [(.long ((((own_abs x0) ||| (own_abs x1)).toUInt64 >>> ((31 : Int32) &&& 0x3f).toInt64.toUInt64).toInt64))])) ?_ (by
    intro t k
    refine XS.lushr X2.here hx rfl (hb hby d36_24) rfl ?_
    exact k)
  refine g_lconst X2 K d36_25 (z := 0) rfl (g_lcmp X2 K d36_26 rfl ?_)
  by_cases hc27_3 : ((((own_abs x0) ||| (own_abs x1)).toUInt64 >>> ((31 : Int32) &&& 0x3f).toInt64.toUInt64).toInt64) = (0 : Int64)
  refine g_ifY X2 K 71 d36_27 (by decide) ((if0 _ _).trans (teq ((lw_eq ((((own_abs x0) ||| (own_abs x1)).toUInt64 >>> ((31 : Int32) &&& 0x3f).toInt64.toUInt64).toInt64) (0 : Int64)).mpr hc27_3)).1) ?_
  ·
   refine g_lload X2 K d36_71 rfl ?_
   exact g_lvJ X2 K hlk hrt hR d36_73 (by decide) (by rw [e2]; exact ⟨rfl, N2, rfl⟩)
  refine g_ifN X2 K d36_27 ((if0 _ _).trans (feq (fun q => hc27_3 ((lw_eq ((((own_abs x0) ||| (own_abs x1)).toUInt64 >>> ((31 : Int32) &&& 0x3f).toInt64.toUInt64).toInt64) (0 : Int64)).mp q))).1) ?_
  ·
   refine g_lloadN X2 K d36_30 rfl (g_lconst X2 K d36_31 (z := 0) rfl (g_lcmp X2 K d36_32 rfl ?_))
   by_cases hc33_4 : x1 = (0 : Int64)
   refine g_ifY X2 K 45 d36_33 (by decide) ((if0 _ _).trans (teq ((lw_eq x1 (0 : Int64)).mpr hc33_4)).1) ?_
   ·
    refine g_lloadN X2 K d36_45 rfl (g_ldc2 X2 K 83 rfl d36_46 (z := (-9223372036854775808 : Int64)) rfl (g_lcmp X2 K d36_49 rfl ?_))
    have hc50_5 : ¬ (x0 = (-9223372036854775808 : Int64)) := hmin
    refine g_ifY X2 K 71 d36_50 (by decide) ((if0 _ _).trans (feq (fun q => hc50_5 ((lw_eq x0 (-9223372036854775808 : Int64)).mp q))).2) (g_lload X2 K d36_71 rfl ?_)
    exact g_lvJ X2 K hlk hrt hR d36_73 (by decide) (by rw [e2]; exact ⟨rfl, N2, rfl⟩)
   refine g_ifN X2 K d36_33 ((if0 _ _).trans (feq (fun q => hc33_4 ((lw_eq x1 (0 : Int64)).mp q))).1) ?_
   ·
    refine g_lload X2 K d36_36 rfl (g_lloadN X2 K d36_38 rfl ?_)
    refine gB (S' := T2.setTop (mkF m 40 #[lv x0, .second, lv x1, .second, lv (x0 * x1), .second, lv (own_abs x0), .second, lv (own_abs x1), .second] [(.long ((x0 * x1) / x1))])) ?_ (by
      intro t k
      refine XS.ldiv X2.here hx rfl (hb hby d36_39) rfl hc33_4 ?_
      exact k)
    refine g_lloadN X2 K d36_40 rfl (g_lcmp X2 K d36_41 rfl ?_)
    have hc42_6 : ((x0 * x1) / x1) = x0 := hdiv hc33_4
    refine g_ifN X2 K d36_42 ((if0 _ _).trans (teq ((lw_eq ((x0 * x1) / x1) x0).mpr hc42_6)).2) (g_lloadN X2 K d36_45 rfl (g_ldc2 X2 K 83 rfl d36_46 (z := (-9223372036854775808 : Int64)) rfl (g_lcmp X2 K d36_49 rfl ?_)))
    have hc50_7 : ¬ (x0 = (-9223372036854775808 : Int64)) := hmin
    refine g_ifY X2 K 71 d36_50 (by decide) ((if0 _ _).trans (feq (fun q => hc50_7 ((lw_eq x0 (-9223372036854775808 : Int64)).mp q))).2) (g_lload X2 K d36_71 rfl ?_)
    exact g_lvJ X2 K hlk hrt hR d36_73 (by decide) (by rw [e2]; exact ⟨rfl, N2, rfl⟩)
def Q32 (Z : State) (x0 : Int64) (x1 : Int64) (h0 : Heap) (n0 : Nat) (v : Option Value) (h : Heap) (L : List Loc) : Prop := v = some (.long (if x1 < x0 then x1 else x0)) ∧ Fr n0 L ∧ h = h0
theorem ef_32 (m : MethodId) (x0 : Int64) (x1 : Int64) : entryFrame m #[(.long x0), (.long x1)] 4 = mkF m 0 #[lv x0, .second, lv x1, .second] [] := by first | (simp [entryFrame, mkF, argsToLocals, Value.category]; done) | rfl
set_option maxRecDepth 65536 in
set_option maxHeartbeats 40000000 in
theorem rm32 (l : Launch) (Z : State) (a0 : Array Value) (hw : ∀ d ∈ tables_1, d.before a0 Z = true) (x0 : Int64) (x1 : Int64) (h0 : Heap) (n0 : Nat) (Z0 : n0 ≤ h0.size) :
    own_M l (⟨"java/lang/Math", "min", "(JJ)J"⟩ : MethodName) c32 4 (some .long) ({ frames := 0, cells := 0, slots := 0, locals := 0 } : Room) #[(.long x0), (.long x1)] Z h0 (Q32 Z x0 x1 h0 n0) := by
  refine MetFree.of_bodySF (Jvm.Free.JP.mathPlain rfl (by decide +kernel)) hisR ?_
  intro p e s m args below meth c s₁ Bd hml0 hP hK
  obtain ⟨rfl, hZ, hh⟩ := hP
  have hx := Bd.exec
  have hby := Bd.bytes
  have hml : c.maxLocals = 4 := hml0
  have hown : s.vm.findClass "java/lang/Math" = some m.cls := findClass_of_methodNamed Bd.named
  have hnm := (name_of_methodNamed Bd.named Bd.method).1
  have X0 : Stand p l e ({ frames := 0, cells := 0, slots := 0, locals := 0 } : Room) s m #[(.long x0), (.long x1)] below meth c s₁ [] 0 0 := Stand.of_body Bd
  have e0 : s₁.heap = h0 := by rw [← hh, Bd.state]; rfl
  have N0 := Fr.nil n0
  have Kp0 := Keep.refl h0 []
  have hlk := BodyLoose.notSynchronized Bd
  have hrt := Bd.returns
  have K : own_K p c c32 Z s "java/lang/Math" m a0 := ⟨hx, hby, hZ, hown, hw⟩
  refine gStart (S' := s₁.setTop (mkF m 0 #[lv x0, .second, lv x1, .second] [])) (congrArg (fun f => s₁.setTop f) (ef_32 m x0 x1)) fun Rp hR => ?_
  refine g_lloadN X0 K d32_0 rfl (g_lloadN X0 K d32_1 rfl (g_lcmp X0 K d32_2 rfl ?_))
  by_cases hc3_1 : x1 < x0
  refine g_ifY X0 K 10 d32_3 (by decide) ((if0 _ _).trans (tlt ((lw_gt x0 x1).mpr hc3_1)).2.2.1) ?_
  ·
   refine g_lloadN X0 K d32_10 rfl ?_
   exact g_lvJ X0 K hlk hrt hR d32_11 (by decide) (by rw [e0]; exact ⟨(by first | rfl | rw [if_pos hc3_1] | rw [if_neg hc3_1] | rw [if_neg (not_not_intro hc3_1)] | simp [hc3_1]), N0, rfl⟩)
  refine g_ifN X0 K d32_3 ((if0 _ _).trans (flt (fun q => hc3_1 ((lw_gt x0 x1).mp q))).2.2.1) ?_
  ·
   refine g_lloadN X0 K d32_6 rfl (g_goto X0 K 11 d32_7 (by decide) ?_)
   exact g_lvJ X0 K hlk hrt hR d32_11 (by decide) (by rw [e0]; exact ⟨(by first | rfl | rw [if_pos hc3_1] | rw [if_neg hc3_1] | rw [if_neg (not_not_intro hc3_1)] | simp [hc3_1]), N0, rfl⟩)
def Q17 (Z : State) (x0 : Int64) (x1 : Int64) (h0 : Heap) (n0 : Nat) (v : Option Value) (h : Heap) (L : List Loc) : Prop := v = some (.long (if x0 < x1 then x1 else x0)) ∧ Fr n0 L ∧ h = h0
theorem ef_17 (m : MethodId) (x0 : Int64) (x1 : Int64) : entryFrame m #[(.long x0), (.long x1)] 4 = mkF m 0 #[lv x0, .second, lv x1, .second] [] := by first | (simp [entryFrame, mkF, argsToLocals, Value.category]; done) | rfl
set_option maxRecDepth 65536 in
set_option maxHeartbeats 40000000 in
theorem rm17 (l : Launch) (Z : State) (a0 : Array Value) (hw : ∀ d ∈ tables_1, d.before a0 Z = true) (x0 : Int64) (x1 : Int64) (h0 : Heap) (n0 : Nat) (Z0 : n0 ≤ h0.size) :
    own_M l (⟨"java/lang/Math", "max", "(JJ)J"⟩ : MethodName) c17 4 (some .long) ({ frames := 0, cells := 0, slots := 0, locals := 0 } : Room) #[(.long x0), (.long x1)] Z h0 (Q17 Z x0 x1 h0 n0) := by
  refine MetFree.of_bodySF (Jvm.Free.JP.mathPlain rfl (by decide +kernel)) hisR ?_
  intro p e s m args below meth c s₁ Bd hml0 hP hK
  obtain ⟨rfl, hZ, hh⟩ := hP
  have hx := Bd.exec
  have hby := Bd.bytes
  have hml : c.maxLocals = 4 := hml0
  have hown : s.vm.findClass "java/lang/Math" = some m.cls := findClass_of_methodNamed Bd.named
  have hnm := (name_of_methodNamed Bd.named Bd.method).1
  have X0 : Stand p l e ({ frames := 0, cells := 0, slots := 0, locals := 0 } : Room) s m #[(.long x0), (.long x1)] below meth c s₁ [] 0 0 := Stand.of_body Bd
  have e0 : s₁.heap = h0 := by rw [← hh, Bd.state]; rfl
  have N0 := Fr.nil n0
  have Kp0 := Keep.refl h0 []
  have hlk := BodyLoose.notSynchronized Bd
  have hrt := Bd.returns
  have K : own_K p c c17 Z s "java/lang/Math" m a0 := ⟨hx, hby, hZ, hown, hw⟩
  refine gStart (S' := s₁.setTop (mkF m 0 #[lv x0, .second, lv x1, .second] [])) (congrArg (fun f => s₁.setTop f) (ef_17 m x0 x1)) fun Rp hR => ?_
  refine g_lloadN X0 K d17_0 rfl (g_lloadN X0 K d17_1 rfl (g_lcmp X0 K d17_2 rfl ?_))
  by_cases hc3_1 : x0 < x1
  refine g_ifY X0 K 10 d17_3 (by decide) ((if0 _ _).trans (tlt ((lw_lt x0 x1).mpr hc3_1)).1) ?_
  ·
   refine g_lloadN X0 K d17_10 rfl ?_
   exact g_lvJ X0 K hlk hrt hR d17_11 (by decide) (by rw [e0]; exact ⟨(by first | rfl | rw [if_pos hc3_1] | rw [if_neg hc3_1] | rw [if_neg (not_not_intro hc3_1)] | simp [hc3_1]), N0, rfl⟩)
  refine g_ifN X0 K d17_3 ((if0 _ _).trans (flt (fun q => hc3_1 ((lw_lt x0 x1).mp q))).1) ?_
  ·
   refine g_lloadN X0 K d17_6 rfl (g_goto X0 K 11 d17_7 (by decide) ?_)
   exact g_lvJ X0 K hlk hrt hR d17_11 (by decide) (by rw [e0]; exact ⟨(by first | rfl | rw [if_pos hc3_1] | rw [if_neg hc3_1] | rw [if_neg (not_not_intro hc3_1)] | simp [hc3_1]), N0, rfl⟩)
def Qlk0 (Z : State) (x0 : Addr) (x4 : Int64) (x5 : Int64) (nx : Addr) (tg : Addr) (rs : Addr) (co : Addr) (fi : Addr) (po : Addr) (di : Addr) (pa : Addr) (hp : Addr) (hn : Addr) (hq : Addr) (qu : Addr) (qd : Addr) (lw : Addr) (sk : Addr) (cu : Addr) (vi : Addr) (ar : Int32) (ac : Int64) (fc : Int64) (vl : Int32) (so : Int32) (si : Int32) (vt : Int64) (ktg : ClassId) (knx : ClassId) (kfi : ClassId) (krs : ClassId) (kco : ClassId) (tg0 : Int32) (tg1 : Int32) (tg2 : Int32) (tg3 : Int32) (nx0 : Int32) (nx1 : Int32) (nx2 : Int32) (nx3 : Int32) (fi0 : Int32) (fi1 : Int32) (rs0 : Int64) (rs1 : Int64) (rs2 : Int64) (rs3 : Int64) (co0 : Int64) (co1 : Int64) (co2 : Int64) (co3 : Int64) (h0 : Heap) (n0 : Nat) (v : Option Value) (h : Heap) (L : List Loc) : Prop := v = none ∧ Fr n0 L ∧ Keep h0 h [tg, nx, fi, rs, co] ∧ Arv Z h tg ktg .int (16 : Int32) [(.int 1), (.int tg1), (.int tg2), (.int tg3)] (.int 0) ∧ Arv Z h nx knx .int (16 : Int32) [(.int fi0), (.int nx1), (.int nx2), (.int nx3)] (.int 0) ∧ Arv Z h fi kfi .int (2 : Int32) [(.int 0), (.int fi1)] (.int 0) ∧ Arv Z h rs krs .long (16 : Int32) [(.long x4), (.long rs1), (.long rs2), (.long rs3)] (.long 0) ∧ Arv Z h co kco .long (16 : Int32) [(.long x5), (.long co1), (.long co2), (.long co3)] (.long 0)
theorem ef_lk0 (m : MethodId) (x0 : Addr) (x4 : Int64) (x5 : Int64) : entryFrame m #[(.ref x0), (.int 0), (.int 0), (.int 1), (.long x4), (.long x5)] 8 = mkF m 0 #[rv x0, iv 0, iv 0, iv 1, lv x4, .second, lv x5, .second] [] := by first | (simp [entryFrame, mkF, argsToLocals, Value.category]; done) | rfl
set_option maxRecDepth 65536 in
set_option maxHeartbeats 40000000 in
theorem rmlk0 (l : Launch) (Z : State) (a0 : Array Value) (hw : ∀ d ∈ tables_1, d.before a0 Z = true) (x0 : Addr) (x4 : Int64) (x5 : Int64) {nx : Addr} {tg : Addr} {rs : Addr} {co : Addr} {fi : Addr} {po : Addr} {di : Addr} {pa : Addr} {hp : Addr} (hn : Addr) (hq : Addr) {qu : Addr} {qd : Addr} {lw : Addr} {sk : Addr} {cu : Addr} {vi : Addr} {ar : Int32} {ac : Int64} {fc : Int64} {vl : Int32} {so : Int32} {si : Int32} {vt : Int64} {ktg : ClassId} {knx : ClassId} {kfi : ClassId} {krs : ClassId} {kco : ClassId} {tg0 : Int32} {tg1 : Int32} {tg2 : Int32} {tg3 : Int32} {nx0 : Int32} {nx1 : Int32} {nx2 : Int32} {nx3 : Int32} {fi0 : Int32} {fi1 : Int32} {rs0 : Int64} {rs1 : Int64} {rs2 : Int64} {rs3 : Int64} {co0 : Int64} {co1 : Int64} {co2 : Int64} {co3 : Int64} (h0 : Heap) (n0 : Nat) (Z0 : n0 ≤ h0.size) (pre_own_XF : own_XF Z h0 n0 x0 nx tg rs co fi po di pa hp hn hq qu qd lw sk cu vi ar ac fc vl so si vt) (pre_A_tg : Arv Z h0 tg ktg .int (16 : Int32) [(.int tg0), (.int tg1), (.int tg2), (.int tg3)] (.int 0)) (pre_A_nx : Arv Z h0 nx knx .int (16 : Int32) [(.int nx0), (.int nx1), (.int nx2), (.int nx3)] (.int 0)) (pre_A_fi : Arv Z h0 fi kfi .int (2 : Int32) [(.int fi0), (.int fi1)] (.int 0)) (pre_A_rs : Arv Z h0 rs krs .long (16 : Int32) [(.long rs0), (.long rs1), (.long rs2), (.long rs3)] (.long 0)) (pre_A_co : Arv Z h0 co kco .long (16 : Int32) [(.long co0), (.long co1), (.long co2), (.long co3)] (.long 0)) :
    own_M l (⟨"com/example/violarc/violarc/graph/FlowNetwork", "link", "(IIIJJ)V"⟩ : MethodName) c11 8 none ({ frames := 0, cells := 0, slots := 0, locals := 0 } : Room) #[(.ref x0), (.int 0), (.int 0), (.int 1), (.long x4), (.long x5)] Z h0 (Qlk0 Z x0 x4 x5 nx tg rs co fi po di pa hp hn hq qu qd lw sk cu vi ar ac fc vl so si vt ktg knx kfi krs kco tg0 tg1 tg2 tg3 nx0 nx1 nx2 nx3 fi0 fi1 rs0 rs1 rs2 rs3 co0 co1 co2 co3 h0 n0) := by
  refine MetFree.of_bodySF (plainFor_of_name pn_11) hisR ?_
  intro p e s m args below meth c s₁ Bd hml0 hP hK
  obtain ⟨rfl, hZ, hh⟩ := hP
  have hx := Bd.exec
  have hby := Bd.bytes
  have hml : c.maxLocals = 8 := hml0
  have hown : s.vm.findClass "com/example/violarc/violarc/graph/FlowNetwork" = some m.cls := findClass_of_methodNamed Bd.named
  have hnm := (name_of_methodNamed Bd.named Bd.method).1
  have X0 : Stand p l e ({ frames := 0, cells := 0, slots := 0, locals := 0 } : Room) s m #[(.ref x0), (.int 0), (.int 0), (.int 1), (.long x4), (.long x5)] below meth c s₁ [] 0 0 := Stand.of_body Bd
  have e0 : s₁.heap = h0 := by rw [← hh, Bd.state]; rfl
  have N0 := Fr.nil n0
  have Kp0 := Keep.refl h0 [tg, nx, fi, rs, co]
  have hlk := BodyLoose.notSynchronized Bd
  have hrt := Bd.returns
  have K : own_K p c c11 Z s "com/example/violarc/violarc/graph/FlowNetwork" m a0 := ⟨hx, hby, hZ, hown, hw⟩
  refine gStart (S' := s₁.setTop (mkF m 0 #[rv x0, iv 0, iv 0, iv 1, lv x4, .second, lv x5, .second] [])) (congrArg (fun f => s₁.setTop f) (ef_lk0 m x0 x4 x5)) fun Rp hR => ?_
  obtain ⟨nb0_0, nb0_1, nb0_2, nb0_3, nb0_4, nb0_5, nb0_6, nb0_7, nb0_8, nb0_9, nb0_10, nb0_11, nb0_12, nb0_13, nb0_14, nb0_15, nb0_16, nb0_17, nb0_18, nb0_19, nb0_20, nb0_21, nb0_22, nb0_23, nb0_24⟩ := id pre_own_XF
  refine g_ag X0 K e0 14 rfl pre_own_XF.2.2.1 d11_0 d11_1 rfl fun T1 X1 e1 => g_iloadN X1 K d11_4 rfl (g_iloadN X1 K d11_5 rfl (g_iastore X1 K e1 pre_A_tg d11_6 (by decide) 0 ⟨rfl, Nat.le_of_ble_eq_true rfl⟩ (w := [(.int 1), (.int tg1), (.int tg2), (.int tg3)]) rfl rfl fun T2 h2 X2 e2 W2 V2 => ?_))
  have N2 := Fr.snoc X2 N0 (own_ong nb0_24 nb0_23 2 rfl)
  have KK2 := Kp0.wr W2 (Or.inl (List.mem_of_getElem? (i := 0) rfl))
  have xb3 := own_XF_wr pre_own_XF W2 (own_on nb0_24 0 2 rfl rfl)
  refine g_ag X2 K e2 12 rfl xb3.2.1 d11_7 d11_8 rfl fun T4 X4 e4 => g_iloadN X4 K d11_11 rfl (g_ag X4 K e4 24 rfl xb3.2.2.2.2.2.1 d11_12 d11_13 rfl fun T5 X5 e5 => g_iloadN X5 K d11_16 rfl ?_)
  have q6 := (pre_A_fi.other W2 (own_on nb0_24 5 2 rfl rfl))
  refine g_iaload X5 K e5 q6 d11_17 (by decide) (v := (.int fi0)) rfl ?_
  have q7 := (pre_A_nx.other W2 (own_on nb0_24 1 2 rfl rfl))
  refine g_iastore X5 K e5 q7 d11_18 (by decide) 0 ⟨rfl, Nat.le_of_ble_eq_true rfl⟩ (w := [(.int fi0), (.int nx1), (.int nx2), (.int nx3)]) rfl rfl fun T8 h8 X8 e8 W8 V8 => ?_
  have N8 := Fr.snoc X8 N2 (own_ong nb0_24 nb0_23 1 rfl)
  have KK8 := KK2.wr W8 (Or.inl (List.mem_of_getElem? (i := 1) rfl))
  have xb9 := own_XF_wr xb3 W8 (own_on nb0_24 0 1 rfl rfl)
  refine g_ag X8 K e8 24 rfl xb9.2.2.2.2.2.1 d11_19 d11_20 rfl fun T10 X10 e10 => g_iloadN X10 K d11_23 rfl (g_iloadN X10 K d11_24 rfl ?_)
  have q11 := (q6.other W8 (own_on nb0_24 5 1 rfl rfl))
  refine g_iastore X10 K e10 q11 d11_25 (by decide) 0 ⟨rfl, Nat.le_of_ble_eq_true rfl⟩ (w := [(.int 0), (.int fi1)]) rfl rfl fun T12 h12 X12 e12 W12 V12 => ?_
  have N12 := Fr.snoc X12 N8 (own_ong nb0_24 nb0_23 5 rfl)
  have KK12 := KK8.wr W12 (Or.inl (List.mem_of_getElem? (i := 2) rfl))
  have xb13 := own_XF_wr xb9 W12 (own_on nb0_24 0 5 rfl rfl)
  refine g_ag X12 K e12 16 rfl xb13.2.2.2.1 d11_26 d11_27 rfl fun T14 X14 e14 => g_iloadN X14 K d11_30 rfl (g_lload X14 K d11_31 rfl ?_)
  have q15 := (((pre_A_rs.other W2 (own_on nb0_24 3 2 rfl rfl)).other W8 (own_on nb0_24 3 1 rfl rfl)).other W12 (own_on nb0_24 3 5 rfl rfl))
  refine g_lastore X14 K e14 q15 d11_33 (by decide) 0 ⟨rfl, Nat.le_of_ble_eq_true rfl⟩ (w := [(.long x4), (.long rs1), (.long rs2), (.long rs3)]) rfl rfl fun T16 h16 X16 e16 W16 V16 => ?_
  have N16 := Fr.snoc X16 N12 (own_ong nb0_24 nb0_23 3 rfl)
  have KK16 := KK12.wr W16 (Or.inl (List.mem_of_getElem? (i := 3) rfl))
  have xb17 := own_XF_wr xb13 W16 (own_on nb0_24 0 3 rfl rfl)
  refine g_ag X16 K e16 18 rfl xb17.2.2.2.2.1 d11_34 d11_35 rfl fun T18 X18 e18 => g_iloadN X18 K d11_38 rfl (g_lload X18 K d11_39 rfl ?_)
  have q19 := ((((pre_A_co.other W2 (own_on nb0_24 4 2 rfl rfl)).other W8 (own_on nb0_24 4 1 rfl rfl)).other W12 (own_on nb0_24 4 5 rfl rfl)).other W16 (own_on nb0_24 4 3 rfl rfl))
  refine g_lastore X18 K e18 q19 d11_41 (by decide) 0 ⟨rfl, Nat.le_of_ble_eq_true rfl⟩ (w := [(.long x5), (.long co1), (.long co2), (.long co3)]) rfl rfl fun T20 h20 X20 e20 W20 V20 => ?_
  have N20 := Fr.snoc X20 N16 (own_ong nb0_24 nb0_23 4 rfl)
  have KK20 := KK16.wr W20 (Or.inl (List.mem_of_getElem? (i := 4) rfl))
  have q21 := ((((V2.other W8 (own_on nb0_24 2 1 rfl rfl)).other W12 (own_on nb0_24 2 5 rfl rfl)).other W16 (own_on nb0_24 2 3 rfl rfl)).other W20 (own_on nb0_24 2 4 rfl rfl))
  have q22 := (((V8.other W12 (own_on nb0_24 1 5 rfl rfl)).other W16 (own_on nb0_24 1 3 rfl rfl)).other W20 (own_on nb0_24 1 4 rfl rfl))
  have q23 := ((V12.other W16 (own_on nb0_24 5 3 rfl rfl)).other W20 (own_on nb0_24 5 4 rfl rfl))
  have q24 := (V16.other W20 (own_on nb0_24 3 4 rfl rfl))
  exact g_lv0 X20 K hlk hrt hR d11_42 (by decide) (by rw [e20]; exact ⟨rfl, N20, KK20, q21, q22, q23, q24, V20⟩)
def Qlk1 (Z : State) (x0 : Addr) (x4 : Int64) (x5 : Int64) (nx : Addr) (tg : Addr) (rs : Addr) (co : Addr) (fi : Addr) (po : Addr) (di : Addr) (pa : Addr) (hp : Addr) (hn : Addr) (hq : Addr) (qu : Addr) (qd : Addr) (lw : Addr) (sk : Addr) (cu : Addr) (vi : Addr) (ar : Int32) (ac : Int64) (fc : Int64) (vl : Int32) (so : Int32) (si : Int32) (vt : Int64) (ktg : ClassId) (knx : ClassId) (kfi : ClassId) (krs : ClassId) (kco : ClassId) (tg0 : Int32) (tg1 : Int32) (tg2 : Int32) (tg3 : Int32) (nx0 : Int32) (nx1 : Int32) (nx2 : Int32) (nx3 : Int32) (fi0 : Int32) (fi1 : Int32) (rs0 : Int64) (rs1 : Int64) (rs2 : Int64) (rs3 : Int64) (co0 : Int64) (co1 : Int64) (co2 : Int64) (co3 : Int64) (h0 : Heap) (n0 : Nat) (v : Option Value) (h : Heap) (L : List Loc) : Prop := v = none ∧ Fr n0 L ∧ Keep h0 h [tg, nx, fi, rs, co] ∧ Arv Z h tg ktg .int (16 : Int32) [(.int tg0), (.int 0), (.int tg2), (.int tg3)] (.int 0) ∧ Arv Z h nx knx .int (16 : Int32) [(.int nx0), (.int fi1), (.int nx2), (.int nx3)] (.int 0) ∧ Arv Z h fi kfi .int (2 : Int32) [(.int fi0), (.int 1)] (.int 0) ∧ Arv Z h rs krs .long (16 : Int32) [(.long rs0), (.long x4), (.long rs2), (.long rs3)] (.long 0) ∧ Arv Z h co kco .long (16 : Int32) [(.long co0), (.long x5), (.long co2), (.long co3)] (.long 0)
theorem ef_lk1 (m : MethodId) (x0 : Addr) (x4 : Int64) (x5 : Int64) : entryFrame m #[(.ref x0), (.int 1), (.int 1), (.int 0), (.long x4), (.long x5)] 8 = mkF m 0 #[rv x0, iv 1, iv 1, iv 0, lv x4, .second, lv x5, .second] [] := by first | (simp [entryFrame, mkF, argsToLocals, Value.category]; done) | rfl
set_option maxRecDepth 65536 in
set_option maxHeartbeats 40000000 in
theorem rmlk1 (l : Launch) (Z : State) (a0 : Array Value) (hw : ∀ d ∈ tables_1, d.before a0 Z = true) (x0 : Addr) (x4 : Int64) (x5 : Int64) {nx : Addr} {tg : Addr} {rs : Addr} {co : Addr} {fi : Addr} {po : Addr} {di : Addr} {pa : Addr} {hp : Addr} (hn : Addr) (hq : Addr) {qu : Addr} {qd : Addr} {lw : Addr} {sk : Addr} {cu : Addr} {vi : Addr} {ar : Int32} {ac : Int64} {fc : Int64} {vl : Int32} {so : Int32} {si : Int32} {vt : Int64} {ktg : ClassId} {knx : ClassId} {kfi : ClassId} {krs : ClassId} {kco : ClassId} {tg0 : Int32} {tg1 : Int32} {tg2 : Int32} {tg3 : Int32} {nx0 : Int32} {nx1 : Int32} {nx2 : Int32} {nx3 : Int32} {fi0 : Int32} {fi1 : Int32} {rs0 : Int64} {rs1 : Int64} {rs2 : Int64} {rs3 : Int64} {co0 : Int64} {co1 : Int64} {co2 : Int64} {co3 : Int64} (h0 : Heap) (n0 : Nat) (Z0 : n0 ≤ h0.size) (pre_own_XF : own_XF Z h0 n0 x0 nx tg rs co fi po di pa hp hn hq qu qd lw sk cu vi ar ac fc vl so si vt) (pre_A_tg : Arv Z h0 tg ktg .int (16 : Int32) [(.int tg0), (.int tg1), (.int tg2), (.int tg3)] (.int 0)) (pre_A_nx : Arv Z h0 nx knx .int (16 : Int32) [(.int nx0), (.int nx1), (.int nx2), (.int nx3)] (.int 0)) (pre_A_fi : Arv Z h0 fi kfi .int (2 : Int32) [(.int fi0), (.int fi1)] (.int 0)) (pre_A_rs : Arv Z h0 rs krs .long (16 : Int32) [(.long rs0), (.long rs1), (.long rs2), (.long rs3)] (.long 0)) (pre_A_co : Arv Z h0 co kco .long (16 : Int32) [(.long co0), (.long co1), (.long co2), (.long co3)] (.long 0)) :
    own_M l (⟨"com/example/violarc/violarc/graph/FlowNetwork", "link", "(IIIJJ)V"⟩ : MethodName) c11 8 none ({ frames := 0, cells := 0, slots := 0, locals := 0 } : Room) #[(.ref x0), (.int 1), (.int 1), (.int 0), (.long x4), (.long x5)] Z h0 (Qlk1 Z x0 x4 x5 nx tg rs co fi po di pa hp hn hq qu qd lw sk cu vi ar ac fc vl so si vt ktg knx kfi krs kco tg0 tg1 tg2 tg3 nx0 nx1 nx2 nx3 fi0 fi1 rs0 rs1 rs2 rs3 co0 co1 co2 co3 h0 n0) := by
  refine MetFree.of_bodySF (plainFor_of_name pn_11) hisR ?_
  intro p e s m args below meth c s₁ Bd hml0 hP hK
  obtain ⟨rfl, hZ, hh⟩ := hP
  have hx := Bd.exec
  have hby := Bd.bytes
  have hml : c.maxLocals = 8 := hml0
  have hown : s.vm.findClass "com/example/violarc/violarc/graph/FlowNetwork" = some m.cls := findClass_of_methodNamed Bd.named
  have hnm := (name_of_methodNamed Bd.named Bd.method).1
  have X0 : Stand p l e ({ frames := 0, cells := 0, slots := 0, locals := 0 } : Room) s m #[(.ref x0), (.int 1), (.int 1), (.int 0), (.long x4), (.long x5)] below meth c s₁ [] 0 0 := Stand.of_body Bd
  have e0 : s₁.heap = h0 := by rw [← hh, Bd.state]; rfl
  have N0 := Fr.nil n0
  have Kp0 := Keep.refl h0 [tg, nx, fi, rs, co]
  have hlk := BodyLoose.notSynchronized Bd
  have hrt := Bd.returns
  have K : own_K p c c11 Z s "com/example/violarc/violarc/graph/FlowNetwork" m a0 := ⟨hx, hby, hZ, hown, hw⟩
  refine gStart (S' := s₁.setTop (mkF m 0 #[rv x0, iv 1, iv 1, iv 0, lv x4, .second, lv x5, .second] [])) (congrArg (fun f => s₁.setTop f) (ef_lk1 m x0 x4 x5)) fun Rp hR => ?_
  obtain ⟨nb0_0, nb0_1, nb0_2, nb0_3, nb0_4, nb0_5, nb0_6, nb0_7, nb0_8, nb0_9, nb0_10, nb0_11, nb0_12, nb0_13, nb0_14, nb0_15, nb0_16, nb0_17, nb0_18, nb0_19, nb0_20, nb0_21, nb0_22, nb0_23, nb0_24⟩ := id pre_own_XF
  refine g_ag X0 K e0 14 rfl pre_own_XF.2.2.1 d11_0 d11_1 rfl fun T1 X1 e1 => g_iloadN X1 K d11_4 rfl (g_iloadN X1 K d11_5 rfl (g_iastore X1 K e1 pre_A_tg d11_6 (by decide) 1 ⟨rfl, Nat.le_of_ble_eq_true rfl⟩ (w := [(.int tg0), (.int 0), (.int tg2), (.int tg3)]) rfl rfl fun T2 h2 X2 e2 W2 V2 => ?_))
  have N2 := Fr.snoc X2 N0 (own_ong nb0_24 nb0_23 2 rfl)
  have KK2 := Kp0.wr W2 (Or.inl (List.mem_of_getElem? (i := 0) rfl))
  have xb3 := own_XF_wr pre_own_XF W2 (own_on nb0_24 0 2 rfl rfl)
  refine g_ag X2 K e2 12 rfl xb3.2.1 d11_7 d11_8 rfl fun T4 X4 e4 => g_iloadN X4 K d11_11 rfl (g_ag X4 K e4 24 rfl xb3.2.2.2.2.2.1 d11_12 d11_13 rfl fun T5 X5 e5 => g_iloadN X5 K d11_16 rfl ?_)
  have q6 := (pre_A_fi.other W2 (own_on nb0_24 5 2 rfl rfl))
  refine g_iaload X5 K e5 q6 d11_17 (by decide) (v := (.int fi1)) rfl ?_
  have q7 := (pre_A_nx.other W2 (own_on nb0_24 1 2 rfl rfl))
  refine g_iastore X5 K e5 q7 d11_18 (by decide) 1 ⟨rfl, Nat.le_of_ble_eq_true rfl⟩ (w := [(.int nx0), (.int fi1), (.int nx2), (.int nx3)]) rfl rfl fun T8 h8 X8 e8 W8 V8 => ?_
  have N8 := Fr.snoc X8 N2 (own_ong nb0_24 nb0_23 1 rfl)
  have KK8 := KK2.wr W8 (Or.inl (List.mem_of_getElem? (i := 1) rfl))
  have xb9 := own_XF_wr xb3 W8 (own_on nb0_24 0 1 rfl rfl)
  refine g_ag X8 K e8 24 rfl xb9.2.2.2.2.2.1 d11_19 d11_20 rfl fun T10 X10 e10 => g_iloadN X10 K d11_23 rfl (g_iloadN X10 K d11_24 rfl ?_)
  have q11 := (q6.other W8 (own_on nb0_24 5 1 rfl rfl))
  refine g_iastore X10 K e10 q11 d11_25 (by decide) 1 ⟨rfl, Nat.le_of_ble_eq_true rfl⟩ (w := [(.int fi0), (.int 1)]) rfl rfl fun T12 h12 X12 e12 W12 V12 => ?_
  have N12 := Fr.snoc X12 N8 (own_ong nb0_24 nb0_23 5 rfl)
  have KK12 := KK8.wr W12 (Or.inl (List.mem_of_getElem? (i := 2) rfl))
  have xb13 := own_XF_wr xb9 W12 (own_on nb0_24 0 5 rfl rfl)
  refine g_ag X12 K e12 16 rfl xb13.2.2.2.1 d11_26 d11_27 rfl fun T14 X14 e14 => g_iloadN X14 K d11_30 rfl (g_lload X14 K d11_31 rfl ?_)
  have q15 := (((pre_A_rs.other W2 (own_on nb0_24 3 2 rfl rfl)).other W8 (own_on nb0_24 3 1 rfl rfl)).other W12 (own_on nb0_24 3 5 rfl rfl))
  refine g_lastore X14 K e14 q15 d11_33 (by decide) 1 ⟨rfl, Nat.le_of_ble_eq_true rfl⟩ (w := [(.long rs0), (.long x4), (.long rs2), (.long rs3)]) rfl rfl fun T16 h16 X16 e16 W16 V16 => ?_
  have N16 := Fr.snoc X16 N12 (own_ong nb0_24 nb0_23 3 rfl)
  have KK16 := KK12.wr W16 (Or.inl (List.mem_of_getElem? (i := 3) rfl))
  have xb17 := own_XF_wr xb13 W16 (own_on nb0_24 0 3 rfl rfl)
  refine g_ag X16 K e16 18 rfl xb17.2.2.2.2.1 d11_34 d11_35 rfl fun T18 X18 e18 => g_iloadN X18 K d11_38 rfl (g_lload X18 K d11_39 rfl ?_)
  have q19 := ((((pre_A_co.other W2 (own_on nb0_24 4 2 rfl rfl)).other W8 (own_on nb0_24 4 1 rfl rfl)).other W12 (own_on nb0_24 4 5 rfl rfl)).other W16 (own_on nb0_24 4 3 rfl rfl))
  refine g_lastore X18 K e18 q19 d11_41 (by decide) 1 ⟨rfl, Nat.le_of_ble_eq_true rfl⟩ (w := [(.long co0), (.long x5), (.long co2), (.long co3)]) rfl rfl fun T20 h20 X20 e20 W20 V20 => ?_
  have N20 := Fr.snoc X20 N16 (own_ong nb0_24 nb0_23 4 rfl)
  have KK20 := KK16.wr W20 (Or.inl (List.mem_of_getElem? (i := 4) rfl))
  have q21 := ((((V2.other W8 (own_on nb0_24 2 1 rfl rfl)).other W12 (own_on nb0_24 2 5 rfl rfl)).other W16 (own_on nb0_24 2 3 rfl rfl)).other W20 (own_on nb0_24 2 4 rfl rfl))
  have q22 := (((V8.other W12 (own_on nb0_24 1 5 rfl rfl)).other W16 (own_on nb0_24 1 3 rfl rfl)).other W20 (own_on nb0_24 1 4 rfl rfl))
  have q23 := ((V12.other W16 (own_on nb0_24 5 3 rfl rfl)).other W20 (own_on nb0_24 5 4 rfl rfl))
  have q24 := (V16.other W20 (own_on nb0_24 3 4 rfl rfl))
  exact g_lv0 X20 K hlk hrt hR d11_42 (by decide) (by rw [e20]; exact ⟨rfl, N20, KK20, q21, q22, q23, q24, V20⟩)
def Qlk2 (Z : State) (x0 : Addr) (x4 : Int64) (x5 : Int64) (nx : Addr) (tg : Addr) (rs : Addr) (co : Addr) (fi : Addr) (po : Addr) (di : Addr) (pa : Addr) (hp : Addr) (hn : Addr) (hq : Addr) (qu : Addr) (qd : Addr) (lw : Addr) (sk : Addr) (cu : Addr) (vi : Addr) (ar : Int32) (ac : Int64) (fc : Int64) (vl : Int32) (so : Int32) (si : Int32) (vt : Int64) (ktg : ClassId) (knx : ClassId) (kfi : ClassId) (krs : ClassId) (kco : ClassId) (tg0 : Int32) (tg1 : Int32) (tg2 : Int32) (tg3 : Int32) (nx0 : Int32) (nx1 : Int32) (nx2 : Int32) (nx3 : Int32) (fi0 : Int32) (fi1 : Int32) (rs0 : Int64) (rs1 : Int64) (rs2 : Int64) (rs3 : Int64) (co0 : Int64) (co1 : Int64) (co2 : Int64) (co3 : Int64) (h0 : Heap) (n0 : Nat) (v : Option Value) (h : Heap) (L : List Loc) : Prop := v = none ∧ Fr n0 L ∧ Keep h0 h [tg, nx, fi, rs, co] ∧ Arv Z h tg ktg .int (16 : Int32) [(.int tg0), (.int tg1), (.int 1), (.int tg3)] (.int 0) ∧ Arv Z h nx knx .int (16 : Int32) [(.int nx0), (.int nx1), (.int fi0), (.int nx3)] (.int 0) ∧ Arv Z h fi kfi .int (2 : Int32) [(.int 2), (.int fi1)] (.int 0) ∧ Arv Z h rs krs .long (16 : Int32) [(.long rs0), (.long rs1), (.long x4), (.long rs3)] (.long 0) ∧ Arv Z h co kco .long (16 : Int32) [(.long co0), (.long co1), (.long x5), (.long co3)] (.long 0)
theorem ef_lk2 (m : MethodId) (x0 : Addr) (x4 : Int64) (x5 : Int64) : entryFrame m #[(.ref x0), (.int 2), (.int 0), (.int 1), (.long x4), (.long x5)] 8 = mkF m 0 #[rv x0, iv 2, iv 0, iv 1, lv x4, .second, lv x5, .second] [] := by first | (simp [entryFrame, mkF, argsToLocals, Value.category]; done) | rfl
set_option maxRecDepth 65536 in
set_option maxHeartbeats 40000000 in
theorem rmlk2 (l : Launch) (Z : State) (a0 : Array Value) (hw : ∀ d ∈ tables_1, d.before a0 Z = true) (x0 : Addr) (x4 : Int64) (x5 : Int64) {nx : Addr} {tg : Addr} {rs : Addr} {co : Addr} {fi : Addr} {po : Addr} {di : Addr} {pa : Addr} {hp : Addr} (hn : Addr) (hq : Addr) {qu : Addr} {qd : Addr} {lw : Addr} {sk : Addr} {cu : Addr} {vi : Addr} {ar : Int32} {ac : Int64} {fc : Int64} {vl : Int32} {so : Int32} {si : Int32} {vt : Int64} {ktg : ClassId} {knx : ClassId} {kfi : ClassId} {krs : ClassId} {kco : ClassId} {tg0 : Int32} {tg1 : Int32} {tg2 : Int32} {tg3 : Int32} {nx0 : Int32} {nx1 : Int32} {nx2 : Int32} {nx3 : Int32} {fi0 : Int32} {fi1 : Int32} {rs0 : Int64} {rs1 : Int64} {rs2 : Int64} {rs3 : Int64} {co0 : Int64} {co1 : Int64} {co2 : Int64} {co3 : Int64} (h0 : Heap) (n0 : Nat) (Z0 : n0 ≤ h0.size) (pre_own_XF : own_XF Z h0 n0 x0 nx tg rs co fi po di pa hp hn hq qu qd lw sk cu vi ar ac fc vl so si vt) (pre_A_tg : Arv Z h0 tg ktg .int (16 : Int32) [(.int tg0), (.int tg1), (.int tg2), (.int tg3)] (.int 0)) (pre_A_nx : Arv Z h0 nx knx .int (16 : Int32) [(.int nx0), (.int nx1), (.int nx2), (.int nx3)] (.int 0)) (pre_A_fi : Arv Z h0 fi kfi .int (2 : Int32) [(.int fi0), (.int fi1)] (.int 0)) (pre_A_rs : Arv Z h0 rs krs .long (16 : Int32) [(.long rs0), (.long rs1), (.long rs2), (.long rs3)] (.long 0)) (pre_A_co : Arv Z h0 co kco .long (16 : Int32) [(.long co0), (.long co1), (.long co2), (.long co3)] (.long 0)) :
    own_M l (⟨"com/example/violarc/violarc/graph/FlowNetwork", "link", "(IIIJJ)V"⟩ : MethodName) c11 8 none ({ frames := 0, cells := 0, slots := 0, locals := 0 } : Room) #[(.ref x0), (.int 2), (.int 0), (.int 1), (.long x4), (.long x5)] Z h0 (Qlk2 Z x0 x4 x5 nx tg rs co fi po di pa hp hn hq qu qd lw sk cu vi ar ac fc vl so si vt ktg knx kfi krs kco tg0 tg1 tg2 tg3 nx0 nx1 nx2 nx3 fi0 fi1 rs0 rs1 rs2 rs3 co0 co1 co2 co3 h0 n0) := by
  refine MetFree.of_bodySF (plainFor_of_name pn_11) hisR ?_
  intro p e s m args below meth c s₁ Bd hml0 hP hK
  obtain ⟨rfl, hZ, hh⟩ := hP
  have hx := Bd.exec
  have hby := Bd.bytes
  have hml : c.maxLocals = 8 := hml0
  have hown : s.vm.findClass "com/example/violarc/violarc/graph/FlowNetwork" = some m.cls := findClass_of_methodNamed Bd.named
  have hnm := (name_of_methodNamed Bd.named Bd.method).1
  have X0 : Stand p l e ({ frames := 0, cells := 0, slots := 0, locals := 0 } : Room) s m #[(.ref x0), (.int 2), (.int 0), (.int 1), (.long x4), (.long x5)] below meth c s₁ [] 0 0 := Stand.of_body Bd
  have e0 : s₁.heap = h0 := by rw [← hh, Bd.state]; rfl
  have N0 := Fr.nil n0
  have Kp0 := Keep.refl h0 [tg, nx, fi, rs, co]
  have hlk := BodyLoose.notSynchronized Bd
  have hrt := Bd.returns
  have K : own_K p c c11 Z s "com/example/violarc/violarc/graph/FlowNetwork" m a0 := ⟨hx, hby, hZ, hown, hw⟩
  refine gStart (S' := s₁.setTop (mkF m 0 #[rv x0, iv 2, iv 0, iv 1, lv x4, .second, lv x5, .second] [])) (congrArg (fun f => s₁.setTop f) (ef_lk2 m x0 x4 x5)) fun Rp hR => ?_
  obtain ⟨nb0_0, nb0_1, nb0_2, nb0_3, nb0_4, nb0_5, nb0_6, nb0_7, nb0_8, nb0_9, nb0_10, nb0_11, nb0_12, nb0_13, nb0_14, nb0_15, nb0_16, nb0_17, nb0_18, nb0_19, nb0_20, nb0_21, nb0_22, nb0_23, nb0_24⟩ := id pre_own_XF
  refine g_ag X0 K e0 14 rfl pre_own_XF.2.2.1 d11_0 d11_1 rfl fun T1 X1 e1 => g_iloadN X1 K d11_4 rfl (g_iloadN X1 K d11_5 rfl (g_iastore X1 K e1 pre_A_tg d11_6 (by decide) 2 ⟨rfl, Nat.le_of_ble_eq_true rfl⟩ (w := [(.int tg0), (.int tg1), (.int 1), (.int tg3)]) rfl rfl fun T2 h2 X2 e2 W2 V2 => ?_))
  have N2 := Fr.snoc X2 N0 (own_ong nb0_24 nb0_23 2 rfl)
  have KK2 := Kp0.wr W2 (Or.inl (List.mem_of_getElem? (i := 0) rfl))
  have xb3 := own_XF_wr pre_own_XF W2 (own_on nb0_24 0 2 rfl rfl)
  refine g_ag X2 K e2 12 rfl xb3.2.1 d11_7 d11_8 rfl fun T4 X4 e4 => g_iloadN X4 K d11_11 rfl (g_ag X4 K e4 24 rfl xb3.2.2.2.2.2.1 d11_12 d11_13 rfl fun T5 X5 e5 => g_iloadN X5 K d11_16 rfl ?_)
  have q6 := (pre_A_fi.other W2 (own_on nb0_24 5 2 rfl rfl))
  refine g_iaload X5 K e5 q6 d11_17 (by decide) (v := (.int fi0)) rfl ?_
  have q7 := (pre_A_nx.other W2 (own_on nb0_24 1 2 rfl rfl))
  refine g_iastore X5 K e5 q7 d11_18 (by decide) 2 ⟨rfl, Nat.le_of_ble_eq_true rfl⟩ (w := [(.int nx0), (.int nx1), (.int fi0), (.int nx3)]) rfl rfl fun T8 h8 X8 e8 W8 V8 => ?_
  have N8 := Fr.snoc X8 N2 (own_ong nb0_24 nb0_23 1 rfl)
  have KK8 := KK2.wr W8 (Or.inl (List.mem_of_getElem? (i := 1) rfl))
  have xb9 := own_XF_wr xb3 W8 (own_on nb0_24 0 1 rfl rfl)
  refine g_ag X8 K e8 24 rfl xb9.2.2.2.2.2.1 d11_19 d11_20 rfl fun T10 X10 e10 => g_iloadN X10 K d11_23 rfl (g_iloadN X10 K d11_24 rfl ?_)
  have q11 := (q6.other W8 (own_on nb0_24 5 1 rfl rfl))
  refine g_iastore X10 K e10 q11 d11_25 (by decide) 0 ⟨rfl, Nat.le_of_ble_eq_true rfl⟩ (w := [(.int 2), (.int fi1)]) rfl rfl fun T12 h12 X12 e12 W12 V12 => ?_
  have N12 := Fr.snoc X12 N8 (own_ong nb0_24 nb0_23 5 rfl)
  have KK12 := KK8.wr W12 (Or.inl (List.mem_of_getElem? (i := 2) rfl))
  have xb13 := own_XF_wr xb9 W12 (own_on nb0_24 0 5 rfl rfl)
  refine g_ag X12 K e12 16 rfl xb13.2.2.2.1 d11_26 d11_27 rfl fun T14 X14 e14 => g_iloadN X14 K d11_30 rfl (g_lload X14 K d11_31 rfl ?_)
  have q15 := (((pre_A_rs.other W2 (own_on nb0_24 3 2 rfl rfl)).other W8 (own_on nb0_24 3 1 rfl rfl)).other W12 (own_on nb0_24 3 5 rfl rfl))
  refine g_lastore X14 K e14 q15 d11_33 (by decide) 2 ⟨rfl, Nat.le_of_ble_eq_true rfl⟩ (w := [(.long rs0), (.long rs1), (.long x4), (.long rs3)]) rfl rfl fun T16 h16 X16 e16 W16 V16 => ?_
  have N16 := Fr.snoc X16 N12 (own_ong nb0_24 nb0_23 3 rfl)
  have KK16 := KK12.wr W16 (Or.inl (List.mem_of_getElem? (i := 3) rfl))
  have xb17 := own_XF_wr xb13 W16 (own_on nb0_24 0 3 rfl rfl)
  refine g_ag X16 K e16 18 rfl xb17.2.2.2.2.1 d11_34 d11_35 rfl fun T18 X18 e18 => g_iloadN X18 K d11_38 rfl (g_lload X18 K d11_39 rfl ?_)
  have q19 := ((((pre_A_co.other W2 (own_on nb0_24 4 2 rfl rfl)).other W8 (own_on nb0_24 4 1 rfl rfl)).other W12 (own_on nb0_24 4 5 rfl rfl)).other W16 (own_on nb0_24 4 3 rfl rfl))
  refine g_lastore X18 K e18 q19 d11_41 (by decide) 2 ⟨rfl, Nat.le_of_ble_eq_true rfl⟩ (w := [(.long co0), (.long co1), (.long x5), (.long co3)]) rfl rfl fun T20 h20 X20 e20 W20 V20 => ?_
  have N20 := Fr.snoc X20 N16 (own_ong nb0_24 nb0_23 4 rfl)
  have KK20 := KK16.wr W20 (Or.inl (List.mem_of_getElem? (i := 4) rfl))
  have q21 := ((((V2.other W8 (own_on nb0_24 2 1 rfl rfl)).other W12 (own_on nb0_24 2 5 rfl rfl)).other W16 (own_on nb0_24 2 3 rfl rfl)).other W20 (own_on nb0_24 2 4 rfl rfl))
  have q22 := (((V8.other W12 (own_on nb0_24 1 5 rfl rfl)).other W16 (own_on nb0_24 1 3 rfl rfl)).other W20 (own_on nb0_24 1 4 rfl rfl))
  have q23 := ((V12.other W16 (own_on nb0_24 5 3 rfl rfl)).other W20 (own_on nb0_24 5 4 rfl rfl))
  have q24 := (V16.other W20 (own_on nb0_24 3 4 rfl rfl))
  exact g_lv0 X20 K hlk hrt hR d11_42 (by decide) (by rw [e20]; exact ⟨rfl, N20, KK20, q21, q22, q23, q24, V20⟩)
def Qlk3 (Z : State) (x0 : Addr) (x4 : Int64) (x5 : Int64) (nx : Addr) (tg : Addr) (rs : Addr) (co : Addr) (fi : Addr) (po : Addr) (di : Addr) (pa : Addr) (hp : Addr) (hn : Addr) (hq : Addr) (qu : Addr) (qd : Addr) (lw : Addr) (sk : Addr) (cu : Addr) (vi : Addr) (ar : Int32) (ac : Int64) (fc : Int64) (vl : Int32) (so : Int32) (si : Int32) (vt : Int64) (ktg : ClassId) (knx : ClassId) (kfi : ClassId) (krs : ClassId) (kco : ClassId) (tg0 : Int32) (tg1 : Int32) (tg2 : Int32) (tg3 : Int32) (nx0 : Int32) (nx1 : Int32) (nx2 : Int32) (nx3 : Int32) (fi0 : Int32) (fi1 : Int32) (rs0 : Int64) (rs1 : Int64) (rs2 : Int64) (rs3 : Int64) (co0 : Int64) (co1 : Int64) (co2 : Int64) (co3 : Int64) (h0 : Heap) (n0 : Nat) (v : Option Value) (h : Heap) (L : List Loc) : Prop := v = none ∧ Fr n0 L ∧ Keep h0 h [tg, nx, fi, rs, co] ∧ Arv Z h tg ktg .int (16 : Int32) [(.int tg0), (.int tg1), (.int tg2), (.int 0)] (.int 0) ∧ Arv Z h nx knx .int (16 : Int32) [(.int nx0), (.int nx1), (.int nx2), (.int fi1)] (.int 0) ∧ Arv Z h fi kfi .int (2 : Int32) [(.int fi0), (.int 3)] (.int 0) ∧ Arv Z h rs krs .long (16 : Int32) [(.long rs0), (.long rs1), (.long rs2), (.long x4)] (.long 0) ∧ Arv Z h co kco .long (16 : Int32) [(.long co0), (.long co1), (.long co2), (.long x5)] (.long 0)
theorem ef_lk3 (m : MethodId) (x0 : Addr) (x4 : Int64) (x5 : Int64) : entryFrame m #[(.ref x0), (.int 3), (.int 1), (.int 0), (.long x4), (.long x5)] 8 = mkF m 0 #[rv x0, iv 3, iv 1, iv 0, lv x4, .second, lv x5, .second] [] := by first | (simp [entryFrame, mkF, argsToLocals, Value.category]; done) | rfl
set_option maxRecDepth 65536 in
set_option maxHeartbeats 40000000 in
theorem rmlk3 (l : Launch) (Z : State) (a0 : Array Value) (hw : ∀ d ∈ tables_1, d.before a0 Z = true) (x0 : Addr) (x4 : Int64) (x5 : Int64) {nx : Addr} {tg : Addr} {rs : Addr} {co : Addr} {fi : Addr} {po : Addr} {di : Addr} {pa : Addr} {hp : Addr} (hn : Addr) (hq : Addr) {qu : Addr} {qd : Addr} {lw : Addr} {sk : Addr} {cu : Addr} {vi : Addr} {ar : Int32} {ac : Int64} {fc : Int64} {vl : Int32} {so : Int32} {si : Int32} {vt : Int64} {ktg : ClassId} {knx : ClassId} {kfi : ClassId} {krs : ClassId} {kco : ClassId} {tg0 : Int32} {tg1 : Int32} {tg2 : Int32} {tg3 : Int32} {nx0 : Int32} {nx1 : Int32} {nx2 : Int32} {nx3 : Int32} {fi0 : Int32} {fi1 : Int32} {rs0 : Int64} {rs1 : Int64} {rs2 : Int64} {rs3 : Int64} {co0 : Int64} {co1 : Int64} {co2 : Int64} {co3 : Int64} (h0 : Heap) (n0 : Nat) (Z0 : n0 ≤ h0.size) (pre_own_XF : own_XF Z h0 n0 x0 nx tg rs co fi po di pa hp hn hq qu qd lw sk cu vi ar ac fc vl so si vt) (pre_A_tg : Arv Z h0 tg ktg .int (16 : Int32) [(.int tg0), (.int tg1), (.int tg2), (.int tg3)] (.int 0)) (pre_A_nx : Arv Z h0 nx knx .int (16 : Int32) [(.int nx0), (.int nx1), (.int nx2), (.int nx3)] (.int 0)) (pre_A_fi : Arv Z h0 fi kfi .int (2 : Int32) [(.int fi0), (.int fi1)] (.int 0)) (pre_A_rs : Arv Z h0 rs krs .long (16 : Int32) [(.long rs0), (.long rs1), (.long rs2), (.long rs3)] (.long 0)) (pre_A_co : Arv Z h0 co kco .long (16 : Int32) [(.long co0), (.long co1), (.long co2), (.long co3)] (.long 0)) :
    own_M l (⟨"com/example/violarc/violarc/graph/FlowNetwork", "link", "(IIIJJ)V"⟩ : MethodName) c11 8 none ({ frames := 0, cells := 0, slots := 0, locals := 0 } : Room) #[(.ref x0), (.int 3), (.int 1), (.int 0), (.long x4), (.long x5)] Z h0 (Qlk3 Z x0 x4 x5 nx tg rs co fi po di pa hp hn hq qu qd lw sk cu vi ar ac fc vl so si vt ktg knx kfi krs kco tg0 tg1 tg2 tg3 nx0 nx1 nx2 nx3 fi0 fi1 rs0 rs1 rs2 rs3 co0 co1 co2 co3 h0 n0) := by
  refine MetFree.of_bodySF (plainFor_of_name pn_11) hisR ?_
  intro p e s m args below meth c s₁ Bd hml0 hP hK
  obtain ⟨rfl, hZ, hh⟩ := hP
  have hx := Bd.exec
  have hby := Bd.bytes
  have hml : c.maxLocals = 8 := hml0
  have hown : s.vm.findClass "com/example/violarc/violarc/graph/FlowNetwork" = some m.cls := findClass_of_methodNamed Bd.named
  have hnm := (name_of_methodNamed Bd.named Bd.method).1
  have X0 : Stand p l e ({ frames := 0, cells := 0, slots := 0, locals := 0 } : Room) s m #[(.ref x0), (.int 3), (.int 1), (.int 0), (.long x4), (.long x5)] below meth c s₁ [] 0 0 := Stand.of_body Bd
  have e0 : s₁.heap = h0 := by rw [← hh, Bd.state]; rfl
  have N0 := Fr.nil n0
  have Kp0 := Keep.refl h0 [tg, nx, fi, rs, co]
  have hlk := BodyLoose.notSynchronized Bd
  have hrt := Bd.returns
  have K : own_K p c c11 Z s "com/example/violarc/violarc/graph/FlowNetwork" m a0 := ⟨hx, hby, hZ, hown, hw⟩
  refine gStart (S' := s₁.setTop (mkF m 0 #[rv x0, iv 3, iv 1, iv 0, lv x4, .second, lv x5, .second] [])) (congrArg (fun f => s₁.setTop f) (ef_lk3 m x0 x4 x5)) fun Rp hR => ?_
  obtain ⟨nb0_0, nb0_1, nb0_2, nb0_3, nb0_4, nb0_5, nb0_6, nb0_7, nb0_8, nb0_9, nb0_10, nb0_11, nb0_12, nb0_13, nb0_14, nb0_15, nb0_16, nb0_17, nb0_18, nb0_19, nb0_20, nb0_21, nb0_22, nb0_23, nb0_24⟩ := id pre_own_XF
  refine g_ag X0 K e0 14 rfl pre_own_XF.2.2.1 d11_0 d11_1 rfl fun T1 X1 e1 => g_iloadN X1 K d11_4 rfl (g_iloadN X1 K d11_5 rfl (g_iastore X1 K e1 pre_A_tg d11_6 (by decide) 3 ⟨rfl, Nat.le_of_ble_eq_true rfl⟩ (w := [(.int tg0), (.int tg1), (.int tg2), (.int 0)]) rfl rfl fun T2 h2 X2 e2 W2 V2 => ?_))
  have N2 := Fr.snoc X2 N0 (own_ong nb0_24 nb0_23 2 rfl)
  have KK2 := Kp0.wr W2 (Or.inl (List.mem_of_getElem? (i := 0) rfl))
  have xb3 := own_XF_wr pre_own_XF W2 (own_on nb0_24 0 2 rfl rfl)
  refine g_ag X2 K e2 12 rfl xb3.2.1 d11_7 d11_8 rfl fun T4 X4 e4 => g_iloadN X4 K d11_11 rfl (g_ag X4 K e4 24 rfl xb3.2.2.2.2.2.1 d11_12 d11_13 rfl fun T5 X5 e5 => g_iloadN X5 K d11_16 rfl ?_)
  have q6 := (pre_A_fi.other W2 (own_on nb0_24 5 2 rfl rfl))
  refine g_iaload X5 K e5 q6 d11_17 (by decide) (v := (.int fi1)) rfl ?_
  have q7 := (pre_A_nx.other W2 (own_on nb0_24 1 2 rfl rfl))
  refine g_iastore X5 K e5 q7 d11_18 (by decide) 3 ⟨rfl, Nat.le_of_ble_eq_true rfl⟩ (w := [(.int nx0), (.int nx1), (.int nx2), (.int fi1)]) rfl rfl fun T8 h8 X8 e8 W8 V8 => ?_
  have N8 := Fr.snoc X8 N2 (own_ong nb0_24 nb0_23 1 rfl)
  have KK8 := KK2.wr W8 (Or.inl (List.mem_of_getElem? (i := 1) rfl))
  have xb9 := own_XF_wr xb3 W8 (own_on nb0_24 0 1 rfl rfl)
  refine g_ag X8 K e8 24 rfl xb9.2.2.2.2.2.1 d11_19 d11_20 rfl fun T10 X10 e10 => g_iloadN X10 K d11_23 rfl (g_iloadN X10 K d11_24 rfl ?_)
  have q11 := (q6.other W8 (own_on nb0_24 5 1 rfl rfl))
  refine g_iastore X10 K e10 q11 d11_25 (by decide) 1 ⟨rfl, Nat.le_of_ble_eq_true rfl⟩ (w := [(.int fi0), (.int 3)]) rfl rfl fun T12 h12 X12 e12 W12 V12 => ?_
  have N12 := Fr.snoc X12 N8 (own_ong nb0_24 nb0_23 5 rfl)
  have KK12 := KK8.wr W12 (Or.inl (List.mem_of_getElem? (i := 2) rfl))
  have xb13 := own_XF_wr xb9 W12 (own_on nb0_24 0 5 rfl rfl)
  refine g_ag X12 K e12 16 rfl xb13.2.2.2.1 d11_26 d11_27 rfl fun T14 X14 e14 => g_iloadN X14 K d11_30 rfl (g_lload X14 K d11_31 rfl ?_)
  have q15 := (((pre_A_rs.other W2 (own_on nb0_24 3 2 rfl rfl)).other W8 (own_on nb0_24 3 1 rfl rfl)).other W12 (own_on nb0_24 3 5 rfl rfl))
  refine g_lastore X14 K e14 q15 d11_33 (by decide) 3 ⟨rfl, Nat.le_of_ble_eq_true rfl⟩ (w := [(.long rs0), (.long rs1), (.long rs2), (.long x4)]) rfl rfl fun T16 h16 X16 e16 W16 V16 => ?_
  have N16 := Fr.snoc X16 N12 (own_ong nb0_24 nb0_23 3 rfl)
  have KK16 := KK12.wr W16 (Or.inl (List.mem_of_getElem? (i := 3) rfl))
  have xb17 := own_XF_wr xb13 W16 (own_on nb0_24 0 3 rfl rfl)
  refine g_ag X16 K e16 18 rfl xb17.2.2.2.2.1 d11_34 d11_35 rfl fun T18 X18 e18 => g_iloadN X18 K d11_38 rfl (g_lload X18 K d11_39 rfl ?_)
  have q19 := ((((pre_A_co.other W2 (own_on nb0_24 4 2 rfl rfl)).other W8 (own_on nb0_24 4 1 rfl rfl)).other W12 (own_on nb0_24 4 5 rfl rfl)).other W16 (own_on nb0_24 4 3 rfl rfl))
  refine g_lastore X18 K e18 q19 d11_41 (by decide) 3 ⟨rfl, Nat.le_of_ble_eq_true rfl⟩ (w := [(.long co0), (.long co1), (.long co2), (.long x5)]) rfl rfl fun T20 h20 X20 e20 W20 V20 => ?_
  have N20 := Fr.snoc X20 N16 (own_ong nb0_24 nb0_23 4 rfl)
  have KK20 := KK16.wr W20 (Or.inl (List.mem_of_getElem? (i := 4) rfl))
  have q21 := ((((V2.other W8 (own_on nb0_24 2 1 rfl rfl)).other W12 (own_on nb0_24 2 5 rfl rfl)).other W16 (own_on nb0_24 2 3 rfl rfl)).other W20 (own_on nb0_24 2 4 rfl rfl))
  have q22 := (((V8.other W12 (own_on nb0_24 1 5 rfl rfl)).other W16 (own_on nb0_24 1 3 rfl rfl)).other W20 (own_on nb0_24 1 4 rfl rfl))
  have q23 := ((V12.other W16 (own_on nb0_24 5 3 rfl rfl)).other W20 (own_on nb0_24 5 4 rfl rfl))
  have q24 := (V16.other W20 (own_on nb0_24 3 4 rfl rfl))
  exact g_lv0 X20 K hlk hrt hR d11_42 (by decide) (by rw [e20]; exact ⟨rfl, N20, KK20, q21, q22, q23, q24, V20⟩)
def Qadd0 (Z : State) (x0 : Addr) (x3 : Int64) (x4 : Int64) (nx : Addr) (tg : Addr) (rs : Addr) (co : Addr) (fi : Addr) (po : Addr) (di : Addr) (pa : Addr) (hp : Addr) (hn : Addr) (hq : Addr) (qu : Addr) (qd : Addr) (lw : Addr) (sk : Addr) (cu : Addr) (vi : Addr) (ac : Int64) (fc : Int64) (vl : Int32) (so : Int32) (si : Int32) (vt : Int64) (ktg : ClassId) (knx : ClassId) (kfi : ClassId) (krs : ClassId) (kco : ClassId) (tg0 : Int32) (tg1 : Int32) (tg2 : Int32) (tg3 : Int32) (nx0 : Int32) (nx1 : Int32) (nx2 : Int32) (nx3 : Int32) (fi0 : Int32) (fi1 : Int32) (rs0 : Int64) (rs1 : Int64) (rs2 : Int64) (rs3 : Int64) (co0 : Int64) (co1 : Int64) (co2 : Int64) (co3 : Int64) (h0 : Heap) (n0 : Nat) (v : Option Value) (h : Heap) (L : List Loc) : Prop := v = some (.int 0) ∧ Fr n0 L ∧ Keep h0 h [x0, tg, nx, fi, rs, co] ∧ own_XF Z h n0 x0 nx tg rs co fi po di pa hp hn hq qu qd lw sk cu vi (1 : Int32) (ac + (own_abs x4)) fc (0 : Int32) so si vt ∧ Arv Z h tg ktg .int (16 : Int32) [(.int 1), (.int 0), (.int tg2), (.int tg3)] (.int 0) ∧ Arv Z h nx knx .int (16 : Int32) [(.int fi0), (.int fi1), (.int nx2), (.int nx3)] (.int 0) ∧ Arv Z h fi kfi .int (2 : Int32) [(.int 0), (.int 1)] (.int 0) ∧ Arv Z h rs krs .long (16 : Int32) [(.long x3), (.long 0), (.long rs2), (.long rs3)] (.long 0) ∧ Arv Z h co kco .long (16 : Int32) [(.long x4), (.long (-x4)), (.long co2), (.long co3)] (.long 0)
theorem ef_add0 (m : MethodId) (x0 : Addr) (x3 : Int64) (x4 : Int64) : entryFrame m #[(.ref x0), (.int 0), (.int 1), (.long x3), (.long x4)] 10 = mkF m 0 #[rv x0, iv 0, iv 1, lv x3, .second, lv x4, .second, .unset, .unset, .unset] [] := by first | (simp [entryFrame, mkF, argsToLocals, Value.category]; done) | rfl
set_option maxRecDepth 65536 in
set_option maxHeartbeats 40000000 in
theorem rmadd0 (l : Launch) (Z : State) (a0 : Array Value) (hw : ∀ d ∈ tables_1, d.before a0 Z = true) (x0 : Addr) (x3 : Int64) (x4 : Int64) {nx : Addr} {tg : Addr} {rs : Addr} {co : Addr} {fi : Addr} {po : Addr} {di : Addr} {pa : Addr} {hp : Addr} (hn : Addr) (hq : Addr) {qu : Addr} {qd : Addr} {lw : Addr} {sk : Addr} {cu : Addr} {vi : Addr} {ac : Int64} {fc : Int64} {vl : Int32} {so : Int32} {si : Int32} {vt : Int64} {ktg : ClassId} {knx : ClassId} {kfi : ClassId} {krs : ClassId} {kco : ClassId} {tg0 : Int32} {tg1 : Int32} {tg2 : Int32} {tg3 : Int32} {nx0 : Int32} {nx1 : Int32} {nx2 : Int32} {nx3 : Int32} {fi0 : Int32} {fi1 : Int32} {rs0 : Int64} {rs1 : Int64} {rs2 : Int64} {rs3 : Int64} {co0 : Int64} {co1 : Int64} {co2 : Int64} {co3 : Int64} (h0 : Heap) (n0 : Nat) (Z0 : n0 ≤ h0.size) (pre_own_XF : own_XF Z h0 n0 x0 nx tg rs co fi po di pa hp hn hq qu qd lw sk cu vi (0 : Int32) ac fc vl so si vt) (pre_A_tg : Arv Z h0 tg ktg .int (16 : Int32) [(.int tg0), (.int tg1), (.int tg2), (.int tg3)] (.int 0)) (pre_A_nx : Arv Z h0 nx knx .int (16 : Int32) [(.int nx0), (.int nx1), (.int nx2), (.int nx3)] (.int 0)) (pre_A_fi : Arv Z h0 fi kfi .int (2 : Int32) [(.int fi0), (.int fi1)] (.int 0)) (pre_A_rs : Arv Z h0 rs krs .long (16 : Int32) [(.long rs0), (.long rs1), (.long rs2), (.long rs3)] (.long 0)) (pre_A_co : Arv Z h0 co kco .long (16 : Int32) [(.long co0), (.long co1), (.long co2), (.long co3)] (.long 0)) (hcap : ¬ (x3 < (0 : Int64))) (hab : ¬ (x4 = (-9223372036854775808 : Int64))) (hadd : ¬ (((ac ^^^ (ac + (own_abs x4))) &&& ((own_abs x4) ^^^ (ac + (own_abs x4)))) < (0 : Int64))) (hmax : ¬ ((1152921504606846975 : Int64) < (ac + (own_abs x4)))) :
    own_M l (⟨"com/example/violarc/violarc/graph/FlowNetwork", "addArc", "(IIJJ)I"⟩ : MethodName) c5 10 (some .int) ({ frames := 2, cells := 0, slots := 0, locals := 28 } : Room) #[(.ref x0), (.int 0), (.int 1), (.long x3), (.long x4)] Z h0 (Qadd0 Z x0 x3 x4 nx tg rs co fi po di pa hp hn hq qu qd lw sk cu vi ac fc vl so si vt ktg knx kfi krs kco tg0 tg1 tg2 tg3 nx0 nx1 nx2 nx3 fi0 fi1 rs0 rs1 rs2 rs3 co0 co1 co2 co3 h0 n0) := by
  refine MetFree.of_bodySF (plainFor_of_name pn_5) hisR ?_
  intro p e s m args below meth c s₁ Bd hml0 hP hK
  obtain ⟨rfl, hZ, hh⟩ := hP
  have hx := Bd.exec
  have hby := Bd.bytes
  have hml : c.maxLocals = 10 := hml0
  have hown : s.vm.findClass "com/example/violarc/violarc/graph/FlowNetwork" = some m.cls := findClass_of_methodNamed Bd.named
  have hnm := (name_of_methodNamed Bd.named Bd.method).1
  have X0 : Stand p l e ({ frames := 2, cells := 0, slots := 0, locals := 28 } : Room) s m #[(.ref x0), (.int 0), (.int 1), (.long x3), (.long x4)] below meth c s₁ [] 0 0 := Stand.of_body Bd
  have e0 : s₁.heap = h0 := by rw [← hh, Bd.state]; rfl
  have N0 := Fr.nil n0
  have Kp0 := Keep.refl h0 [x0, tg, nx, fi, rs, co]
  have hlk := BodyLoose.notSynchronized Bd
  have hrt := Bd.returns
  have K : own_K p c c5 Z s "com/example/violarc/violarc/graph/FlowNetwork" m a0 := ⟨hx, hby, hZ, hown, hw⟩
  refine gStart (S' := s₁.setTop (mkF m 0 #[rv x0, iv 0, iv 1, lv x3, .second, lv x4, .second, uu, uu, uu] [])) (congrArg (fun f => s₁.setTop f) (ef_add0 m x0 x3 x4)) fun Rp hR => ?_
  obtain ⟨nb0_0, nb0_1, nb0_2, nb0_3, nb0_4, nb0_5, nb0_6, nb0_7, nb0_8, nb0_9, nb0_10, nb0_11, nb0_12, nb0_13, nb0_14, nb0_15, nb0_16, nb0_17, nb0_18, nb0_19, nb0_20, nb0_21, nb0_22, nb0_23, nb0_24⟩ := id pre_own_XF
  have na0 : x0 ∉ [tg, nx, fi, rs, co] := own_nin nb0_24 0 rfl [2, 1, 5, 3, 4] _ rfl (by decide)
  refine g_aloadN X0 K d5_0 rfl rfl (g_iloadN X0 K d5_1 rfl (g_callP X0 K e0 70 71 4 73 72 3 rfl rfl rfl rfl rfl rfl (by decide) (rmckn0 l Z a0 hw x0 h0 n0 Z0 pre_own_XF.2.2.2.2.2.1 pre_A_fi) pre_own_XF.1 d5_2 hml.symm (argsL := [(.int 0)]) (lenOf pd_3 rfl) rfl 0 (Nat.le_of_ble_eq_true rfl) (by decide) fun v1 T1 Lc1 hQ1 X1 => ?_))
  obtain ⟨rfl, N1q, e1⟩ := hQ1
  have N1 := Fr.app N0 N1q
  dsimp only [Option.toList, List.cons_append, List.nil_append]
  refine g_aloadN X1 K d5_5 rfl rfl (g_iloadN X1 K d5_6 rfl (g_callP X1 K e1 70 71 4 73 72 3 rfl rfl rfl rfl rfl rfl (by decide) (rmckn1 l Z a0 hw x0 h0 n0 Z0 pre_own_XF.2.2.2.2.2.1 pre_A_fi) pre_own_XF.1 d5_7 hml.symm (argsL := [(.int 1)]) (lenOf pd_3 rfl) rfl 0 (Nat.le_of_ble_eq_true rfl) (by decide) fun v2 T2 Lc2 hQ2 X2 => ?_))
  obtain ⟨rfl, N2q, e2⟩ := hQ2
  have N2 := Fr.app N1 N2q
  dsimp only [Option.toList, List.cons_append, List.nil_append]
  refine g_lloadN X2 K d5_10 rfl (g_callS X2 K e2 74 75 4 76 rfl rfl rfl rfl (by decide) (rm7 l Z a0 hw x3 h0 n0 Z0 (hcap)) d5_11 hml.symm (argsL := [(.long x3)]) (lenOf pd_4 rfl) rfl 0 (Nat.le_of_ble_eq_true rfl) (by decide) fun v3 T3 Lc3 hQ3 X3 => ?_)
  obtain ⟨rfl, N3q, e3⟩ := hQ3
  have N3 := Fr.app N2 N3q
  dsimp only [Option.toList, List.cons_append, List.nil_append]
  refine g_ag X3 K e3 77 rfl pre_own_XF.2.2.2.2.2.2.2.2.2.2.2.2.2.2.2.2.2.1 d5_14 d5_15 rfl fun T4 X4 e4 => g_lload X4 K d5_18 rfl (g_callS X4 K e4 79 80 81 82 rfl rfl rfl rfl (by decide) (rm8 l Z a0 hw x4 h0 n0 Z0 (hab)) d5_20 hml.symm (argsL := [(.long x4)]) (lenOf pd_2 rfl) rfl 2 (Nat.le_of_ble_eq_true rfl) (by decide) fun v5 T5 Lc5 hQ5 X5 => ?_)
  obtain ⟨rfl, N5q, e5⟩ := hQ5
  have N5 := Fr.app N3 N5q
  dsimp only [Option.toList, List.cons_append, List.nil_append]
  refine g_callS X5 K e5 87 88 81 89 rfl rfl rfl rfl (by decide) (rm10 l Z a0 hw ac (own_abs x4) h0 n0 Z0 (hadd)) d5_23 hml.symm (argsL := [(.long ac), (.long (own_abs x4))]) (lenOf pd_5 rfl) rfl 0 (Nat.le_of_ble_eq_true rfl) (by decide) fun v6 T6 Lc6 hQ6 X6 => ?_
  obtain ⟨rfl, N6q, e6⟩ := hQ6
  have N6 := Fr.app N5 N6q
  dsimp only [Option.toList, List.cons_append, List.nil_append]
  refine g_lstore X6 K d5_26 (L' := #[rv x0, iv 0, iv 1, lv x3, .second, lv x4, .second, lv (ac + (own_abs x4)), .second, uu]) rfl (g_lload X6 K d5_28 rfl (g_ldc2 X6 K 90 rfl d5_30 (z := (1152921504606846975 : Int64)) rfl (g_lcmp X6 K d5_33 rfl ?_)))
  have hc34_7 : ¬ ((1152921504606846975 : Int64) < (ac + (own_abs x4))) := hmax
  refine g_ifY X6 K 47 d5_34 (by decide) ((if0 _ _).trans (flt (fun q => hc34_7 ((lw_gt (ac + (own_abs x4)) (1152921504606846975 : Int64)).mp q))).2.2.2) (g_iconst X6 K d5_47 (z := 2) rfl (g_ag X6 K e6 91 rfl pre_own_XF.2.2.2.2.2.2.2.2.2.2.2.2.2.2.2.2.1 d5_48 d5_49 rfl fun T8 X8 e8 => g_imul X8 K d5_52 (z := (0 : Int32)) rfl (g_ag X8 K e8 14 rfl pre_own_XF.2.2.1 d5_53 d5_54 rfl fun T9 X9 e9 => g_len X9 K e9 pre_A_tg d5_57 (g_icY X9 K 129 d5_58 (by decide) (feq (by decide)).2 (g_aloadN X9 K d5_129 rfl rfl (g_dup X9 K d5_130 rfl (g_getF X9 K e9 91 rfl pre_own_XF.2.2.2.2.2.2.2.2.2.2.2.2.2.2.2.2.1 d5_131 fun T11 X11 e11 => g_dupX1 X11 K d5_134 rfl rfl (g_iconst X11 K d5_135 (z := 1) rfl (g_iadd X11 K d5_136 (z := (1 : Int32)) rfl ?_)))))))))
  refine g_putF X11 K e11 91 rfl pre_own_XF.2.2.2.2.2.2.2.2.2.2.2.2.2.2.2.2.1 pre_own_XF.1 (Or.inl (hw _ (im 92 rfl))) (hw _ (im 3 rfl)) (ty := .int) (by decide) rfl rfl d5_137 fun T12 h12 X12 e12 W12 Fw12 => ?_
  have N12 := Fr.snoc X12 N6 nb0_23
  have KK12 := Kp0.wr W12 (Or.inl (List.mem_of_getElem? (i := 0) rfl))
  refine g_istore X12 K d5_140 (L' := #[rv x0, iv 0, iv 1, lv x3, .second, lv x4, .second, lv (ac + (own_abs x4)), .second, iv 0]) rfl (g_aloadN X12 K d5_142 rfl rfl (g_lload X12 K d5_143 rfl ?_))
  have xb13 := own_XF_p_arcs hw pre_own_XF W12 Fw12
  refine g_putF X12 K e12 77 rfl xb13.2.2.2.2.2.2.2.2.2.2.2.2.2.2.2.2.2.1 xb13.1 (Or.inl (hw _ (im 78 rfl))) (hw _ (im 3 rfl)) (ty := .long) (by decide) rfl rfl d5_145 fun T14 h14 X14 e14 W14 Fw14 => ?_
  have N14 := Fr.snoc X14 N12 nb0_23
  have KK14 := KK12.wr W14 (Or.inl (List.mem_of_getElem? (i := 0) rfl))
  refine g_aloadN X14 K d5_148 rfl rfl (g_iconst X14 K d5_149 (z := 2) rfl (g_iload X14 K d5_150 rfl (g_imul X14 K d5_152 (z := (0 : Int32)) rfl (g_iloadN X14 K d5_153 rfl (g_iloadN X14 K d5_154 rfl (g_lloadN X14 K d5_155 rfl (g_lload X14 K d5_156 rfl ?_)))))))
  have xb15 := own_XF_p_absoluteCosts hw xb13 W14 Fw14
  have q16 := ((pre_A_tg.other W12 (own_on nb0_24 2 0 rfl rfl)).other W14 (own_on nb0_24 2 0 rfl rfl))
  have q17 := ((pre_A_nx.other W12 (own_on nb0_24 1 0 rfl rfl)).other W14 (own_on nb0_24 1 0 rfl rfl))
  have q18 := ((pre_A_fi.other W12 (own_on nb0_24 5 0 rfl rfl)).other W14 (own_on nb0_24 5 0 rfl rfl))
  have q19 := ((pre_A_rs.other W12 (own_on nb0_24 3 0 rfl rfl)).other W14 (own_on nb0_24 3 0 rfl rfl))
  have q20 := ((pre_A_co.other W12 (own_on nb0_24 4 0 rfl rfl)).other W14 (own_on nb0_24 4 0 rfl rfl))
  refine g_callP X14 K e14 93 94 4 96 95 3 rfl rfl rfl rfl rfl rfl (by decide) (rmlk0 l Z a0 hw x0 x3 x4 hn hq h14 n0 (Nat.le_trans Z0 KK14.1) xb15 q16 q17 q18 q19 q20) xb15.1 d5_158 hml.symm (argsL := [(.int 0), (.int 0), (.int 1), (.long x3), (.long x4)]) (lenOf pd_6 rfl) rfl 0 (Nat.le_of_ble_eq_true rfl) (by decide) fun v21 T21 Lc21 hQ21 X21 => ?_
  obtain ⟨rfl, N21q, K21, r21_0, r21_1, r21_2, r21_3, r21_4⟩ := hQ21
  have N21 := Fr.app N14 N21q
  have KK21 := KK14.trans K21 (own_al [1, 2, 3, 4, 5] rfl)
  dsimp only [Option.toList, List.cons_append, List.nil_append]
  refine g_aloadN X21 K d5_161 rfl rfl (g_iconst X21 K d5_162 (z := 2) rfl (g_iload X21 K d5_163 rfl (g_imul X21 K d5_165 (z := (0 : Int32)) rfl (g_iconst X21 K d5_166 (z := 1) rfl (g_iadd X21 K d5_167 (z := (1 : Int32)) rfl (g_iloadN X21 K d5_168 rfl (g_iloadN X21 K d5_169 rfl (g_lconst X21 K d5_170 (z := 0) rfl (g_lload X21 K d5_171 rfl (g_lneg X21 K d5_173 rfl ?_))))))))))
  have xb22 := own_XF_keep xb15 K21 na0
  refine g_callP X21 K rfl 93 94 4 96 95 3 rfl rfl rfl rfl rfl rfl (by decide) (rmlk1 l Z a0 hw x0 (0 : Int64) (-x4) hn hq T21.heap n0 (Nat.le_trans Z0 KK21.1) xb22 r21_0 r21_1 r21_2 r21_3 r21_4) xb22.1 d5_174 hml.symm (argsL := [(.int 1), (.int 1), (.int 0), (.long 0), (.long (-x4))]) (lenOf pd_6 rfl) rfl 0 (Nat.le_of_ble_eq_true rfl) (by decide) fun v23 T23 Lc23 hQ23 X23 => ?_
  obtain ⟨rfl, N23q, K23, r23_0, r23_1, r23_2, r23_3, r23_4⟩ := hQ23
  have N23 := Fr.app N21 N23q
  have KK23 := KK21.trans K23 (own_al [1, 2, 3, 4, 5] rfl)
  dsimp only [Option.toList, List.cons_append, List.nil_append]
  refine g_aloadN X23 K d5_177 rfl rfl (g_iconst X23 K d5_178 (z := 0) rfl ?_)
  have xb24 := own_XF_keep xb22 K23 na0
  obtain ⟨T25, h25, X25, e25, W25, st25⟩ := putFN X23 hx hZ hown (hw _ (im 97 rfl)) Via.refl rfl xb24.2.2.2.2.2.2.2.2.2.2.2.2.2.2.2.2.2.2.2.1 xb24.1 (Or.inl (hw _ (im 98 rfl))) (hw _ (im 3 rfl)) (ty := .boolean) (v' := (.int 0)) (by decide) rfl (by first | exact fits_nar_bool _ | decide | rfl) (g := (mkF m 179 #[rv x0, iv 0, iv 1, lv x3, .second, lv x4, .second, lv (ac + (own_abs x4)), .second, iv 0] [(.int 0), (.ref x0)])) rfl rfl (hb hby d5_179)
  have Fw25 := xb24.2.2.2.2.2.2.2.2.2.2.2.2.2.2.2.2.2.2.2.1.same W25
  have N25 := Fr.snoc X25 N23 nb0_23
  have KK25 := KK23.wr W25 (Or.inl (List.mem_of_getElem? (i := 0) rfl))
  refine gB (S' := T25.setTop (mkF m 182 #[rv x0, iv 0, iv 1, lv x3, .second, lv x4, .second, lv (ac + (own_abs x4)), .second, iv 0] [])) ?_ st25
  refine g_iload X25 K d5_182 rfl ?_
  have xb26 := own_XF_p_valid hw xb24 W25 Fw25
  have q27 := (r23_0.other W25 (own_on nb0_24 2 0 rfl rfl))
  have q28 := (r23_1.other W25 (own_on nb0_24 1 0 rfl rfl))
  have q29 := (r23_2.other W25 (own_on nb0_24 5 0 rfl rfl))
  have q30 := (r23_3.other W25 (own_on nb0_24 3 0 rfl rfl))
  have q31 := (r23_4.other W25 (own_on nb0_24 4 0 rfl rfl))
  exact g_lvI X25 K hlk hrt hR d5_184 (by decide) (by rw [e25]; exact ⟨rfl, N25, KK25, xb26, q27, q28, q29, q30, q31⟩)
def Qadd1 (Z : State) (x0 : Addr) (x3 : Int64) (x4 : Int64) (nx : Addr) (tg : Addr) (rs : Addr) (co : Addr) (fi : Addr) (po : Addr) (di : Addr) (pa : Addr) (hp : Addr) (hn : Addr) (hq : Addr) (qu : Addr) (qd : Addr) (lw : Addr) (sk : Addr) (cu : Addr) (vi : Addr) (ac : Int64) (fc : Int64) (vl : Int32) (so : Int32) (si : Int32) (vt : Int64) (ktg : ClassId) (knx : ClassId) (kfi : ClassId) (krs : ClassId) (kco : ClassId) (tg0 : Int32) (tg1 : Int32) (tg2 : Int32) (tg3 : Int32) (nx0 : Int32) (nx1 : Int32) (nx2 : Int32) (nx3 : Int32) (fi0 : Int32) (fi1 : Int32) (rs0 : Int64) (rs1 : Int64) (rs2 : Int64) (rs3 : Int64) (co0 : Int64) (co1 : Int64) (co2 : Int64) (co3 : Int64) (h0 : Heap) (n0 : Nat) (v : Option Value) (h : Heap) (L : List Loc) : Prop := v = some (.int 1) ∧ Fr n0 L ∧ Keep h0 h [x0, tg, nx, fi, rs, co] ∧ own_XF Z h n0 x0 nx tg rs co fi po di pa hp hn hq qu qd lw sk cu vi (2 : Int32) (ac + (own_abs x4)) fc (0 : Int32) so si vt ∧ Arv Z h tg ktg .int (16 : Int32) [(.int tg0), (.int tg1), (.int 1), (.int 0)] (.int 0) ∧ Arv Z h nx knx .int (16 : Int32) [(.int nx0), (.int nx1), (.int fi0), (.int fi1)] (.int 0) ∧ Arv Z h fi kfi .int (2 : Int32) [(.int 2), (.int 3)] (.int 0) ∧ Arv Z h rs krs .long (16 : Int32) [(.long rs0), (.long rs1), (.long x3), (.long 0)] (.long 0) ∧ Arv Z h co kco .long (16 : Int32) [(.long co0), (.long co1), (.long x4), (.long (-x4))] (.long 0)
theorem ef_add1 (m : MethodId) (x0 : Addr) (x3 : Int64) (x4 : Int64) : entryFrame m #[(.ref x0), (.int 0), (.int 1), (.long x3), (.long x4)] 10 = mkF m 0 #[rv x0, iv 0, iv 1, lv x3, .second, lv x4, .second, .unset, .unset, .unset] [] := by first | (simp [entryFrame, mkF, argsToLocals, Value.category]; done) | rfl
set_option maxRecDepth 65536 in
set_option maxHeartbeats 40000000 in
theorem rmadd1 (l : Launch) (Z : State) (a0 : Array Value) (hw : ∀ d ∈ tables_1, d.before a0 Z = true) (x0 : Addr) (x3 : Int64) (x4 : Int64) {nx : Addr} {tg : Addr} {rs : Addr} {co : Addr} {fi : Addr} {po : Addr} {di : Addr} {pa : Addr} {hp : Addr} (hn : Addr) (hq : Addr) {qu : Addr} {qd : Addr} {lw : Addr} {sk : Addr} {cu : Addr} {vi : Addr} {ac : Int64} {fc : Int64} {vl : Int32} {so : Int32} {si : Int32} {vt : Int64} {ktg : ClassId} {knx : ClassId} {kfi : ClassId} {krs : ClassId} {kco : ClassId} {tg0 : Int32} {tg1 : Int32} {tg2 : Int32} {tg3 : Int32} {nx0 : Int32} {nx1 : Int32} {nx2 : Int32} {nx3 : Int32} {fi0 : Int32} {fi1 : Int32} {rs0 : Int64} {rs1 : Int64} {rs2 : Int64} {rs3 : Int64} {co0 : Int64} {co1 : Int64} {co2 : Int64} {co3 : Int64} (h0 : Heap) (n0 : Nat) (Z0 : n0 ≤ h0.size) (pre_own_XF : own_XF Z h0 n0 x0 nx tg rs co fi po di pa hp hn hq qu qd lw sk cu vi (1 : Int32) ac fc vl so si vt) (pre_A_tg : Arv Z h0 tg ktg .int (16 : Int32) [(.int tg0), (.int tg1), (.int tg2), (.int tg3)] (.int 0)) (pre_A_nx : Arv Z h0 nx knx .int (16 : Int32) [(.int nx0), (.int nx1), (.int nx2), (.int nx3)] (.int 0)) (pre_A_fi : Arv Z h0 fi kfi .int (2 : Int32) [(.int fi0), (.int fi1)] (.int 0)) (pre_A_rs : Arv Z h0 rs krs .long (16 : Int32) [(.long rs0), (.long rs1), (.long rs2), (.long rs3)] (.long 0)) (pre_A_co : Arv Z h0 co kco .long (16 : Int32) [(.long co0), (.long co1), (.long co2), (.long co3)] (.long 0)) (hcap : ¬ (x3 < (0 : Int64))) (hab : ¬ (x4 = (-9223372036854775808 : Int64))) (hadd : ¬ (((ac ^^^ (ac + (own_abs x4))) &&& ((own_abs x4) ^^^ (ac + (own_abs x4)))) < (0 : Int64))) (hmax : ¬ ((1152921504606846975 : Int64) < (ac + (own_abs x4)))) :
    own_M l (⟨"com/example/violarc/violarc/graph/FlowNetwork", "addArc", "(IIJJ)I"⟩ : MethodName) c5 10 (some .int) ({ frames := 2, cells := 0, slots := 0, locals := 28 } : Room) #[(.ref x0), (.int 0), (.int 1), (.long x3), (.long x4)] Z h0 (Qadd1 Z x0 x3 x4 nx tg rs co fi po di pa hp hn hq qu qd lw sk cu vi ac fc vl so si vt ktg knx kfi krs kco tg0 tg1 tg2 tg3 nx0 nx1 nx2 nx3 fi0 fi1 rs0 rs1 rs2 rs3 co0 co1 co2 co3 h0 n0) := by
  refine MetFree.of_bodySF (plainFor_of_name pn_5) hisR ?_
  intro p e s m args below meth c s₁ Bd hml0 hP hK
  obtain ⟨rfl, hZ, hh⟩ := hP
  have hx := Bd.exec
  have hby := Bd.bytes
  have hml : c.maxLocals = 10 := hml0
  have hown : s.vm.findClass "com/example/violarc/violarc/graph/FlowNetwork" = some m.cls := findClass_of_methodNamed Bd.named
  have hnm := (name_of_methodNamed Bd.named Bd.method).1
  have X0 : Stand p l e ({ frames := 2, cells := 0, slots := 0, locals := 28 } : Room) s m #[(.ref x0), (.int 0), (.int 1), (.long x3), (.long x4)] below meth c s₁ [] 0 0 := Stand.of_body Bd
  have e0 : s₁.heap = h0 := by rw [← hh, Bd.state]; rfl
  have N0 := Fr.nil n0
  have Kp0 := Keep.refl h0 [x0, tg, nx, fi, rs, co]
  have hlk := BodyLoose.notSynchronized Bd
  have hrt := Bd.returns
  have K : own_K p c c5 Z s "com/example/violarc/violarc/graph/FlowNetwork" m a0 := ⟨hx, hby, hZ, hown, hw⟩
  refine gStart (S' := s₁.setTop (mkF m 0 #[rv x0, iv 0, iv 1, lv x3, .second, lv x4, .second, uu, uu, uu] [])) (congrArg (fun f => s₁.setTop f) (ef_add1 m x0 x3 x4)) fun Rp hR => ?_
  obtain ⟨nb0_0, nb0_1, nb0_2, nb0_3, nb0_4, nb0_5, nb0_6, nb0_7, nb0_8, nb0_9, nb0_10, nb0_11, nb0_12, nb0_13, nb0_14, nb0_15, nb0_16, nb0_17, nb0_18, nb0_19, nb0_20, nb0_21, nb0_22, nb0_23, nb0_24⟩ := id pre_own_XF
  have na0 : x0 ∉ [tg, nx, fi, rs, co] := own_nin nb0_24 0 rfl [2, 1, 5, 3, 4] _ rfl (by decide)
  refine g_aloadN X0 K d5_0 rfl rfl (g_iloadN X0 K d5_1 rfl (g_callP X0 K e0 70 71 4 73 72 3 rfl rfl rfl rfl rfl rfl (by decide) (rmckn0 l Z a0 hw x0 h0 n0 Z0 pre_own_XF.2.2.2.2.2.1 pre_A_fi) pre_own_XF.1 d5_2 hml.symm (argsL := [(.int 0)]) (lenOf pd_3 rfl) rfl 0 (Nat.le_of_ble_eq_true rfl) (by decide) fun v1 T1 Lc1 hQ1 X1 => ?_))
  obtain ⟨rfl, N1q, e1⟩ := hQ1
  have N1 := Fr.app N0 N1q
  dsimp only [Option.toList, List.cons_append, List.nil_append]
  refine g_aloadN X1 K d5_5 rfl rfl (g_iloadN X1 K d5_6 rfl (g_callP X1 K e1 70 71 4 73 72 3 rfl rfl rfl rfl rfl rfl (by decide) (rmckn1 l Z a0 hw x0 h0 n0 Z0 pre_own_XF.2.2.2.2.2.1 pre_A_fi) pre_own_XF.1 d5_7 hml.symm (argsL := [(.int 1)]) (lenOf pd_3 rfl) rfl 0 (Nat.le_of_ble_eq_true rfl) (by decide) fun v2 T2 Lc2 hQ2 X2 => ?_))
  obtain ⟨rfl, N2q, e2⟩ := hQ2
  have N2 := Fr.app N1 N2q
  dsimp only [Option.toList, List.cons_append, List.nil_append]
  refine g_lloadN X2 K d5_10 rfl (g_callS X2 K e2 74 75 4 76 rfl rfl rfl rfl (by decide) (rm7 l Z a0 hw x3 h0 n0 Z0 (hcap)) d5_11 hml.symm (argsL := [(.long x3)]) (lenOf pd_4 rfl) rfl 0 (Nat.le_of_ble_eq_true rfl) (by decide) fun v3 T3 Lc3 hQ3 X3 => ?_)
  obtain ⟨rfl, N3q, e3⟩ := hQ3
  have N3 := Fr.app N2 N3q
  dsimp only [Option.toList, List.cons_append, List.nil_append]
  refine g_ag X3 K e3 77 rfl pre_own_XF.2.2.2.2.2.2.2.2.2.2.2.2.2.2.2.2.2.1 d5_14 d5_15 rfl fun T4 X4 e4 => g_lload X4 K d5_18 rfl (g_callS X4 K e4 79 80 81 82 rfl rfl rfl rfl (by decide) (rm8 l Z a0 hw x4 h0 n0 Z0 (hab)) d5_20 hml.symm (argsL := [(.long x4)]) (lenOf pd_2 rfl) rfl 2 (Nat.le_of_ble_eq_true rfl) (by decide) fun v5 T5 Lc5 hQ5 X5 => ?_)
  obtain ⟨rfl, N5q, e5⟩ := hQ5
  have N5 := Fr.app N3 N5q
  dsimp only [Option.toList, List.cons_append, List.nil_append]
  refine g_callS X5 K e5 87 88 81 89 rfl rfl rfl rfl (by decide) (rm10 l Z a0 hw ac (own_abs x4) h0 n0 Z0 (hadd)) d5_23 hml.symm (argsL := [(.long ac), (.long (own_abs x4))]) (lenOf pd_5 rfl) rfl 0 (Nat.le_of_ble_eq_true rfl) (by decide) fun v6 T6 Lc6 hQ6 X6 => ?_
  obtain ⟨rfl, N6q, e6⟩ := hQ6
  have N6 := Fr.app N5 N6q
  dsimp only [Option.toList, List.cons_append, List.nil_append]
  refine g_lstore X6 K d5_26 (L' := #[rv x0, iv 0, iv 1, lv x3, .second, lv x4, .second, lv (ac + (own_abs x4)), .second, uu]) rfl (g_lload X6 K d5_28 rfl (g_ldc2 X6 K 90 rfl d5_30 (z := (1152921504606846975 : Int64)) rfl (g_lcmp X6 K d5_33 rfl ?_)))
  have hc34_7 : ¬ ((1152921504606846975 : Int64) < (ac + (own_abs x4))) := hmax
  refine g_ifY X6 K 47 d5_34 (by decide) ((if0 _ _).trans (flt (fun q => hc34_7 ((lw_gt (ac + (own_abs x4)) (1152921504606846975 : Int64)).mp q))).2.2.2) (g_iconst X6 K d5_47 (z := 2) rfl (g_ag X6 K e6 91 rfl pre_own_XF.2.2.2.2.2.2.2.2.2.2.2.2.2.2.2.2.1 d5_48 d5_49 rfl fun T8 X8 e8 => g_imul X8 K d5_52 (z := (2 : Int32)) rfl (g_ag X8 K e8 14 rfl pre_own_XF.2.2.1 d5_53 d5_54 rfl fun T9 X9 e9 => g_len X9 K e9 pre_A_tg d5_57 (g_icY X9 K 129 d5_58 (by decide) (feq (by decide)).2 (g_aloadN X9 K d5_129 rfl rfl (g_dup X9 K d5_130 rfl (g_getF X9 K e9 91 rfl pre_own_XF.2.2.2.2.2.2.2.2.2.2.2.2.2.2.2.2.1 d5_131 fun T11 X11 e11 => g_dupX1 X11 K d5_134 rfl rfl (g_iconst X11 K d5_135 (z := 1) rfl (g_iadd X11 K d5_136 (z := (2 : Int32)) rfl ?_)))))))))
  refine g_putF X11 K e11 91 rfl pre_own_XF.2.2.2.2.2.2.2.2.2.2.2.2.2.2.2.2.1 pre_own_XF.1 (Or.inl (hw _ (im 92 rfl))) (hw _ (im 3 rfl)) (ty := .int) (by decide) rfl rfl d5_137 fun T12 h12 X12 e12 W12 Fw12 => ?_
  have N12 := Fr.snoc X12 N6 nb0_23
  have KK12 := Kp0.wr W12 (Or.inl (List.mem_of_getElem? (i := 0) rfl))
  refine g_istore X12 K d5_140 (L' := #[rv x0, iv 0, iv 1, lv x3, .second, lv x4, .second, lv (ac + (own_abs x4)), .second, iv 1]) rfl (g_aloadN X12 K d5_142 rfl rfl (g_lload X12 K d5_143 rfl ?_))
  have xb13 := own_XF_p_arcs hw pre_own_XF W12 Fw12
  refine g_putF X12 K e12 77 rfl xb13.2.2.2.2.2.2.2.2.2.2.2.2.2.2.2.2.2.1 xb13.1 (Or.inl (hw _ (im 78 rfl))) (hw _ (im 3 rfl)) (ty := .long) (by decide) rfl rfl d5_145 fun T14 h14 X14 e14 W14 Fw14 => ?_
  have N14 := Fr.snoc X14 N12 nb0_23
  have KK14 := KK12.wr W14 (Or.inl (List.mem_of_getElem? (i := 0) rfl))
  refine g_aloadN X14 K d5_148 rfl rfl (g_iconst X14 K d5_149 (z := 2) rfl (g_iload X14 K d5_150 rfl (g_imul X14 K d5_152 (z := (2 : Int32)) rfl (g_iloadN X14 K d5_153 rfl (g_iloadN X14 K d5_154 rfl (g_lloadN X14 K d5_155 rfl (g_lload X14 K d5_156 rfl ?_)))))))
  have xb15 := own_XF_p_absoluteCosts hw xb13 W14 Fw14
  have q16 := ((pre_A_tg.other W12 (own_on nb0_24 2 0 rfl rfl)).other W14 (own_on nb0_24 2 0 rfl rfl))
  have q17 := ((pre_A_nx.other W12 (own_on nb0_24 1 0 rfl rfl)).other W14 (own_on nb0_24 1 0 rfl rfl))
  have q18 := ((pre_A_fi.other W12 (own_on nb0_24 5 0 rfl rfl)).other W14 (own_on nb0_24 5 0 rfl rfl))
  have q19 := ((pre_A_rs.other W12 (own_on nb0_24 3 0 rfl rfl)).other W14 (own_on nb0_24 3 0 rfl rfl))
  have q20 := ((pre_A_co.other W12 (own_on nb0_24 4 0 rfl rfl)).other W14 (own_on nb0_24 4 0 rfl rfl))
  refine g_callP X14 K e14 93 94 4 96 95 3 rfl rfl rfl rfl rfl rfl (by decide) (rmlk2 l Z a0 hw x0 x3 x4 hn hq h14 n0 (Nat.le_trans Z0 KK14.1) xb15 q16 q17 q18 q19 q20) xb15.1 d5_158 hml.symm (argsL := [(.int 2), (.int 0), (.int 1), (.long x3), (.long x4)]) (lenOf pd_6 rfl) rfl 0 (Nat.le_of_ble_eq_true rfl) (by decide) fun v21 T21 Lc21 hQ21 X21 => ?_
  obtain ⟨rfl, N21q, K21, r21_0, r21_1, r21_2, r21_3, r21_4⟩ := hQ21
  have N21 := Fr.app N14 N21q
  have KK21 := KK14.trans K21 (own_al [1, 2, 3, 4, 5] rfl)
  dsimp only [Option.toList, List.cons_append, List.nil_append]
  refine g_aloadN X21 K d5_161 rfl rfl (g_iconst X21 K d5_162 (z := 2) rfl (g_iload X21 K d5_163 rfl (g_imul X21 K d5_165 (z := (2 : Int32)) rfl (g_iconst X21 K d5_166 (z := 1) rfl (g_iadd X21 K d5_167 (z := (3 : Int32)) rfl (g_iloadN X21 K d5_168 rfl (g_iloadN X21 K d5_169 rfl (g_lconst X21 K d5_170 (z := 0) rfl (g_lload X21 K d5_171 rfl (g_lneg X21 K d5_173 rfl ?_))))))))))
  have xb22 := own_XF_keep xb15 K21 na0
  refine g_callP X21 K rfl 93 94 4 96 95 3 rfl rfl rfl rfl rfl rfl (by decide) (rmlk3 l Z a0 hw x0 (0 : Int64) (-x4) hn hq T21.heap n0 (Nat.le_trans Z0 KK21.1) xb22 r21_0 r21_1 r21_2 r21_3 r21_4) xb22.1 d5_174 hml.symm (argsL := [(.int 3), (.int 1), (.int 0), (.long 0), (.long (-x4))]) (lenOf pd_6 rfl) rfl 0 (Nat.le_of_ble_eq_true rfl) (by decide) fun v23 T23 Lc23 hQ23 X23 => ?_
  obtain ⟨rfl, N23q, K23, r23_0, r23_1, r23_2, r23_3, r23_4⟩ := hQ23
  have N23 := Fr.app N21 N23q
  have KK23 := KK21.trans K23 (own_al [1, 2, 3, 4, 5] rfl)
  dsimp only [Option.toList, List.cons_append, List.nil_append]
  refine g_aloadN X23 K d5_177 rfl rfl (g_iconst X23 K d5_178 (z := 0) rfl ?_)
  have xb24 := own_XF_keep xb22 K23 na0
  obtain ⟨T25, h25, X25, e25, W25, st25⟩ := putFN X23 hx hZ hown (hw _ (im 97 rfl)) Via.refl rfl xb24.2.2.2.2.2.2.2.2.2.2.2.2.2.2.2.2.2.2.2.1 xb24.1 (Or.inl (hw _ (im 98 rfl))) (hw _ (im 3 rfl)) (ty := .boolean) (v' := (.int 0)) (by decide) rfl (by first | exact fits_nar_bool _ | decide | rfl) (g := (mkF m 179 #[rv x0, iv 0, iv 1, lv x3, .second, lv x4, .second, lv (ac + (own_abs x4)), .second, iv 1] [(.int 0), (.ref x0)])) rfl rfl (hb hby d5_179)
  have Fw25 := xb24.2.2.2.2.2.2.2.2.2.2.2.2.2.2.2.2.2.2.2.1.same W25
  have N25 := Fr.snoc X25 N23 nb0_23
  have KK25 := KK23.wr W25 (Or.inl (List.mem_of_getElem? (i := 0) rfl))
  refine gB (S' := T25.setTop (mkF m 182 #[rv x0, iv 0, iv 1, lv x3, .second, lv x4, .second, lv (ac + (own_abs x4)), .second, iv 1] [])) ?_ st25
  refine g_iload X25 K d5_182 rfl ?_
  have xb26 := own_XF_p_valid hw xb24 W25 Fw25
  have q27 := (r23_0.other W25 (own_on nb0_24 2 0 rfl rfl))
  have q28 := (r23_1.other W25 (own_on nb0_24 1 0 rfl rfl))
  have q29 := (r23_2.other W25 (own_on nb0_24 5 0 rfl rfl))
  have q30 := (r23_3.other W25 (own_on nb0_24 3 0 rfl rfl))
  have q31 := (r23_4.other W25 (own_on nb0_24 4 0 rfl rfl))
  exact g_lvI X25 K hlk hrt hR d5_184 (by decide) (by rw [e25]; exact ⟨rfl, N25, KK25, xb26, q27, q28, q29, q30, q31⟩)
def Q13 (Z : State) (x0 : Addr) (nx : Addr) (tg : Addr) (rs : Addr) (co : Addr) (fi : Addr) (po : Addr) (di : Addr) (pa : Addr) (hp : Addr) (hn : Addr) (hq : Addr) (qu : Addr) (qd : Addr) (lw : Addr) (sk : Addr) (cu : Addr) (vi : Addr) (ar : Int32) (ac : Int64) (fc : Int64) (so : Int32) (si : Int32) (vt : Int64) (k0 : Int64) (k1 : Int64) (kfi : ClassId) (knx : ClassId) (ktg : ClassId) (kco : ClassId) (kpo : ClassId) (klw : ClassId) (kqu : ClassId) (kqd : ClassId) (po0 : Int64) (po1 : Int64) (lw0 : Int32) (lw1 : Int32) (qu0 : Int32) (qu1 : Int32) (qd0 : Int32) (qd1 : Int32) (krs : ClassId) (c0 : Int64) (c1 : Int64) (h0 : Heap) (n0 : Nat) (v : Option Value) (h : Heap) (L : List Loc) : Prop := ∃ (pp : Int64), v = none ∧ Fr n0 L ∧ Keep h0 h [x0, po, lw, qu, qd] ∧ own_XF Z h n0 x0 nx tg rs co fi po di pa hp hn hq qu qd lw sk cu vi ar ac fc (1 : Int32) so si vt ∧ Arv Z h po kpo .long (2 : Int32) [(.long 0), (.long pp)] (.long 0) ∧ own_S c0 c1 k0 k1 pp
theorem ef_13 (m : MethodId) (x0 : Addr) : entryFrame m #[(.ref x0)] 9 = mkF m 0 #[rv x0, .unset, .unset, .unset, .unset, .unset, .unset, .unset, .unset] [] := by first | (simp [entryFrame, mkF, argsToLocals, Value.category]; done) | rfl
set_option maxRecDepth 65536 in
set_option maxHeartbeats 40000000 in
theorem rm13 (l : Launch) (Z : State) (a0 : Array Value) (hw : ∀ d ∈ tables_1, d.before a0 Z = true) (x0 : Addr) {nx : Addr} {tg : Addr} {rs : Addr} {co : Addr} {fi : Addr} {po : Addr} {di : Addr} {pa : Addr} {hp : Addr} (hn : Addr) (hq : Addr) {qu : Addr} {qd : Addr} {lw : Addr} {sk : Addr} {cu : Addr} {vi : Addr} {ar : Int32} {ac : Int64} {fc : Int64} {so : Int32} {si : Int32} {vt : Int64} {k0 : Int64} {k1 : Int64} {kfi : ClassId} {knx : ClassId} {ktg : ClassId} {kco : ClassId} {kpo : ClassId} {klw : ClassId} {kqu : ClassId} {kqd : ClassId} {po0 : Int64} {po1 : Int64} {lw0 : Int32} {lw1 : Int32} {qu0 : Int32} {qu1 : Int32} {qd0 : Int32} {qd1 : Int32} {krs : ClassId} {c0 : Int64} {c1 : Int64} (h0 : Heap) (n0 : Nat) (Z0 : n0 ≤ h0.size) (pre_own_XF : own_XF Z h0 n0 x0 nx tg rs co fi po di pa hp hn hq qu qd lw sk cu vi ar ac fc (0 : Int32) so si vt) (pre_A_fi : Arv Z h0 fi kfi .int (2 : Int32) [(.int 2), (.int 3)] (.int 0)) (pre_A_nx : Arv Z h0 nx knx .int (16 : Int32) [(.int (-1)), (.int (-1)), (.int 0), (.int 1)] (.int 0)) (pre_A_tg : Arv Z h0 tg ktg .int (16 : Int32) [(.int 1), (.int 0), (.int 1), (.int 0)] (.int 0)) (pre_A_co : Arv Z h0 co kco .long (16 : Int32) [(.long k0), (.long (-k0)), (.long k1), (.long (-k1))] (.long 0)) (pre_A_rs : Arv Z h0 rs krs .long (16 : Int32) [(.long c0), (.long 0), (.long c1), (.long 0)] (.long 0)) (pre_A_po : Arv Z h0 po kpo .long (2 : Int32) [(.long po0), (.long po1)] (.long 0)) (pre_A_lw : Arv Z h0 lw klw .int (2 : Int32) [(.int lw0), (.int lw1)] (.int 0)) (pre_A_qu : Arv Z h0 qu kqu .int (2 : Int32) [(.int qu0), (.int qu1)] (.int 0)) (pre_A_qd : Arv Z h0 qd kqd .boolean (2 : Int32) [(.int qd0), (.int qd1)] (.int 0)) (hk0 : -2147483648 ≤ k0.toInt ∧ k0.toInt ≤ 2147483647) (hk1 : -2147483648 ≤ k1.toInt ∧ k1.toInt ≤ 2147483647) :
    own_M l (⟨"com/example/violarc/violarc/graph/FlowNetwork", "settle", "()V"⟩ : MethodName) c13 9 none ({ frames := 1, cells := 0, slots := 0, locals := 16 } : Room) #[(.ref x0)] Z h0 (Q13 Z x0 nx tg rs co fi po di pa hp hn hq qu qd lw sk cu vi ar ac fc so si vt k0 k1 kfi knx ktg kco kpo klw kqu kqd po0 po1 lw0 lw1 qu0 qu1 qd0 qd1 krs c0 c1 h0 n0) := by
  refine MetFree.of_bodySF (plainFor_of_name pn_13) hisR ?_
  intro p e s m args below meth c s₁ Bd hml0 hP hK
  obtain ⟨rfl, hZ, hh⟩ := hP
  have hx := Bd.exec
  have hby := Bd.bytes
  have hml : c.maxLocals = 9 := hml0
  have hown : s.vm.findClass "com/example/violarc/violarc/graph/FlowNetwork" = some m.cls := findClass_of_methodNamed Bd.named
  have hnm := (name_of_methodNamed Bd.named Bd.method).1
  have X0 : Stand p l e ({ frames := 1, cells := 0, slots := 0, locals := 16 } : Room) s m #[(.ref x0)] below meth c s₁ [] 0 0 := Stand.of_body Bd
  have e0 : s₁.heap = h0 := by rw [← hh, Bd.state]; rfl
  have N0 := Fr.nil n0
  have Kp0 := Keep.refl h0 [x0, po, lw, qu, qd]
  have hlk := BodyLoose.notSynchronized Bd
  have hrt := Bd.returns
  have K : own_K p c c13 Z s "com/example/violarc/violarc/graph/FlowNetwork" m a0 := ⟨hx, hby, hZ, hown, hw⟩
  refine gStart (S' := s₁.setTop (mkF m 0 #[rv x0, uu, uu, uu, uu, uu, uu, uu, uu] [])) (congrArg (fun f => s₁.setTop f) (ef_13 m x0)) fun Rp hR => ?_
  obtain ⟨nb0_0, nb0_1, nb0_2, nb0_3, nb0_4, nb0_5, nb0_6, nb0_7, nb0_8, nb0_9, nb0_10, nb0_11, nb0_12, nb0_13, nb0_14, nb0_15, nb0_16, nb0_17, nb0_18, nb0_19, nb0_20, nb0_21, nb0_22, nb0_23, nb0_24⟩ := id pre_own_XF
  have na0 : x0 ∉ [po] := own_nin nb0_24 0 rfl [6] _ rfl (by decide)
  have na1 : lw ∉ [po] := own_nin nb0_24 14 rfl [6] _ rfl (by decide)
  have na2 : x0 ∉ [lw] := own_nin nb0_24 0 rfl [14] _ rfl (by decide)
  have na3 : qu ∉ [po] := own_nin nb0_24 12 rfl [6] _ rfl (by decide)
  have na4 : qu ∉ [lw] := own_nin nb0_24 12 rfl [14] _ rfl (by decide)
  have na5 : qd ∉ [po] := own_nin nb0_24 13 rfl [6] _ rfl (by decide)
  have na6 : qd ∉ [lw] := own_nin nb0_24 13 rfl [14] _ rfl (by decide)
  have na7 : fi ∉ [po] := own_nin nb0_24 5 rfl [6] _ rfl (by decide)
  have na8 : fi ∉ [lw] := own_nin nb0_24 5 rfl [14] _ rfl (by decide)
  have na9 : tg ∉ [po] := own_nin nb0_24 2 rfl [6] _ rfl (by decide)
  have na10 : tg ∉ [lw] := own_nin nb0_24 2 rfl [14] _ rfl (by decide)
  have na11 : po ∉ [lw] := own_nin nb0_24 6 rfl [14] _ rfl (by decide)
  have na12 : co ∉ [po] := own_nin nb0_24 4 rfl [6] _ rfl (by decide)
  have na13 : co ∉ [lw] := own_nin nb0_24 4 rfl [14] _ rfl (by decide)
  have na14 : rs ∉ [po] := own_nin nb0_24 3 rfl [6] _ rfl (by decide)
  have na15 : rs ∉ [lw] := own_nin nb0_24 3 rfl [14] _ rfl (by decide)
  have na16 : nx ∉ [po] := own_nin nb0_24 1 rfl [6] _ rfl (by decide)
  have na17 : nx ∉ [lw] := own_nin nb0_24 1 rfl [14] _ rfl (by decide)
  refine g_ag X0 K e0 97 rfl pre_own_XF.2.2.2.2.2.2.2.2.2.2.2.2.2.2.2.2.2.2.2.1 d13_0 d13_1 rfl fun T1 X1 e1 => g_ifY X1 K 8 d13_4 (by decide) ((if0 _ _).trans (teq (by decide)).1) (g_ag X1 K e1 26 rfl pre_own_XF.2.2.2.2.2.2.1 d13_8 d13_9 rfl fun T3 X3 e3 => g_len X3 K e3 pre_A_po d13_12 (g_istoreN X3 K d13_13 (L' := #[rv x0, iv 2, uu, uu, uu, uu, uu, uu, uu]) rfl (g_ag X3 K e3 26 rfl pre_own_XF.2.2.2.2.2.2.1 d13_14 d13_15 rfl fun T4 X4 e4 => g_lconst X4 K d13_18 (z := 0) rfl (g_callS X4 K e4 108 109 47 110 rfl rfl rfl rfl (by decide) (rm14 l Z a0 hw (0 : Int64) h0 n0 Z0 pre_A_po (own_ong nb0_24 nb0_23 6 rfl)) d13_19 hml.symm (argsL := [(.ref po), (.long 0)]) (lenOf pd_7 rfl) rfl 0 (Nat.le_of_ble_eq_true rfl) (by decide) fun v5 T5 Lc5 hQ5 X5 => ?_))))
  obtain ⟨rfl, N5q, K5, r5_0⟩ := hQ5
  have N5 := Fr.app N0 N5q
  have KK5 := Kp0.trans K5 (own_al [1] rfl)
  dsimp only [Option.toList, List.cons_append, List.nil_append]
  have xb6 := own_XF_keep pre_own_XF K5 na0
  refine g_ag X5 K rfl 56 rfl xb6.2.2.2.2.2.2.2.2.2.2.2.2.1 d13_22 d13_23 rfl fun T7 X7 e7 => g_iconst X7 K d13_26 (z := 0) rfl ?_
  have q8 := (pre_A_lw.keep K5 na1)
  refine g_callS X7 K e7 64 46 47 48 rfl rfl rfl rfl (by decide) (rm4 l Z a0 hw (0 : Int32) T5.heap n0 (Nat.le_trans Z0 KK5.1) q8 (own_ong nb0_24 nb0_23 14 rfl)) d13_27 hml.symm (argsL := [(.ref lw), (.int 0)]) (lenOf pd_0 rfl) rfl 0 (Nat.le_of_ble_eq_true rfl) (by decide) fun v9 T9 Lc9 hQ9 X9 => ?_
  obtain ⟨rfl, N9q, K9, r9_0⟩ := hQ9
  have N9 := Fr.app N5 N9q
  have KK9 := KK5.trans K9 (own_al [2] rfl)
  dsimp only [Option.toList, List.cons_append, List.nil_append]
  refine g_iconst X9 K d13_30 (z := 0) rfl (g_istoreN X9 K d13_31 (L' := #[rv x0, iv 2, iv 0, uu, uu, uu, uu, uu, uu]) rfl (g_iloadN X9 K d13_32 rfl (g_iloadN X9 K d13_33 rfl (g_icN X9 K d13_34 (tlt (by decide)).2.1 ?_))))
  have xb11 := own_XF_keep xb6 K9 na2
  refine g_ag X9 K rfl 51 rfl xb11.2.2.2.2.2.2.2.2.2.2.1 d13_37 d13_38 rfl fun T12 X12 e12 => g_iloadN X12 K d13_41 rfl (g_iloadN X12 K d13_42 rfl ?_)
  have q13 := ((pre_A_qu.keep K5 na3).keep K9 na4)
  refine g_iastore X12 K e12 q13 d13_43 (by decide) 0 ⟨rfl, Nat.le_of_ble_eq_true rfl⟩ (w := [(.int 0), (.int qu1)]) rfl rfl fun T14 h14 X14 e14 W14 V14 => ?_
  have N14 := Fr.snoc X14 N9 (own_ong nb0_24 nb0_23 12 rfl)
  have KK14 := KK9.wr W14 (Or.inl (List.mem_of_getElem? (i := 3) rfl))
  have xb15 := own_XF_wr xb11 W14 (own_on nb0_24 0 12 rfl rfl)
  refine g_ag X14 K e14 54 rfl xb15.2.2.2.2.2.2.2.2.2.2.2.1 d13_44 d13_45 rfl fun T16 X16 e16 => g_iloadN X16 K d13_48 rfl (g_iconst X16 K d13_49 (z := 1) rfl ?_)
  have q17 := (((pre_A_qd.keep K5 na5).keep K9 na6).other W14 (own_on nb0_24 13 12 rfl rfl))
  refine g_bastore X16 K e16 q17 d13_50 (by decide) 0 ⟨rfl, Nat.le_of_ble_eq_true rfl⟩ (w := [(.int 1), (.int qd1)]) rfl (by decide) fun T18 h18 X18 e18 W18 V18 => ?_
  have N18 := Fr.snoc X18 N14 (own_ong nb0_24 nb0_23 13 rfl)
  have KK18 := KK14.wr W18 (Or.inl (List.mem_of_getElem? (i := 4) rfl))
  refine g_iinc X18 K d13_51 rfl (L' := #[rv x0, iv 2, iv 1, uu, uu, uu, uu, uu, uu]) rfl (g_goto X18 K 32 d13_54 (by decide) (g_iloadN X18 K d13_32 rfl (g_iloadN X18 K d13_33 rfl (g_icN X18 K d13_34 (tlt (by decide)).2.1 ?_))))
  have xb20 := own_XF_wr xb15 W18 (own_on nb0_24 0 13 rfl rfl)
  refine g_ag X18 K e18 51 rfl xb20.2.2.2.2.2.2.2.2.2.2.1 d13_37 d13_38 rfl fun T21 X21 e21 => g_iloadN X21 K d13_41 rfl (g_iloadN X21 K d13_42 rfl ?_)
  have q22 := (V14.other W18 (own_on nb0_24 12 13 rfl rfl))
  refine g_iastore X21 K e21 q22 d13_43 (by decide) 1 ⟨rfl, Nat.le_of_ble_eq_true rfl⟩ (w := [(.int 0), (.int 1)]) rfl rfl fun T23 h23 X23 e23 W23 V23 => ?_
  have N23 := Fr.snoc X23 N18 (own_ong nb0_24 nb0_23 12 rfl)
  have KK23 := KK18.wr W23 (Or.inl (List.mem_of_getElem? (i := 3) rfl))
  have xb24 := own_XF_wr xb20 W23 (own_on nb0_24 0 12 rfl rfl)
  refine g_ag X23 K e23 54 rfl xb24.2.2.2.2.2.2.2.2.2.2.2.1 d13_44 d13_45 rfl fun T25 X25 e25 => g_iloadN X25 K d13_48 rfl (g_iconst X25 K d13_49 (z := 1) rfl ?_)
  have q26 := (V18.other W23 (own_on nb0_24 13 12 rfl rfl))
  refine g_bastore X25 K e25 q26 d13_50 (by decide) 1 ⟨rfl, Nat.le_of_ble_eq_true rfl⟩ (w := [(.int 1), (.int 1)]) rfl (by decide) fun T27 h27 X27 e27 W27 V27 => ?_
  have N27 := Fr.snoc X27 N23 (own_ong nb0_24 nb0_23 13 rfl)
  have KK27 := KK23.wr W27 (Or.inl (List.mem_of_getElem? (i := 4) rfl))
  refine g_iinc X27 K d13_51 rfl (L' := #[rv x0, iv 2, iv 2, uu, uu, uu, uu, uu, uu]) rfl (g_goto X27 K 32 d13_54 (by decide) (g_iloadN X27 K d13_32 rfl (g_iloadN X27 K d13_33 rfl (g_icY X27 K 57 d13_34 (by decide) (flt (by decide)).2.1 (g_iconst X27 K d13_57 (z := 0) rfl (g_istoreN X27 K d13_58 (L' := #[rv x0, iv 2, iv 0, uu, uu, uu, uu, uu, uu]) rfl (g_iloadN X27 K d13_59 rfl (g_istoreN X27 K d13_60 (L' := #[rv x0, iv 2, iv 0, iv 2, uu, uu, uu, uu, uu]) rfl (g_iloadN X27 K d13_61 rfl (g_ifN X27 K d13_62 ((if0 _ _).trans (tlt (by decide)).2.2.2) ?_))))))))))
  have xb30 := own_XF_wr xb24 W27 (own_on nb0_24 0 13 rfl rfl)
  refine g_ag X27 K e27 51 rfl xb30.2.2.2.2.2.2.2.2.2.2.1 d13_65 d13_66 rfl fun T31 X31 e31 => g_iloadN X31 K d13_69 rfl ?_
  have q32 := (V23.other W27 (own_on nb0_24 12 13 rfl rfl))
  refine g_iaload X31 K e31 q32 d13_70 (by decide) (v := (.int 0)) rfl (g_istore X31 K d13_71 (L' := #[rv x0, iv 2, iv 0, iv 2, iv 0, uu, uu, uu, uu]) rfl (g_iloadN X31 K d13_73 rfl (g_iconst X31 K d13_74 (z := 1) rfl (g_iadd X31 K d13_75 (z := (1 : Int32)) rfl (g_iloadN X31 K d13_76 rfl ?_)))))
  refine gB (S' := T31.setTop (mkF m 78 #[rv x0, iv 2, iv 0, iv 2, iv 0, uu, uu, uu, uu] [(.int 1)])) ?_ (by
    intro t k
    refine Jvm.RoadKit.iremM X31 hx rfl (hb hby d13_77) rfl (by decide) ?_
    exact k)
  refine g_istoreN X31 K d13_78 (L' := #[rv x0, iv 2, iv 1, iv 2, iv 0, uu, uu, uu, uu]) rfl (g_iinc X31 K d13_79 rfl (L' := #[rv x0, iv 2, iv 1, iv 1, iv 0, uu, uu, uu, uu]) rfl (g_ag X31 K e31 54 rfl xb30.2.2.2.2.2.2.2.2.2.2.2.1 d13_82 d13_83 rfl fun T33 X33 e33 => g_iload X33 K d13_86 rfl (g_iconst X33 K d13_88 (z := 0) rfl (g_bastore X33 K e33 V27 d13_89 (by decide) 0 ⟨rfl, Nat.le_of_ble_eq_true rfl⟩ (w := [(.int 0), (.int 1)]) rfl (by decide) fun T34 h34 X34 e34 W34 V34 => ?_))))
  have N34 := Fr.snoc X34 N27 (own_ong nb0_24 nb0_23 13 rfl)
  have KK34 := KK27.wr W34 (Or.inl (List.mem_of_getElem? (i := 4) rfl))
  have xb35 := own_XF_wr xb30 W34 (own_on nb0_24 0 13 rfl rfl)
  refine g_ag X34 K e34 24 rfl xb35.2.2.2.2.2.1 d13_90 d13_91 rfl fun T36 X36 e36 => g_iload X36 K d13_94 rfl ?_
  have q37 := (((((((pre_A_fi.keep K5 na7).keep K9 na8).other W14 (own_on nb0_24 5 12 rfl rfl)).other W18 (own_on nb0_24 5 13 rfl rfl)).other W23 (own_on nb0_24 5 12 rfl rfl)).other W27 (own_on nb0_24 5 13 rfl rfl)).other W34 (own_on nb0_24 5 13 rfl rfl))
  refine g_iaload X36 K e36 q37 d13_96 (by decide) (v := (.int 2)) rfl (g_istore X36 K d13_97 (L' := #[rv x0, iv 2, iv 1, iv 1, iv 0, iv 2, uu, uu, uu]) rfl (g_iload X36 K d13_99 rfl (g_ifN X36 K d13_101 ((if0 _ _).trans (flt (by decide)).1) (g_ag X36 K e36 14 rfl xb35.2.2.1 d13_104 d13_105 rfl fun T39 X39 e39 => g_iload X39 K d13_108 rfl ?_))))
  have q40 := (((((((pre_A_tg.keep K5 na9).keep K9 na10).other W14 (own_on nb0_24 2 12 rfl rfl)).other W18 (own_on nb0_24 2 13 rfl rfl)).other W23 (own_on nb0_24 2 12 rfl rfl)).other W27 (own_on nb0_24 2 13 rfl rfl)).other W34 (own_on nb0_24 2 13 rfl rfl))
  refine g_iaload X39 K e39 q40 d13_110 (by decide) (v := (.int 1)) rfl (g_istore X39 K d13_111 (L' := #[rv x0, iv 2, iv 1, iv 1, iv 0, iv 2, iv 1, uu, uu]) rfl (g_ag X39 K e39 26 rfl xb35.2.2.2.2.2.2.1 d13_113 d13_114 rfl fun T41 X41 e41 => g_iload X41 K d13_117 rfl ?_))
  have q42 := ((((((r5_0.keep K9 na11).other W14 (own_on nb0_24 6 12 rfl rfl)).other W18 (own_on nb0_24 6 13 rfl rfl)).other W23 (own_on nb0_24 6 12 rfl rfl)).other W27 (own_on nb0_24 6 13 rfl rfl)).other W34 (own_on nb0_24 6 13 rfl rfl))
  refine g_laload X41 K e41 q42 d13_119 (by decide) (v := (.long 0)) rfl (g_ag X41 K e41 18 rfl xb35.2.2.2.2.1 d13_120 d13_121 rfl fun T43 X43 e43 => g_iload X43 K d13_124 rfl ?_)
  have q44 := (((((((pre_A_co.keep K5 na12).keep K9 na13).other W14 (own_on nb0_24 4 12 rfl rfl)).other W18 (own_on nb0_24 4 13 rfl rfl)).other W23 (own_on nb0_24 4 12 rfl rfl)).other W27 (own_on nb0_24 4 13 rfl rfl)).other W34 (own_on nb0_24 4 13 rfl rfl))
  refine g_laload X43 K e43 q44 d13_126 (by decide) (v := (.long k1)) rfl (g_ladd X43 K d13_127 rfl (g_lstore X43 K d13_128 (L' := #[rv x0, iv 2, iv 1, iv 1, iv 0, iv 2, iv 1, lv ((0 : Int64) + k1), .second]) rfl (g_ag X43 K e43 16 rfl xb35.2.2.2.1 d13_130 d13_131 rfl fun T45 X45 e45 => g_iload X45 K d13_134 rfl ?_)))
  have q46 := (((((((pre_A_rs.keep K5 na14).keep K9 na15).other W14 (own_on nb0_24 3 12 rfl rfl)).other W18 (own_on nb0_24 3 13 rfl rfl)).other W23 (own_on nb0_24 3 12 rfl rfl)).other W27 (own_on nb0_24 3 13 rfl rfl)).other W34 (own_on nb0_24 3 13 rfl rfl))
  refine g_laload X45 K e45 q46 d13_136 (by decide) (v := (.long c1)) rfl (g_lconst X45 K d13_137 (z := 0) rfl (g_lcmp X45 K d13_138 rfl ?_))
  have J47 : ∀ (T47 : State) (L47 : List Loc), Stand p l e ({ frames := 1, cells := 0, slots := 0, locals := 16 } : Room) s m #[(.ref x0)] below meth c T47 L47 0 0 → Fr n0 L47 → T47.heap = h34 → (((0 : Int64) < c1) → ¬ (((0 : Int64) + k1) < (0 : Int64))) → Gl p e below Rp (T47.setTop (mkF m 223 #[rv x0, iv 2, iv 1, iv 1, iv 0, iv 2, iv 1, lv ((0 : Int64) + k1), .second] [])) := by
   intro T47 L47 X47 N47 e47 hj47_0
   refine g_ag X47 K e47 12 rfl xb35.2.1 d13_223 d13_224 rfl fun T48 X48 e48 => g_iload X48 K d13_227 rfl ?_
   have q49 := (((((((pre_A_nx.keep K5 na16).keep K9 na17).other W14 (own_on nb0_24 1 12 rfl rfl)).other W18 (own_on nb0_24 1 13 rfl rfl)).other W23 (own_on nb0_24 1 12 rfl rfl)).other W27 (own_on nb0_24 1 13 rfl rfl)).other W34 (own_on nb0_24 1 13 rfl rfl))
   refine g_iaload X48 K e48 q49 d13_229 (by decide) (v := (.int 0)) rfl (g_istore X48 K d13_230 (L' := #[rv x0, iv 2, iv 1, iv 1, iv 0, iv 0, iv 1, lv ((0 : Int64) + k1), .second]) rfl (g_goto X48 K 99 d13_232 (by decide) (g_iload X48 K d13_99 rfl (g_ifN X48 K d13_101 ((if0 _ _).trans (flt (by decide)).1) (g_ag X48 K e48 14 rfl xb35.2.2.1 d13_104 d13_105 rfl fun T51 X51 e51 => g_iload X51 K d13_108 rfl (g_iaload X51 K e51 q40 d13_110 (by decide) (v := (.int 1)) rfl (g_istore X51 K d13_111 (L' := #[rv x0, iv 2, iv 1, iv 1, iv 0, iv 0, iv 1, lv ((0 : Int64) + k1), .second]) rfl (g_ag X51 K e51 26 rfl xb35.2.2.2.2.2.2.1 d13_113 d13_114 rfl fun T52 X52 e52 => g_iload X52 K d13_117 rfl (g_laload X52 K e52 q42 d13_119 (by decide) (v := (.long 0)) rfl (g_ag X52 K e52 18 rfl xb35.2.2.2.2.1 d13_120 d13_121 rfl fun T53 X53 e53 => ?_))))))))))
   refine g_iload X53 K d13_124 rfl (g_laload X53 K e53 q44 d13_126 (by decide) (v := (.long k0)) rfl (g_ladd X53 K d13_127 rfl (g_lstore X53 K d13_128 (L' := #[rv x0, iv 2, iv 1, iv 1, iv 0, iv 0, iv 1, lv ((0 : Int64) + k0), .second]) rfl (g_ag X53 K e53 16 rfl xb35.2.2.2.1 d13_130 d13_131 rfl fun T54 X54 e54 => g_iload X54 K d13_134 rfl (g_laload X54 K e54 q46 d13_136 (by decide) (v := (.long c0)) rfl (g_lconst X54 K d13_137 (z := 0) rfl (g_lcmp X54 K d13_138 rfl ?_)))))))
   have J55 : ∀ (T55 : State) (L55 : List Loc), Stand p l e ({ frames := 1, cells := 0, slots := 0, locals := 16 } : Room) s m #[(.ref x0)] below meth c T55 L55 0 0 → Fr n0 L55 → T55.heap = h34 → (((0 : Int64) < c0) → ¬ (((0 : Int64) + k0) < (0 : Int64))) → Gl p e below Rp (T55.setTop (mkF m 223 #[rv x0, iv 2, iv 1, iv 1, iv 0, iv 0, iv 1, lv ((0 : Int64) + k0), .second] [])) := by
    intro T55 L55 X55 N55 e55 hj55_0
    refine g_ag X55 K e55 12 rfl xb35.2.1 d13_223 d13_224 rfl fun T56 X56 e56 => g_iload X56 K d13_227 rfl (g_iaload X56 K e56 q49 d13_229 (by decide) (v := (.int (-1))) rfl (g_istore X56 K d13_230 (L' := #[rv x0, iv 2, iv 1, iv 1, iv 0, iv (-1), iv 1, lv ((0 : Int64) + k0), .second]) rfl (g_goto X56 K 99 d13_232 (by decide) (g_iload X56 K d13_99 rfl (g_ifY X56 K 235 d13_101 (by decide) ((if0 _ _).trans (tlt (by decide)).1) (g_goto X56 K 61 d13_235 (by decide) (g_iloadN X56 K d13_61 rfl (g_ifN X56 K d13_62 ((if0 _ _).trans (tlt (by decide)).2.2.2) (g_ag X56 K e56 51 rfl xb35.2.2.2.2.2.2.2.2.2.2.1 d13_65 d13_66 rfl fun T59 X59 e59 => g_iloadN X59 K d13_69 rfl ?_)))))))))
    have q60 := (q32.other W34 (own_on nb0_24 12 13 rfl rfl))
    refine g_iaload X59 K e59 q60 d13_70 (by decide) (v := (.int 1)) rfl (g_istore X59 K d13_71 (L' := #[rv x0, iv 2, iv 1, iv 1, iv 1, iv (-1), iv 1, lv ((0 : Int64) + k0), .second]) rfl (g_iloadN X59 K d13_73 rfl (g_iconst X59 K d13_74 (z := 1) rfl (g_iadd X59 K d13_75 (z := (2 : Int32)) rfl (g_iloadN X59 K d13_76 rfl ?_)))))
    refine gB (S' := T59.setTop (mkF m 78 #[rv x0, iv 2, iv 1, iv 1, iv 1, iv (-1), iv 1, lv ((0 : Int64) + k0), .second] [(.int 0)])) ?_ (by
      intro t k
      refine Jvm.RoadKit.iremM X59 hx rfl (hb hby d13_77) rfl (by decide) ?_
      exact k)
    refine g_istoreN X59 K d13_78 (L' := #[rv x0, iv 2, iv 0, iv 1, iv 1, iv (-1), iv 1, lv ((0 : Int64) + k0), .second]) rfl (g_iinc X59 K d13_79 rfl (L' := #[rv x0, iv 2, iv 0, iv 0, iv 1, iv (-1), iv 1, lv ((0 : Int64) + k0), .second]) rfl (g_ag X59 K e59 54 rfl xb35.2.2.2.2.2.2.2.2.2.2.2.1 d13_82 d13_83 rfl fun T61 X61 e61 => g_iload X61 K d13_86 rfl (g_iconst X61 K d13_88 (z := 0) rfl (g_bastore X61 K e61 V34 d13_89 (by decide) 1 ⟨rfl, Nat.le_of_ble_eq_true rfl⟩ (w := [(.int 0), (.int 0)]) rfl (by decide) fun T62 h62 X62 e62 W62 V62 => ?_))))
    have N62 := Fr.snoc X62 N55 (own_ong nb0_24 nb0_23 13 rfl)
    have KK62 := KK34.wr W62 (Or.inl (List.mem_of_getElem? (i := 4) rfl))
    have xb63 := own_XF_wr xb35 W62 (own_on nb0_24 0 13 rfl rfl)
    refine g_ag X62 K e62 24 rfl xb63.2.2.2.2.2.1 d13_90 d13_91 rfl fun T64 X64 e64 => g_iload X64 K d13_94 rfl ?_
    have q65 := (q37.other W62 (own_on nb0_24 5 13 rfl rfl))
    refine g_iaload X64 K e64 q65 d13_96 (by decide) (v := (.int 3)) rfl (g_istore X64 K d13_97 (L' := #[rv x0, iv 2, iv 0, iv 0, iv 1, iv 3, iv 1, lv ((0 : Int64) + k0), .second]) rfl (g_iload X64 K d13_99 rfl (g_ifN X64 K d13_101 ((if0 _ _).trans (flt (by decide)).1) (g_ag X64 K e64 14 rfl xb63.2.2.1 d13_104 d13_105 rfl fun T67 X67 e67 => g_iload X67 K d13_108 rfl ?_))))
    have q68 := (q40.other W62 (own_on nb0_24 2 13 rfl rfl))
    refine g_iaload X67 K e67 q68 d13_110 (by decide) (v := (.int 0)) rfl (g_istore X67 K d13_111 (L' := #[rv x0, iv 2, iv 0, iv 0, iv 1, iv 3, iv 0, lv ((0 : Int64) + k0), .second]) rfl (g_ag X67 K e67 26 rfl xb63.2.2.2.2.2.2.1 d13_113 d13_114 rfl fun T69 X69 e69 => g_iload X69 K d13_117 rfl ?_))
    have q70 := (q42.other W62 (own_on nb0_24 6 13 rfl rfl))
    refine g_laload X69 K e69 q70 d13_119 (by decide) (v := (.long 0)) rfl (g_ag X69 K e69 18 rfl xb63.2.2.2.2.1 d13_120 d13_121 rfl fun T71 X71 e71 => g_iload X71 K d13_124 rfl ?_)
    have q72 := (q44.other W62 (own_on nb0_24 4 13 rfl rfl))
    refine g_laload X71 K e71 q72 d13_126 (by decide) (v := (.long (-k1))) rfl (g_ladd X71 K d13_127 rfl (g_lstore X71 K d13_128 (L' := #[rv x0, iv 2, iv 0, iv 0, iv 1, iv 3, iv 0, lv ((0 : Int64) + (-k1)), .second]) rfl (g_ag X71 K e71 16 rfl xb63.2.2.2.1 d13_130 d13_131 rfl fun T73 X73 e73 => g_iload X73 K d13_134 rfl ?_)))
    have q74 := (q46.other W62 (own_on nb0_24 3 13 rfl rfl))
    refine g_laload X73 K e73 q74 d13_136 (by decide) (v := (.long 0)) rfl (g_lconst X73 K d13_137 (z := 0) rfl (g_lcmp X73 K d13_138 (z := (0 : Int32)) rfl (g_ifY X73 K 223 d13_139 (by decide) ((if0 _ _).trans (flt (by decide)).2.2.2) (g_ag X73 K e73 12 rfl xb63.2.1 d13_223 d13_224 rfl fun T76 X76 e76 => g_iload X76 K d13_227 rfl ?_))))
    have q77 := (q49.other W62 (own_on nb0_24 1 13 rfl rfl))
    refine g_iaload X76 K e76 q77 d13_229 (by decide) (v := (.int 1)) rfl (g_istore X76 K d13_230 (L' := #[rv x0, iv 2, iv 0, iv 0, iv 1, iv 1, iv 0, lv ((0 : Int64) + (-k1)), .second]) rfl (g_goto X76 K 99 d13_232 (by decide) (g_iload X76 K d13_99 rfl (g_ifN X76 K d13_101 ((if0 _ _).trans (flt (by decide)).1) (g_ag X76 K e76 14 rfl xb63.2.2.1 d13_104 d13_105 rfl fun T79 X79 e79 => g_iload X79 K d13_108 rfl (g_iaload X79 K e79 q68 d13_110 (by decide) (v := (.int 0)) rfl (g_istore X79 K d13_111 (L' := #[rv x0, iv 2, iv 0, iv 0, iv 1, iv 1, iv 0, lv ((0 : Int64) + (-k1)), .second]) rfl (g_ag X79 K e79 26 rfl xb63.2.2.2.2.2.2.1 d13_113 d13_114 rfl fun T80 X80 e80 => g_iload X80 K d13_117 rfl (g_laload X80 K e80 q70 d13_119 (by decide) (v := (.long 0)) rfl (g_ag X80 K e80 18 rfl xb63.2.2.2.2.1 d13_120 d13_121 rfl fun T81 X81 e81 => ?_))))))))))
    refine g_iload X81 K d13_124 rfl (g_laload X81 K e81 q72 d13_126 (by decide) (v := (.long (-k0))) rfl (g_ladd X81 K d13_127 rfl (g_lstore X81 K d13_128 (L' := #[rv x0, iv 2, iv 0, iv 0, iv 1, iv 1, iv 0, lv ((0 : Int64) + (-k0)), .second]) rfl (g_ag X81 K e81 16 rfl xb63.2.2.2.1 d13_130 d13_131 rfl fun T82 X82 e82 => g_iload X82 K d13_134 rfl (g_laload X82 K e82 q74 d13_136 (by decide) (v := (.long 0)) rfl (g_lconst X82 K d13_137 (z := 0) rfl (g_lcmp X82 K d13_138 (z := (0 : Int32)) rfl (g_ifY X82 K 223 d13_139 (by decide) ((if0 _ _).trans (flt (by decide)).2.2.2) (g_ag X82 K e82 12 rfl xb63.2.1 d13_223 d13_224 rfl fun T84 X84 e84 => g_iload X84 K d13_227 rfl (g_iaload X84 K e84 q77 d13_229 (by decide) (v := (.int (-1))) rfl ?_))))))))))
    refine g_istore X84 K d13_230 (L' := #[rv x0, iv 2, iv 0, iv 0, iv 1, iv (-1), iv 0, lv ((0 : Int64) + (-k0)), .second]) rfl (g_goto X84 K 99 d13_232 (by decide) (g_iload X84 K d13_99 rfl (g_ifY X84 K 235 d13_101 (by decide) ((if0 _ _).trans (tlt (by decide)).1) (g_goto X84 K 61 d13_235 (by decide) (g_iloadN X84 K d13_61 rfl (g_ifY X84 K 238 d13_62 (by decide) ((if0 _ _).trans (flt (by decide)).2.2.2) (g_aloadN X84 K d13_238 rfl rfl (g_iconst X84 K d13_239 (z := 1) rfl ?_))))))))
    obtain ⟨T87, h87, X87, e87, W87, st87⟩ := putFN X84 hx hZ hown (hw _ (im 97 rfl)) Via.refl e84 xb63.2.2.2.2.2.2.2.2.2.2.2.2.2.2.2.2.2.2.2.1 xb63.1 (Or.inl (hw _ (im 98 rfl))) (hw _ (im 3 rfl)) (ty := .boolean) (v' := (.int 1)) (by decide) rfl (by first | exact fits_nar_bool _ | decide | rfl) (g := (mkF m 240 #[rv x0, iv 2, iv 0, iv 0, iv 1, iv (-1), iv 0, lv ((0 : Int64) + (-k0)), .second] [(.int 1), (.ref x0)])) rfl rfl (hb hby d13_240)
    have Fw87 := xb63.2.2.2.2.2.2.2.2.2.2.2.2.2.2.2.2.2.2.2.1.same W87
    have N87 := Fr.snoc X87 N62 nb0_23
    have KK87 := KK62.wr W87 (Or.inl (List.mem_of_getElem? (i := 0) rfl))
    refine gB (S' := T87.setTop (mkF m 243 #[rv x0, iv 2, iv 0, iv 0, iv 1, iv (-1), iv 0, lv ((0 : Int64) + (-k0)), .second] [])) ?_ st87
    have xb88 := own_XF_p_valid hw xb63 W87 Fw87
    have q89 := (q70.other W87 (own_on nb0_24 6 0 rfl rfl))
    exact g_lv0 X87 K hlk hrt hR d13_243 (by decide) (by rw [e87]; exact ⟨(0 : Int64), rfl, N87, KK87, xb88, q89, (own_S_nn hj47_0 hj55_0 hk0 hk1)⟩)
   by_cases hc139_90 : (0 : Int64) < c0
   refine g_ifN X54 K d13_139 ((if0 _ _).trans (tlt ((lw_gt c0 (0 : Int64)).mpr hc139_90)).2.2.2) ?_
   ·
    refine g_lload X54 K d13_142 rfl (g_ag X54 K e54 26 rfl xb35.2.2.2.2.2.2.1 d13_144 d13_145 rfl fun T91 X91 e91 => g_iload X91 K d13_148 rfl (g_laload X91 K e91 q42 d13_150 (by decide) (v := (.long 0)) rfl (g_lcmp X91 K d13_151 rfl ?_)))
    by_cases hc152_92 : ((0 : Int64) + k0) < (0 : Int64)
    refine g_ifN X91 K d13_152 ((if0 _ _).trans (tlt ((lw_lt ((0 : Int64) + k0) (0 : Int64)).mpr hc152_92)).2.1) ?_
    ·
     refine g_ag X91 K e91 26 rfl xb35.2.2.2.2.2.2.1 d13_155 d13_156 rfl fun T93 X93 e93 => g_iload X93 K d13_159 rfl (g_lload X93 K d13_161 rfl (g_lastore X93 K e93 q42 d13_163 (by decide) 1 ⟨rfl, Nat.le_of_ble_eq_true rfl⟩ (w := [(.long 0), (.long ((0 : Int64) + k0))]) rfl rfl fun T94 h94 X94 e94 W94 V94 => ?_))
     have N94 := Fr.snoc X94 N47 (own_ong nb0_24 nb0_23 6 rfl)
     have KK94 := KK34.wr W94 (Or.inl (List.mem_of_getElem? (i := 1) rfl))
     have xb95 := own_XF_wr xb35 W94 (own_on nb0_24 0 6 rfl rfl)
     refine g_ag X94 K e94 56 rfl xb95.2.2.2.2.2.2.2.2.2.2.2.2.1 d13_164 d13_165 rfl fun T96 X96 e96 => g_iload X96 K d13_168 rfl (g_dup2 X96 K d13_170 rfl rfl ?_)
     have q97 := ((((((r9_0.other W14 (own_on nb0_24 14 12 rfl rfl)).other W18 (own_on nb0_24 14 13 rfl rfl)).other W23 (own_on nb0_24 14 12 rfl rfl)).other W27 (own_on nb0_24 14 13 rfl rfl)).other W34 (own_on nb0_24 14 13 rfl rfl)).other W94 (own_on nb0_24 14 6 rfl rfl))
     refine g_iaload X96 K e96 q97 d13_171 (by decide) (v := (.int 0)) rfl (g_iconst X96 K d13_172 (z := 1) rfl (g_iadd X96 K d13_173 (z := (1 : Int32)) rfl (g_dupX2 X96 K d13_174 rfl rfl rfl (g_iastore X96 K e96 q97 d13_175 (by decide) 1 ⟨rfl, Nat.le_of_ble_eq_true rfl⟩ (w := [(.int 0), (.int 1)]) rfl rfl fun T98 h98 X98 e98 W98 V98 => ?_))))
     have N98 := Fr.snoc X98 N94 (own_ong nb0_24 nb0_23 14 rfl)
     have KK98 := KK94.wr W98 (Or.inl (List.mem_of_getElem? (i := 2) rfl))
     refine g_iloadN X98 K d13_176 rfl (g_icY X98 K 190 d13_177 (by decide) (flt (by decide)).2.2.2 ?_)
     have xb100 := own_XF_wr xb95 W98 (own_on nb0_24 0 14 rfl rfl)
     refine g_ag X98 K e98 54 rfl xb100.2.2.2.2.2.2.2.2.2.2.2.1 d13_190 d13_191 rfl fun T101 X101 e101 => g_iload X101 K d13_194 rfl ?_
     have q102 := ((V34.other W94 (own_on nb0_24 13 6 rfl rfl)).other W98 (own_on nb0_24 13 14 rfl rfl))
     obtain ⟨cl103, Ar103, qa103, S103, Nn103, H103, G103⟩ := id q102
     have hin103 : ¬ ((1 : Int32) < 0 ∨ cl103.slots.size ≤ ((1 : Int32)).toNatClampNeg) := inb_of S103 ⟨by decide, by decide⟩
     have hat103 : cl103.slots[((1 : Int32)).toNatClampNeg]? = some (.int 1) := Has.at H103 hin103 rfl
     refine gB (S' := T101.setTop (mkF m 197 #[rv x0, iv 2, iv 1, iv 1, iv 0, iv 0, iv 1, lv ((0 : Int64) + k0), .second] [(.int 1)])) ?_ (by
       intro t k
       refine X101.baloadBooleans hx (j := (1 : Int32)) (v := (.int 1)) (by rw [e101]; exact Ar103.1) (State.isArrayOf_alike hZ.alike Ar103.2.1) Ar103.2.2 hin103 hat103 (g := (mkF m 196 #[rv x0, iv 2, iv 1, iv 1, iv 0, iv 0, iv 1, lv ((0 : Int64) + k0), .second] [(.int 1), (.ref qd)])) rfl rfl (hb hby d13_196) _ ?_
       exact k)
     refine g_ifY X101 K 223 d13_197 (by decide) ((if0 _ _).trans (feq (by decide)).2) (g_ag X101 K e101 12 rfl xb100.2.1 d13_223 d13_224 rfl fun T105 X105 e105 => g_iload X105 K d13_227 rfl ?_)
     have q106 := ((q49.other W94 (own_on nb0_24 1 6 rfl rfl)).other W98 (own_on nb0_24 1 14 rfl rfl))
     refine g_iaload X105 K e105 q106 d13_229 (by decide) (v := (.int (-1))) rfl (g_istore X105 K d13_230 (L' := #[rv x0, iv 2, iv 1, iv 1, iv 0, iv (-1), iv 1, lv ((0 : Int64) + k0), .second]) rfl (g_goto X105 K 99 d13_232 (by decide) (g_iload X105 K d13_99 rfl (g_ifY X105 K 235 d13_101 (by decide) ((if0 _ _).trans (tlt (by decide)).1) (g_goto X105 K 61 d13_235 (by decide) (g_iloadN X105 K d13_61 rfl (g_ifN X105 K d13_62 ((if0 _ _).trans (tlt (by decide)).2.2.2) (g_ag X105 K e105 51 rfl xb100.2.2.2.2.2.2.2.2.2.2.1 d13_65 d13_66 rfl fun T109 X109 e109 => g_iloadN X109 K d13_69 rfl ?_))))))))
     have q110 := (((q32.other W34 (own_on nb0_24 12 13 rfl rfl)).other W94 (own_on nb0_24 12 6 rfl rfl)).other W98 (own_on nb0_24 12 14 rfl rfl))
     refine g_iaload X109 K e109 q110 d13_70 (by decide) (v := (.int 1)) rfl (g_istore X109 K d13_71 (L' := #[rv x0, iv 2, iv 1, iv 1, iv 1, iv (-1), iv 1, lv ((0 : Int64) + k0), .second]) rfl (g_iloadN X109 K d13_73 rfl (g_iconst X109 K d13_74 (z := 1) rfl (g_iadd X109 K d13_75 (z := (2 : Int32)) rfl (g_iloadN X109 K d13_76 rfl ?_)))))
     refine gB (S' := T109.setTop (mkF m 78 #[rv x0, iv 2, iv 1, iv 1, iv 1, iv (-1), iv 1, lv ((0 : Int64) + k0), .second] [(.int 0)])) ?_ (by
       intro t k
       refine Jvm.RoadKit.iremM X109 hx rfl (hb hby d13_77) rfl (by decide) ?_
       exact k)
     refine g_istoreN X109 K d13_78 (L' := #[rv x0, iv 2, iv 0, iv 1, iv 1, iv (-1), iv 1, lv ((0 : Int64) + k0), .second]) rfl (g_iinc X109 K d13_79 rfl (L' := #[rv x0, iv 2, iv 0, iv 0, iv 1, iv (-1), iv 1, lv ((0 : Int64) + k0), .second]) rfl (g_ag X109 K e109 54 rfl xb100.2.2.2.2.2.2.2.2.2.2.2.1 d13_82 d13_83 rfl fun T111 X111 e111 => g_iload X111 K d13_86 rfl (g_iconst X111 K d13_88 (z := 0) rfl (g_bastore X111 K e111 q102 d13_89 (by decide) 1 ⟨rfl, Nat.le_of_ble_eq_true rfl⟩ (w := [(.int 0), (.int 0)]) rfl (by decide) fun T112 h112 X112 e112 W112 V112 => ?_))))
     have N112 := Fr.snoc X112 N98 (own_ong nb0_24 nb0_23 13 rfl)
     have KK112 := KK98.wr W112 (Or.inl (List.mem_of_getElem? (i := 4) rfl))
     have xb113 := own_XF_wr xb100 W112 (own_on nb0_24 0 13 rfl rfl)
     refine g_ag X112 K e112 24 rfl xb113.2.2.2.2.2.1 d13_90 d13_91 rfl fun T114 X114 e114 => g_iload X114 K d13_94 rfl ?_
     have q115 := (((q37.other W94 (own_on nb0_24 5 6 rfl rfl)).other W98 (own_on nb0_24 5 14 rfl rfl)).other W112 (own_on nb0_24 5 13 rfl rfl))
     refine g_iaload X114 K e114 q115 d13_96 (by decide) (v := (.int 3)) rfl (g_istore X114 K d13_97 (L' := #[rv x0, iv 2, iv 0, iv 0, iv 1, iv 3, iv 1, lv ((0 : Int64) + k0), .second]) rfl (g_iload X114 K d13_99 rfl (g_ifN X114 K d13_101 ((if0 _ _).trans (flt (by decide)).1) (g_ag X114 K e114 14 rfl xb113.2.2.1 d13_104 d13_105 rfl fun T117 X117 e117 => g_iload X117 K d13_108 rfl ?_))))
     have q118 := (((q40.other W94 (own_on nb0_24 2 6 rfl rfl)).other W98 (own_on nb0_24 2 14 rfl rfl)).other W112 (own_on nb0_24 2 13 rfl rfl))
     refine g_iaload X117 K e117 q118 d13_110 (by decide) (v := (.int 0)) rfl (g_istore X117 K d13_111 (L' := #[rv x0, iv 2, iv 0, iv 0, iv 1, iv 3, iv 0, lv ((0 : Int64) + k0), .second]) rfl (g_ag X117 K e117 26 rfl xb113.2.2.2.2.2.2.1 d13_113 d13_114 rfl fun T119 X119 e119 => g_iload X119 K d13_117 rfl ?_))
     have q120 := ((V94.other W98 (own_on nb0_24 6 14 rfl rfl)).other W112 (own_on nb0_24 6 13 rfl rfl))
     refine g_laload X119 K e119 q120 d13_119 (by decide) (v := (.long ((0 : Int64) + k0))) rfl (g_ag X119 K e119 18 rfl xb113.2.2.2.2.1 d13_120 d13_121 rfl fun T121 X121 e121 => g_iload X121 K d13_124 rfl ?_)
     have q122 := (((q44.other W94 (own_on nb0_24 4 6 rfl rfl)).other W98 (own_on nb0_24 4 14 rfl rfl)).other W112 (own_on nb0_24 4 13 rfl rfl))
     refine g_laload X121 K e121 q122 d13_126 (by decide) (v := (.long (-k1))) rfl (g_ladd X121 K d13_127 rfl (g_lstore X121 K d13_128 (L' := #[rv x0, iv 2, iv 0, iv 0, iv 1, iv 3, iv 0, lv (((0 : Int64) + k0) + (-k1)), .second]) rfl (g_ag X121 K e121 16 rfl xb113.2.2.2.1 d13_130 d13_131 rfl fun T123 X123 e123 => g_iload X123 K d13_134 rfl ?_)))
     have q124 := (((q46.other W94 (own_on nb0_24 3 6 rfl rfl)).other W98 (own_on nb0_24 3 14 rfl rfl)).other W112 (own_on nb0_24 3 13 rfl rfl))
     refine g_laload X123 K e123 q124 d13_136 (by decide) (v := (.long 0)) rfl (g_lconst X123 K d13_137 (z := 0) rfl (g_lcmp X123 K d13_138 (z := (0 : Int32)) rfl (g_ifY X123 K 223 d13_139 (by decide) ((if0 _ _).trans (flt (by decide)).2.2.2) (g_ag X123 K e123 12 rfl xb113.2.1 d13_223 d13_224 rfl fun T126 X126 e126 => g_iload X126 K d13_227 rfl ?_))))
     have q127 := (q106.other W112 (own_on nb0_24 1 13 rfl rfl))
     refine g_iaload X126 K e126 q127 d13_229 (by decide) (v := (.int 1)) rfl (g_istore X126 K d13_230 (L' := #[rv x0, iv 2, iv 0, iv 0, iv 1, iv 1, iv 0, lv (((0 : Int64) + k0) + (-k1)), .second]) rfl (g_goto X126 K 99 d13_232 (by decide) (g_iload X126 K d13_99 rfl (g_ifN X126 K d13_101 ((if0 _ _).trans (flt (by decide)).1) (g_ag X126 K e126 14 rfl xb113.2.2.1 d13_104 d13_105 rfl fun T129 X129 e129 => g_iload X129 K d13_108 rfl (g_iaload X129 K e129 q118 d13_110 (by decide) (v := (.int 0)) rfl (g_istore X129 K d13_111 (L' := #[rv x0, iv 2, iv 0, iv 0, iv 1, iv 1, iv 0, lv (((0 : Int64) + k0) + (-k1)), .second]) rfl (g_ag X129 K e129 26 rfl xb113.2.2.2.2.2.2.1 d13_113 d13_114 rfl fun T130 X130 e130 => g_iload X130 K d13_117 rfl (g_laload X130 K e130 q120 d13_119 (by decide) (v := (.long ((0 : Int64) + k0))) rfl (g_ag X130 K e130 18 rfl xb113.2.2.2.2.1 d13_120 d13_121 rfl fun T131 X131 e131 => ?_))))))))))
     refine g_iload X131 K d13_124 rfl (g_laload X131 K e131 q122 d13_126 (by decide) (v := (.long (-k0))) rfl (g_ladd X131 K d13_127 rfl (g_lstore X131 K d13_128 (L' := #[rv x0, iv 2, iv 0, iv 0, iv 1, iv 1, iv 0, lv (((0 : Int64) + k0) + (-k0)), .second]) rfl (g_ag X131 K e131 16 rfl xb113.2.2.2.1 d13_130 d13_131 rfl fun T132 X132 e132 => g_iload X132 K d13_134 rfl (g_laload X132 K e132 q124 d13_136 (by decide) (v := (.long 0)) rfl (g_lconst X132 K d13_137 (z := 0) rfl (g_lcmp X132 K d13_138 (z := (0 : Int32)) rfl (g_ifY X132 K 223 d13_139 (by decide) ((if0 _ _).trans (flt (by decide)).2.2.2) (g_ag X132 K e132 12 rfl xb113.2.1 d13_223 d13_224 rfl fun T134 X134 e134 => g_iload X134 K d13_227 rfl (g_iaload X134 K e134 q127 d13_229 (by decide) (v := (.int (-1))) rfl ?_))))))))))
     refine g_istore X134 K d13_230 (L' := #[rv x0, iv 2, iv 0, iv 0, iv 1, iv (-1), iv 0, lv (((0 : Int64) + k0) + (-k0)), .second]) rfl (g_goto X134 K 99 d13_232 (by decide) (g_iload X134 K d13_99 rfl (g_ifY X134 K 235 d13_101 (by decide) ((if0 _ _).trans (tlt (by decide)).1) (g_goto X134 K 61 d13_235 (by decide) (g_iloadN X134 K d13_61 rfl (g_ifY X134 K 238 d13_62 (by decide) ((if0 _ _).trans (flt (by decide)).2.2.2) (g_aloadN X134 K d13_238 rfl rfl (g_iconst X134 K d13_239 (z := 1) rfl ?_))))))))
     obtain ⟨T137, h137, X137, e137, W137, st137⟩ := putFN X134 hx hZ hown (hw _ (im 97 rfl)) Via.refl e134 xb113.2.2.2.2.2.2.2.2.2.2.2.2.2.2.2.2.2.2.2.1 xb113.1 (Or.inl (hw _ (im 98 rfl))) (hw _ (im 3 rfl)) (ty := .boolean) (v' := (.int 1)) (by decide) rfl (by first | exact fits_nar_bool _ | decide | rfl) (g := (mkF m 240 #[rv x0, iv 2, iv 0, iv 0, iv 1, iv (-1), iv 0, lv (((0 : Int64) + k0) + (-k0)), .second] [(.int 1), (.ref x0)])) rfl rfl (hb hby d13_240)
     have Fw137 := xb113.2.2.2.2.2.2.2.2.2.2.2.2.2.2.2.2.2.2.2.1.same W137
     have N137 := Fr.snoc X137 N112 nb0_23
     have KK137 := KK112.wr W137 (Or.inl (List.mem_of_getElem? (i := 0) rfl))
     refine gB (S' := T137.setTop (mkF m 243 #[rv x0, iv 2, iv 0, iv 0, iv 1, iv (-1), iv 0, lv (((0 : Int64) + k0) + (-k0)), .second] [])) ?_ st137
     have xb138 := own_XF_p_valid hw xb113 W137 Fw137
     have q139 := (q120.other W137 (own_on nb0_24 6 0 rfl rfl))
     exact g_lv0 X137 K hlk hrt hR d13_243 (by decide) (by rw [e137]; exact ⟨((0 : Int64) + k0), rfl, N137, KK137, xb138, q139, (own_S_nl hj47_0 hc139_90 hc152_92 hk0 hk1)⟩)
    refine g_ifY X91 K 223 d13_152 (by decide) ((if0 _ _).trans (flt (fun q => hc152_92 ((lw_lt ((0 : Int64) + k0) (0 : Int64)).mp q))).2.1) ?_
    ·
     exact J55 _ _ X91 N47 e91 (fun _ => hc152_92)
   refine g_ifY X54 K 223 d13_139 (by decide) ((if0 _ _).trans (flt (fun q => hc139_90 ((lw_gt c0 (0 : Int64)).mp q))).2.2.2) ?_
   ·
    exact J55 _ _ X54 N47 e54 (fun q => absurd q hc139_90)
  by_cases hc139_140 : (0 : Int64) < c1
  refine g_ifN X45 K d13_139 ((if0 _ _).trans (tlt ((lw_gt c1 (0 : Int64)).mpr hc139_140)).2.2.2) ?_
  ·
   refine g_lload X45 K d13_142 rfl (g_ag X45 K e45 26 rfl xb35.2.2.2.2.2.2.1 d13_144 d13_145 rfl fun T141 X141 e141 => g_iload X141 K d13_148 rfl (g_laload X141 K e141 q42 d13_150 (by decide) (v := (.long 0)) rfl (g_lcmp X141 K d13_151 rfl ?_)))
   by_cases hc152_142 : ((0 : Int64) + k1) < (0 : Int64)
   refine g_ifN X141 K d13_152 ((if0 _ _).trans (tlt ((lw_lt ((0 : Int64) + k1) (0 : Int64)).mpr hc152_142)).2.1) ?_
   ·
    refine g_ag X141 K e141 26 rfl xb35.2.2.2.2.2.2.1 d13_155 d13_156 rfl fun T143 X143 e143 => g_iload X143 K d13_159 rfl (g_lload X143 K d13_161 rfl (g_lastore X143 K e143 q42 d13_163 (by decide) 1 ⟨rfl, Nat.le_of_ble_eq_true rfl⟩ (w := [(.long 0), (.long ((0 : Int64) + k1))]) rfl rfl fun T144 h144 X144 e144 W144 V144 => ?_))
    have N144 := Fr.snoc X144 N34 (own_ong nb0_24 nb0_23 6 rfl)
    have KK144 := KK34.wr W144 (Or.inl (List.mem_of_getElem? (i := 1) rfl))
    have xb145 := own_XF_wr xb35 W144 (own_on nb0_24 0 6 rfl rfl)
    refine g_ag X144 K e144 56 rfl xb145.2.2.2.2.2.2.2.2.2.2.2.2.1 d13_164 d13_165 rfl fun T146 X146 e146 => g_iload X146 K d13_168 rfl (g_dup2 X146 K d13_170 rfl rfl ?_)
    have q147 := ((((((r9_0.other W14 (own_on nb0_24 14 12 rfl rfl)).other W18 (own_on nb0_24 14 13 rfl rfl)).other W23 (own_on nb0_24 14 12 rfl rfl)).other W27 (own_on nb0_24 14 13 rfl rfl)).other W34 (own_on nb0_24 14 13 rfl rfl)).other W144 (own_on nb0_24 14 6 rfl rfl))
    refine g_iaload X146 K e146 q147 d13_171 (by decide) (v := (.int 0)) rfl (g_iconst X146 K d13_172 (z := 1) rfl (g_iadd X146 K d13_173 (z := (1 : Int32)) rfl (g_dupX2 X146 K d13_174 rfl rfl rfl (g_iastore X146 K e146 q147 d13_175 (by decide) 1 ⟨rfl, Nat.le_of_ble_eq_true rfl⟩ (w := [(.int 0), (.int 1)]) rfl rfl fun T148 h148 X148 e148 W148 V148 => ?_))))
    have N148 := Fr.snoc X148 N144 (own_ong nb0_24 nb0_23 14 rfl)
    have KK148 := KK144.wr W148 (Or.inl (List.mem_of_getElem? (i := 2) rfl))
    refine g_iloadN X148 K d13_176 rfl (g_icY X148 K 190 d13_177 (by decide) (flt (by decide)).2.2.2 ?_)
    have xb150 := own_XF_wr xb145 W148 (own_on nb0_24 0 14 rfl rfl)
    refine g_ag X148 K e148 54 rfl xb150.2.2.2.2.2.2.2.2.2.2.2.1 d13_190 d13_191 rfl fun T151 X151 e151 => g_iload X151 K d13_194 rfl ?_
    have q152 := ((V34.other W144 (own_on nb0_24 13 6 rfl rfl)).other W148 (own_on nb0_24 13 14 rfl rfl))
    obtain ⟨cl153, Ar153, qa153, S153, Nn153, H153, G153⟩ := id q152
    have hin153 : ¬ ((1 : Int32) < 0 ∨ cl153.slots.size ≤ ((1 : Int32)).toNatClampNeg) := inb_of S153 ⟨by decide, by decide⟩
    have hat153 : cl153.slots[((1 : Int32)).toNatClampNeg]? = some (.int 1) := Has.at H153 hin153 rfl
    refine gB (S' := T151.setTop (mkF m 197 #[rv x0, iv 2, iv 1, iv 1, iv 0, iv 2, iv 1, lv ((0 : Int64) + k1), .second] [(.int 1)])) ?_ (by
      intro t k
      refine X151.baloadBooleans hx (j := (1 : Int32)) (v := (.int 1)) (by rw [e151]; exact Ar153.1) (State.isArrayOf_alike hZ.alike Ar153.2.1) Ar153.2.2 hin153 hat153 (g := (mkF m 196 #[rv x0, iv 2, iv 1, iv 1, iv 0, iv 2, iv 1, lv ((0 : Int64) + k1), .second] [(.int 1), (.ref qd)])) rfl rfl (hb hby d13_196) _ ?_
      exact k)
    refine g_ifY X151 K 223 d13_197 (by decide) ((if0 _ _).trans (feq (by decide)).2) (g_ag X151 K e151 12 rfl xb150.2.1 d13_223 d13_224 rfl fun T155 X155 e155 => g_iload X155 K d13_227 rfl ?_)
    have q156 := (((((((((pre_A_nx.keep K5 na16).keep K9 na17).other W14 (own_on nb0_24 1 12 rfl rfl)).other W18 (own_on nb0_24 1 13 rfl rfl)).other W23 (own_on nb0_24 1 12 rfl rfl)).other W27 (own_on nb0_24 1 13 rfl rfl)).other W34 (own_on nb0_24 1 13 rfl rfl)).other W144 (own_on nb0_24 1 6 rfl rfl)).other W148 (own_on nb0_24 1 14 rfl rfl))
    refine g_iaload X155 K e155 q156 d13_229 (by decide) (v := (.int 0)) rfl (g_istore X155 K d13_230 (L' := #[rv x0, iv 2, iv 1, iv 1, iv 0, iv 0, iv 1, lv ((0 : Int64) + k1), .second]) rfl (g_goto X155 K 99 d13_232 (by decide) (g_iload X155 K d13_99 rfl (g_ifN X155 K d13_101 ((if0 _ _).trans (flt (by decide)).1) (g_ag X155 K e155 14 rfl xb150.2.2.1 d13_104 d13_105 rfl fun T158 X158 e158 => g_iload X158 K d13_108 rfl ?_)))))
    have q159 := ((q40.other W144 (own_on nb0_24 2 6 rfl rfl)).other W148 (own_on nb0_24 2 14 rfl rfl))
    refine g_iaload X158 K e158 q159 d13_110 (by decide) (v := (.int 1)) rfl (g_istore X158 K d13_111 (L' := #[rv x0, iv 2, iv 1, iv 1, iv 0, iv 0, iv 1, lv ((0 : Int64) + k1), .second]) rfl (g_ag X158 K e158 26 rfl xb150.2.2.2.2.2.2.1 d13_113 d13_114 rfl fun T160 X160 e160 => g_iload X160 K d13_117 rfl ?_))
    have q161 := (V144.other W148 (own_on nb0_24 6 14 rfl rfl))
    refine g_laload X160 K e160 q161 d13_119 (by decide) (v := (.long 0)) rfl (g_ag X160 K e160 18 rfl xb150.2.2.2.2.1 d13_120 d13_121 rfl fun T162 X162 e162 => g_iload X162 K d13_124 rfl ?_)
    have q163 := ((q44.other W144 (own_on nb0_24 4 6 rfl rfl)).other W148 (own_on nb0_24 4 14 rfl rfl))
    refine g_laload X162 K e162 q163 d13_126 (by decide) (v := (.long k0)) rfl (g_ladd X162 K d13_127 rfl (g_lstore X162 K d13_128 (L' := #[rv x0, iv 2, iv 1, iv 1, iv 0, iv 0, iv 1, lv ((0 : Int64) + k0), .second]) rfl (g_ag X162 K e162 16 rfl xb150.2.2.2.1 d13_130 d13_131 rfl fun T164 X164 e164 => g_iload X164 K d13_134 rfl ?_)))
    have q165 := ((q46.other W144 (own_on nb0_24 3 6 rfl rfl)).other W148 (own_on nb0_24 3 14 rfl rfl))
    refine g_laload X164 K e164 q165 d13_136 (by decide) (v := (.long c0)) rfl (g_lconst X164 K d13_137 (z := 0) rfl (g_lcmp X164 K d13_138 rfl ?_))
    have J166 : ∀ (T166 : State) (L166 : List Loc), Stand p l e ({ frames := 1, cells := 0, slots := 0, locals := 16 } : Room) s m #[(.ref x0)] below meth c T166 L166 0 0 → Fr n0 L166 → T166.heap = h148 → (((0 : Int64) < c0) → ¬ (((0 : Int64) + k0) < ((0 : Int64) + k1))) → Gl p e below Rp (T166.setTop (mkF m 223 #[rv x0, iv 2, iv 1, iv 1, iv 0, iv 0, iv 1, lv ((0 : Int64) + k0), .second] [])) := by
     intro T166 L166 X166 N166 e166 hj166_0
     refine g_ag X166 K e166 12 rfl xb150.2.1 d13_223 d13_224 rfl fun T167 X167 e167 => g_iload X167 K d13_227 rfl (g_iaload X167 K e167 q156 d13_229 (by decide) (v := (.int (-1))) rfl (g_istore X167 K d13_230 (L' := #[rv x0, iv 2, iv 1, iv 1, iv 0, iv (-1), iv 1, lv ((0 : Int64) + k0), .second]) rfl (g_goto X167 K 99 d13_232 (by decide) (g_iload X167 K d13_99 rfl (g_ifY X167 K 235 d13_101 (by decide) ((if0 _ _).trans (tlt (by decide)).1) (g_goto X167 K 61 d13_235 (by decide) (g_iloadN X167 K d13_61 rfl (g_ifN X167 K d13_62 ((if0 _ _).trans (tlt (by decide)).2.2.2) (g_ag X167 K e167 51 rfl xb150.2.2.2.2.2.2.2.2.2.2.1 d13_65 d13_66 rfl fun T170 X170 e170 => g_iloadN X170 K d13_69 rfl ?_)))))))))
     have q171 := (((q32.other W34 (own_on nb0_24 12 13 rfl rfl)).other W144 (own_on nb0_24 12 6 rfl rfl)).other W148 (own_on nb0_24 12 14 rfl rfl))
     refine g_iaload X170 K e170 q171 d13_70 (by decide) (v := (.int 1)) rfl (g_istore X170 K d13_71 (L' := #[rv x0, iv 2, iv 1, iv 1, iv 1, iv (-1), iv 1, lv ((0 : Int64) + k0), .second]) rfl (g_iloadN X170 K d13_73 rfl (g_iconst X170 K d13_74 (z := 1) rfl (g_iadd X170 K d13_75 (z := (2 : Int32)) rfl (g_iloadN X170 K d13_76 rfl ?_)))))
     refine gB (S' := T170.setTop (mkF m 78 #[rv x0, iv 2, iv 1, iv 1, iv 1, iv (-1), iv 1, lv ((0 : Int64) + k0), .second] [(.int 0)])) ?_ (by
       intro t k
       refine Jvm.RoadKit.iremM X170 hx rfl (hb hby d13_77) rfl (by decide) ?_
       exact k)
     refine g_istoreN X170 K d13_78 (L' := #[rv x0, iv 2, iv 0, iv 1, iv 1, iv (-1), iv 1, lv ((0 : Int64) + k0), .second]) rfl (g_iinc X170 K d13_79 rfl (L' := #[rv x0, iv 2, iv 0, iv 0, iv 1, iv (-1), iv 1, lv ((0 : Int64) + k0), .second]) rfl (g_ag X170 K e170 54 rfl xb150.2.2.2.2.2.2.2.2.2.2.2.1 d13_82 d13_83 rfl fun T172 X172 e172 => g_iload X172 K d13_86 rfl (g_iconst X172 K d13_88 (z := 0) rfl (g_bastore X172 K e172 q152 d13_89 (by decide) 1 ⟨rfl, Nat.le_of_ble_eq_true rfl⟩ (w := [(.int 0), (.int 0)]) rfl (by decide) fun T173 h173 X173 e173 W173 V173 => ?_))))
     have N173 := Fr.snoc X173 N166 (own_ong nb0_24 nb0_23 13 rfl)
     have KK173 := KK148.wr W173 (Or.inl (List.mem_of_getElem? (i := 4) rfl))
     have xb174 := own_XF_wr xb150 W173 (own_on nb0_24 0 13 rfl rfl)
     refine g_ag X173 K e173 24 rfl xb174.2.2.2.2.2.1 d13_90 d13_91 rfl fun T175 X175 e175 => g_iload X175 K d13_94 rfl ?_
     have q176 := (((q37.other W144 (own_on nb0_24 5 6 rfl rfl)).other W148 (own_on nb0_24 5 14 rfl rfl)).other W173 (own_on nb0_24 5 13 rfl rfl))
     refine g_iaload X175 K e175 q176 d13_96 (by decide) (v := (.int 3)) rfl (g_istore X175 K d13_97 (L' := #[rv x0, iv 2, iv 0, iv 0, iv 1, iv 3, iv 1, lv ((0 : Int64) + k0), .second]) rfl (g_iload X175 K d13_99 rfl (g_ifN X175 K d13_101 ((if0 _ _).trans (flt (by decide)).1) (g_ag X175 K e175 14 rfl xb174.2.2.1 d13_104 d13_105 rfl fun T178 X178 e178 => g_iload X178 K d13_108 rfl ?_))))
     have q179 := (q159.other W173 (own_on nb0_24 2 13 rfl rfl))
     refine g_iaload X178 K e178 q179 d13_110 (by decide) (v := (.int 0)) rfl (g_istore X178 K d13_111 (L' := #[rv x0, iv 2, iv 0, iv 0, iv 1, iv 3, iv 0, lv ((0 : Int64) + k0), .second]) rfl (g_ag X178 K e178 26 rfl xb174.2.2.2.2.2.2.1 d13_113 d13_114 rfl fun T180 X180 e180 => g_iload X180 K d13_117 rfl ?_))
     have q181 := (q161.other W173 (own_on nb0_24 6 13 rfl rfl))
     refine g_laload X180 K e180 q181 d13_119 (by decide) (v := (.long ((0 : Int64) + k1))) rfl (g_ag X180 K e180 18 rfl xb174.2.2.2.2.1 d13_120 d13_121 rfl fun T182 X182 e182 => g_iload X182 K d13_124 rfl ?_)
     have q183 := (q163.other W173 (own_on nb0_24 4 13 rfl rfl))
     refine g_laload X182 K e182 q183 d13_126 (by decide) (v := (.long (-k1))) rfl (g_ladd X182 K d13_127 rfl (g_lstore X182 K d13_128 (L' := #[rv x0, iv 2, iv 0, iv 0, iv 1, iv 3, iv 0, lv (((0 : Int64) + k1) + (-k1)), .second]) rfl (g_ag X182 K e182 16 rfl xb174.2.2.2.1 d13_130 d13_131 rfl fun T184 X184 e184 => g_iload X184 K d13_134 rfl ?_)))
     have q185 := (q165.other W173 (own_on nb0_24 3 13 rfl rfl))
     refine g_laload X184 K e184 q185 d13_136 (by decide) (v := (.long 0)) rfl (g_lconst X184 K d13_137 (z := 0) rfl (g_lcmp X184 K d13_138 (z := (0 : Int32)) rfl (g_ifY X184 K 223 d13_139 (by decide) ((if0 _ _).trans (flt (by decide)).2.2.2) (g_ag X184 K e184 12 rfl xb174.2.1 d13_223 d13_224 rfl fun T187 X187 e187 => g_iload X187 K d13_227 rfl ?_))))
     have q188 := (q156.other W173 (own_on nb0_24 1 13 rfl rfl))
     refine g_iaload X187 K e187 q188 d13_229 (by decide) (v := (.int 1)) rfl (g_istore X187 K d13_230 (L' := #[rv x0, iv 2, iv 0, iv 0, iv 1, iv 1, iv 0, lv (((0 : Int64) + k1) + (-k1)), .second]) rfl (g_goto X187 K 99 d13_232 (by decide) (g_iload X187 K d13_99 rfl (g_ifN X187 K d13_101 ((if0 _ _).trans (flt (by decide)).1) (g_ag X187 K e187 14 rfl xb174.2.2.1 d13_104 d13_105 rfl fun T190 X190 e190 => g_iload X190 K d13_108 rfl (g_iaload X190 K e190 q179 d13_110 (by decide) (v := (.int 0)) rfl (g_istore X190 K d13_111 (L' := #[rv x0, iv 2, iv 0, iv 0, iv 1, iv 1, iv 0, lv (((0 : Int64) + k1) + (-k1)), .second]) rfl (g_ag X190 K e190 26 rfl xb174.2.2.2.2.2.2.1 d13_113 d13_114 rfl fun T191 X191 e191 => g_iload X191 K d13_117 rfl (g_laload X191 K e191 q181 d13_119 (by decide) (v := (.long ((0 : Int64) + k1))) rfl (g_ag X191 K e191 18 rfl xb174.2.2.2.2.1 d13_120 d13_121 rfl fun T192 X192 e192 => ?_))))))))))
     refine g_iload X192 K d13_124 rfl (g_laload X192 K e192 q183 d13_126 (by decide) (v := (.long (-k0))) rfl (g_ladd X192 K d13_127 rfl (g_lstore X192 K d13_128 (L' := #[rv x0, iv 2, iv 0, iv 0, iv 1, iv 1, iv 0, lv (((0 : Int64) + k1) + (-k0)), .second]) rfl (g_ag X192 K e192 16 rfl xb174.2.2.2.1 d13_130 d13_131 rfl fun T193 X193 e193 => g_iload X193 K d13_134 rfl (g_laload X193 K e193 q185 d13_136 (by decide) (v := (.long 0)) rfl (g_lconst X193 K d13_137 (z := 0) rfl (g_lcmp X193 K d13_138 (z := (0 : Int32)) rfl (g_ifY X193 K 223 d13_139 (by decide) ((if0 _ _).trans (flt (by decide)).2.2.2) (g_ag X193 K e193 12 rfl xb174.2.1 d13_223 d13_224 rfl fun T195 X195 e195 => g_iload X195 K d13_227 rfl (g_iaload X195 K e195 q188 d13_229 (by decide) (v := (.int (-1))) rfl ?_))))))))))
     refine g_istore X195 K d13_230 (L' := #[rv x0, iv 2, iv 0, iv 0, iv 1, iv (-1), iv 0, lv (((0 : Int64) + k1) + (-k0)), .second]) rfl (g_goto X195 K 99 d13_232 (by decide) (g_iload X195 K d13_99 rfl (g_ifY X195 K 235 d13_101 (by decide) ((if0 _ _).trans (tlt (by decide)).1) (g_goto X195 K 61 d13_235 (by decide) (g_iloadN X195 K d13_61 rfl (g_ifY X195 K 238 d13_62 (by decide) ((if0 _ _).trans (flt (by decide)).2.2.2) (g_aloadN X195 K d13_238 rfl rfl (g_iconst X195 K d13_239 (z := 1) rfl ?_))))))))
     obtain ⟨T198, h198, X198, e198, W198, st198⟩ := putFN X195 hx hZ hown (hw _ (im 97 rfl)) Via.refl e195 xb174.2.2.2.2.2.2.2.2.2.2.2.2.2.2.2.2.2.2.2.1 xb174.1 (Or.inl (hw _ (im 98 rfl))) (hw _ (im 3 rfl)) (ty := .boolean) (v' := (.int 1)) (by decide) rfl (by first | exact fits_nar_bool _ | decide | rfl) (g := (mkF m 240 #[rv x0, iv 2, iv 0, iv 0, iv 1, iv (-1), iv 0, lv (((0 : Int64) + k1) + (-k0)), .second] [(.int 1), (.ref x0)])) rfl rfl (hb hby d13_240)
     have Fw198 := xb174.2.2.2.2.2.2.2.2.2.2.2.2.2.2.2.2.2.2.2.1.same W198
     have N198 := Fr.snoc X198 N173 nb0_23
     have KK198 := KK173.wr W198 (Or.inl (List.mem_of_getElem? (i := 0) rfl))
     refine gB (S' := T198.setTop (mkF m 243 #[rv x0, iv 2, iv 0, iv 0, iv 1, iv (-1), iv 0, lv (((0 : Int64) + k1) + (-k0)), .second] [])) ?_ st198
     have xb199 := own_XF_p_valid hw xb174 W198 Fw198
     have q200 := (q181.other W198 (own_on nb0_24 6 0 rfl rfl))
     exact g_lv0 X198 K hlk hrt hR d13_243 (by decide) (by rw [e198]; exact ⟨((0 : Int64) + k1), rfl, N198, KK198, xb199, q200, (own_S_ln hc139_140 hc152_142 hj166_0 hk0 hk1)⟩)
    by_cases hc139_201 : (0 : Int64) < c0
    refine g_ifN X164 K d13_139 ((if0 _ _).trans (tlt ((lw_gt c0 (0 : Int64)).mpr hc139_201)).2.2.2) ?_
    ·
     refine g_lload X164 K d13_142 rfl (g_ag X164 K e164 26 rfl xb150.2.2.2.2.2.2.1 d13_144 d13_145 rfl fun T202 X202 e202 => g_iload X202 K d13_148 rfl (g_laload X202 K e202 q161 d13_150 (by decide) (v := (.long ((0 : Int64) + k1))) rfl (g_lcmp X202 K d13_151 rfl ?_)))
     by_cases hc152_203 : ((0 : Int64) + k0) < ((0 : Int64) + k1)
     refine g_ifN X202 K d13_152 ((if0 _ _).trans (tlt ((lw_lt ((0 : Int64) + k0) ((0 : Int64) + k1)).mpr hc152_203)).2.1) ?_
     ·
      refine g_ag X202 K e202 26 rfl xb150.2.2.2.2.2.2.1 d13_155 d13_156 rfl fun T204 X204 e204 => g_iload X204 K d13_159 rfl (g_lload X204 K d13_161 rfl (g_lastore X204 K e204 q161 d13_163 (by decide) 1 ⟨rfl, Nat.le_of_ble_eq_true rfl⟩ (w := [(.long 0), (.long ((0 : Int64) + k0))]) rfl rfl fun T205 h205 X205 e205 W205 V205 => ?_))
      have N205 := Fr.snoc X205 N148 (own_ong nb0_24 nb0_23 6 rfl)
      have KK205 := KK148.wr W205 (Or.inl (List.mem_of_getElem? (i := 1) rfl))
      have xb206 := own_XF_wr xb150 W205 (own_on nb0_24 0 6 rfl rfl)
      refine g_ag X205 K e205 56 rfl xb206.2.2.2.2.2.2.2.2.2.2.2.2.1 d13_164 d13_165 rfl fun T207 X207 e207 => g_iload X207 K d13_168 rfl (g_dup2 X207 K d13_170 rfl rfl ?_)
      have q208 := (V148.other W205 (own_on nb0_24 14 6 rfl rfl))
      refine g_iaload X207 K e207 q208 d13_171 (by decide) (v := (.int 1)) rfl (g_iconst X207 K d13_172 (z := 1) rfl (g_iadd X207 K d13_173 (z := (2 : Int32)) rfl (g_dupX2 X207 K d13_174 rfl rfl rfl (g_iastore X207 K e207 q208 d13_175 (by decide) 1 ⟨rfl, Nat.le_of_ble_eq_true rfl⟩ (w := [(.int 0), (.int 2)]) rfl rfl fun T209 h209 X209 e209 W209 V209 => ?_))))
      have N209 := Fr.snoc X209 N205 (own_ong nb0_24 nb0_23 14 rfl)
      have KK209 := KK205.wr W209 (Or.inl (List.mem_of_getElem? (i := 2) rfl))
      refine g_iloadN X209 K d13_176 rfl (g_icY X209 K 190 d13_177 (by decide) (flt (by decide)).2.2.2 ?_)
      have xb211 := own_XF_wr xb206 W209 (own_on nb0_24 0 14 rfl rfl)
      refine g_ag X209 K e209 54 rfl xb211.2.2.2.2.2.2.2.2.2.2.2.1 d13_190 d13_191 rfl fun T212 X212 e212 => g_iload X212 K d13_194 rfl ?_
      have q213 := ((q152.other W205 (own_on nb0_24 13 6 rfl rfl)).other W209 (own_on nb0_24 13 14 rfl rfl))
      obtain ⟨cl214, Ar214, qa214, S214, Nn214, H214, G214⟩ := id q213
      have hin214 : ¬ ((1 : Int32) < 0 ∨ cl214.slots.size ≤ ((1 : Int32)).toNatClampNeg) := inb_of S214 ⟨by decide, by decide⟩
      have hat214 : cl214.slots[((1 : Int32)).toNatClampNeg]? = some (.int 1) := Has.at H214 hin214 rfl
      refine gB (S' := T212.setTop (mkF m 197 #[rv x0, iv 2, iv 1, iv 1, iv 0, iv 0, iv 1, lv ((0 : Int64) + k0), .second] [(.int 1)])) ?_ (by
        intro t k
        refine X212.baloadBooleans hx (j := (1 : Int32)) (v := (.int 1)) (by rw [e212]; exact Ar214.1) (State.isArrayOf_alike hZ.alike Ar214.2.1) Ar214.2.2 hin214 hat214 (g := (mkF m 196 #[rv x0, iv 2, iv 1, iv 1, iv 0, iv 0, iv 1, lv ((0 : Int64) + k0), .second] [(.int 1), (.ref qd)])) rfl rfl (hb hby d13_196) _ ?_
        exact k)
      refine g_ifY X212 K 223 d13_197 (by decide) ((if0 _ _).trans (feq (by decide)).2) (g_ag X212 K e212 12 rfl xb211.2.1 d13_223 d13_224 rfl fun T216 X216 e216 => g_iload X216 K d13_227 rfl ?_)
      have q217 := ((q156.other W205 (own_on nb0_24 1 6 rfl rfl)).other W209 (own_on nb0_24 1 14 rfl rfl))
      refine g_iaload X216 K e216 q217 d13_229 (by decide) (v := (.int (-1))) rfl (g_istore X216 K d13_230 (L' := #[rv x0, iv 2, iv 1, iv 1, iv 0, iv (-1), iv 1, lv ((0 : Int64) + k0), .second]) rfl (g_goto X216 K 99 d13_232 (by decide) (g_iload X216 K d13_99 rfl (g_ifY X216 K 235 d13_101 (by decide) ((if0 _ _).trans (tlt (by decide)).1) (g_goto X216 K 61 d13_235 (by decide) (g_iloadN X216 K d13_61 rfl (g_ifN X216 K d13_62 ((if0 _ _).trans (tlt (by decide)).2.2.2) (g_ag X216 K e216 51 rfl xb211.2.2.2.2.2.2.2.2.2.2.1 d13_65 d13_66 rfl fun T220 X220 e220 => g_iloadN X220 K d13_69 rfl ?_))))))))
      have q221 := (((((q32.other W34 (own_on nb0_24 12 13 rfl rfl)).other W144 (own_on nb0_24 12 6 rfl rfl)).other W148 (own_on nb0_24 12 14 rfl rfl)).other W205 (own_on nb0_24 12 6 rfl rfl)).other W209 (own_on nb0_24 12 14 rfl rfl))
      refine g_iaload X220 K e220 q221 d13_70 (by decide) (v := (.int 1)) rfl (g_istore X220 K d13_71 (L' := #[rv x0, iv 2, iv 1, iv 1, iv 1, iv (-1), iv 1, lv ((0 : Int64) + k0), .second]) rfl (g_iloadN X220 K d13_73 rfl (g_iconst X220 K d13_74 (z := 1) rfl (g_iadd X220 K d13_75 (z := (2 : Int32)) rfl (g_iloadN X220 K d13_76 rfl ?_)))))
      refine gB (S' := T220.setTop (mkF m 78 #[rv x0, iv 2, iv 1, iv 1, iv 1, iv (-1), iv 1, lv ((0 : Int64) + k0), .second] [(.int 0)])) ?_ (by
        intro t k
        refine Jvm.RoadKit.iremM X220 hx rfl (hb hby d13_77) rfl (by decide) ?_
        exact k)
      refine g_istoreN X220 K d13_78 (L' := #[rv x0, iv 2, iv 0, iv 1, iv 1, iv (-1), iv 1, lv ((0 : Int64) + k0), .second]) rfl (g_iinc X220 K d13_79 rfl (L' := #[rv x0, iv 2, iv 0, iv 0, iv 1, iv (-1), iv 1, lv ((0 : Int64) + k0), .second]) rfl (g_ag X220 K e220 54 rfl xb211.2.2.2.2.2.2.2.2.2.2.2.1 d13_82 d13_83 rfl fun T222 X222 e222 => g_iload X222 K d13_86 rfl (g_iconst X222 K d13_88 (z := 0) rfl (g_bastore X222 K e222 q213 d13_89 (by decide) 1 ⟨rfl, Nat.le_of_ble_eq_true rfl⟩ (w := [(.int 0), (.int 0)]) rfl (by decide) fun T223 h223 X223 e223 W223 V223 => ?_))))
      have N223 := Fr.snoc X223 N209 (own_ong nb0_24 nb0_23 13 rfl)
      have KK223 := KK209.wr W223 (Or.inl (List.mem_of_getElem? (i := 4) rfl))
      have xb224 := own_XF_wr xb211 W223 (own_on nb0_24 0 13 rfl rfl)
      refine g_ag X223 K e223 24 rfl xb224.2.2.2.2.2.1 d13_90 d13_91 rfl fun T225 X225 e225 => g_iload X225 K d13_94 rfl ?_
      have q226 := (((((q37.other W144 (own_on nb0_24 5 6 rfl rfl)).other W148 (own_on nb0_24 5 14 rfl rfl)).other W205 (own_on nb0_24 5 6 rfl rfl)).other W209 (own_on nb0_24 5 14 rfl rfl)).other W223 (own_on nb0_24 5 13 rfl rfl))
      refine g_iaload X225 K e225 q226 d13_96 (by decide) (v := (.int 3)) rfl (g_istore X225 K d13_97 (L' := #[rv x0, iv 2, iv 0, iv 0, iv 1, iv 3, iv 1, lv ((0 : Int64) + k0), .second]) rfl (g_iload X225 K d13_99 rfl (g_ifN X225 K d13_101 ((if0 _ _).trans (flt (by decide)).1) (g_ag X225 K e225 14 rfl xb224.2.2.1 d13_104 d13_105 rfl fun T228 X228 e228 => g_iload X228 K d13_108 rfl ?_))))
      have q229 := (((q159.other W205 (own_on nb0_24 2 6 rfl rfl)).other W209 (own_on nb0_24 2 14 rfl rfl)).other W223 (own_on nb0_24 2 13 rfl rfl))
      refine g_iaload X228 K e228 q229 d13_110 (by decide) (v := (.int 0)) rfl (g_istore X228 K d13_111 (L' := #[rv x0, iv 2, iv 0, iv 0, iv 1, iv 3, iv 0, lv ((0 : Int64) + k0), .second]) rfl (g_ag X228 K e228 26 rfl xb224.2.2.2.2.2.2.1 d13_113 d13_114 rfl fun T230 X230 e230 => g_iload X230 K d13_117 rfl ?_))
      have q231 := ((V205.other W209 (own_on nb0_24 6 14 rfl rfl)).other W223 (own_on nb0_24 6 13 rfl rfl))
      refine g_laload X230 K e230 q231 d13_119 (by decide) (v := (.long ((0 : Int64) + k0))) rfl (g_ag X230 K e230 18 rfl xb224.2.2.2.2.1 d13_120 d13_121 rfl fun T232 X232 e232 => g_iload X232 K d13_124 rfl ?_)
      have q233 := (((q163.other W205 (own_on nb0_24 4 6 rfl rfl)).other W209 (own_on nb0_24 4 14 rfl rfl)).other W223 (own_on nb0_24 4 13 rfl rfl))
      refine g_laload X232 K e232 q233 d13_126 (by decide) (v := (.long (-k1))) rfl (g_ladd X232 K d13_127 rfl (g_lstore X232 K d13_128 (L' := #[rv x0, iv 2, iv 0, iv 0, iv 1, iv 3, iv 0, lv (((0 : Int64) + k0) + (-k1)), .second]) rfl (g_ag X232 K e232 16 rfl xb224.2.2.2.1 d13_130 d13_131 rfl fun T234 X234 e234 => g_iload X234 K d13_134 rfl ?_)))
      have q235 := (((q165.other W205 (own_on nb0_24 3 6 rfl rfl)).other W209 (own_on nb0_24 3 14 rfl rfl)).other W223 (own_on nb0_24 3 13 rfl rfl))
      refine g_laload X234 K e234 q235 d13_136 (by decide) (v := (.long 0)) rfl (g_lconst X234 K d13_137 (z := 0) rfl (g_lcmp X234 K d13_138 (z := (0 : Int32)) rfl (g_ifY X234 K 223 d13_139 (by decide) ((if0 _ _).trans (flt (by decide)).2.2.2) (g_ag X234 K e234 12 rfl xb224.2.1 d13_223 d13_224 rfl fun T237 X237 e237 => g_iload X237 K d13_227 rfl ?_))))
      have q238 := (q217.other W223 (own_on nb0_24 1 13 rfl rfl))
      refine g_iaload X237 K e237 q238 d13_229 (by decide) (v := (.int 1)) rfl (g_istore X237 K d13_230 (L' := #[rv x0, iv 2, iv 0, iv 0, iv 1, iv 1, iv 0, lv (((0 : Int64) + k0) + (-k1)), .second]) rfl (g_goto X237 K 99 d13_232 (by decide) (g_iload X237 K d13_99 rfl (g_ifN X237 K d13_101 ((if0 _ _).trans (flt (by decide)).1) (g_ag X237 K e237 14 rfl xb224.2.2.1 d13_104 d13_105 rfl fun T240 X240 e240 => g_iload X240 K d13_108 rfl (g_iaload X240 K e240 q229 d13_110 (by decide) (v := (.int 0)) rfl (g_istore X240 K d13_111 (L' := #[rv x0, iv 2, iv 0, iv 0, iv 1, iv 1, iv 0, lv (((0 : Int64) + k0) + (-k1)), .second]) rfl (g_ag X240 K e240 26 rfl xb224.2.2.2.2.2.2.1 d13_113 d13_114 rfl fun T241 X241 e241 => g_iload X241 K d13_117 rfl (g_laload X241 K e241 q231 d13_119 (by decide) (v := (.long ((0 : Int64) + k0))) rfl (g_ag X241 K e241 18 rfl xb224.2.2.2.2.1 d13_120 d13_121 rfl fun T242 X242 e242 => ?_))))))))))
      refine g_iload X242 K d13_124 rfl (g_laload X242 K e242 q233 d13_126 (by decide) (v := (.long (-k0))) rfl (g_ladd X242 K d13_127 rfl (g_lstore X242 K d13_128 (L' := #[rv x0, iv 2, iv 0, iv 0, iv 1, iv 1, iv 0, lv (((0 : Int64) + k0) + (-k0)), .second]) rfl (g_ag X242 K e242 16 rfl xb224.2.2.2.1 d13_130 d13_131 rfl fun T243 X243 e243 => g_iload X243 K d13_134 rfl (g_laload X243 K e243 q235 d13_136 (by decide) (v := (.long 0)) rfl (g_lconst X243 K d13_137 (z := 0) rfl (g_lcmp X243 K d13_138 (z := (0 : Int32)) rfl (g_ifY X243 K 223 d13_139 (by decide) ((if0 _ _).trans (flt (by decide)).2.2.2) (g_ag X243 K e243 12 rfl xb224.2.1 d13_223 d13_224 rfl fun T245 X245 e245 => g_iload X245 K d13_227 rfl (g_iaload X245 K e245 q238 d13_229 (by decide) (v := (.int (-1))) rfl ?_))))))))))
      refine g_istore X245 K d13_230 (L' := #[rv x0, iv 2, iv 0, iv 0, iv 1, iv (-1), iv 0, lv (((0 : Int64) + k0) + (-k0)), .second]) rfl (g_goto X245 K 99 d13_232 (by decide) (g_iload X245 K d13_99 rfl (g_ifY X245 K 235 d13_101 (by decide) ((if0 _ _).trans (tlt (by decide)).1) (g_goto X245 K 61 d13_235 (by decide) (g_iloadN X245 K d13_61 rfl (g_ifY X245 K 238 d13_62 (by decide) ((if0 _ _).trans (flt (by decide)).2.2.2) (g_aloadN X245 K d13_238 rfl rfl (g_iconst X245 K d13_239 (z := 1) rfl ?_))))))))
      obtain ⟨T248, h248, X248, e248, W248, st248⟩ := putFN X245 hx hZ hown (hw _ (im 97 rfl)) Via.refl e245 xb224.2.2.2.2.2.2.2.2.2.2.2.2.2.2.2.2.2.2.2.1 xb224.1 (Or.inl (hw _ (im 98 rfl))) (hw _ (im 3 rfl)) (ty := .boolean) (v' := (.int 1)) (by decide) rfl (by first | exact fits_nar_bool _ | decide | rfl) (g := (mkF m 240 #[rv x0, iv 2, iv 0, iv 0, iv 1, iv (-1), iv 0, lv (((0 : Int64) + k0) + (-k0)), .second] [(.int 1), (.ref x0)])) rfl rfl (hb hby d13_240)
      have Fw248 := xb224.2.2.2.2.2.2.2.2.2.2.2.2.2.2.2.2.2.2.2.1.same W248
      have N248 := Fr.snoc X248 N223 nb0_23
      have KK248 := KK223.wr W248 (Or.inl (List.mem_of_getElem? (i := 0) rfl))
      refine gB (S' := T248.setTop (mkF m 243 #[rv x0, iv 2, iv 0, iv 0, iv 1, iv (-1), iv 0, lv (((0 : Int64) + k0) + (-k0)), .second] [])) ?_ st248
      have xb249 := own_XF_p_valid hw xb224 W248 Fw248
      have q250 := (q231.other W248 (own_on nb0_24 6 0 rfl rfl))
      exact g_lv0 X248 K hlk hrt hR d13_243 (by decide) (by rw [e248]; exact ⟨((0 : Int64) + k0), rfl, N248, KK248, xb249, q250, (own_S_ll hc139_140 hc152_142 hc139_201 hc152_203 hk0 hk1)⟩)
     refine g_ifY X202 K 223 d13_152 (by decide) ((if0 _ _).trans (flt (fun q => hc152_203 ((lw_lt ((0 : Int64) + k0) ((0 : Int64) + k1)).mp q))).2.1) ?_
     ·
      exact J166 _ _ X202 N148 e202 (fun _ => hc152_203)
    refine g_ifY X164 K 223 d13_139 (by decide) ((if0 _ _).trans (flt (fun q => hc139_201 ((lw_gt c0 (0 : Int64)).mp q))).2.2.2) ?_
    ·
     exact J166 _ _ X164 N148 e164 (fun q => absurd q hc139_201)
   refine g_ifY X141 K 223 d13_152 (by decide) ((if0 _ _).trans (flt (fun q => hc152_142 ((lw_lt ((0 : Int64) + k1) (0 : Int64)).mp q))).2.1) ?_
   ·
    exact J47 _ _ X141 N34 e141 (fun _ => hc152_142)
  refine g_ifY X45 K 223 d13_139 (by decide) ((if0 _ _).trans (flt (fun q => hc139_140 ((lw_gt c1 (0 : Int64)).mp q))).2.2.2) ?_
  ·
   exact J47 _ _ X45 N34 e45 (fun q => absurd q hc139_140)
def Q25 (Z : State) (x0 : Addr) (di : Addr) (hn : Addr) (hq : Addr) (h0 : Heap) (n0 : Nat) (v : Option Value) (h : Heap) (L : List Loc) : Prop := v = none ∧ Fr n0 L ∧ Keep h0 h [x0] ∧ own_HP Z h n0 x0 di hn hq (0 : Int32)
theorem ef_25 (m : MethodId) (x0 : Addr) : entryFrame m #[(.ref x0)] 2 = mkF m 0 #[rv x0, .unset] [] := by first | (simp [entryFrame, mkF, argsToLocals, Value.category]; done) | rfl
set_option maxRecDepth 65536 in
set_option maxHeartbeats 40000000 in
theorem rm25 (l : Launch) (Z : State) (a0 : Array Value) (hw : ∀ d ∈ tables_1, d.before a0 Z = true) (x0 : Addr) {di : Addr} {hn : Addr} {hq : Addr} (h0 : Heap) (n0 : Nat) (Z0 : n0 ≤ h0.size) (pre_own_HP : own_HP Z h0 n0 x0 di hn hq (0 : Int32)) (g_x0 : n0 ≤ x0) :
    own_M l (⟨"com/example/violarc/violarc/graph/NodeHeap", "clear", "()V"⟩ : MethodName) c25 2 none ({ frames := 0, cells := 0, slots := 0, locals := 0 } : Room) #[(.ref x0)] Z h0 (Q25 Z x0 di hn hq h0 n0) := by
  refine MetFree.of_bodySF (plainFor_of_name pn_25) hisR ?_
  intro p e s m args below meth c s₁ Bd hml0 hP hK
  obtain ⟨rfl, hZ, hh⟩ := hP
  have hx := Bd.exec
  have hby := Bd.bytes
  have hml : c.maxLocals = 2 := hml0
  have hown : s.vm.findClass "com/example/violarc/violarc/graph/NodeHeap" = some m.cls := findClass_of_methodNamed Bd.named
  have hnm := (name_of_methodNamed Bd.named Bd.method).1
  have X0 : Stand p l e ({ frames := 0, cells := 0, slots := 0, locals := 0 } : Room) s m #[(.ref x0)] below meth c s₁ [] 0 0 := Stand.of_body Bd
  have e0 : s₁.heap = h0 := by rw [← hh, Bd.state]; rfl
  have N0 := Fr.nil n0
  have Kp0 := Keep.refl h0 [x0]
  have hlk := BodyLoose.notSynchronized Bd
  have hrt := Bd.returns
  have K : own_K p c c25 Z s "com/example/violarc/violarc/graph/NodeHeap" m a0 := ⟨hx, hby, hZ, hown, hw⟩
  refine gStart (S' := s₁.setTop (mkF m 0 #[rv x0, uu] [])) (congrArg (fun f => s₁.setTop f) (ef_25 m x0)) fun Rp hR => ?_
  obtain ⟨nb0_0, nb0_1, nb0_2, nb0_3, nb0_4⟩ := id pre_own_HP
  refine g_iconst X0 K d25_0 (z := 0) rfl (g_istoreN X0 K d25_1 (L' := #[rv x0, iv 0]) rfl (g_iloadN X0 K d25_2 rfl (g_ag X0 K e0 169 rfl nb0_4 d25_3 d25_4 rfl fun T1 X1 e1 => g_icY X1 K 28 d25_7 (by decide) (flt (by decide)).2.1 (g_aloadN X1 K d25_28 rfl rfl (g_iconst X1 K d25_29 (z := 0) rfl (g_putF X1 K e1 169 rfl nb0_4 nb0_0 (Or.inl (hw _ (im 170 rfl))) (hw _ (im 33 rfl)) (ty := .int) (by decide) rfl rfl d25_30 fun T3 h3 X3 e3 W3 Fw3 => ?_))))))
  have N3 := Fr.snoc X3 N0 g_x0
  have KK3 := Kp0.wr W3 (Or.inl (List.mem_of_getElem? (i := 0) rfl))
  have q4 := (nb0_0.wr W3)
  have A23 := la_23 hw
  have A25 := la_25 hw
  have q5 := (own_o nb0_1 W3 A23 A25)
  have A22 := la_22 hw
  have q6 := (own_o nb0_2 W3 A22 A25)
  have A24 := la_24 hw
  have q7 := (own_o nb0_3 W3 A24 A25)
  exact g_lv0 X3 K hlk hrt hR d25_33 (by decide) (by rw [e3]; exact ⟨rfl, N3, KK3, ⟨q4, q5, q6, q7, Fw3⟩⟩)
def Qpl0 (Z : State) (x0 : Addr) (di : Addr) (hn : Addr) (hq : Addr) (khn : ClassId) (khq : ClassId) (hn0 : Int32) (hn1 : Int32) (hq0 : Int32) (hq1 : Int32) (hz : Int32) (h0 : Heap) (n0 : Nat) (v : Option Value) (h : Heap) (L : List Loc) : Prop := v = none ∧ Fr n0 L ∧ Keep h0 h [hn, hq] ∧ Arv Z h hn khn .int (2 : Int32) [(.int 0), (.int hn1)] (.int 0) ∧ Arv Z h hq khq .int (2 : Int32) [(.int 0), (.int hq1)] (.int 0)
theorem ef_pl0 (m : MethodId) (x0 : Addr) : entryFrame m #[(.ref x0), (.int 0), (.int 0)] 3 = mkF m 0 #[rv x0, iv 0, iv 0] [] := by first | (simp [entryFrame, mkF, argsToLocals, Value.category]; done) | rfl
set_option maxRecDepth 65536 in
set_option maxHeartbeats 40000000 in
theorem rmpl0 (l : Launch) (Z : State) (a0 : Array Value) (hw : ∀ d ∈ tables_1, d.before a0 Z = true) (x0 : Addr) {di : Addr} {hn : Addr} {hq : Addr} {khn : ClassId} {khq : ClassId} {hn0 : Int32} {hn1 : Int32} {hq0 : Int32} {hq1 : Int32} {hz : Int32} (h0 : Heap) (n0 : Nat) (Z0 : n0 ≤ h0.size) (pre_own_HP : own_HP Z h0 n0 x0 di hn hq hz) (pre_A_hn : Arv Z h0 hn khn .int (2 : Int32) [(.int hn0), (.int hn1)] (.int 0)) (pre_A_hq : Arv Z h0 hq khq .int (2 : Int32) [(.int hq0), (.int hq1)] (.int 0)) (g_x0 : n0 ≤ x0) (g_hn : n0 ≤ hn) (g_hq : n0 ≤ hq) (ne_x0_hn : x0 ≠ hn) (ne_x0_hq : x0 ≠ hq) (ne_hn_hq : hn ≠ hq) :
    own_M l (⟨"com/example/violarc/violarc/graph/NodeHeap", "place", "(II)V"⟩ : MethodName) c28 3 none ({ frames := 0, cells := 0, slots := 0, locals := 0 } : Room) #[(.ref x0), (.int 0), (.int 0)] Z h0 (Qpl0 Z x0 di hn hq khn khq hn0 hn1 hq0 hq1 hz h0 n0) := by
  refine MetFree.of_bodySF (plainFor_of_name pn_28) hisR ?_
  intro p e s m args below meth c s₁ Bd hml0 hP hK
  obtain ⟨rfl, hZ, hh⟩ := hP
  have hx := Bd.exec
  have hby := Bd.bytes
  have hml : c.maxLocals = 3 := hml0
  have hown : s.vm.findClass "com/example/violarc/violarc/graph/NodeHeap" = some m.cls := findClass_of_methodNamed Bd.named
  have hnm := (name_of_methodNamed Bd.named Bd.method).1
  have X0 : Stand p l e ({ frames := 0, cells := 0, slots := 0, locals := 0 } : Room) s m #[(.ref x0), (.int 0), (.int 0)] below meth c s₁ [] 0 0 := Stand.of_body Bd
  have e0 : s₁.heap = h0 := by rw [← hh, Bd.state]; rfl
  have N0 := Fr.nil n0
  have Kp0 := Keep.refl h0 [hn, hq]
  have hlk := BodyLoose.notSynchronized Bd
  have hrt := Bd.returns
  have K : own_K p c c28 Z s "com/example/violarc/violarc/graph/NodeHeap" m a0 := ⟨hx, hby, hZ, hown, hw⟩
  refine gStart (S' := s₁.setTop (mkF m 0 #[rv x0, iv 0, iv 0] [])) (congrArg (fun f => s₁.setTop f) (ef_pl0 m x0)) fun Rp hR => ?_
  obtain ⟨nb0_0, nb0_1, nb0_2, nb0_3, nb0_4⟩ := id pre_own_HP
  refine g_ag X0 K e0 41 rfl nb0_2 d28_0 d28_1 rfl fun T1 X1 e1 => g_iloadN X1 K d28_4 rfl (g_iloadN X1 K d28_5 rfl (g_iastore X1 K e1 pre_A_hn d28_6 (by decide) 0 ⟨rfl, Nat.le_of_ble_eq_true rfl⟩ (w := [(.int 0), (.int hn1)]) rfl rfl fun T2 h2 X2 e2 W2 V2 => ?_))
  have N2 := Fr.snoc X2 N0 g_hn
  have KK2 := Kp0.wr W2 (Or.inl (List.mem_of_getElem? (i := 0) rfl))
  have q3 := (nb0_3.other W2 (Or.inl ne_x0_hn))
  refine g_ag X2 K e2 43 rfl q3 d28_7 d28_8 rfl fun T4 X4 e4 => g_iloadN X4 K d28_11 rfl (g_iloadN X4 K d28_12 rfl ?_)
  have q5 := (pre_A_hq.other W2 (Ne.symm ne_hn_hq))
  refine g_iastore X4 K e4 q5 d28_13 (by decide) 0 ⟨rfl, Nat.le_of_ble_eq_true rfl⟩ (w := [(.int 0), (.int hq1)]) rfl rfl fun T6 h6 X6 e6 W6 V6 => ?_
  have N6 := Fr.snoc X6 N2 g_hq
  have KK6 := KK2.wr W6 (Or.inl (List.mem_of_getElem? (i := 1) rfl))
  have q7 := (V2.other W6 ne_hn_hq)
  exact g_lv0 X6 K hlk hrt hR d28_14 (by decide) (by rw [e6]; exact ⟨rfl, N6, KK6, q7, V6⟩)
def Qpl1 (Z : State) (x0 : Addr) (di : Addr) (hn : Addr) (hq : Addr) (khn : ClassId) (khq : ClassId) (hn0 : Int32) (hn1 : Int32) (hq0 : Int32) (hq1 : Int32) (hz : Int32) (h0 : Heap) (n0 : Nat) (v : Option Value) (h : Heap) (L : List Loc) : Prop := v = none ∧ Fr n0 L ∧ Keep h0 h [hn, hq] ∧ Arv Z h hn khn .int (2 : Int32) [(.int 1), (.int hn1)] (.int 0) ∧ Arv Z h hq khq .int (2 : Int32) [(.int hq0), (.int 0)] (.int 0)
theorem ef_pl1 (m : MethodId) (x0 : Addr) : entryFrame m #[(.ref x0), (.int 1), (.int 0)] 3 = mkF m 0 #[rv x0, iv 1, iv 0] [] := by first | (simp [entryFrame, mkF, argsToLocals, Value.category]; done) | rfl
set_option maxRecDepth 65536 in
set_option maxHeartbeats 40000000 in
theorem rmpl1 (l : Launch) (Z : State) (a0 : Array Value) (hw : ∀ d ∈ tables_1, d.before a0 Z = true) (x0 : Addr) {di : Addr} {hn : Addr} {hq : Addr} {khn : ClassId} {khq : ClassId} {hn0 : Int32} {hn1 : Int32} {hq0 : Int32} {hq1 : Int32} {hz : Int32} (h0 : Heap) (n0 : Nat) (Z0 : n0 ≤ h0.size) (pre_own_HP : own_HP Z h0 n0 x0 di hn hq hz) (pre_A_hn : Arv Z h0 hn khn .int (2 : Int32) [(.int hn0), (.int hn1)] (.int 0)) (pre_A_hq : Arv Z h0 hq khq .int (2 : Int32) [(.int hq0), (.int hq1)] (.int 0)) (g_x0 : n0 ≤ x0) (g_hn : n0 ≤ hn) (g_hq : n0 ≤ hq) (ne_x0_hn : x0 ≠ hn) (ne_x0_hq : x0 ≠ hq) (ne_hn_hq : hn ≠ hq) :
    own_M l (⟨"com/example/violarc/violarc/graph/NodeHeap", "place", "(II)V"⟩ : MethodName) c28 3 none ({ frames := 0, cells := 0, slots := 0, locals := 0 } : Room) #[(.ref x0), (.int 1), (.int 0)] Z h0 (Qpl1 Z x0 di hn hq khn khq hn0 hn1 hq0 hq1 hz h0 n0) := by
  refine MetFree.of_bodySF (plainFor_of_name pn_28) hisR ?_
  intro p e s m args below meth c s₁ Bd hml0 hP hK
  obtain ⟨rfl, hZ, hh⟩ := hP
  have hx := Bd.exec
  have hby := Bd.bytes
  have hml : c.maxLocals = 3 := hml0
  have hown : s.vm.findClass "com/example/violarc/violarc/graph/NodeHeap" = some m.cls := findClass_of_methodNamed Bd.named
  have hnm := (name_of_methodNamed Bd.named Bd.method).1
  have X0 : Stand p l e ({ frames := 0, cells := 0, slots := 0, locals := 0 } : Room) s m #[(.ref x0), (.int 1), (.int 0)] below meth c s₁ [] 0 0 := Stand.of_body Bd
  have e0 : s₁.heap = h0 := by rw [← hh, Bd.state]; rfl
  have N0 := Fr.nil n0
  have Kp0 := Keep.refl h0 [hn, hq]
  have hlk := BodyLoose.notSynchronized Bd
  have hrt := Bd.returns
  have K : own_K p c c28 Z s "com/example/violarc/violarc/graph/NodeHeap" m a0 := ⟨hx, hby, hZ, hown, hw⟩
  refine gStart (S' := s₁.setTop (mkF m 0 #[rv x0, iv 1, iv 0] [])) (congrArg (fun f => s₁.setTop f) (ef_pl1 m x0)) fun Rp hR => ?_
  obtain ⟨nb0_0, nb0_1, nb0_2, nb0_3, nb0_4⟩ := id pre_own_HP
  refine g_ag X0 K e0 41 rfl nb0_2 d28_0 d28_1 rfl fun T1 X1 e1 => g_iloadN X1 K d28_4 rfl (g_iloadN X1 K d28_5 rfl (g_iastore X1 K e1 pre_A_hn d28_6 (by decide) 0 ⟨rfl, Nat.le_of_ble_eq_true rfl⟩ (w := [(.int 1), (.int hn1)]) rfl rfl fun T2 h2 X2 e2 W2 V2 => ?_))
  have N2 := Fr.snoc X2 N0 g_hn
  have KK2 := Kp0.wr W2 (Or.inl (List.mem_of_getElem? (i := 0) rfl))
  have q3 := (nb0_3.other W2 (Or.inl ne_x0_hn))
  refine g_ag X2 K e2 43 rfl q3 d28_7 d28_8 rfl fun T4 X4 e4 => g_iloadN X4 K d28_11 rfl (g_iloadN X4 K d28_12 rfl ?_)
  have q5 := (pre_A_hq.other W2 (Ne.symm ne_hn_hq))
  refine g_iastore X4 K e4 q5 d28_13 (by decide) 1 ⟨rfl, Nat.le_of_ble_eq_true rfl⟩ (w := [(.int hq0), (.int 0)]) rfl rfl fun T6 h6 X6 e6 W6 V6 => ?_
  have N6 := Fr.snoc X6 N2 g_hq
  have KK6 := KK2.wr W6 (Or.inl (List.mem_of_getElem? (i := 1) rfl))
  have q7 := (V2.other W6 ne_hn_hq)
  exact g_lv0 X6 K hlk hrt hR d28_14 (by decide) (by rw [e6]; exact ⟨rfl, N6, KK6, q7, V6⟩)
def Qsf0 (Z : State) (x0 : Addr) (di : Addr) (hn : Addr) (hq : Addr) (khn : ClassId) (khq : ClassId) (hn0 : Int32) (hn1 : Int32) (hq0 : Int32) (hq1 : Int32) (hz : Int32) (h0 : Heap) (n0 : Nat) (v : Option Value) (h : Heap) (L : List Loc) : Prop := v = none ∧ Fr n0 L ∧ Keep h0 h [hn, hq] ∧ Arv Z h hn khn .int (2 : Int32) [(.int 0), (.int hn1)] (.int 0) ∧ Arv Z h hq khq .int (2 : Int32) [(.int 0), (.int hq1)] (.int 0)
theorem ef_sf0 (m : MethodId) (x0 : Addr) : entryFrame m #[(.ref x0), (.int 0), (.int 0)] 4 = mkF m 0 #[rv x0, iv 0, iv 0, .unset] [] := by first | (simp [entryFrame, mkF, argsToLocals, Value.category]; done) | rfl
set_option maxRecDepth 65536 in
set_option maxHeartbeats 40000000 in
theorem rmsf0 (l : Launch) (Z : State) (a0 : Array Value) (hw : ∀ d ∈ tables_1, d.before a0 Z = true) (x0 : Addr) {di : Addr} {hn : Addr} {hq : Addr} {khn : ClassId} {khq : ClassId} {hn0 : Int32} {hn1 : Int32} {hq0 : Int32} {hq1 : Int32} {hz : Int32} (h0 : Heap) (n0 : Nat) (Z0 : n0 ≤ h0.size) (pre_own_HP : own_HP Z h0 n0 x0 di hn hq hz) (pre_A_hn : Arv Z h0 hn khn .int (2 : Int32) [(.int hn0), (.int hn1)] (.int 0)) (pre_A_hq : Arv Z h0 hq khq .int (2 : Int32) [(.int hq0), (.int hq1)] (.int 0)) (g_x0 : n0 ≤ x0) (g_hn : n0 ≤ hn) (g_hq : n0 ≤ hq) (ne_x0_hn : x0 ≠ hn) (ne_x0_hq : x0 ≠ hq) (ne_hn_hq : hn ≠ hq) :
    own_M l (⟨"com/example/violarc/violarc/graph/NodeHeap", "siftUp", "(II)V"⟩ : MethodName) c27 4 none ({ frames := 1, cells := 0, slots := 0, locals := 14 } : Room) #[(.ref x0), (.int 0), (.int 0)] Z h0 (Qsf0 Z x0 di hn hq khn khq hn0 hn1 hq0 hq1 hz h0 n0) := by
  refine MetFree.of_bodySF (plainFor_of_name pn_27) hisR ?_
  intro p e s m args below meth c s₁ Bd hml0 hP hK
  obtain ⟨rfl, hZ, hh⟩ := hP
  have hx := Bd.exec
  have hby := Bd.bytes
  have hml : c.maxLocals = 4 := hml0
  have hown : s.vm.findClass "com/example/violarc/violarc/graph/NodeHeap" = some m.cls := findClass_of_methodNamed Bd.named
  have hnm := (name_of_methodNamed Bd.named Bd.method).1
  have X0 : Stand p l e ({ frames := 1, cells := 0, slots := 0, locals := 14 } : Room) s m #[(.ref x0), (.int 0), (.int 0)] below meth c s₁ [] 0 0 := Stand.of_body Bd
  have e0 : s₁.heap = h0 := by rw [← hh, Bd.state]; rfl
  have N0 := Fr.nil n0
  have Kp0 := Keep.refl h0 [hn, hq]
  have hlk := BodyLoose.notSynchronized Bd
  have hrt := Bd.returns
  have K : own_K p c c27 Z s "com/example/violarc/violarc/graph/NodeHeap" m a0 := ⟨hx, hby, hZ, hown, hw⟩
  refine gStart (S' := s₁.setTop (mkF m 0 #[rv x0, iv 0, iv 0, uu] [])) (congrArg (fun f => s₁.setTop f) (ef_sf0 m x0)) fun Rp hR => ?_
  obtain ⟨nb0_0, nb0_1, nb0_2, nb0_3, nb0_4⟩ := id pre_own_HP
  refine g_iloadN X0 K d27_0 rfl (g_ifY X0 K 50 d27_1 (by decide) ((if0 _ _).trans (flt (by decide)).2.2.2) (g_aloadN X0 K d27_50 rfl rfl (g_iloadN X0 K d27_51 rfl (g_iloadN X0 K d27_52 rfl (g_callP X0 K e0 180 181 34 183 182 33 rfl rfl rfl rfl rfl rfl (by decide) (rmpl0 l Z a0 hw x0 h0 n0 Z0 ⟨nb0_0, nb0_1, nb0_2, nb0_3, nb0_4⟩ pre_A_hn pre_A_hq g_x0 g_hn g_hq ne_x0_hn ne_x0_hq ne_hn_hq) nb0_0 d27_53 hml.symm (argsL := [(.int 0), (.int 0)]) (lenOf pd_8 rfl) rfl 0 (Nat.le_of_ble_eq_true rfl) (by decide) fun v2 T2 Lc2 hQ2 X2 => ?_)))))
  obtain ⟨rfl, N2q, K2, r2_0, r2_1⟩ := hQ2
  have N2 := Fr.app N0 N2q
  have KK2 := Kp0.trans K2 (own_al [0, 1] rfl)
  dsimp only [Option.toList, List.cons_append, List.nil_append]
  exact g_lv0 X2 K hlk hrt hR d27_56 (by decide) (⟨rfl, N2, KK2, r2_0, r2_1⟩)
def Qsf1 (Z : State) (x0 : Addr) (di : Addr) (hn : Addr) (hq : Addr) (khn : ClassId) (khq : ClassId) (hn0 : Int32) (hn1 : Int32) (hq0 : Int32) (hq1 : Int32) (hz : Int32) (h0 : Heap) (n0 : Nat) (v : Option Value) (h : Heap) (L : List Loc) : Prop := v = none ∧ Fr n0 L ∧ Keep h0 h [hn, hq] ∧ Arv Z h hn khn .int (2 : Int32) [(.int 1), (.int hn1)] (.int 0) ∧ Arv Z h hq khq .int (2 : Int32) [(.int hq0), (.int 0)] (.int 0)
theorem ef_sf1 (m : MethodId) (x0 : Addr) : entryFrame m #[(.ref x0), (.int 1), (.int 0)] 4 = mkF m 0 #[rv x0, iv 1, iv 0, .unset] [] := by first | (simp [entryFrame, mkF, argsToLocals, Value.category]; done) | rfl
set_option maxRecDepth 65536 in
set_option maxHeartbeats 40000000 in
theorem rmsf1 (l : Launch) (Z : State) (a0 : Array Value) (hw : ∀ d ∈ tables_1, d.before a0 Z = true) (x0 : Addr) {di : Addr} {hn : Addr} {hq : Addr} {khn : ClassId} {khq : ClassId} {hn0 : Int32} {hn1 : Int32} {hq0 : Int32} {hq1 : Int32} {hz : Int32} (h0 : Heap) (n0 : Nat) (Z0 : n0 ≤ h0.size) (pre_own_HP : own_HP Z h0 n0 x0 di hn hq hz) (pre_A_hn : Arv Z h0 hn khn .int (2 : Int32) [(.int hn0), (.int hn1)] (.int 0)) (pre_A_hq : Arv Z h0 hq khq .int (2 : Int32) [(.int hq0), (.int hq1)] (.int 0)) (g_x0 : n0 ≤ x0) (g_hn : n0 ≤ hn) (g_hq : n0 ≤ hq) (ne_x0_hn : x0 ≠ hn) (ne_x0_hq : x0 ≠ hq) (ne_hn_hq : hn ≠ hq) :
    own_M l (⟨"com/example/violarc/violarc/graph/NodeHeap", "siftUp", "(II)V"⟩ : MethodName) c27 4 none ({ frames := 1, cells := 0, slots := 0, locals := 14 } : Room) #[(.ref x0), (.int 1), (.int 0)] Z h0 (Qsf1 Z x0 di hn hq khn khq hn0 hn1 hq0 hq1 hz h0 n0) := by
  refine MetFree.of_bodySF (plainFor_of_name pn_27) hisR ?_
  intro p e s m args below meth c s₁ Bd hml0 hP hK
  obtain ⟨rfl, hZ, hh⟩ := hP
  have hx := Bd.exec
  have hby := Bd.bytes
  have hml : c.maxLocals = 4 := hml0
  have hown : s.vm.findClass "com/example/violarc/violarc/graph/NodeHeap" = some m.cls := findClass_of_methodNamed Bd.named
  have hnm := (name_of_methodNamed Bd.named Bd.method).1
  have X0 : Stand p l e ({ frames := 1, cells := 0, slots := 0, locals := 14 } : Room) s m #[(.ref x0), (.int 1), (.int 0)] below meth c s₁ [] 0 0 := Stand.of_body Bd
  have e0 : s₁.heap = h0 := by rw [← hh, Bd.state]; rfl
  have N0 := Fr.nil n0
  have Kp0 := Keep.refl h0 [hn, hq]
  have hlk := BodyLoose.notSynchronized Bd
  have hrt := Bd.returns
  have K : own_K p c c27 Z s "com/example/violarc/violarc/graph/NodeHeap" m a0 := ⟨hx, hby, hZ, hown, hw⟩
  refine gStart (S' := s₁.setTop (mkF m 0 #[rv x0, iv 1, iv 0, uu] [])) (congrArg (fun f => s₁.setTop f) (ef_sf1 m x0)) fun Rp hR => ?_
  obtain ⟨nb0_0, nb0_1, nb0_2, nb0_3, nb0_4⟩ := id pre_own_HP
  refine g_iloadN X0 K d27_0 rfl (g_ifY X0 K 50 d27_1 (by decide) ((if0 _ _).trans (flt (by decide)).2.2.2) (g_aloadN X0 K d27_50 rfl rfl (g_iloadN X0 K d27_51 rfl (g_iloadN X0 K d27_52 rfl (g_callP X0 K e0 180 181 34 183 182 33 rfl rfl rfl rfl rfl rfl (by decide) (rmpl1 l Z a0 hw x0 h0 n0 Z0 ⟨nb0_0, nb0_1, nb0_2, nb0_3, nb0_4⟩ pre_A_hn pre_A_hq g_x0 g_hn g_hq ne_x0_hn ne_x0_hq ne_hn_hq) nb0_0 d27_53 hml.symm (argsL := [(.int 1), (.int 0)]) (lenOf pd_8 rfl) rfl 0 (Nat.le_of_ble_eq_true rfl) (by decide) fun v2 T2 Lc2 hQ2 X2 => ?_)))))
  obtain ⟨rfl, N2q, K2, r2_0, r2_1⟩ := hQ2
  have N2 := Fr.app N0 N2q
  have KK2 := Kp0.trans K2 (own_al [0, 1] rfl)
  dsimp only [Option.toList, List.cons_append, List.nil_append]
  exact g_lv0 X2 K hlk hrt hR d27_56 (by decide) (⟨rfl, N2, KK2, r2_0, r2_1⟩)
def Qhp0 (Z : State) (x0 : Addr) (di : Addr) (hn : Addr) (hq : Addr) (khn : ClassId) (khq : ClassId) (hn0 : Int32) (hn1 : Int32) (hq1 : Int32) (h0 : Heap) (n0 : Nat) (v : Option Value) (h : Heap) (L : List Loc) : Prop := v = none ∧ Fr n0 L ∧ Keep h0 h [x0, hn, hq] ∧ own_HP Z h n0 x0 di hn hq (1 : Int32) ∧ Arv Z h hn khn .int (2 : Int32) [(.int 0), (.int hn1)] (.int 0) ∧ Arv Z h hq khq .int (2 : Int32) [(.int 0), (.int hq1)] (.int 0)
theorem ef_hp0 (m : MethodId) (x0 : Addr) : entryFrame m #[(.ref x0), (.int 0)] 3 = mkF m 0 #[rv x0, iv 0, .unset] [] := by first | (simp [entryFrame, mkF, argsToLocals, Value.category]; done) | rfl
set_option maxRecDepth 65536 in
set_option maxHeartbeats 40000000 in
theorem rmhp0 (l : Launch) (Z : State) (a0 : Array Value) (hw : ∀ d ∈ tables_1, d.before a0 Z = true) (x0 : Addr) {di : Addr} {hn : Addr} {hq : Addr} {khn : ClassId} {khq : ClassId} {hn0 : Int32} {hn1 : Int32} {hq1 : Int32} (h0 : Heap) (n0 : Nat) (Z0 : n0 ≤ h0.size) (pre_own_HP : own_HP Z h0 n0 x0 di hn hq (0 : Int32)) (pre_A_hn : Arv Z h0 hn khn .int (2 : Int32) [(.int hn0), (.int hn1)] (.int 0)) (pre_A_hq : Arv Z h0 hq khq .int (2 : Int32) [(.int (-1)), (.int hq1)] (.int 0)) (g_x0 : n0 ≤ x0) (g_hn : n0 ≤ hn) (g_hq : n0 ≤ hq) (ne_x0_hn : x0 ≠ hn) (ne_x0_hq : x0 ≠ hq) (ne_hn_hq : hn ≠ hq) :
    own_M l (⟨"com/example/violarc/violarc/graph/NodeHeap", "push", "(I)V"⟩ : MethodName) c26 3 none ({ frames := 2, cells := 0, slots := 0, locals := 29 } : Room) #[(.ref x0), (.int 0)] Z h0 (Qhp0 Z x0 di hn hq khn khq hn0 hn1 hq1 h0 n0) := by
  refine MetFree.of_bodySF (plainFor_of_name pn_26) hisR ?_
  intro p e s m args below meth c s₁ Bd hml0 hP hK
  obtain ⟨rfl, hZ, hh⟩ := hP
  have hx := Bd.exec
  have hby := Bd.bytes
  have hml : c.maxLocals = 3 := hml0
  have hown : s.vm.findClass "com/example/violarc/violarc/graph/NodeHeap" = some m.cls := findClass_of_methodNamed Bd.named
  have hnm := (name_of_methodNamed Bd.named Bd.method).1
  have X0 : Stand p l e ({ frames := 2, cells := 0, slots := 0, locals := 29 } : Room) s m #[(.ref x0), (.int 0)] below meth c s₁ [] 0 0 := Stand.of_body Bd
  have e0 : s₁.heap = h0 := by rw [← hh, Bd.state]; rfl
  have N0 := Fr.nil n0
  have Kp0 := Keep.refl h0 [x0, hn, hq]
  have hlk := BodyLoose.notSynchronized Bd
  have hrt := Bd.returns
  have K : own_K p c c26 Z s "com/example/violarc/violarc/graph/NodeHeap" m a0 := ⟨hx, hby, hZ, hown, hw⟩
  refine gStart (S' := s₁.setTop (mkF m 0 #[rv x0, iv 0, uu] [])) (congrArg (fun f => s₁.setTop f) (ef_hp0 m x0)) fun Rp hR => ?_
  obtain ⟨nb0_0, nb0_1, nb0_2, nb0_3, nb0_4⟩ := id pre_own_HP
  refine g_ag X0 K e0 43 rfl nb0_3 d26_0 d26_1 rfl fun T1 X1 e1 => g_iloadN X1 K d26_4 rfl (g_iaload X1 K e1 pre_A_hq d26_5 (by decide) (v := (.int (-1))) rfl (g_istoreN X1 K d26_6 (L' := #[rv x0, iv 0, iv (-1)]) rfl (g_iloadN X1 K d26_7 rfl (g_ifN X1 K d26_8 ((if0 _ _).trans (tlt (by decide)).2.1) (g_aloadN X1 K d26_11 rfl rfl (g_dup X1 K d26_12 rfl (g_getF X1 K e1 169 rfl nb0_4 d26_13 fun T3 X3 e3 => g_dupX1 X3 K d26_16 rfl rfl (g_iconst X3 K d26_17 (z := 1) rfl (g_iadd X3 K d26_18 (z := (1 : Int32)) rfl (g_putF X3 K e3 169 rfl nb0_4 nb0_0 (Or.inl (hw _ (im 170 rfl))) (hw _ (im 33 rfl)) (ty := .int) (by decide) rfl rfl d26_19 fun T4 h4 X4 e4 W4 Fw4 => ?_))))))))))
  have N4 := Fr.snoc X4 N0 g_x0
  have KK4 := Kp0.wr W4 (Or.inl (List.mem_of_getElem? (i := 0) rfl))
  refine g_istoreN X4 K d26_22 (L' := #[rv x0, iv 0, iv 0]) rfl (g_aloadN X4 K d26_23 rfl rfl (g_iloadN X4 K d26_24 rfl (g_iloadN X4 K d26_25 rfl ?_)))
  have q5 := (nb0_0.wr W4)
  have A23 := la_23 hw
  have A25 := la_25 hw
  have q6 := (own_o nb0_1 W4 A23 A25)
  have A22 := la_22 hw
  have q7 := (own_o nb0_2 W4 A22 A25)
  have A24 := la_24 hw
  have q8 := (own_o nb0_3 W4 A24 A25)
  have q9 := (pre_A_hn.other W4 (Ne.symm ne_x0_hn))
  have q10 := (pre_A_hq.other W4 (Ne.symm ne_x0_hq))
  refine g_callP X4 K e4 176 177 34 179 178 33 rfl rfl rfl rfl rfl rfl (by decide) (rmsf0 l Z a0 hw x0 h4 n0 (Nat.le_trans Z0 KK4.1) ⟨q5, q6, q7, q8, Fw4⟩ q9 q10 g_x0 g_hn g_hq ne_x0_hn ne_x0_hq ne_hn_hq) q5 d26_26 hml.symm (argsL := [(.int 0), (.int 0)]) (lenOf pd_8 rfl) rfl 0 (Nat.le_of_ble_eq_true rfl) (by decide) fun v11 T11 Lc11 hQ11 X11 => ?_
  obtain ⟨rfl, N11q, K11, r11_0, r11_1⟩ := hQ11
  have N11 := Fr.app N4 N11q
  have KK11 := KK4.trans K11 (own_al [1, 2] rfl)
  dsimp only [Option.toList, List.cons_append, List.nil_append]
  have q12 := (q5.keep K11)
  have ni13 := (ninS ne_x0_hn (ninS ne_x0_hq nin0))
  have q14 := (q6.keep K11 ni13)
  have q15 := (q7.keep K11 ni13)
  have q16 := (q8.keep K11 ni13)
  have q17 := (Fw4.keep K11 ni13)
  exact g_lv0 X11 K hlk hrt hR d26_29 (by decide) (⟨rfl, N11, KK11, ⟨q12, q14, q15, q16, q17⟩, r11_0, r11_1⟩)
def Qhp1 (Z : State) (x0 : Addr) (di : Addr) (hn : Addr) (hq : Addr) (khn : ClassId) (khq : ClassId) (hn0 : Int32) (hn1 : Int32) (hq0 : Int32) (h0 : Heap) (n0 : Nat) (v : Option Value) (h : Heap) (L : List Loc) : Prop := v = none ∧ Fr n0 L ∧ Keep h0 h [x0, hn, hq] ∧ own_HP Z h n0 x0 di hn hq (1 : Int32) ∧ Arv Z h hn khn .int (2 : Int32) [(.int 1), (.int hn1)] (.int 0) ∧ Arv Z h hq khq .int (2 : Int32) [(.int hq0), (.int 0)] (.int 0)
theorem ef_hp1 (m : MethodId) (x0 : Addr) : entryFrame m #[(.ref x0), (.int 1)] 3 = mkF m 0 #[rv x0, iv 1, .unset] [] := by first | (simp [entryFrame, mkF, argsToLocals, Value.category]; done) | rfl
set_option maxRecDepth 65536 in
set_option maxHeartbeats 40000000 in
theorem rmhp1 (l : Launch) (Z : State) (a0 : Array Value) (hw : ∀ d ∈ tables_1, d.before a0 Z = true) (x0 : Addr) {di : Addr} {hn : Addr} {hq : Addr} {khn : ClassId} {khq : ClassId} {hn0 : Int32} {hn1 : Int32} {hq0 : Int32} (h0 : Heap) (n0 : Nat) (Z0 : n0 ≤ h0.size) (pre_own_HP : own_HP Z h0 n0 x0 di hn hq (0 : Int32)) (pre_A_hn : Arv Z h0 hn khn .int (2 : Int32) [(.int hn0), (.int hn1)] (.int 0)) (pre_A_hq : Arv Z h0 hq khq .int (2 : Int32) [(.int hq0), (.int (-1))] (.int 0)) (g_x0 : n0 ≤ x0) (g_hn : n0 ≤ hn) (g_hq : n0 ≤ hq) (ne_x0_hn : x0 ≠ hn) (ne_x0_hq : x0 ≠ hq) (ne_hn_hq : hn ≠ hq) :
    own_M l (⟨"com/example/violarc/violarc/graph/NodeHeap", "push", "(I)V"⟩ : MethodName) c26 3 none ({ frames := 2, cells := 0, slots := 0, locals := 29 } : Room) #[(.ref x0), (.int 1)] Z h0 (Qhp1 Z x0 di hn hq khn khq hn0 hn1 hq0 h0 n0) := by
  refine MetFree.of_bodySF (plainFor_of_name pn_26) hisR ?_
  intro p e s m args below meth c s₁ Bd hml0 hP hK
  obtain ⟨rfl, hZ, hh⟩ := hP
  have hx := Bd.exec
  have hby := Bd.bytes
  have hml : c.maxLocals = 3 := hml0
  have hown : s.vm.findClass "com/example/violarc/violarc/graph/NodeHeap" = some m.cls := findClass_of_methodNamed Bd.named
  have hnm := (name_of_methodNamed Bd.named Bd.method).1
  have X0 : Stand p l e ({ frames := 2, cells := 0, slots := 0, locals := 29 } : Room) s m #[(.ref x0), (.int 1)] below meth c s₁ [] 0 0 := Stand.of_body Bd
  have e0 : s₁.heap = h0 := by rw [← hh, Bd.state]; rfl
  have N0 := Fr.nil n0
  have Kp0 := Keep.refl h0 [x0, hn, hq]
  have hlk := BodyLoose.notSynchronized Bd
  have hrt := Bd.returns
  have K : own_K p c c26 Z s "com/example/violarc/violarc/graph/NodeHeap" m a0 := ⟨hx, hby, hZ, hown, hw⟩
  refine gStart (S' := s₁.setTop (mkF m 0 #[rv x0, iv 1, uu] [])) (congrArg (fun f => s₁.setTop f) (ef_hp1 m x0)) fun Rp hR => ?_
  obtain ⟨nb0_0, nb0_1, nb0_2, nb0_3, nb0_4⟩ := id pre_own_HP
  refine g_ag X0 K e0 43 rfl nb0_3 d26_0 d26_1 rfl fun T1 X1 e1 => g_iloadN X1 K d26_4 rfl (g_iaload X1 K e1 pre_A_hq d26_5 (by decide) (v := (.int (-1))) rfl (g_istoreN X1 K d26_6 (L' := #[rv x0, iv 1, iv (-1)]) rfl (g_iloadN X1 K d26_7 rfl (g_ifN X1 K d26_8 ((if0 _ _).trans (tlt (by decide)).2.1) (g_aloadN X1 K d26_11 rfl rfl (g_dup X1 K d26_12 rfl (g_getF X1 K e1 169 rfl nb0_4 d26_13 fun T3 X3 e3 => g_dupX1 X3 K d26_16 rfl rfl (g_iconst X3 K d26_17 (z := 1) rfl (g_iadd X3 K d26_18 (z := (1 : Int32)) rfl (g_putF X3 K e3 169 rfl nb0_4 nb0_0 (Or.inl (hw _ (im 170 rfl))) (hw _ (im 33 rfl)) (ty := .int) (by decide) rfl rfl d26_19 fun T4 h4 X4 e4 W4 Fw4 => ?_))))))))))
  have N4 := Fr.snoc X4 N0 g_x0
  have KK4 := Kp0.wr W4 (Or.inl (List.mem_of_getElem? (i := 0) rfl))
  refine g_istoreN X4 K d26_22 (L' := #[rv x0, iv 1, iv 0]) rfl (g_aloadN X4 K d26_23 rfl rfl (g_iloadN X4 K d26_24 rfl (g_iloadN X4 K d26_25 rfl ?_)))
  have q5 := (nb0_0.wr W4)
  have A23 := la_23 hw
  have A25 := la_25 hw
  have q6 := (own_o nb0_1 W4 A23 A25)
  have A22 := la_22 hw
  have q7 := (own_o nb0_2 W4 A22 A25)
  have A24 := la_24 hw
  have q8 := (own_o nb0_3 W4 A24 A25)
  have q9 := (pre_A_hn.other W4 (Ne.symm ne_x0_hn))
  have q10 := (pre_A_hq.other W4 (Ne.symm ne_x0_hq))
  refine g_callP X4 K e4 176 177 34 179 178 33 rfl rfl rfl rfl rfl rfl (by decide) (rmsf1 l Z a0 hw x0 h4 n0 (Nat.le_trans Z0 KK4.1) ⟨q5, q6, q7, q8, Fw4⟩ q9 q10 g_x0 g_hn g_hq ne_x0_hn ne_x0_hq ne_hn_hq) q5 d26_26 hml.symm (argsL := [(.int 1), (.int 0)]) (lenOf pd_8 rfl) rfl 0 (Nat.le_of_ble_eq_true rfl) (by decide) fun v11 T11 Lc11 hQ11 X11 => ?_
  obtain ⟨rfl, N11q, K11, r11_0, r11_1⟩ := hQ11
  have N11 := Fr.app N4 N11q
  have KK11 := KK4.trans K11 (own_al [1, 2] rfl)
  dsimp only [Option.toList, List.cons_append, List.nil_append]
  have q12 := (q5.keep K11)
  have ni13 := (ninS ne_x0_hn (ninS ne_x0_hq nin0))
  have q14 := (q6.keep K11 ni13)
  have q15 := (q7.keep K11 ni13)
  have q16 := (q8.keep K11 ni13)
  have q17 := (Fw4.keep K11 ni13)
  exact g_lv0 X11 K hlk hrt hR d26_29 (by decide) (⟨rfl, N11, KK11, ⟨q12, q14, q15, q16, q17⟩, r11_0, r11_1⟩)
def Qhpa (Z : State) (x0 : Addr) (di : Addr) (hn : Addr) (hq : Addr) (khn : ClassId) (khq : ClassId) (hn0 : Int32) (hn1 : Int32) (hq0 : Int32) (h0 : Heap) (n0 : Nat) (v : Option Value) (h : Heap) (L : List Loc) : Prop := v = none ∧ Fr n0 L ∧ Keep h0 h [hn, hq] ∧ Arv Z h hn khn .int (2 : Int32) [(.int 1), (.int hn1)] (.int 0) ∧ Arv Z h hq khq .int (2 : Int32) [(.int hq0), (.int 0)] (.int 0)
theorem ef_hpa (m : MethodId) (x0 : Addr) : entryFrame m #[(.ref x0), (.int 1)] 3 = mkF m 0 #[rv x0, iv 1, .unset] [] := by first | (simp [entryFrame, mkF, argsToLocals, Value.category]; done) | rfl
set_option maxRecDepth 65536 in
set_option maxHeartbeats 40000000 in
theorem rmhpa (l : Launch) (Z : State) (a0 : Array Value) (hw : ∀ d ∈ tables_1, d.before a0 Z = true) (x0 : Addr) {di : Addr} {hn : Addr} {hq : Addr} {khn : ClassId} {khq : ClassId} {hn0 : Int32} {hn1 : Int32} {hq0 : Int32} (h0 : Heap) (n0 : Nat) (Z0 : n0 ≤ h0.size) (pre_own_HP : own_HP Z h0 n0 x0 di hn hq (1 : Int32)) (pre_A_hn : Arv Z h0 hn khn .int (2 : Int32) [(.int hn0), (.int hn1)] (.int 0)) (pre_A_hq : Arv Z h0 hq khq .int (2 : Int32) [(.int hq0), (.int 0)] (.int 0)) (g_x0 : n0 ≤ x0) (g_hn : n0 ≤ hn) (g_hq : n0 ≤ hq) (ne_x0_hn : x0 ≠ hn) (ne_x0_hq : x0 ≠ hq) (ne_hn_hq : hn ≠ hq) :
    own_M l (⟨"com/example/violarc/violarc/graph/NodeHeap", "push", "(I)V"⟩ : MethodName) c26 3 none ({ frames := 2, cells := 0, slots := 0, locals := 29 } : Room) #[(.ref x0), (.int 1)] Z h0 (Qhpa Z x0 di hn hq khn khq hn0 hn1 hq0 h0 n0) := by
  refine MetFree.of_bodySF (plainFor_of_name pn_26) hisR ?_
  intro p e s m args below meth c s₁ Bd hml0 hP hK
  obtain ⟨rfl, hZ, hh⟩ := hP
  have hx := Bd.exec
  have hby := Bd.bytes
  have hml : c.maxLocals = 3 := hml0
  have hown : s.vm.findClass "com/example/violarc/violarc/graph/NodeHeap" = some m.cls := findClass_of_methodNamed Bd.named
  have hnm := (name_of_methodNamed Bd.named Bd.method).1
  have X0 : Stand p l e ({ frames := 2, cells := 0, slots := 0, locals := 29 } : Room) s m #[(.ref x0), (.int 1)] below meth c s₁ [] 0 0 := Stand.of_body Bd
  have e0 : s₁.heap = h0 := by rw [← hh, Bd.state]; rfl
  have N0 := Fr.nil n0
  have Kp0 := Keep.refl h0 [hn, hq]
  have hlk := BodyLoose.notSynchronized Bd
  have hrt := Bd.returns
  have K : own_K p c c26 Z s "com/example/violarc/violarc/graph/NodeHeap" m a0 := ⟨hx, hby, hZ, hown, hw⟩
  refine gStart (S' := s₁.setTop (mkF m 0 #[rv x0, iv 1, uu] [])) (congrArg (fun f => s₁.setTop f) (ef_hpa m x0)) fun Rp hR => ?_
  obtain ⟨nb0_0, nb0_1, nb0_2, nb0_3, nb0_4⟩ := id pre_own_HP
  refine g_ag X0 K e0 43 rfl nb0_3 d26_0 d26_1 rfl fun T1 X1 e1 => g_iloadN X1 K d26_4 rfl (g_iaload X1 K e1 pre_A_hq d26_5 (by decide) (v := (.int 0)) rfl (g_istoreN X1 K d26_6 (L' := #[rv x0, iv 1, iv 0]) rfl (g_iloadN X1 K d26_7 rfl (g_ifY X1 K 23 d26_8 (by decide) ((if0 _ _).trans (flt (by decide)).2.1) (g_aloadN X1 K d26_23 rfl rfl (g_iloadN X1 K d26_24 rfl (g_iloadN X1 K d26_25 rfl (g_callP X1 K e1 176 177 34 179 178 33 rfl rfl rfl rfl rfl rfl (by decide) (rmsf1 l Z a0 hw x0 h0 n0 Z0 ⟨nb0_0, nb0_1, nb0_2, nb0_3, nb0_4⟩ pre_A_hn pre_A_hq g_x0 g_hn g_hq ne_x0_hn ne_x0_hq ne_hn_hq) nb0_0 d26_26 hml.symm (argsL := [(.int 1), (.int 0)]) (lenOf pd_8 rfl) rfl 0 (Nat.le_of_ble_eq_true rfl) (by decide) fun v3 T3 Lc3 hQ3 X3 => ?_))))))))
  obtain ⟨rfl, N3q, K3, r3_0, r3_1⟩ := hQ3
  have N3 := Fr.app N0 N3q
  have KK3 := Kp0.trans K3 (own_al [0, 1] rfl)
  dsimp only [Option.toList, List.cons_append, List.nil_append]
  exact g_lv0 X3 K hlk hrt hR d26_29 (by decide) (⟨rfl, N3, KK3, r3_0, r3_1⟩)
def Qhe0 (Z : State) (x0 : Addr) (di : Addr) (hn : Addr) (hq : Addr) (h0 : Heap) (n0 : Nat) (v : Option Value) (h : Heap) (L : List Loc) : Prop := v = some (.int 1) ∧ Fr n0 L ∧ h = h0
theorem ef_he0 (m : MethodId) (x0 : Addr) : entryFrame m #[(.ref x0)] 1 = mkF m 0 #[rv x0] [] := by first | (simp [entryFrame, mkF, argsToLocals, Value.category]; done) | rfl
set_option maxRecDepth 65536 in
set_option maxHeartbeats 40000000 in
theorem rmhe0 (l : Launch) (Z : State) (a0 : Array Value) (hw : ∀ d ∈ tables_1, d.before a0 Z = true) (x0 : Addr) {di : Addr} {hn : Addr} {hq : Addr} (h0 : Heap) (n0 : Nat) (Z0 : n0 ≤ h0.size) (pre_own_HP : own_HP Z h0 n0 x0 di hn hq (0 : Int32)) :
    own_M l (⟨"com/example/violarc/violarc/graph/NodeHeap", "isEmpty", "()Z"⟩ : MethodName) c29 1 (some .boolean) ({ frames := 0, cells := 0, slots := 0, locals := 0 } : Room) #[(.ref x0)] Z h0 (Qhe0 Z x0 di hn hq h0 n0) := by
  refine MetFree.of_bodySF (plainFor_of_name pn_29) hisR ?_
  intro p e s m args below meth c s₁ Bd hml0 hP hK
  obtain ⟨rfl, hZ, hh⟩ := hP
  have hx := Bd.exec
  have hby := Bd.bytes
  have hml : c.maxLocals = 1 := hml0
  have hown : s.vm.findClass "com/example/violarc/violarc/graph/NodeHeap" = some m.cls := findClass_of_methodNamed Bd.named
  have hnm := (name_of_methodNamed Bd.named Bd.method).1
  have X0 : Stand p l e ({ frames := 0, cells := 0, slots := 0, locals := 0 } : Room) s m #[(.ref x0)] below meth c s₁ [] 0 0 := Stand.of_body Bd
  have e0 : s₁.heap = h0 := by rw [← hh, Bd.state]; rfl
  have N0 := Fr.nil n0
  have Kp0 := Keep.refl h0 []
  have hlk := BodyLoose.notSynchronized Bd
  have hrt := Bd.returns
  have K : own_K p c c29 Z s "com/example/violarc/violarc/graph/NodeHeap" m a0 := ⟨hx, hby, hZ, hown, hw⟩
  refine gStart (S' := s₁.setTop (mkF m 0 #[rv x0] [])) (congrArg (fun f => s₁.setTop f) (ef_he0 m x0)) fun Rp hR => ?_
  obtain ⟨nb0_0, nb0_1, nb0_2, nb0_3, nb0_4⟩ := id pre_own_HP
  refine g_ag X0 K e0 169 rfl nb0_4 d29_0 d29_1 rfl fun T1 X1 e1 => g_ifN X1 K d29_4 ((if0 _ _).trans (teq (by decide)).2) (g_iconst X1 K d29_7 (z := 1) rfl (g_goto X1 K 12 d29_8 (by decide) ?_))
  exact g_lvZ X1 K hlk hrt hR d29_12 (by decide) rfl (by rw [e1]; exact ⟨rfl, N0, rfl⟩)
def Qhe1 (Z : State) (x0 : Addr) (di : Addr) (hn : Addr) (hq : Addr) (h0 : Heap) (n0 : Nat) (v : Option Value) (h : Heap) (L : List Loc) : Prop := v = some (.int 0) ∧ Fr n0 L ∧ h = h0
theorem ef_he1 (m : MethodId) (x0 : Addr) : entryFrame m #[(.ref x0)] 1 = mkF m 0 #[rv x0] [] := by first | (simp [entryFrame, mkF, argsToLocals, Value.category]; done) | rfl
set_option maxRecDepth 65536 in
set_option maxHeartbeats 40000000 in
theorem rmhe1 (l : Launch) (Z : State) (a0 : Array Value) (hw : ∀ d ∈ tables_1, d.before a0 Z = true) (x0 : Addr) {di : Addr} {hn : Addr} {hq : Addr} (h0 : Heap) (n0 : Nat) (Z0 : n0 ≤ h0.size) (pre_own_HP : own_HP Z h0 n0 x0 di hn hq (1 : Int32)) :
    own_M l (⟨"com/example/violarc/violarc/graph/NodeHeap", "isEmpty", "()Z"⟩ : MethodName) c29 1 (some .boolean) ({ frames := 0, cells := 0, slots := 0, locals := 0 } : Room) #[(.ref x0)] Z h0 (Qhe1 Z x0 di hn hq h0 n0) := by
  refine MetFree.of_bodySF (plainFor_of_name pn_29) hisR ?_
  intro p e s m args below meth c s₁ Bd hml0 hP hK
  obtain ⟨rfl, hZ, hh⟩ := hP
  have hx := Bd.exec
  have hby := Bd.bytes
  have hml : c.maxLocals = 1 := hml0
  have hown : s.vm.findClass "com/example/violarc/violarc/graph/NodeHeap" = some m.cls := findClass_of_methodNamed Bd.named
  have hnm := (name_of_methodNamed Bd.named Bd.method).1
  have X0 : Stand p l e ({ frames := 0, cells := 0, slots := 0, locals := 0 } : Room) s m #[(.ref x0)] below meth c s₁ [] 0 0 := Stand.of_body Bd
  have e0 : s₁.heap = h0 := by rw [← hh, Bd.state]; rfl
  have N0 := Fr.nil n0
  have Kp0 := Keep.refl h0 []
  have hlk := BodyLoose.notSynchronized Bd
  have hrt := Bd.returns
  have K : own_K p c c29 Z s "com/example/violarc/violarc/graph/NodeHeap" m a0 := ⟨hx, hby, hZ, hown, hw⟩
  refine gStart (S' := s₁.setTop (mkF m 0 #[rv x0] [])) (congrArg (fun f => s₁.setTop f) (ef_he1 m x0)) fun Rp hR => ?_
  obtain ⟨nb0_0, nb0_1, nb0_2, nb0_3, nb0_4⟩ := id pre_own_HP
  refine g_ag X0 K e0 169 rfl nb0_4 d29_0 d29_1 rfl fun T1 X1 e1 => g_ifY X1 K 11 d29_4 (by decide) ((if0 _ _).trans (feq (by decide)).2) (g_iconst X1 K d29_11 (z := 0) rfl ?_)
  exact g_lvZ X1 K hlk hrt hR d29_12 (by decide) rfl (by rw [e1]; exact ⟨rfl, N0, rfl⟩)
def Qpo0 (Z : State) (x0 : Addr) (di : Addr) (hn : Addr) (hq : Addr) (khn : ClassId) (khq : ClassId) (hn1 : Int32) (hq0 : Int32) (hq1 : Int32) (h0 : Heap) (n0 : Nat) (v : Option Value) (h : Heap) (L : List Loc) : Prop := v = some (.int 0) ∧ Fr n0 L ∧ Keep h0 h [x0, hq] ∧ own_HP Z h n0 x0 di hn hq (0 : Int32) ∧ Arv Z h hq khq .int (2 : Int32) [(.int (-1)), (.int hq1)] (.int 0)
theorem ef_po0 (m : MethodId) (x0 : Addr) : entryFrame m #[(.ref x0)] 3 = mkF m 0 #[rv x0, .unset, .unset] [] := by first | (simp [entryFrame, mkF, argsToLocals, Value.category]; done) | rfl
set_option maxRecDepth 65536 in
set_option maxHeartbeats 40000000 in
theorem rmpo0 (l : Launch) (Z : State) (a0 : Array Value) (hw : ∀ d ∈ tables_1, d.before a0 Z = true) (x0 : Addr) {di : Addr} {hn : Addr} {hq : Addr} {khn : ClassId} {khq : ClassId} {hn1 : Int32} {hq0 : Int32} {hq1 : Int32} (h0 : Heap) (n0 : Nat) (Z0 : n0 ≤ h0.size) (pre_own_HP : own_HP Z h0 n0 x0 di hn hq (1 : Int32)) (pre_A_hn : Arv Z h0 hn khn .int (2 : Int32) [(.int 0), (.int hn1)] (.int 0)) (pre_A_hq : Arv Z h0 hq khq .int (2 : Int32) [(.int hq0), (.int hq1)] (.int 0)) (g_x0 : n0 ≤ x0) (g_hn : n0 ≤ hn) (g_hq : n0 ≤ hq) (ne_x0_hn : x0 ≠ hn) (ne_x0_hq : x0 ≠ hq) (ne_hn_hq : hn ≠ hq) :
    own_M l (⟨"com/example/violarc/violarc/graph/NodeHeap", "poll", "()I"⟩ : MethodName) c30 3 (some .int) ({ frames := 0, cells := 0, slots := 0, locals := 0 } : Room) #[(.ref x0)] Z h0 (Qpo0 Z x0 di hn hq khn khq hn1 hq0 hq1 h0 n0) := by
  refine MetFree.of_bodySF (plainFor_of_name pn_30) hisR ?_
  intro p e s m args below meth c s₁ Bd hml0 hP hK
  obtain ⟨rfl, hZ, hh⟩ := hP
  have hx := Bd.exec
  have hby := Bd.bytes
  have hml : c.maxLocals = 3 := hml0
  have hown : s.vm.findClass "com/example/violarc/violarc/graph/NodeHeap" = some m.cls := findClass_of_methodNamed Bd.named
  have hnm := (name_of_methodNamed Bd.named Bd.method).1
  have X0 : Stand p l e ({ frames := 0, cells := 0, slots := 0, locals := 0 } : Room) s m #[(.ref x0)] below meth c s₁ [] 0 0 := Stand.of_body Bd
  have e0 : s₁.heap = h0 := by rw [← hh, Bd.state]; rfl
  have N0 := Fr.nil n0
  have Kp0 := Keep.refl h0 [x0, hq]
  have hlk := BodyLoose.notSynchronized Bd
  have hrt := Bd.returns
  have K : own_K p c c30 Z s "com/example/violarc/violarc/graph/NodeHeap" m a0 := ⟨hx, hby, hZ, hown, hw⟩
  refine gStart (S' := s₁.setTop (mkF m 0 #[rv x0, uu, uu] [])) (congrArg (fun f => s₁.setTop f) (ef_po0 m x0)) fun Rp hR => ?_
  obtain ⟨nb0_0, nb0_1, nb0_2, nb0_3, nb0_4⟩ := id pre_own_HP
  refine g_ag X0 K e0 41 rfl nb0_2 d30_0 d30_1 rfl fun T1 X1 e1 => g_iconst X1 K d30_4 (z := 0) rfl (g_iaload X1 K e1 pre_A_hn d30_5 (by decide) (v := (.int 0)) rfl (g_istoreN X1 K d30_6 (L' := #[rv x0, iv 0, uu]) rfl (g_ag X1 K e1 41 rfl nb0_2 d30_7 d30_8 rfl fun T2 X2 e2 => g_aloadN X2 K d30_11 rfl rfl (g_dup X2 K d30_12 rfl (g_getF X2 K e2 169 rfl nb0_4 d30_13 fun T3 X3 e3 => g_iconst X3 K d30_16 (z := 1) rfl (g_isub X3 K d30_17 (z := (0 : Int32)) rfl (g_dupX1 X3 K d30_18 rfl rfl (g_putF X3 K e3 169 rfl nb0_4 nb0_0 (Or.inl (hw _ (im 170 rfl))) (hw _ (im 33 rfl)) (ty := .int) (by decide) rfl rfl d30_19 fun T4 h4 X4 e4 W4 Fw4 => ?_))))))))
  have N4 := Fr.snoc X4 N0 g_x0
  have KK4 := Kp0.wr W4 (Or.inl (List.mem_of_getElem? (i := 0) rfl))
  have q5 := (pre_A_hn.other W4 (Ne.symm ne_x0_hn))
  refine g_iaload X4 K e4 q5 d30_22 (by decide) (v := (.int 0)) rfl (g_istoreN X4 K d30_23 (L' := #[rv x0, iv 0, iv 0]) rfl ?_)
  have A24 := la_24 hw
  have A25 := la_25 hw
  have q6 := (own_o nb0_3 W4 A24 A25)
  refine g_ag X4 K e4 43 rfl q6 d30_24 d30_25 rfl fun T7 X7 e7 => g_iloadN X7 K d30_28 rfl (g_iconst X7 K d30_29 (z := -1) rfl ?_)
  have q8 := (pre_A_hq.other W4 (Ne.symm ne_x0_hq))
  refine g_iastore X7 K e7 q8 d30_30 (by decide) 0 ⟨rfl, Nat.le_of_ble_eq_true rfl⟩ (w := [(.int (-1)), (.int hq1)]) rfl rfl fun T9 h9 X9 e9 W9 V9 => ?_
  have N9 := Fr.snoc X9 N4 g_hq
  have KK9 := KK4.wr W9 (Or.inl (List.mem_of_getElem? (i := 1) rfl))
  have q10 := (Fw4.other W9 (Or.inl ne_x0_hq))
  refine g_ag X9 K e9 169 rfl q10 d30_31 d30_32 rfl fun T11 X11 e11 => g_ifY X11 K 44 d30_35 (by decide) ((if0 _ _).trans (flt (by decide)).2.2.2) (g_iloadN X11 K d30_44 rfl ?_)
  have q13 := ((nb0_0.wr W4).wr W9)
  have A23 := la_23 hw
  have q14 := ((own_o nb0_1 W4 A23 A25).other W9 (Or.inl ne_x0_hq))
  have A22 := la_22 hw
  have q15 := ((own_o nb0_2 W4 A22 A25).other W9 (Or.inl ne_x0_hq))
  have q16 := (q6.other W9 (Or.inl ne_x0_hq))
  exact g_lvI X11 K hlk hrt hR d30_45 (by decide) (by rw [e11]; exact ⟨rfl, N9, KK9, ⟨q13, q14, q15, q16, q10⟩, V9⟩)
def Qpo1 (Z : State) (x0 : Addr) (di : Addr) (hn : Addr) (hq : Addr) (khn : ClassId) (khq : ClassId) (hn1 : Int32) (hq0 : Int32) (hq1 : Int32) (h0 : Heap) (n0 : Nat) (v : Option Value) (h : Heap) (L : List Loc) : Prop := v = some (.int 1) ∧ Fr n0 L ∧ Keep h0 h [x0, hq] ∧ own_HP Z h n0 x0 di hn hq (0 : Int32) ∧ Arv Z h hq khq .int (2 : Int32) [(.int hq0), (.int (-1))] (.int 0)
theorem ef_po1 (m : MethodId) (x0 : Addr) : entryFrame m #[(.ref x0)] 3 = mkF m 0 #[rv x0, .unset, .unset] [] := by first | (simp [entryFrame, mkF, argsToLocals, Value.category]; done) | rfl
set_option maxRecDepth 65536 in
set_option maxHeartbeats 40000000 in
theorem rmpo1 (l : Launch) (Z : State) (a0 : Array Value) (hw : ∀ d ∈ tables_1, d.before a0 Z = true) (x0 : Addr) {di : Addr} {hn : Addr} {hq : Addr} {khn : ClassId} {khq : ClassId} {hn1 : Int32} {hq0 : Int32} {hq1 : Int32} (h0 : Heap) (n0 : Nat) (Z0 : n0 ≤ h0.size) (pre_own_HP : own_HP Z h0 n0 x0 di hn hq (1 : Int32)) (pre_A_hn : Arv Z h0 hn khn .int (2 : Int32) [(.int 1), (.int hn1)] (.int 0)) (pre_A_hq : Arv Z h0 hq khq .int (2 : Int32) [(.int hq0), (.int hq1)] (.int 0)) (g_x0 : n0 ≤ x0) (g_hn : n0 ≤ hn) (g_hq : n0 ≤ hq) (ne_x0_hn : x0 ≠ hn) (ne_x0_hq : x0 ≠ hq) (ne_hn_hq : hn ≠ hq) :
    own_M l (⟨"com/example/violarc/violarc/graph/NodeHeap", "poll", "()I"⟩ : MethodName) c30 3 (some .int) ({ frames := 0, cells := 0, slots := 0, locals := 0 } : Room) #[(.ref x0)] Z h0 (Qpo1 Z x0 di hn hq khn khq hn1 hq0 hq1 h0 n0) := by
  refine MetFree.of_bodySF (plainFor_of_name pn_30) hisR ?_
  intro p e s m args below meth c s₁ Bd hml0 hP hK
  obtain ⟨rfl, hZ, hh⟩ := hP
  have hx := Bd.exec
  have hby := Bd.bytes
  have hml : c.maxLocals = 3 := hml0
  have hown : s.vm.findClass "com/example/violarc/violarc/graph/NodeHeap" = some m.cls := findClass_of_methodNamed Bd.named
  have hnm := (name_of_methodNamed Bd.named Bd.method).1
  have X0 : Stand p l e ({ frames := 0, cells := 0, slots := 0, locals := 0 } : Room) s m #[(.ref x0)] below meth c s₁ [] 0 0 := Stand.of_body Bd
  have e0 : s₁.heap = h0 := by rw [← hh, Bd.state]; rfl
  have N0 := Fr.nil n0
  have Kp0 := Keep.refl h0 [x0, hq]
  have hlk := BodyLoose.notSynchronized Bd
  have hrt := Bd.returns
  have K : own_K p c c30 Z s "com/example/violarc/violarc/graph/NodeHeap" m a0 := ⟨hx, hby, hZ, hown, hw⟩
  refine gStart (S' := s₁.setTop (mkF m 0 #[rv x0, uu, uu] [])) (congrArg (fun f => s₁.setTop f) (ef_po1 m x0)) fun Rp hR => ?_
  obtain ⟨nb0_0, nb0_1, nb0_2, nb0_3, nb0_4⟩ := id pre_own_HP
  refine g_ag X0 K e0 41 rfl nb0_2 d30_0 d30_1 rfl fun T1 X1 e1 => g_iconst X1 K d30_4 (z := 0) rfl (g_iaload X1 K e1 pre_A_hn d30_5 (by decide) (v := (.int 1)) rfl (g_istoreN X1 K d30_6 (L' := #[rv x0, iv 1, uu]) rfl (g_ag X1 K e1 41 rfl nb0_2 d30_7 d30_8 rfl fun T2 X2 e2 => g_aloadN X2 K d30_11 rfl rfl (g_dup X2 K d30_12 rfl (g_getF X2 K e2 169 rfl nb0_4 d30_13 fun T3 X3 e3 => g_iconst X3 K d30_16 (z := 1) rfl (g_isub X3 K d30_17 (z := (0 : Int32)) rfl (g_dupX1 X3 K d30_18 rfl rfl (g_putF X3 K e3 169 rfl nb0_4 nb0_0 (Or.inl (hw _ (im 170 rfl))) (hw _ (im 33 rfl)) (ty := .int) (by decide) rfl rfl d30_19 fun T4 h4 X4 e4 W4 Fw4 => ?_))))))))
  have N4 := Fr.snoc X4 N0 g_x0
  have KK4 := Kp0.wr W4 (Or.inl (List.mem_of_getElem? (i := 0) rfl))
  have q5 := (pre_A_hn.other W4 (Ne.symm ne_x0_hn))
  refine g_iaload X4 K e4 q5 d30_22 (by decide) (v := (.int 1)) rfl (g_istoreN X4 K d30_23 (L' := #[rv x0, iv 1, iv 1]) rfl ?_)
  have A24 := la_24 hw
  have A25 := la_25 hw
  have q6 := (own_o nb0_3 W4 A24 A25)
  refine g_ag X4 K e4 43 rfl q6 d30_24 d30_25 rfl fun T7 X7 e7 => g_iloadN X7 K d30_28 rfl (g_iconst X7 K d30_29 (z := -1) rfl ?_)
  have q8 := (pre_A_hq.other W4 (Ne.symm ne_x0_hq))
  refine g_iastore X7 K e7 q8 d30_30 (by decide) 1 ⟨rfl, Nat.le_of_ble_eq_true rfl⟩ (w := [(.int hq0), (.int (-1))]) rfl rfl fun T9 h9 X9 e9 W9 V9 => ?_
  have N9 := Fr.snoc X9 N4 g_hq
  have KK9 := KK4.wr W9 (Or.inl (List.mem_of_getElem? (i := 1) rfl))
  have q10 := (Fw4.other W9 (Or.inl ne_x0_hq))
  refine g_ag X9 K e9 169 rfl q10 d30_31 d30_32 rfl fun T11 X11 e11 => g_ifY X11 K 44 d30_35 (by decide) ((if0 _ _).trans (flt (by decide)).2.2.2) (g_iloadN X11 K d30_44 rfl ?_)
  have q13 := ((nb0_0.wr W4).wr W9)
  have A23 := la_23 hw
  have q14 := ((own_o nb0_1 W4 A23 A25).other W9 (Or.inl ne_x0_hq))
  have A22 := la_22 hw
  have q15 := ((own_o nb0_2 W4 A22 A25).other W9 (Or.inl ne_x0_hq))
  have q16 := (q6.other W9 (Or.inl ne_x0_hq))
  exact g_lvI X11 K hlk hrt hR d30_45 (by decide) (by rw [e11]; exact ⟨rfl, N9, KK9, ⟨q13, q14, q15, q16, q10⟩, V9⟩)
def QsrM (Z : State) (x0 : Addr) (nx : Addr) (tg : Addr) (rs : Addr) (co : Addr) (fi : Addr) (po : Addr) (di : Addr) (pa : Addr) (hp : Addr) (hn : Addr) (hq : Addr) (qu : Addr) (qd : Addr) (lw : Addr) (sk : Addr) (cu : Addr) (vi : Addr) (ar : Int32) (ac : Int64) (fc : Int64) (vl : Int32) (so : Int32) (si : Int32) (vt : Int64) (k0 : Int64) (k1 : Int64) (kfi : ClassId) (knx : ClassId) (ktg : ClassId) (kco : ClassId) (krs : ClassId) (kdi : ClassId) (kpa : ClassId) (khn : ClassId) (rs0 : Int64) (rs1 : Int64) (rs2 : Int64) (rs3 : Int64) (di0 : Int64) (di1 : Int64) (pa0 : Int32) (pa1 : Int32) (hn0 : Int32) (hn1 : Int32) (kpo : ClassId) (po1 : Int64) (khq : ClassId) (h0 : Heap) (n0 : Nat) (v : Option Value) (h : Heap) (L : List Loc) : Prop := ∃ (e0 : Int32), ∃ (e1 : Int32), ∃ (e2 : Int32), ∃ (e3 : Int32), v = none ∧ Fr n0 L ∧ Keep h0 h [di, pa, hp, hn, hq] ∧ Arv Z h di kdi .long (2 : Int32) [(.long 0), (.long 9223372036854775807)] (.long 0) ∧ Arv Z h pa kpa .int (2 : Int32) [(.int e0), (.int e1)] (.int 0) ∧ own_HP Z h n0 hp di hn hq (0 : Int32) ∧ Arv Z h hn khn .int (2 : Int32) [(.int e2), (.int e3)] (.int 0) ∧ Arv Z h hq khq .int (2 : Int32) [(.int (-1)), (.int (-1))] (.int 0)
theorem ef_srM (m : MethodId) (x0 : Addr) : entryFrame m #[(.ref x0), (.int 0), (.int 1)] 11 = mkF m 0 #[rv x0, iv 0, iv 1, .unset, .unset, .unset, .unset, .unset, .unset, .unset, .unset] [] := by first | (simp [entryFrame, mkF, argsToLocals, Value.category]; done) | rfl
set_option maxRecDepth 65536 in
set_option maxHeartbeats 40000000 in
theorem rmsrM (l : Launch) (Z : State) (a0 : Array Value) (hw : ∀ d ∈ tables_1, d.before a0 Z = true) (x0 : Addr) {nx : Addr} {tg : Addr} {rs : Addr} {co : Addr} {fi : Addr} {po : Addr} {di : Addr} {pa : Addr} {hp : Addr} {hn : Addr} {hq : Addr} {qu : Addr} {qd : Addr} {lw : Addr} {sk : Addr} {cu : Addr} {vi : Addr} {ar : Int32} {ac : Int64} {fc : Int64} {vl : Int32} {so : Int32} {si : Int32} {vt : Int64} {k0 : Int64} {k1 : Int64} {kfi : ClassId} {knx : ClassId} {ktg : ClassId} {kco : ClassId} {krs : ClassId} {kdi : ClassId} {kpa : ClassId} {khn : ClassId} {rs0 : Int64} {rs1 : Int64} {rs2 : Int64} {rs3 : Int64} {di0 : Int64} {di1 : Int64} {pa0 : Int32} {pa1 : Int32} {hn0 : Int32} {hn1 : Int32} {kpo : ClassId} {po1 : Int64} {khq : ClassId} (h0 : Heap) (n0 : Nat) (Z0 : n0 ≤ h0.size) (pre_own_XF : own_XF Z h0 n0 x0 nx tg rs co fi po di pa hp hn hq qu qd lw sk cu vi ar ac fc vl so si vt) (pre_A_fi : Arv Z h0 fi kfi .int (2 : Int32) [(.int 2), (.int 3)] (.int 0)) (pre_A_nx : Arv Z h0 nx knx .int (16 : Int32) [(.int (-1)), (.int (-1)), (.int 0), (.int 1)] (.int 0)) (pre_A_tg : Arv Z h0 tg ktg .int (16 : Int32) [(.int 1), (.int 0), (.int 1), (.int 0)] (.int 0)) (pre_A_co : Arv Z h0 co kco .long (16 : Int32) [(.long k0), (.long (-k0)), (.long k1), (.long (-k1))] (.long 0)) (pre_A_rs : Arv Z h0 rs krs .long (16 : Int32) [(.long rs0), (.long rs1), (.long rs2), (.long rs3)] (.long 0)) (pre_A_po : Arv Z h0 po kpo .long (2 : Int32) [(.long 0), (.long po1)] (.long 0)) (pre_own_HP : own_HP Z h0 n0 hp di hn hq (0 : Int32)) (pre_A_hn : Arv Z h0 hn khn .int (2 : Int32) [(.int hn0), (.int hn1)] (.int 0)) (pre_A_hq : Arv Z h0 hq khq .int (2 : Int32) [(.int (-1)), (.int (-1))] (.int 0)) (pre_A_di : Arv Z h0 di kdi .long (2 : Int32) [(.long di0), (.long di1)] (.long 0)) (pre_A_pa : Arv Z h0 pa kpa .int (2 : Int32) [(.int pa0), (.int pa1)] (.int 0)) (yz2 : rs2 = (0 : Int64)) (yz0 : rs0 = (0 : Int64)) :
    own_M l (⟨"com/example/violarc/violarc/graph/FlowNetwork", "search", "(IZ)V"⟩ : MethodName) c24 11 none ({ frames := 3, cells := 0, slots := 0, locals := 43 } : Room) #[(.ref x0), (.int 0), (.int 1)] Z h0 (QsrM Z x0 nx tg rs co fi po di pa hp hn hq qu qd lw sk cu vi ar ac fc vl so si vt k0 k1 kfi knx ktg kco krs kdi kpa khn rs0 rs1 rs2 rs3 di0 di1 pa0 pa1 hn0 hn1 kpo po1 khq h0 n0) := by
  refine MetFree.of_bodySF (plainFor_of_name pn_24) hisR ?_
  intro p e s m args below meth c s₁ Bd hml0 hP hK
  obtain ⟨rfl, hZ, hh⟩ := hP
  have hx := Bd.exec
  have hby := Bd.bytes
  have hml : c.maxLocals = 11 := hml0
  have hown : s.vm.findClass "com/example/violarc/violarc/graph/FlowNetwork" = some m.cls := findClass_of_methodNamed Bd.named
  have hnm := (name_of_methodNamed Bd.named Bd.method).1
  have X0 : Stand p l e ({ frames := 3, cells := 0, slots := 0, locals := 43 } : Room) s m #[(.ref x0), (.int 0), (.int 1)] below meth c s₁ [] 0 0 := Stand.of_body Bd
  have e0 : s₁.heap = h0 := by rw [← hh, Bd.state]; rfl
  have N0 := Fr.nil n0
  have Kp0 := Keep.refl h0 [di, pa, hp, hn, hq]
  have hlk := BodyLoose.notSynchronized Bd
  have hrt := Bd.returns
  have K : own_K p c c24 Z s "com/example/violarc/violarc/graph/FlowNetwork" m a0 := ⟨hx, hby, hZ, hown, hw⟩
  refine gStart (S' := s₁.setTop (mkF m 0 #[rv x0, iv 0, iv 1, uu, uu, uu, uu, uu, uu, uu, uu] [])) (congrArg (fun f => s₁.setTop f) (ef_srM m x0)) fun Rp hR => ?_
  obtain ⟨nb0_0, nb0_1, nb0_2, nb0_3, nb0_4, nb0_5, nb0_6, nb0_7, nb0_8, nb0_9, nb0_10, nb0_11, nb0_12, nb0_13, nb0_14, nb0_15, nb0_16, nb0_17, nb0_18, nb0_19, nb0_20, nb0_21, nb0_22, nb0_23, nb0_24⟩ := id pre_own_XF
  obtain ⟨nb1_0, nb1_1, nb1_2, nb1_3, nb1_4⟩ := id pre_own_HP
  have na0 : x0 ∉ [di] := own_nin nb0_24 0 rfl [7] _ rfl (by decide)
  have na1 : pa ∉ [di] := own_nin nb0_24 8 rfl [7] _ rfl (by decide)
  have na2 : x0 ∉ [pa] := own_nin nb0_24 0 rfl [8] _ rfl (by decide)
  have na3 : hp ∉ [di] := own_nin nb0_24 9 rfl [7] _ rfl (by decide)
  have na4 : hp ∉ [pa] := own_nin nb0_24 9 rfl [8] _ rfl (by decide)
  have na5 : x0 ∉ [hp] := own_nin nb0_24 0 rfl [9] _ rfl (by decide)
  have na6 : di ∉ [pa] := own_nin nb0_24 7 rfl [8] _ rfl (by decide)
  have na7 : di ∉ [hp] := own_nin nb0_24 7 rfl [9] _ rfl (by decide)
  have na8 : hn ∉ [di] := own_nin nb0_24 10 rfl [7] _ rfl (by decide)
  have na9 : hn ∉ [pa] := own_nin nb0_24 10 rfl [8] _ rfl (by decide)
  have na10 : hn ∉ [hp] := own_nin nb0_24 10 rfl [9] _ rfl (by decide)
  have na11 : hq ∉ [di] := own_nin nb0_24 11 rfl [7] _ rfl (by decide)
  have na12 : hq ∉ [pa] := own_nin nb0_24 11 rfl [8] _ rfl (by decide)
  have na13 : hq ∉ [hp] := own_nin nb0_24 11 rfl [9] _ rfl (by decide)
  have na14 : x0 ∉ [hp, hn, hq] := own_nin nb0_24 0 rfl [9, 10, 11] _ rfl (by decide)
  have na15 : x0 ∉ [hp, hq] := own_nin nb0_24 0 rfl [9, 11] _ rfl (by decide)
  have na16 : fi ∉ [di] := own_nin nb0_24 5 rfl [7] _ rfl (by decide)
  have na17 : fi ∉ [pa] := own_nin nb0_24 5 rfl [8] _ rfl (by decide)
  have na18 : fi ∉ [hp] := own_nin nb0_24 5 rfl [9] _ rfl (by decide)
  have na19 : fi ∉ [hp, hn, hq] := own_nin nb0_24 5 rfl [9, 10, 11] _ rfl (by decide)
  have na20 : fi ∉ [hp, hq] := own_nin nb0_24 5 rfl [9, 11] _ rfl (by decide)
  have na21 : tg ∉ [di] := own_nin nb0_24 2 rfl [7] _ rfl (by decide)
  have na22 : tg ∉ [pa] := own_nin nb0_24 2 rfl [8] _ rfl (by decide)
  have na23 : tg ∉ [hp] := own_nin nb0_24 2 rfl [9] _ rfl (by decide)
  have na24 : tg ∉ [hp, hn, hq] := own_nin nb0_24 2 rfl [9, 10, 11] _ rfl (by decide)
  have na25 : tg ∉ [hp, hq] := own_nin nb0_24 2 rfl [9, 11] _ rfl (by decide)
  have na26 : rs ∉ [di] := own_nin nb0_24 3 rfl [7] _ rfl (by decide)
  have na27 : rs ∉ [pa] := own_nin nb0_24 3 rfl [8] _ rfl (by decide)
  have na28 : rs ∉ [hp] := own_nin nb0_24 3 rfl [9] _ rfl (by decide)
  have na29 : rs ∉ [hp, hn, hq] := own_nin nb0_24 3 rfl [9, 10, 11] _ rfl (by decide)
  have na30 : rs ∉ [hp, hq] := own_nin nb0_24 3 rfl [9, 11] _ rfl (by decide)
  have na31 : nx ∉ [di] := own_nin nb0_24 1 rfl [7] _ rfl (by decide)
  have na32 : nx ∉ [pa] := own_nin nb0_24 1 rfl [8] _ rfl (by decide)
  have na33 : nx ∉ [hp] := own_nin nb0_24 1 rfl [9] _ rfl (by decide)
  have na34 : nx ∉ [hp, hn, hq] := own_nin nb0_24 1 rfl [9, 10, 11] _ rfl (by decide)
  have na35 : nx ∉ [hp, hq] := own_nin nb0_24 1 rfl [9, 11] _ rfl (by decide)
  have na36 : di ∉ [hp, hn, hq] := own_nin nb0_24 7 rfl [9, 10, 11] _ rfl (by decide)
  have na37 : di ∉ [hp, hq] := own_nin nb0_24 7 rfl [9, 11] _ rfl (by decide)
  have na38 : pa ∉ [hp] := own_nin nb0_24 8 rfl [9] _ rfl (by decide)
  have na39 : pa ∉ [hp, hn, hq] := own_nin nb0_24 8 rfl [9, 10, 11] _ rfl (by decide)
  have na40 : pa ∉ [hp, hq] := own_nin nb0_24 8 rfl [9, 11] _ rfl (by decide)
  have na41 : hn ∉ [hp, hq] := own_nin nb0_24 10 rfl [9, 11] _ rfl (by decide)
  refine g_ag X0 K e0 28 rfl pre_own_XF.2.2.2.2.2.2.2.1 d24_0 d24_1 rfl fun T1 X1 e1 => g_ldc2 X1 K 163 rfl d24_4 (z := (9223372036854775807 : Int64)) rfl (g_callS X1 K e1 108 109 47 110 rfl rfl rfl rfl (by decide) (rm14 l Z a0 hw (9223372036854775807 : Int64) h0 n0 Z0 pre_A_di (own_ong nb0_24 nb0_23 7 rfl)) d24_7 hml.symm (argsL := [(.ref di), (.long 9223372036854775807)]) (lenOf pd_7 rfl) rfl 0 (Nat.le_of_ble_eq_true rfl) (by decide) fun v2 T2 Lc2 hQ2 X2 => ?_)
  obtain ⟨rfl, N2q, K2, r2_0⟩ := hQ2
  have N2 := Fr.app N0 N2q
  have KK2 := Kp0.trans K2 (own_al [0] rfl)
  dsimp only [Option.toList, List.cons_append, List.nil_append]
  have xb3 := own_XF_keep pre_own_XF K2 na0
  refine g_ag X2 K rfl 30 rfl xb3.2.2.2.2.2.2.2.2.1 d24_10 d24_11 rfl fun T4 X4 e4 => g_iconst X4 K d24_14 (z := -1) rfl ?_
  have q5 := (pre_A_pa.keep K2 na1)
  refine g_callS X4 K e4 64 46 47 48 rfl rfl rfl rfl (by decide) (rm4 l Z a0 hw (-1 : Int32) T2.heap n0 (Nat.le_trans Z0 KK2.1) q5 (own_ong nb0_24 nb0_23 8 rfl)) d24_15 hml.symm (argsL := [(.ref pa), (.int (-1))]) (lenOf pd_0 rfl) rfl 0 (Nat.le_of_ble_eq_true rfl) (by decide) fun v6 T6 Lc6 hQ6 X6 => ?_
  obtain ⟨rfl, N6q, K6, r6_0⟩ := hQ6
  have N6 := Fr.app N2 N6q
  have KK6 := KK2.trans K6 (own_al [1] rfl)
  dsimp only [Option.toList, List.cons_append, List.nil_append]
  have xb7 := own_XF_keep xb3 K6 na2
  refine g_ag X6 K rfl 49 rfl xb7.2.2.2.2.2.2.2.2.2.1 d24_18 d24_19 rfl fun T8 X8 e8 => ?_
  have q9 := ((nb1_0.keep K2).keep K6)
  have q10 := ((nb1_1.keep K2 na3).keep K6 na4)
  have q11 := ((nb1_2.keep K2 na3).keep K6 na4)
  have q12 := ((nb1_3.keep K2 na3).keep K6 na4)
  have q13 := ((nb1_4.keep K2 na3).keep K6 na4)
  refine g_callV X8 K e8 164 166 34 168 165 167 rfl rfl rfl rfl rfl rfl (by decide) (rm25 l Z a0 hw hp T6.heap n0 (Nat.le_trans Z0 KK6.1) ⟨q9, q10, q11, q12, q13⟩ (own_ong nb0_24 nb0_23 9 rfl)) q9 d24_22 hml.symm (argsL := []) (lenOf pd_9 rfl) rfl 0 (Nat.le_of_ble_eq_true rfl) (by decide) fun v14 T14 Lc14 hQ14 X14 => ?_
  obtain ⟨rfl, N14q, K14, ⟨r14_0_0, r14_0_1, r14_0_2, r14_0_3, r14_0_4⟩⟩ := hQ14
  have N14 := Fr.app N6 N14q
  have KK14 := KK6.trans K14 (own_al [2] rfl)
  dsimp only [Option.toList, List.cons_append, List.nil_append]
  have xb15 := own_XF_keep xb7 K14 na5
  refine g_ag X14 K rfl 28 rfl xb15.2.2.2.2.2.2.2.1 d24_25 d24_26 rfl fun T16 X16 e16 => g_iloadN X16 K d24_29 rfl (g_lconst X16 K d24_30 (z := 0) rfl ?_)
  have q17 := ((r2_0.keep K6 na6).keep K14 na7)
  refine g_lastore X16 K e16 q17 d24_31 (by decide) 0 ⟨rfl, Nat.le_of_ble_eq_true rfl⟩ (w := [(.long 0), (.long 9223372036854775807)]) rfl rfl fun T18 h18 X18 e18 W18 V18 => ?_
  have N18 := Fr.snoc X18 N14 (own_ong nb0_24 nb0_23 7 rfl)
  have KK18 := KK14.wr W18 (Or.inl (List.mem_of_getElem? (i := 0) rfl))
  have xb19 := own_XF_wr xb15 W18 (own_on nb0_24 0 7 rfl rfl)
  refine g_ag X18 K e18 49 rfl xb19.2.2.2.2.2.2.2.2.2.1 d24_32 d24_33 rfl fun T20 X20 e20 => g_iloadN X20 K d24_36 rfl ?_
  have q21 := (r14_0_0.wr W18)
  have q22 := (r14_0_1.other W18 (Or.inl (own_on nb0_24 9 7 rfl rfl)))
  have q23 := (r14_0_2.other W18 (Or.inl (own_on nb0_24 9 7 rfl rfl)))
  have q24 := (r14_0_3.other W18 (Or.inl (own_on nb0_24 9 7 rfl rfl)))
  have q25 := (r14_0_4.other W18 (Or.inl (own_on nb0_24 9 7 rfl rfl)))
  have q26 := ((((pre_A_hn.keep K2 na8).keep K6 na9).keep K14 na10).other W18 (own_on nb0_24 10 7 rfl rfl))
  have q27 := ((((pre_A_hq.keep K2 na11).keep K6 na12).keep K14 na13).other W18 (own_on nb0_24 11 7 rfl rfl))
  refine g_callV X20 K e20 171 173 34 175 172 174 rfl rfl rfl rfl rfl rfl (by decide) (rmhp0 l Z a0 hw hp h18 n0 (Nat.le_trans Z0 KK18.1) ⟨q21, q22, q23, q24, q25⟩ q26 q27 (own_ong nb0_24 nb0_23 9 rfl) (own_ong nb0_24 nb0_23 10 rfl) (own_ong nb0_24 nb0_23 11 rfl) (own_on nb0_24 9 10 rfl rfl) (own_on nb0_24 9 11 rfl rfl) (own_on nb0_24 10 11 rfl rfl)) q21 d24_37 hml.symm (argsL := [(.int 0)]) (lenOf pd_3 rfl) rfl 0 (Nat.le_of_ble_eq_true rfl) (by decide) fun v28 T28 Lc28 hQ28 X28 => ?_
  obtain ⟨rfl, N28q, K28, ⟨r28_0_0, r28_0_1, r28_0_2, r28_0_3, r28_0_4⟩, r28_1, r28_2⟩ := hQ28
  have N28 := Fr.app N18 N28q
  have KK28 := KK18.trans K28 (own_al [2, 3, 4] rfl)
  dsimp only [Option.toList, List.cons_append, List.nil_append]
  have xb29 := own_XF_keep xb19 K28 na14
  refine g_ag X28 K rfl 49 rfl xb29.2.2.2.2.2.2.2.2.2.1 d24_40 d24_41 rfl fun T30 X30 e30 => g_callV X30 K e30 184 186 34 188 185 187 rfl rfl rfl rfl rfl rfl (by decide) (rmhe1 l Z a0 hw hp T28.heap n0 (Nat.le_trans Z0 KK28.1) ⟨r28_0_0, r28_0_1, r28_0_2, r28_0_3, r28_0_4⟩) r28_0_0 d24_44 hml.symm (argsL := []) (lenOf pd_10 rfl) rfl 0 (Nat.le_of_ble_eq_true rfl) (by decide) fun v31 T31 Lc31 hQ31 X31 => ?_
  obtain ⟨rfl, N31q, e31⟩ := hQ31
  have N31 := Fr.app N28 N31q
  dsimp only [Option.toList, List.cons_append, List.nil_append]
  refine g_ifN X31 K d24_47 ((if0 _ _).trans (teq (by decide)).2) (g_ag X31 K e31 49 rfl xb29.2.2.2.2.2.2.2.2.2.1 d24_50 d24_51 rfl fun T33 X33 e33 => g_callV X33 K e33 189 191 34 193 190 192 rfl rfl rfl rfl rfl rfl (by decide) (rmpo0 l Z a0 hw hp T28.heap n0 (Nat.le_trans Z0 KK28.1) ⟨r28_0_0, r28_0_1, r28_0_2, r28_0_3, r28_0_4⟩ r28_1 r28_2 (own_ong nb0_24 nb0_23 9 rfl) (own_ong nb0_24 nb0_23 10 rfl) (own_ong nb0_24 nb0_23 11 rfl) (own_on nb0_24 9 10 rfl rfl) (own_on nb0_24 9 11 rfl rfl) (own_on nb0_24 10 11 rfl rfl)) r28_0_0 d24_54 hml.symm (argsL := []) (lenOf pd_11 rfl) rfl 0 (Nat.le_of_ble_eq_true rfl) (by decide) fun v34 T34 Lc34 hQ34 X34 => ?_)
  obtain ⟨rfl, N34q, K34, ⟨r34_0_0, r34_0_1, r34_0_2, r34_0_3, r34_0_4⟩, r34_1⟩ := hQ34
  have N34 := Fr.app N31 N34q
  have KK34 := KK28.trans K34 (own_al [2, 4] rfl)
  dsimp only [Option.toList, List.cons_append, List.nil_append]
  refine g_istoreN X34 K d24_57 (L' := #[rv x0, iv 0, iv 1, iv 0, uu, uu, uu, uu, uu, uu, uu]) rfl ?_
  have xb35 := own_XF_keep xb29 K34 na15
  refine g_ag X34 K rfl 24 rfl xb35.2.2.2.2.2.1 d24_58 d24_59 rfl fun T36 X36 e36 => g_iloadN X36 K d24_62 rfl ?_
  have q37 := ((((((pre_A_fi.keep K2 na16).keep K6 na17).keep K14 na18).other W18 (own_on nb0_24 5 7 rfl rfl)).keep K28 na19).keep K34 na20)
  refine g_iaload X36 K e36 q37 d24_63 (by decide) (v := (.int 2)) rfl (g_istore X36 K d24_64 (L' := #[rv x0, iv 0, iv 1, iv 0, iv 2, uu, uu, uu, uu, uu, uu]) rfl (g_iload X36 K d24_66 rfl (g_ifN X36 K d24_68 ((if0 _ _).trans (flt (by decide)).1) (g_iloadN X36 K d24_71 rfl (g_ifN X36 K d24_72 ((if0 _ _).trans (feq (by decide)).1) (g_iload X36 K d24_75 rfl (g_goto X36 K 84 d24_77 (by decide) (g_istore X36 K d24_84 (L' := #[rv x0, iv 0, iv 1, iv 0, iv 2, iv 2, uu, uu, uu, uu, uu]) rfl (g_ag X36 K e36 14 rfl xb35.2.2.1 d24_86 d24_87 rfl fun T40 X40 e40 => g_iload X40 K d24_90 rfl ?_)))))))))
  have q41 := ((((((pre_A_tg.keep K2 na21).keep K6 na22).keep K14 na23).other W18 (own_on nb0_24 2 7 rfl rfl)).keep K28 na24).keep K34 na25)
  refine g_iaload X40 K e40 q41 d24_92 (by decide) (v := (.int 1)) rfl (g_istore X40 K d24_93 (L' := #[rv x0, iv 0, iv 1, iv 0, iv 2, iv 2, iv 1, uu, uu, uu, uu]) rfl (g_ag X40 K e40 16 rfl xb35.2.2.2.1 d24_95 d24_96 rfl fun T42 X42 e42 => g_iload X42 K d24_99 rfl ?_))
  have q43 := ((((((pre_A_rs.keep K2 na26).keep K6 na27).keep K14 na28).other W18 (own_on nb0_24 3 7 rfl rfl)).keep K28 na29).keep K34 na30)
  refine g_laload X42 K e42 q43 d24_101 (by decide) (v := (.long rs2)) rfl (g_lconst X42 K d24_102 (z := 0) rfl (g_lcmp X42 K d24_103 rfl ?_))
  have hc104_44 : rs2 = (0 : Int64) := yz2
  refine g_ifN X42 K d24_104 ((if0 _ _).trans (teq ((lw_eq rs2 (0 : Int64)).mpr hc104_44)).2) (g_goto X42 K 214 d24_107 (by decide) (g_ag X42 K e42 12 rfl xb35.2.1 d24_214 d24_215 rfl fun T45 X45 e45 => g_iload X45 K d24_218 rfl ?_))
  have q46 := ((((((pre_A_nx.keep K2 na31).keep K6 na32).keep K14 na33).other W18 (own_on nb0_24 1 7 rfl rfl)).keep K28 na34).keep K34 na35)
  refine g_iaload X45 K e45 q46 d24_220 (by decide) (v := (.int 0)) rfl (g_istore X45 K d24_221 (L' := #[rv x0, iv 0, iv 1, iv 0, iv 0, iv 2, iv 1, uu, uu, uu, uu]) rfl (g_goto X45 K 66 d24_223 (by decide) (g_iload X45 K d24_66 rfl (g_ifN X45 K d24_68 ((if0 _ _).trans (flt (by decide)).1) (g_iloadN X45 K d24_71 rfl (g_ifN X45 K d24_72 ((if0 _ _).trans (feq (by decide)).1) (g_iload X45 K d24_75 rfl (g_goto X45 K 84 d24_77 (by decide) (g_istore X45 K d24_84 (L' := #[rv x0, iv 0, iv 1, iv 0, iv 0, iv 0, iv 1, uu, uu, uu, uu]) rfl (g_ag X45 K e45 14 rfl xb35.2.2.1 d24_86 d24_87 rfl fun T49 X49 e49 => g_iload X49 K d24_90 rfl (g_iaload X49 K e49 q41 d24_92 (by decide) (v := (.int 1)) rfl ?_)))))))))))
  refine g_istore X49 K d24_93 (L' := #[rv x0, iv 0, iv 1, iv 0, iv 0, iv 0, iv 1, uu, uu, uu, uu]) rfl (g_ag X49 K e49 16 rfl xb35.2.2.2.1 d24_95 d24_96 rfl fun T50 X50 e50 => g_iload X50 K d24_99 rfl (g_laload X50 K e50 q43 d24_101 (by decide) (v := (.long rs0)) rfl (g_lconst X50 K d24_102 (z := 0) rfl (g_lcmp X50 K d24_103 rfl ?_))))
  have hc104_51 : rs0 = (0 : Int64) := yz0
  refine g_ifN X50 K d24_104 ((if0 _ _).trans (teq ((lw_eq rs0 (0 : Int64)).mpr hc104_51)).2) (g_goto X50 K 214 d24_107 (by decide) (g_ag X50 K e50 12 rfl xb35.2.1 d24_214 d24_215 rfl fun T52 X52 e52 => g_iload X52 K d24_218 rfl (g_iaload X52 K e52 q46 d24_220 (by decide) (v := (.int (-1))) rfl (g_istore X52 K d24_221 (L' := #[rv x0, iv 0, iv 1, iv 0, iv (-1), iv 0, iv 1, uu, uu, uu, uu]) rfl (g_goto X52 K 66 d24_223 (by decide) (g_iload X52 K d24_66 rfl (g_ifY X52 K 226 d24_68 (by decide) ((if0 _ _).trans (tlt (by decide)).1) (g_goto X52 K 40 d24_226 (by decide) (g_ag X52 K e52 49 rfl xb35.2.2.2.2.2.2.2.2.2.1 d24_40 d24_41 rfl fun T54 X54 e54 => g_callV X54 K e54 184 186 34 188 185 187 rfl rfl rfl rfl rfl rfl (by decide) (rmhe0 l Z a0 hw hp T34.heap n0 (Nat.le_trans Z0 KK34.1) ⟨r34_0_0, r34_0_1, r34_0_2, r34_0_3, r34_0_4⟩) r34_0_0 d24_44 hml.symm (argsL := []) (lenOf pd_10 rfl) rfl 0 (Nat.le_of_ble_eq_true rfl) (by decide) fun v55 T55 Lc55 hQ55 X55 => ?_)))))))))
  obtain ⟨rfl, N55q, e55⟩ := hQ55
  have N55 := Fr.app N34 N55q
  dsimp only [Option.toList, List.cons_append, List.nil_append]
  refine g_ifY X55 K 229 d24_47 (by decide) ((if0 _ _).trans (feq (by decide)).2) ?_
  have q57 := ((V18.keep K28 na36).keep K34 na37)
  have q58 := ((((r6_0.keep K14 na38).other W18 (own_on nb0_24 8 7 rfl rfl)).keep K28 na39).keep K34 na40)
  have q59 := (r28_1.keep K34 na41)
  exact g_lv0 X55 K hlk hrt hR d24_229 (by decide) (by rw [e55]; exact ⟨(-1 : Int32), (-1 : Int32), (0 : Int32), hn1, rfl, N55, KK34, q57, q58, ⟨r34_0_0, r34_0_1, r34_0_2, r34_0_3, r34_0_4⟩, q59, r34_1⟩)
def Qsr2 (Z : State) (x0 : Addr) (nx : Addr) (tg : Addr) (rs : Addr) (co : Addr) (fi : Addr) (po : Addr) (di : Addr) (pa : Addr) (hp : Addr) (hn : Addr) (hq : Addr) (qu : Addr) (qd : Addr) (lw : Addr) (sk : Addr) (cu : Addr) (vi : Addr) (ar : Int32) (ac : Int64) (fc : Int64) (vl : Int32) (so : Int32) (si : Int32) (vt : Int64) (k0 : Int64) (k1 : Int64) (kfi : ClassId) (knx : ClassId) (ktg : ClassId) (kco : ClassId) (krs : ClassId) (kdi : ClassId) (kpa : ClassId) (khn : ClassId) (rs0 : Int64) (rs1 : Int64) (rs2 : Int64) (rs3 : Int64) (di0 : Int64) (di1 : Int64) (pa0 : Int32) (pa1 : Int32) (hn0 : Int32) (hn1 : Int32) (kpo : ClassId) (po1 : Int64) (khq : ClassId) (h0 : Heap) (n0 : Nat) (v : Option Value) (h : Heap) (L : List Loc) : Prop := ∃ (e0 : Int32), ∃ (e1 : Int32), ∃ (e2 : Int32), ∃ (e3 : Int32), v = none ∧ Fr n0 L ∧ Keep h0 h [di, pa, hp, hn, hq] ∧ Arv Z h di kdi .long (2 : Int32) [(.long 0), (.long ((0 : Int64) + ((k1 + (0 : Int64)) - po1)))] (.long 0) ∧ Arv Z h pa kpa .int (2 : Int32) [(.int e0), (.int e1)] (.int 0) ∧ own_HP Z h n0 hp di hn hq (0 : Int32) ∧ Arv Z h hn khn .int (2 : Int32) [(.int e2), (.int e3)] (.int 0) ∧ Arv Z h hq khq .int (2 : Int32) [(.int (-1)), (.int (-1))] (.int 0)
theorem ef_sr2 (m : MethodId) (x0 : Addr) : entryFrame m #[(.ref x0), (.int 0), (.int 1)] 11 = mkF m 0 #[rv x0, iv 0, iv 1, .unset, .unset, .unset, .unset, .unset, .unset, .unset, .unset] [] := by first | (simp [entryFrame, mkF, argsToLocals, Value.category]; done) | rfl
set_option maxRecDepth 65536 in
set_option maxHeartbeats 40000000 in
theorem rmsr2 (l : Launch) (Z : State) (a0 : Array Value) (hw : ∀ d ∈ tables_1, d.before a0 Z = true) (x0 : Addr) {nx : Addr} {tg : Addr} {rs : Addr} {co : Addr} {fi : Addr} {po : Addr} {di : Addr} {pa : Addr} {hp : Addr} {hn : Addr} {hq : Addr} {qu : Addr} {qd : Addr} {lw : Addr} {sk : Addr} {cu : Addr} {vi : Addr} {ar : Int32} {ac : Int64} {fc : Int64} {vl : Int32} {so : Int32} {si : Int32} {vt : Int64} {k0 : Int64} {k1 : Int64} {kfi : ClassId} {knx : ClassId} {ktg : ClassId} {kco : ClassId} {krs : ClassId} {kdi : ClassId} {kpa : ClassId} {khn : ClassId} {rs0 : Int64} {rs1 : Int64} {rs2 : Int64} {rs3 : Int64} {di0 : Int64} {di1 : Int64} {pa0 : Int32} {pa1 : Int32} {hn0 : Int32} {hn1 : Int32} {kpo : ClassId} {po1 : Int64} {khq : ClassId} (h0 : Heap) (n0 : Nat) (Z0 : n0 ≤ h0.size) (pre_own_XF : own_XF Z h0 n0 x0 nx tg rs co fi po di pa hp hn hq qu qd lw sk cu vi ar ac fc vl so si vt) (pre_A_fi : Arv Z h0 fi kfi .int (2 : Int32) [(.int 2), (.int 3)] (.int 0)) (pre_A_nx : Arv Z h0 nx knx .int (16 : Int32) [(.int (-1)), (.int (-1)), (.int 0), (.int 1)] (.int 0)) (pre_A_tg : Arv Z h0 tg ktg .int (16 : Int32) [(.int 1), (.int 0), (.int 1), (.int 0)] (.int 0)) (pre_A_co : Arv Z h0 co kco .long (16 : Int32) [(.long k0), (.long (-k0)), (.long k1), (.long (-k1))] (.long 0)) (pre_A_rs : Arv Z h0 rs krs .long (16 : Int32) [(.long rs0), (.long rs1), (.long rs2), (.long rs3)] (.long 0)) (pre_A_po : Arv Z h0 po kpo .long (2 : Int32) [(.long 0), (.long po1)] (.long 0)) (pre_own_HP : own_HP Z h0 n0 hp di hn hq (0 : Int32)) (pre_A_hn : Arv Z h0 hn khn .int (2 : Int32) [(.int hn0), (.int hn1)] (.int 0)) (pre_A_hq : Arv Z h0 hq khq .int (2 : Int32) [(.int (-1)), (.int (-1))] (.int 0)) (pre_A_di : Arv Z h0 di kdi .long (2 : Int32) [(.long di0), (.long di1)] (.long 0)) (pre_A_pa : Arv Z h0 pa kpa .int (2 : Int32) [(.int pa0), (.int pa1)] (.int 0)) (yz2 : ¬ (rs2 = (0 : Int64))) (yz0 : rs0 = (0 : Int64)) (yb2 : ((0 : Int64) + ((k1 + (0 : Int64)) - po1)) < (9223372036854775807 : Int64)) (yz3 : ¬ (rs3 = (0 : Int64)) → ¬ ((((0 : Int64) + ((k1 + (0 : Int64)) - po1)) + (((-k1) + po1) - (0 : Int64))) < (0 : Int64))) (yz1 : ¬ (rs1 = (0 : Int64)) → ¬ ((((0 : Int64) + ((k1 + (0 : Int64)) - po1)) + (((-k0) + po1) - (0 : Int64))) < (0 : Int64))) :
    own_M l (⟨"com/example/violarc/violarc/graph/FlowNetwork", "search", "(IZ)V"⟩ : MethodName) c24 11 none ({ frames := 3, cells := 0, slots := 0, locals := 43 } : Room) #[(.ref x0), (.int 0), (.int 1)] Z h0 (Qsr2 Z x0 nx tg rs co fi po di pa hp hn hq qu qd lw sk cu vi ar ac fc vl so si vt k0 k1 kfi knx ktg kco krs kdi kpa khn rs0 rs1 rs2 rs3 di0 di1 pa0 pa1 hn0 hn1 kpo po1 khq h0 n0) := by
  refine MetFree.of_bodySF (plainFor_of_name pn_24) hisR ?_
  intro p e s m args below meth c s₁ Bd hml0 hP hK
  obtain ⟨rfl, hZ, hh⟩ := hP
  have hx := Bd.exec
  have hby := Bd.bytes
  have hml : c.maxLocals = 11 := hml0
  have hown : s.vm.findClass "com/example/violarc/violarc/graph/FlowNetwork" = some m.cls := findClass_of_methodNamed Bd.named
  have hnm := (name_of_methodNamed Bd.named Bd.method).1
  have X0 : Stand p l e ({ frames := 3, cells := 0, slots := 0, locals := 43 } : Room) s m #[(.ref x0), (.int 0), (.int 1)] below meth c s₁ [] 0 0 := Stand.of_body Bd
  have e0 : s₁.heap = h0 := by rw [← hh, Bd.state]; rfl
  have N0 := Fr.nil n0
  have Kp0 := Keep.refl h0 [di, pa, hp, hn, hq]
  have hlk := BodyLoose.notSynchronized Bd
  have hrt := Bd.returns
  have K : own_K p c c24 Z s "com/example/violarc/violarc/graph/FlowNetwork" m a0 := ⟨hx, hby, hZ, hown, hw⟩
  refine gStart (S' := s₁.setTop (mkF m 0 #[rv x0, iv 0, iv 1, uu, uu, uu, uu, uu, uu, uu, uu] [])) (congrArg (fun f => s₁.setTop f) (ef_sr2 m x0)) fun Rp hR => ?_
  obtain ⟨nb0_0, nb0_1, nb0_2, nb0_3, nb0_4, nb0_5, nb0_6, nb0_7, nb0_8, nb0_9, nb0_10, nb0_11, nb0_12, nb0_13, nb0_14, nb0_15, nb0_16, nb0_17, nb0_18, nb0_19, nb0_20, nb0_21, nb0_22, nb0_23, nb0_24⟩ := id pre_own_XF
  obtain ⟨nb1_0, nb1_1, nb1_2, nb1_3, nb1_4⟩ := id pre_own_HP
  have na0 : x0 ∉ [di] := own_nin nb0_24 0 rfl [7] _ rfl (by decide)
  have na1 : pa ∉ [di] := own_nin nb0_24 8 rfl [7] _ rfl (by decide)
  have na2 : x0 ∉ [pa] := own_nin nb0_24 0 rfl [8] _ rfl (by decide)
  have na3 : hp ∉ [di] := own_nin nb0_24 9 rfl [7] _ rfl (by decide)
  have na4 : hp ∉ [pa] := own_nin nb0_24 9 rfl [8] _ rfl (by decide)
  have na5 : x0 ∉ [hp] := own_nin nb0_24 0 rfl [9] _ rfl (by decide)
  have na6 : di ∉ [pa] := own_nin nb0_24 7 rfl [8] _ rfl (by decide)
  have na7 : di ∉ [hp] := own_nin nb0_24 7 rfl [9] _ rfl (by decide)
  have na8 : hn ∉ [di] := own_nin nb0_24 10 rfl [7] _ rfl (by decide)
  have na9 : hn ∉ [pa] := own_nin nb0_24 10 rfl [8] _ rfl (by decide)
  have na10 : hn ∉ [hp] := own_nin nb0_24 10 rfl [9] _ rfl (by decide)
  have na11 : hq ∉ [di] := own_nin nb0_24 11 rfl [7] _ rfl (by decide)
  have na12 : hq ∉ [pa] := own_nin nb0_24 11 rfl [8] _ rfl (by decide)
  have na13 : hq ∉ [hp] := own_nin nb0_24 11 rfl [9] _ rfl (by decide)
  have na14 : x0 ∉ [hp, hn, hq] := own_nin nb0_24 0 rfl [9, 10, 11] _ rfl (by decide)
  have na15 : x0 ∉ [hp, hq] := own_nin nb0_24 0 rfl [9, 11] _ rfl (by decide)
  have na16 : fi ∉ [di] := own_nin nb0_24 5 rfl [7] _ rfl (by decide)
  have na17 : fi ∉ [pa] := own_nin nb0_24 5 rfl [8] _ rfl (by decide)
  have na18 : fi ∉ [hp] := own_nin nb0_24 5 rfl [9] _ rfl (by decide)
  have na19 : fi ∉ [hp, hn, hq] := own_nin nb0_24 5 rfl [9, 10, 11] _ rfl (by decide)
  have na20 : fi ∉ [hp, hq] := own_nin nb0_24 5 rfl [9, 11] _ rfl (by decide)
  have na21 : tg ∉ [di] := own_nin nb0_24 2 rfl [7] _ rfl (by decide)
  have na22 : tg ∉ [pa] := own_nin nb0_24 2 rfl [8] _ rfl (by decide)
  have na23 : tg ∉ [hp] := own_nin nb0_24 2 rfl [9] _ rfl (by decide)
  have na24 : tg ∉ [hp, hn, hq] := own_nin nb0_24 2 rfl [9, 10, 11] _ rfl (by decide)
  have na25 : tg ∉ [hp, hq] := own_nin nb0_24 2 rfl [9, 11] _ rfl (by decide)
  have na26 : rs ∉ [di] := own_nin nb0_24 3 rfl [7] _ rfl (by decide)
  have na27 : rs ∉ [pa] := own_nin nb0_24 3 rfl [8] _ rfl (by decide)
  have na28 : rs ∉ [hp] := own_nin nb0_24 3 rfl [9] _ rfl (by decide)
  have na29 : rs ∉ [hp, hn, hq] := own_nin nb0_24 3 rfl [9, 10, 11] _ rfl (by decide)
  have na30 : rs ∉ [hp, hq] := own_nin nb0_24 3 rfl [9, 11] _ rfl (by decide)
  have na31 : co ∉ [di] := own_nin nb0_24 4 rfl [7] _ rfl (by decide)
  have na32 : co ∉ [pa] := own_nin nb0_24 4 rfl [8] _ rfl (by decide)
  have na33 : co ∉ [hp] := own_nin nb0_24 4 rfl [9] _ rfl (by decide)
  have na34 : co ∉ [hp, hn, hq] := own_nin nb0_24 4 rfl [9, 10, 11] _ rfl (by decide)
  have na35 : co ∉ [hp, hq] := own_nin nb0_24 4 rfl [9, 11] _ rfl (by decide)
  have na36 : po ∉ [di] := own_nin nb0_24 6 rfl [7] _ rfl (by decide)
  have na37 : po ∉ [pa] := own_nin nb0_24 6 rfl [8] _ rfl (by decide)
  have na38 : po ∉ [hp] := own_nin nb0_24 6 rfl [9] _ rfl (by decide)
  have na39 : po ∉ [hp, hn, hq] := own_nin nb0_24 6 rfl [9, 10, 11] _ rfl (by decide)
  have na40 : po ∉ [hp, hq] := own_nin nb0_24 6 rfl [9, 11] _ rfl (by decide)
  have na41 : di ∉ [hp, hn, hq] := own_nin nb0_24 7 rfl [9, 10, 11] _ rfl (by decide)
  have na42 : di ∉ [hp, hq] := own_nin nb0_24 7 rfl [9, 11] _ rfl (by decide)
  have na43 : pa ∉ [hp] := own_nin nb0_24 8 rfl [9] _ rfl (by decide)
  have na44 : pa ∉ [hp, hn, hq] := own_nin nb0_24 8 rfl [9, 10, 11] _ rfl (by decide)
  have na45 : pa ∉ [hp, hq] := own_nin nb0_24 8 rfl [9, 11] _ rfl (by decide)
  have na46 : hn ∉ [hp, hq] := own_nin nb0_24 10 rfl [9, 11] _ rfl (by decide)
  have na47 : nx ∉ [di] := own_nin nb0_24 1 rfl [7] _ rfl (by decide)
  have na48 : nx ∉ [pa] := own_nin nb0_24 1 rfl [8] _ rfl (by decide)
  have na49 : nx ∉ [hp] := own_nin nb0_24 1 rfl [9] _ rfl (by decide)
  have na50 : nx ∉ [hp, hn, hq] := own_nin nb0_24 1 rfl [9, 10, 11] _ rfl (by decide)
  have na51 : nx ∉ [hp, hq] := own_nin nb0_24 1 rfl [9, 11] _ rfl (by decide)
  refine g_ag X0 K e0 28 rfl pre_own_XF.2.2.2.2.2.2.2.1 d24_0 d24_1 rfl fun T1 X1 e1 => g_ldc2 X1 K 163 rfl d24_4 (z := (9223372036854775807 : Int64)) rfl (g_callS X1 K e1 108 109 47 110 rfl rfl rfl rfl (by decide) (rm14 l Z a0 hw (9223372036854775807 : Int64) h0 n0 Z0 pre_A_di (own_ong nb0_24 nb0_23 7 rfl)) d24_7 hml.symm (argsL := [(.ref di), (.long 9223372036854775807)]) (lenOf pd_7 rfl) rfl 0 (Nat.le_of_ble_eq_true rfl) (by decide) fun v2 T2 Lc2 hQ2 X2 => ?_)
  obtain ⟨rfl, N2q, K2, r2_0⟩ := hQ2
  have N2 := Fr.app N0 N2q
  have KK2 := Kp0.trans K2 (own_al [0] rfl)
  dsimp only [Option.toList, List.cons_append, List.nil_append]
  have xb3 := own_XF_keep pre_own_XF K2 na0
  refine g_ag X2 K rfl 30 rfl xb3.2.2.2.2.2.2.2.2.1 d24_10 d24_11 rfl fun T4 X4 e4 => g_iconst X4 K d24_14 (z := -1) rfl ?_
  have q5 := (pre_A_pa.keep K2 na1)
  refine g_callS X4 K e4 64 46 47 48 rfl rfl rfl rfl (by decide) (rm4 l Z a0 hw (-1 : Int32) T2.heap n0 (Nat.le_trans Z0 KK2.1) q5 (own_ong nb0_24 nb0_23 8 rfl)) d24_15 hml.symm (argsL := [(.ref pa), (.int (-1))]) (lenOf pd_0 rfl) rfl 0 (Nat.le_of_ble_eq_true rfl) (by decide) fun v6 T6 Lc6 hQ6 X6 => ?_
  obtain ⟨rfl, N6q, K6, r6_0⟩ := hQ6
  have N6 := Fr.app N2 N6q
  have KK6 := KK2.trans K6 (own_al [1] rfl)
  dsimp only [Option.toList, List.cons_append, List.nil_append]
  have xb7 := own_XF_keep xb3 K6 na2
  refine g_ag X6 K rfl 49 rfl xb7.2.2.2.2.2.2.2.2.2.1 d24_18 d24_19 rfl fun T8 X8 e8 => ?_
  have q9 := ((nb1_0.keep K2).keep K6)
  have q10 := ((nb1_1.keep K2 na3).keep K6 na4)
  have q11 := ((nb1_2.keep K2 na3).keep K6 na4)
  have q12 := ((nb1_3.keep K2 na3).keep K6 na4)
  have q13 := ((nb1_4.keep K2 na3).keep K6 na4)
  refine g_callV X8 K e8 164 166 34 168 165 167 rfl rfl rfl rfl rfl rfl (by decide) (rm25 l Z a0 hw hp T6.heap n0 (Nat.le_trans Z0 KK6.1) ⟨q9, q10, q11, q12, q13⟩ (own_ong nb0_24 nb0_23 9 rfl)) q9 d24_22 hml.symm (argsL := []) (lenOf pd_9 rfl) rfl 0 (Nat.le_of_ble_eq_true rfl) (by decide) fun v14 T14 Lc14 hQ14 X14 => ?_
  obtain ⟨rfl, N14q, K14, ⟨r14_0_0, r14_0_1, r14_0_2, r14_0_3, r14_0_4⟩⟩ := hQ14
  have N14 := Fr.app N6 N14q
  have KK14 := KK6.trans K14 (own_al [2] rfl)
  dsimp only [Option.toList, List.cons_append, List.nil_append]
  have xb15 := own_XF_keep xb7 K14 na5
  refine g_ag X14 K rfl 28 rfl xb15.2.2.2.2.2.2.2.1 d24_25 d24_26 rfl fun T16 X16 e16 => g_iloadN X16 K d24_29 rfl (g_lconst X16 K d24_30 (z := 0) rfl ?_)
  have q17 := ((r2_0.keep K6 na6).keep K14 na7)
  refine g_lastore X16 K e16 q17 d24_31 (by decide) 0 ⟨rfl, Nat.le_of_ble_eq_true rfl⟩ (w := [(.long 0), (.long 9223372036854775807)]) rfl rfl fun T18 h18 X18 e18 W18 V18 => ?_
  have N18 := Fr.snoc X18 N14 (own_ong nb0_24 nb0_23 7 rfl)
  have KK18 := KK14.wr W18 (Or.inl (List.mem_of_getElem? (i := 0) rfl))
  have xb19 := own_XF_wr xb15 W18 (own_on nb0_24 0 7 rfl rfl)
  refine g_ag X18 K e18 49 rfl xb19.2.2.2.2.2.2.2.2.2.1 d24_32 d24_33 rfl fun T20 X20 e20 => g_iloadN X20 K d24_36 rfl ?_
  have q21 := (r14_0_0.wr W18)
  have q22 := (r14_0_1.other W18 (Or.inl (own_on nb0_24 9 7 rfl rfl)))
  have q23 := (r14_0_2.other W18 (Or.inl (own_on nb0_24 9 7 rfl rfl)))
  have q24 := (r14_0_3.other W18 (Or.inl (own_on nb0_24 9 7 rfl rfl)))
  have q25 := (r14_0_4.other W18 (Or.inl (own_on nb0_24 9 7 rfl rfl)))
  have q26 := ((((pre_A_hn.keep K2 na8).keep K6 na9).keep K14 na10).other W18 (own_on nb0_24 10 7 rfl rfl))
  have q27 := ((((pre_A_hq.keep K2 na11).keep K6 na12).keep K14 na13).other W18 (own_on nb0_24 11 7 rfl rfl))
  refine g_callV X20 K e20 171 173 34 175 172 174 rfl rfl rfl rfl rfl rfl (by decide) (rmhp0 l Z a0 hw hp h18 n0 (Nat.le_trans Z0 KK18.1) ⟨q21, q22, q23, q24, q25⟩ q26 q27 (own_ong nb0_24 nb0_23 9 rfl) (own_ong nb0_24 nb0_23 10 rfl) (own_ong nb0_24 nb0_23 11 rfl) (own_on nb0_24 9 10 rfl rfl) (own_on nb0_24 9 11 rfl rfl) (own_on nb0_24 10 11 rfl rfl)) q21 d24_37 hml.symm (argsL := [(.int 0)]) (lenOf pd_3 rfl) rfl 0 (Nat.le_of_ble_eq_true rfl) (by decide) fun v28 T28 Lc28 hQ28 X28 => ?_
  obtain ⟨rfl, N28q, K28, ⟨r28_0_0, r28_0_1, r28_0_2, r28_0_3, r28_0_4⟩, r28_1, r28_2⟩ := hQ28
  have N28 := Fr.app N18 N28q
  have KK28 := KK18.trans K28 (own_al [2, 3, 4] rfl)
  dsimp only [Option.toList, List.cons_append, List.nil_append]
  have xb29 := own_XF_keep xb19 K28 na14
  refine g_ag X28 K rfl 49 rfl xb29.2.2.2.2.2.2.2.2.2.1 d24_40 d24_41 rfl fun T30 X30 e30 => g_callV X30 K e30 184 186 34 188 185 187 rfl rfl rfl rfl rfl rfl (by decide) (rmhe1 l Z a0 hw hp T28.heap n0 (Nat.le_trans Z0 KK28.1) ⟨r28_0_0, r28_0_1, r28_0_2, r28_0_3, r28_0_4⟩) r28_0_0 d24_44 hml.symm (argsL := []) (lenOf pd_10 rfl) rfl 0 (Nat.le_of_ble_eq_true rfl) (by decide) fun v31 T31 Lc31 hQ31 X31 => ?_
  obtain ⟨rfl, N31q, e31⟩ := hQ31
  have N31 := Fr.app N28 N31q
  dsimp only [Option.toList, List.cons_append, List.nil_append]
  refine g_ifN X31 K d24_47 ((if0 _ _).trans (teq (by decide)).2) (g_ag X31 K e31 49 rfl xb29.2.2.2.2.2.2.2.2.2.1 d24_50 d24_51 rfl fun T33 X33 e33 => g_callV X33 K e33 189 191 34 193 190 192 rfl rfl rfl rfl rfl rfl (by decide) (rmpo0 l Z a0 hw hp T28.heap n0 (Nat.le_trans Z0 KK28.1) ⟨r28_0_0, r28_0_1, r28_0_2, r28_0_3, r28_0_4⟩ r28_1 r28_2 (own_ong nb0_24 nb0_23 9 rfl) (own_ong nb0_24 nb0_23 10 rfl) (own_ong nb0_24 nb0_23 11 rfl) (own_on nb0_24 9 10 rfl rfl) (own_on nb0_24 9 11 rfl rfl) (own_on nb0_24 10 11 rfl rfl)) r28_0_0 d24_54 hml.symm (argsL := []) (lenOf pd_11 rfl) rfl 0 (Nat.le_of_ble_eq_true rfl) (by decide) fun v34 T34 Lc34 hQ34 X34 => ?_)
  obtain ⟨rfl, N34q, K34, ⟨r34_0_0, r34_0_1, r34_0_2, r34_0_3, r34_0_4⟩, r34_1⟩ := hQ34
  have N34 := Fr.app N31 N34q
  have KK34 := KK28.trans K34 (own_al [2, 4] rfl)
  dsimp only [Option.toList, List.cons_append, List.nil_append]
  refine g_istoreN X34 K d24_57 (L' := #[rv x0, iv 0, iv 1, iv 0, uu, uu, uu, uu, uu, uu, uu]) rfl ?_
  have xb35 := own_XF_keep xb29 K34 na15
  refine g_ag X34 K rfl 24 rfl xb35.2.2.2.2.2.1 d24_58 d24_59 rfl fun T36 X36 e36 => g_iloadN X36 K d24_62 rfl ?_
  have q37 := ((((((pre_A_fi.keep K2 na16).keep K6 na17).keep K14 na18).other W18 (own_on nb0_24 5 7 rfl rfl)).keep K28 na19).keep K34 na20)
  refine g_iaload X36 K e36 q37 d24_63 (by decide) (v := (.int 2)) rfl (g_istore X36 K d24_64 (L' := #[rv x0, iv 0, iv 1, iv 0, iv 2, uu, uu, uu, uu, uu, uu]) rfl (g_iload X36 K d24_66 rfl (g_ifN X36 K d24_68 ((if0 _ _).trans (flt (by decide)).1) (g_iloadN X36 K d24_71 rfl (g_ifN X36 K d24_72 ((if0 _ _).trans (feq (by decide)).1) (g_iload X36 K d24_75 rfl (g_goto X36 K 84 d24_77 (by decide) (g_istore X36 K d24_84 (L' := #[rv x0, iv 0, iv 1, iv 0, iv 2, iv 2, uu, uu, uu, uu, uu]) rfl (g_ag X36 K e36 14 rfl xb35.2.2.1 d24_86 d24_87 rfl fun T40 X40 e40 => g_iload X40 K d24_90 rfl ?_)))))))))
  have q41 := ((((((pre_A_tg.keep K2 na21).keep K6 na22).keep K14 na23).other W18 (own_on nb0_24 2 7 rfl rfl)).keep K28 na24).keep K34 na25)
  refine g_iaload X40 K e40 q41 d24_92 (by decide) (v := (.int 1)) rfl (g_istore X40 K d24_93 (L' := #[rv x0, iv 0, iv 1, iv 0, iv 2, iv 2, iv 1, uu, uu, uu, uu]) rfl (g_ag X40 K e40 16 rfl xb35.2.2.2.1 d24_95 d24_96 rfl fun T42 X42 e42 => g_iload X42 K d24_99 rfl ?_))
  have q43 := ((((((pre_A_rs.keep K2 na26).keep K6 na27).keep K14 na28).other W18 (own_on nb0_24 3 7 rfl rfl)).keep K28 na29).keep K34 na30)
  refine g_laload X42 K e42 q43 d24_101 (by decide) (v := (.long rs2)) rfl (g_lconst X42 K d24_102 (z := 0) rfl (g_lcmp X42 K d24_103 rfl ?_))
  have hc104_44 : ¬ (rs2 = (0 : Int64)) := yz2
  refine g_ifY X42 K 110 d24_104 (by decide) ((if0 _ _).trans (feq (fun q => hc104_44 ((lw_eq rs2 (0 : Int64)).mp q))).2) (g_iloadN X42 K d24_110 rfl (g_ifN X42 K d24_111 ((if0 _ _).trans (feq (by decide)).1) (g_ag X42 K e42 18 rfl xb35.2.2.2.2.1 d24_114 d24_115 rfl fun T46 X46 e46 => g_iload X46 K d24_118 rfl ?_)))
  have q47 := ((((((pre_A_co.keep K2 na31).keep K6 na32).keep K14 na33).other W18 (own_on nb0_24 4 7 rfl rfl)).keep K28 na34).keep K34 na35)
  refine g_laload X46 K e46 q47 d24_120 (by decide) (v := (.long k1)) rfl (g_ag X46 K e46 26 rfl xb35.2.2.2.2.2.2.1 d24_121 d24_122 rfl fun T48 X48 e48 => g_iloadN X48 K d24_125 rfl ?_)
  have q49 := ((((((pre_A_po.keep K2 na36).keep K6 na37).keep K14 na38).other W18 (own_on nb0_24 6 7 rfl rfl)).keep K28 na39).keep K34 na40)
  refine g_laload X48 K e48 q49 d24_126 (by decide) (v := (.long 0)) rfl (g_ladd X48 K d24_127 rfl (g_ag X48 K e48 26 rfl xb35.2.2.2.2.2.2.1 d24_128 d24_129 rfl fun T50 X50 e50 => g_iload X50 K d24_132 rfl (g_laload X50 K e50 q49 d24_134 (by decide) (v := (.long po1)) rfl (g_lsub X50 K d24_135 rfl (g_goto X50 K 161 d24_136 (by decide) (g_lstore X50 K d24_161 (L' := #[rv x0, iv 0, iv 1, iv 0, iv 2, iv 2, iv 1, lv ((k1 + (0 : Int64)) - po1), .second, uu, uu]) rfl (g_ag X50 K e50 28 rfl xb35.2.2.2.2.2.2.2.1 d24_163 d24_164 rfl fun T51 X51 e51 => g_iloadN X51 K d24_167 rfl ?_)))))))
  have q52 := ((V18.keep K28 na41).keep K34 na42)
  refine g_laload X51 K e51 q52 d24_168 (by decide) (v := (.long 0)) rfl (g_lload X51 K d24_169 rfl (g_ladd X51 K d24_171 rfl (g_lstore X51 K d24_172 (L' := #[rv x0, iv 0, iv 1, iv 0, iv 2, iv 2, iv 1, lv ((k1 + (0 : Int64)) - po1), .second, lv ((0 : Int64) + ((k1 + (0 : Int64)) - po1)), .second]) rfl (g_lload X51 K d24_174 rfl (g_ag X51 K e51 28 rfl xb35.2.2.2.2.2.2.2.1 d24_176 d24_177 rfl fun T53 X53 e53 => g_iload X53 K d24_180 rfl (g_laload X53 K e53 q52 d24_182 (by decide) (v := (.long 9223372036854775807)) rfl (g_lcmp X53 K d24_183 rfl ?_)))))))
  have hc184_54 : ((0 : Int64) + ((k1 + (0 : Int64)) - po1)) < (9223372036854775807 : Int64) := yb2
  refine g_ifN X53 K d24_184 ((if0 _ _).trans (tlt ((lw_lt ((0 : Int64) + ((k1 + (0 : Int64)) - po1)) (9223372036854775807 : Int64)).mpr hc184_54)).2.1) (g_ag X53 K e53 28 rfl xb35.2.2.2.2.2.2.2.1 d24_187 d24_188 rfl fun T55 X55 e55 => g_iload X55 K d24_191 rfl (g_lload X55 K d24_193 rfl (g_lastore X55 K e55 q52 d24_195 (by decide) 1 ⟨rfl, Nat.le_of_ble_eq_true rfl⟩ (w := [(.long 0), (.long ((0 : Int64) + ((k1 + (0 : Int64)) - po1)))]) rfl rfl fun T56 h56 X56 e56 W56 V56 => ?_)))
  have N56 := Fr.snoc X56 N34 (own_ong nb0_24 nb0_23 7 rfl)
  have KK56 := KK34.wr W56 (Or.inl (List.mem_of_getElem? (i := 0) rfl))
  have xb57 := own_XF_wr xb35 W56 (own_on nb0_24 0 7 rfl rfl)
  refine g_ag X56 K e56 30 rfl xb57.2.2.2.2.2.2.2.2.1 d24_196 d24_197 rfl fun T58 X58 e58 => g_iload X58 K d24_200 rfl (g_iload X58 K d24_202 rfl ?_)
  have q59 := (((((r6_0.keep K14 na43).other W18 (own_on nb0_24 8 7 rfl rfl)).keep K28 na44).keep K34 na45).other W56 (own_on nb0_24 8 7 rfl rfl))
  refine g_iastore X58 K e58 q59 d24_204 (by decide) 1 ⟨rfl, Nat.le_of_ble_eq_true rfl⟩ (w := [(.int (-1)), (.int 2)]) rfl rfl fun T60 h60 X60 e60 W60 V60 => ?_
  have N60 := Fr.snoc X60 N56 (own_ong nb0_24 nb0_23 8 rfl)
  have KK60 := KK56.wr W60 (Or.inl (List.mem_of_getElem? (i := 1) rfl))
  have xb61 := own_XF_wr xb57 W60 (own_on nb0_24 0 8 rfl rfl)
  refine g_ag X60 K e60 49 rfl xb61.2.2.2.2.2.2.2.2.2.1 d24_205 d24_206 rfl fun T62 X62 e62 => g_iload X62 K d24_209 rfl ?_
  have q63 := ((r34_0_0.wr W56).wr W60)
  have q64 := ((r34_0_1.other W56 (Or.inl (own_on nb0_24 9 7 rfl rfl))).other W60 (Or.inl (own_on nb0_24 9 8 rfl rfl)))
  have q65 := ((r34_0_2.other W56 (Or.inl (own_on nb0_24 9 7 rfl rfl))).other W60 (Or.inl (own_on nb0_24 9 8 rfl rfl)))
  have q66 := ((r34_0_3.other W56 (Or.inl (own_on nb0_24 9 7 rfl rfl))).other W60 (Or.inl (own_on nb0_24 9 8 rfl rfl)))
  have q67 := ((r34_0_4.other W56 (Or.inl (own_on nb0_24 9 7 rfl rfl))).other W60 (Or.inl (own_on nb0_24 9 8 rfl rfl)))
  have q68 := (((r28_1.keep K34 na46).other W56 (own_on nb0_24 10 7 rfl rfl)).other W60 (own_on nb0_24 10 8 rfl rfl))
  have q69 := ((r34_1.other W56 (own_on nb0_24 11 7 rfl rfl)).other W60 (own_on nb0_24 11 8 rfl rfl))
  refine g_callV X62 K e62 171 173 34 175 172 174 rfl rfl rfl rfl rfl rfl (by decide) (rmhp1 l Z a0 hw hp h60 n0 (Nat.le_trans Z0 KK60.1) ⟨q63, q64, q65, q66, q67⟩ q68 q69 (own_ong nb0_24 nb0_23 9 rfl) (own_ong nb0_24 nb0_23 10 rfl) (own_ong nb0_24 nb0_23 11 rfl) (own_on nb0_24 9 10 rfl rfl) (own_on nb0_24 9 11 rfl rfl) (own_on nb0_24 10 11 rfl rfl)) q63 d24_211 hml.symm (argsL := [(.int 1)]) (lenOf pd_3 rfl) rfl 0 (Nat.le_of_ble_eq_true rfl) (by decide) fun v70 T70 Lc70 hQ70 X70 => ?_
  obtain ⟨rfl, N70q, K70, ⟨r70_0_0, r70_0_1, r70_0_2, r70_0_3, r70_0_4⟩, r70_1, r70_2⟩ := hQ70
  have N70 := Fr.app N60 N70q
  have KK70 := KK60.trans K70 (own_al [2, 3, 4] rfl)
  dsimp only [Option.toList, List.cons_append, List.nil_append]
  have xb71 := own_XF_keep xb61 K70 na14
  refine g_ag X70 K rfl 12 rfl xb71.2.1 d24_214 d24_215 rfl fun T72 X72 e72 => g_iload X72 K d24_218 rfl ?_
  have q73 := (((((((((pre_A_nx.keep K2 na47).keep K6 na48).keep K14 na49).other W18 (own_on nb0_24 1 7 rfl rfl)).keep K28 na50).keep K34 na51).other W56 (own_on nb0_24 1 7 rfl rfl)).other W60 (own_on nb0_24 1 8 rfl rfl)).keep K70 na50)
  refine g_iaload X72 K e72 q73 d24_220 (by decide) (v := (.int 0)) rfl (g_istore X72 K d24_221 (L' := #[rv x0, iv 0, iv 1, iv 0, iv 0, iv 2, iv 1, lv ((k1 + (0 : Int64)) - po1), .second, lv ((0 : Int64) + ((k1 + (0 : Int64)) - po1)), .second]) rfl (g_goto X72 K 66 d24_223 (by decide) (g_iload X72 K d24_66 rfl (g_ifN X72 K d24_68 ((if0 _ _).trans (flt (by decide)).1) (g_iloadN X72 K d24_71 rfl (g_ifN X72 K d24_72 ((if0 _ _).trans (feq (by decide)).1) (g_iload X72 K d24_75 rfl (g_goto X72 K 84 d24_77 (by decide) (g_istore X72 K d24_84 (L' := #[rv x0, iv 0, iv 1, iv 0, iv 0, iv 0, iv 1, lv ((k1 + (0 : Int64)) - po1), .second, lv ((0 : Int64) + ((k1 + (0 : Int64)) - po1)), .second]) rfl (g_ag X72 K e72 14 rfl xb71.2.2.1 d24_86 d24_87 rfl fun T76 X76 e76 => g_iload X76 K d24_90 rfl ?_))))))))))
  have q77 := (((q41.other W56 (own_on nb0_24 2 7 rfl rfl)).other W60 (own_on nb0_24 2 8 rfl rfl)).keep K70 na24)
  refine g_iaload X76 K e76 q77 d24_92 (by decide) (v := (.int 1)) rfl (g_istore X76 K d24_93 (L' := #[rv x0, iv 0, iv 1, iv 0, iv 0, iv 0, iv 1, lv ((k1 + (0 : Int64)) - po1), .second, lv ((0 : Int64) + ((k1 + (0 : Int64)) - po1)), .second]) rfl (g_ag X76 K e76 16 rfl xb71.2.2.2.1 d24_95 d24_96 rfl fun T78 X78 e78 => g_iload X78 K d24_99 rfl ?_))
  have q79 := (((q43.other W56 (own_on nb0_24 3 7 rfl rfl)).other W60 (own_on nb0_24 3 8 rfl rfl)).keep K70 na29)
  refine g_laload X78 K e78 q79 d24_101 (by decide) (v := (.long rs0)) rfl (g_lconst X78 K d24_102 (z := 0) rfl (g_lcmp X78 K d24_103 rfl ?_))
  have hc104_80 : rs0 = (0 : Int64) := yz0
  refine g_ifN X78 K d24_104 ((if0 _ _).trans (teq ((lw_eq rs0 (0 : Int64)).mpr hc104_80)).2) (g_goto X78 K 214 d24_107 (by decide) (g_ag X78 K e78 12 rfl xb71.2.1 d24_214 d24_215 rfl fun T81 X81 e81 => g_iload X81 K d24_218 rfl (g_iaload X81 K e81 q73 d24_220 (by decide) (v := (.int (-1))) rfl (g_istore X81 K d24_221 (L' := #[rv x0, iv 0, iv 1, iv 0, iv (-1), iv 0, iv 1, lv ((k1 + (0 : Int64)) - po1), .second, lv ((0 : Int64) + ((k1 + (0 : Int64)) - po1)), .second]) rfl (g_goto X81 K 66 d24_223 (by decide) (g_iload X81 K d24_66 rfl (g_ifY X81 K 226 d24_68 (by decide) ((if0 _ _).trans (tlt (by decide)).1) (g_goto X81 K 40 d24_226 (by decide) (g_ag X81 K e81 49 rfl xb71.2.2.2.2.2.2.2.2.2.1 d24_40 d24_41 rfl fun T83 X83 e83 => g_callV X83 K e83 184 186 34 188 185 187 rfl rfl rfl rfl rfl rfl (by decide) (rmhe1 l Z a0 hw hp T70.heap n0 (Nat.le_trans Z0 KK70.1) ⟨r70_0_0, r70_0_1, r70_0_2, r70_0_3, r70_0_4⟩) r70_0_0 d24_44 hml.symm (argsL := []) (lenOf pd_10 rfl) rfl 0 (Nat.le_of_ble_eq_true rfl) (by decide) fun v84 T84 Lc84 hQ84 X84 => ?_)))))))))
  obtain ⟨rfl, N84q, e84⟩ := hQ84
  have N84 := Fr.app N70 N84q
  dsimp only [Option.toList, List.cons_append, List.nil_append]
  refine g_ifN X84 K d24_47 ((if0 _ _).trans (teq (by decide)).2) (g_ag X84 K e84 49 rfl xb71.2.2.2.2.2.2.2.2.2.1 d24_50 d24_51 rfl fun T86 X86 e86 => g_callV X86 K e86 189 191 34 193 190 192 rfl rfl rfl rfl rfl rfl (by decide) (rmpo1 l Z a0 hw hp T70.heap n0 (Nat.le_trans Z0 KK70.1) ⟨r70_0_0, r70_0_1, r70_0_2, r70_0_3, r70_0_4⟩ r70_1 r70_2 (own_ong nb0_24 nb0_23 9 rfl) (own_ong nb0_24 nb0_23 10 rfl) (own_ong nb0_24 nb0_23 11 rfl) (own_on nb0_24 9 10 rfl rfl) (own_on nb0_24 9 11 rfl rfl) (own_on nb0_24 10 11 rfl rfl)) r70_0_0 d24_54 hml.symm (argsL := []) (lenOf pd_11 rfl) rfl 0 (Nat.le_of_ble_eq_true rfl) (by decide) fun v87 T87 Lc87 hQ87 X87 => ?_)
  obtain ⟨rfl, N87q, K87, ⟨r87_0_0, r87_0_1, r87_0_2, r87_0_3, r87_0_4⟩, r87_1⟩ := hQ87
  have N87 := Fr.app N84 N87q
  have KK87 := KK70.trans K87 (own_al [2, 4] rfl)
  dsimp only [Option.toList, List.cons_append, List.nil_append]
  refine g_istoreN X87 K d24_57 (L' := #[rv x0, iv 0, iv 1, iv 1, iv (-1), iv 0, iv 1, lv ((k1 + (0 : Int64)) - po1), .second, lv ((0 : Int64) + ((k1 + (0 : Int64)) - po1)), .second]) rfl ?_
  have xb88 := own_XF_keep xb71 K87 na15
  refine g_ag X87 K rfl 24 rfl xb88.2.2.2.2.2.1 d24_58 d24_59 rfl fun T89 X89 e89 => g_iloadN X89 K d24_62 rfl ?_
  have q90 := ((((q37.other W56 (own_on nb0_24 5 7 rfl rfl)).other W60 (own_on nb0_24 5 8 rfl rfl)).keep K70 na19).keep K87 na20)
  refine g_iaload X89 K e89 q90 d24_63 (by decide) (v := (.int 3)) rfl (g_istore X89 K d24_64 (L' := #[rv x0, iv 0, iv 1, iv 1, iv 3, iv 0, iv 1, lv ((k1 + (0 : Int64)) - po1), .second, lv ((0 : Int64) + ((k1 + (0 : Int64)) - po1)), .second]) rfl (g_iload X89 K d24_66 rfl (g_ifN X89 K d24_68 ((if0 _ _).trans (flt (by decide)).1) (g_iloadN X89 K d24_71 rfl (g_ifN X89 K d24_72 ((if0 _ _).trans (feq (by decide)).1) (g_iload X89 K d24_75 rfl (g_goto X89 K 84 d24_77 (by decide) (g_istore X89 K d24_84 (L' := #[rv x0, iv 0, iv 1, iv 1, iv 3, iv 3, iv 1, lv ((k1 + (0 : Int64)) - po1), .second, lv ((0 : Int64) + ((k1 + (0 : Int64)) - po1)), .second]) rfl (g_ag X89 K e89 14 rfl xb88.2.2.1 d24_86 d24_87 rfl fun T93 X93 e93 => g_iload X93 K d24_90 rfl ?_)))))))))
  have q94 := (q77.keep K87 na25)
  refine g_iaload X93 K e93 q94 d24_92 (by decide) (v := (.int 0)) rfl (g_istore X93 K d24_93 (L' := #[rv x0, iv 0, iv 1, iv 1, iv 3, iv 3, iv 0, lv ((k1 + (0 : Int64)) - po1), .second, lv ((0 : Int64) + ((k1 + (0 : Int64)) - po1)), .second]) rfl (g_ag X93 K e93 16 rfl xb88.2.2.2.1 d24_95 d24_96 rfl fun T95 X95 e95 => g_iload X95 K d24_99 rfl ?_))
  have q96 := (q79.keep K87 na30)
  refine g_laload X95 K e95 q96 d24_101 (by decide) (v := (.long rs3)) rfl (g_lconst X95 K d24_102 (z := 0) rfl (g_lcmp X95 K d24_103 rfl ?_))
  have J97 : ∀ (T97 : State) (L97 : List Loc) (v97_0 : Int64) (v97_1 : Int64), Stand p l e ({ frames := 3, cells := 0, slots := 0, locals := 43 } : Room) s m #[(.ref x0), (.int 0), (.int 1)] below meth c T97 L97 0 0 → Fr n0 L97 → T97.heap = T87.heap → Gl p e below Rp (T97.setTop (mkF m 214 #[rv x0, iv 0, iv 1, iv 1, iv 3, iv 3, iv 0, lv v97_0, .second, lv v97_1, .second] [])) := by
   intro T97 L97 v97_0 v97_1 X97 N97 e97
   refine g_ag X97 K e97 12 rfl xb88.2.1 d24_214 d24_215 rfl fun T98 X98 e98 => g_iload X98 K d24_218 rfl ?_
   have q99 := (q73.keep K87 na51)
   refine g_iaload X98 K e98 q99 d24_220 (by decide) (v := (.int 1)) rfl (g_istore X98 K d24_221 (L' := #[rv x0, iv 0, iv 1, iv 1, iv 1, iv 3, iv 0, lv v97_0, .second, lv v97_1, .second]) rfl (g_goto X98 K 66 d24_223 (by decide) (g_iload X98 K d24_66 rfl (g_ifN X98 K d24_68 ((if0 _ _).trans (flt (by decide)).1) (g_iloadN X98 K d24_71 rfl (g_ifN X98 K d24_72 ((if0 _ _).trans (feq (by decide)).1) (g_iload X98 K d24_75 rfl (g_goto X98 K 84 d24_77 (by decide) (g_istore X98 K d24_84 (L' := #[rv x0, iv 0, iv 1, iv 1, iv 1, iv 1, iv 0, lv v97_0, .second, lv v97_1, .second]) rfl (g_ag X98 K e98 14 rfl xb88.2.2.1 d24_86 d24_87 rfl fun T102 X102 e102 => g_iload X102 K d24_90 rfl (g_iaload X102 K e102 q94 d24_92 (by decide) (v := (.int 0)) rfl ?_)))))))))))
   refine g_istore X102 K d24_93 (L' := #[rv x0, iv 0, iv 1, iv 1, iv 1, iv 1, iv 0, lv v97_0, .second, lv v97_1, .second]) rfl (g_ag X102 K e102 16 rfl xb88.2.2.2.1 d24_95 d24_96 rfl fun T103 X103 e103 => g_iload X103 K d24_99 rfl (g_laload X103 K e103 q96 d24_101 (by decide) (v := (.long rs1)) rfl (g_lconst X103 K d24_102 (z := 0) rfl (g_lcmp X103 K d24_103 rfl ?_))))
   have J104 : ∀ (T104 : State) (L104 : List Loc) (v104_0 : Int64) (v104_1 : Int64), Stand p l e ({ frames := 3, cells := 0, slots := 0, locals := 43 } : Room) s m #[(.ref x0), (.int 0), (.int 1)] below meth c T104 L104 0 0 → Fr n0 L104 → T104.heap = T87.heap → Gl p e below Rp (T104.setTop (mkF m 214 #[rv x0, iv 0, iv 1, iv 1, iv 1, iv 1, iv 0, lv v104_0, .second, lv v104_1, .second] [])) := by
    intro T104 L104 v104_0 v104_1 X104 N104 e104
    refine g_ag X104 K e104 12 rfl xb88.2.1 d24_214 d24_215 rfl fun T105 X105 e105 => g_iload X105 K d24_218 rfl (g_iaload X105 K e105 q99 d24_220 (by decide) (v := (.int (-1))) rfl (g_istore X105 K d24_221 (L' := #[rv x0, iv 0, iv 1, iv 1, iv (-1), iv 1, iv 0, lv v104_0, .second, lv v104_1, .second]) rfl (g_goto X105 K 66 d24_223 (by decide) (g_iload X105 K d24_66 rfl (g_ifY X105 K 226 d24_68 (by decide) ((if0 _ _).trans (tlt (by decide)).1) (g_goto X105 K 40 d24_226 (by decide) (g_ag X105 K e105 49 rfl xb88.2.2.2.2.2.2.2.2.2.1 d24_40 d24_41 rfl fun T107 X107 e107 => g_callV X107 K e107 184 186 34 188 185 187 rfl rfl rfl rfl rfl rfl (by decide) (rmhe0 l Z a0 hw hp T87.heap n0 (Nat.le_trans Z0 KK87.1) ⟨r87_0_0, r87_0_1, r87_0_2, r87_0_3, r87_0_4⟩) r87_0_0 d24_44 hml.symm (argsL := []) (lenOf pd_10 rfl) rfl 0 (Nat.le_of_ble_eq_true rfl) (by decide) fun v108 T108 Lc108 hQ108 X108 => ?_)))))))
    obtain ⟨rfl, N108q, e108⟩ := hQ108
    have N108 := Fr.app N104 N108q
    dsimp only [Option.toList, List.cons_append, List.nil_append]
    refine g_ifY X108 K 229 d24_47 (by decide) ((if0 _ _).trans (feq (by decide)).2) ?_
    have q110 := (((V56.other W60 (own_on nb0_24 7 8 rfl rfl)).keep K70 na41).keep K87 na42)
    have q111 := ((V60.keep K70 na44).keep K87 na45)
    have q112 := (r70_1.keep K87 na46)
    exact g_lv0 X108 K hlk hrt hR d24_229 (by decide) (by rw [e108]; exact ⟨(-1 : Int32), (2 : Int32), (1 : Int32), hn1, rfl, N108, KK87, q110, q111, ⟨r87_0_0, r87_0_1, r87_0_2, r87_0_3, r87_0_4⟩, q112, r87_1⟩)
   by_cases hc104_113 : rs1 = (0 : Int64)
   refine g_ifN X103 K d24_104 ((if0 _ _).trans (teq ((lw_eq rs1 (0 : Int64)).mpr hc104_113)).2) ?_
   ·
    refine g_goto X103 K 214 d24_107 (by decide) ?_
    exact J104 _ _ v97_0 v97_1 X103 N97 e103
   refine g_ifY X103 K 110 d24_104 (by decide) ((if0 _ _).trans (feq (fun q => hc104_113 ((lw_eq rs1 (0 : Int64)).mp q))).2) ?_
   ·
    refine g_iloadN X103 K d24_110 rfl (g_ifN X103 K d24_111 ((if0 _ _).trans (feq (by decide)).1) (g_ag X103 K e103 18 rfl xb88.2.2.2.2.1 d24_114 d24_115 rfl fun T115 X115 e115 => g_iload X115 K d24_118 rfl ?_))
    have q116 := ((((q47.other W56 (own_on nb0_24 4 7 rfl rfl)).other W60 (own_on nb0_24 4 8 rfl rfl)).keep K70 na34).keep K87 na35)
    refine g_laload X115 K e115 q116 d24_120 (by decide) (v := (.long (-k0))) rfl (g_ag X115 K e115 26 rfl xb88.2.2.2.2.2.2.1 d24_121 d24_122 rfl fun T117 X117 e117 => g_iloadN X117 K d24_125 rfl ?_)
    have q118 := ((((q49.other W56 (own_on nb0_24 6 7 rfl rfl)).other W60 (own_on nb0_24 6 8 rfl rfl)).keep K70 na39).keep K87 na40)
    refine g_laload X117 K e117 q118 d24_126 (by decide) (v := (.long po1)) rfl (g_ladd X117 K d24_127 rfl (g_ag X117 K e117 26 rfl xb88.2.2.2.2.2.2.1 d24_128 d24_129 rfl fun T119 X119 e119 => g_iload X119 K d24_132 rfl (g_laload X119 K e119 q118 d24_134 (by decide) (v := (.long 0)) rfl (g_lsub X119 K d24_135 rfl (g_goto X119 K 161 d24_136 (by decide) (g_lstore X119 K d24_161 (L' := #[rv x0, iv 0, iv 1, iv 1, iv 1, iv 1, iv 0, lv (((-k0) + po1) - (0 : Int64)), .second, lv v97_1, .second]) rfl (g_ag X119 K e119 28 rfl xb88.2.2.2.2.2.2.2.1 d24_163 d24_164 rfl fun T120 X120 e120 => g_iloadN X120 K d24_167 rfl ?_)))))))
    have q121 := (((V56.other W60 (own_on nb0_24 7 8 rfl rfl)).keep K70 na41).keep K87 na42)
    refine g_laload X120 K e120 q121 d24_168 (by decide) (v := (.long ((0 : Int64) + ((k1 + (0 : Int64)) - po1)))) rfl (g_lload X120 K d24_169 rfl (g_ladd X120 K d24_171 rfl (g_lstore X120 K d24_172 (L' := #[rv x0, iv 0, iv 1, iv 1, iv 1, iv 1, iv 0, lv (((-k0) + po1) - (0 : Int64)), .second, lv (((0 : Int64) + ((k1 + (0 : Int64)) - po1)) + (((-k0) + po1) - (0 : Int64))), .second]) rfl (g_lload X120 K d24_174 rfl (g_ag X120 K e120 28 rfl xb88.2.2.2.2.2.2.2.1 d24_176 d24_177 rfl fun T122 X122 e122 => g_iload X122 K d24_180 rfl (g_laload X122 K e122 q121 d24_182 (by decide) (v := (.long 0)) rfl (g_lcmp X122 K d24_183 rfl ?_)))))))
    have hc184_123 : ¬ ((((0 : Int64) + ((k1 + (0 : Int64)) - po1)) + (((-k0) + po1) - (0 : Int64))) < (0 : Int64)) := yz1 hc104_113
    refine g_ifY X122 K 214 d24_184 (by decide) ((if0 _ _).trans (flt (fun q => hc184_123 ((lw_lt (((0 : Int64) + ((k1 + (0 : Int64)) - po1)) + (((-k0) + po1) - (0 : Int64))) (0 : Int64)).mp q))).2.1) ?_
    exact J104 _ _ (((-k0) + po1) - (0 : Int64)) (((0 : Int64) + ((k1 + (0 : Int64)) - po1)) + (((-k0) + po1) - (0 : Int64))) X122 N97 e122
  by_cases hc104_124 : rs3 = (0 : Int64)
  refine g_ifN X95 K d24_104 ((if0 _ _).trans (teq ((lw_eq rs3 (0 : Int64)).mpr hc104_124)).2) ?_
  ·
   refine g_goto X95 K 214 d24_107 (by decide) ?_
   exact J97 _ _ ((k1 + (0 : Int64)) - po1) ((0 : Int64) + ((k1 + (0 : Int64)) - po1)) X95 N87 e95
  refine g_ifY X95 K 110 d24_104 (by decide) ((if0 _ _).trans (feq (fun q => hc104_124 ((lw_eq rs3 (0 : Int64)).mp q))).2) ?_
  ·
   refine g_iloadN X95 K d24_110 rfl (g_ifN X95 K d24_111 ((if0 _ _).trans (feq (by decide)).1) (g_ag X95 K e95 18 rfl xb88.2.2.2.2.1 d24_114 d24_115 rfl fun T126 X126 e126 => g_iload X126 K d24_118 rfl ?_))
   have q127 := ((((q47.other W56 (own_on nb0_24 4 7 rfl rfl)).other W60 (own_on nb0_24 4 8 rfl rfl)).keep K70 na34).keep K87 na35)
   refine g_laload X126 K e126 q127 d24_120 (by decide) (v := (.long (-k1))) rfl (g_ag X126 K e126 26 rfl xb88.2.2.2.2.2.2.1 d24_121 d24_122 rfl fun T128 X128 e128 => g_iloadN X128 K d24_125 rfl ?_)
   have q129 := ((((q49.other W56 (own_on nb0_24 6 7 rfl rfl)).other W60 (own_on nb0_24 6 8 rfl rfl)).keep K70 na39).keep K87 na40)
   refine g_laload X128 K e128 q129 d24_126 (by decide) (v := (.long po1)) rfl (g_ladd X128 K d24_127 rfl (g_ag X128 K e128 26 rfl xb88.2.2.2.2.2.2.1 d24_128 d24_129 rfl fun T130 X130 e130 => g_iload X130 K d24_132 rfl (g_laload X130 K e130 q129 d24_134 (by decide) (v := (.long 0)) rfl (g_lsub X130 K d24_135 rfl (g_goto X130 K 161 d24_136 (by decide) (g_lstore X130 K d24_161 (L' := #[rv x0, iv 0, iv 1, iv 1, iv 3, iv 3, iv 0, lv (((-k1) + po1) - (0 : Int64)), .second, lv ((0 : Int64) + ((k1 + (0 : Int64)) - po1)), .second]) rfl (g_ag X130 K e130 28 rfl xb88.2.2.2.2.2.2.2.1 d24_163 d24_164 rfl fun T131 X131 e131 => g_iloadN X131 K d24_167 rfl ?_)))))))
   have q132 := (((V56.other W60 (own_on nb0_24 7 8 rfl rfl)).keep K70 na41).keep K87 na42)
   refine g_laload X131 K e131 q132 d24_168 (by decide) (v := (.long ((0 : Int64) + ((k1 + (0 : Int64)) - po1)))) rfl (g_lload X131 K d24_169 rfl (g_ladd X131 K d24_171 rfl (g_lstore X131 K d24_172 (L' := #[rv x0, iv 0, iv 1, iv 1, iv 3, iv 3, iv 0, lv (((-k1) + po1) - (0 : Int64)), .second, lv (((0 : Int64) + ((k1 + (0 : Int64)) - po1)) + (((-k1) + po1) - (0 : Int64))), .second]) rfl (g_lload X131 K d24_174 rfl (g_ag X131 K e131 28 rfl xb88.2.2.2.2.2.2.2.1 d24_176 d24_177 rfl fun T133 X133 e133 => g_iload X133 K d24_180 rfl (g_laload X133 K e133 q132 d24_182 (by decide) (v := (.long 0)) rfl (g_lcmp X133 K d24_183 rfl ?_)))))))
   have hc184_134 : ¬ ((((0 : Int64) + ((k1 + (0 : Int64)) - po1)) + (((-k1) + po1) - (0 : Int64))) < (0 : Int64)) := yz3 hc104_124
   refine g_ifY X133 K 214 d24_184 (by decide) ((if0 _ _).trans (flt (fun q => hc184_134 ((lw_lt (((0 : Int64) + ((k1 + (0 : Int64)) - po1)) + (((-k1) + po1) - (0 : Int64))) (0 : Int64)).mp q))).2.1) ?_
   exact J97 _ _ (((-k1) + po1) - (0 : Int64)) (((0 : Int64) + ((k1 + (0 : Int64)) - po1)) + (((-k1) + po1) - (0 : Int64))) X133 N87 e133
def Qsr0 (Z : State) (x0 : Addr) (nx : Addr) (tg : Addr) (rs : Addr) (co : Addr) (fi : Addr) (po : Addr) (di : Addr) (pa : Addr) (hp : Addr) (hn : Addr) (hq : Addr) (qu : Addr) (qd : Addr) (lw : Addr) (sk : Addr) (cu : Addr) (vi : Addr) (ar : Int32) (ac : Int64) (fc : Int64) (vl : Int32) (so : Int32) (si : Int32) (vt : Int64) (k0 : Int64) (k1 : Int64) (kfi : ClassId) (knx : ClassId) (ktg : ClassId) (kco : ClassId) (krs : ClassId) (kdi : ClassId) (kpa : ClassId) (khn : ClassId) (rs0 : Int64) (rs1 : Int64) (rs2 : Int64) (rs3 : Int64) (di0 : Int64) (di1 : Int64) (pa0 : Int32) (pa1 : Int32) (hn0 : Int32) (hn1 : Int32) (kpo : ClassId) (po1 : Int64) (khq : ClassId) (h0 : Heap) (n0 : Nat) (v : Option Value) (h : Heap) (L : List Loc) : Prop := ∃ (e0 : Int32), ∃ (e1 : Int32), ∃ (e2 : Int32), ∃ (e3 : Int32), v = none ∧ Fr n0 L ∧ Keep h0 h [di, pa, hp, hn, hq] ∧ Arv Z h di kdi .long (2 : Int32) [(.long 0), (.long ((0 : Int64) + ((k0 + (0 : Int64)) - po1)))] (.long 0) ∧ Arv Z h pa kpa .int (2 : Int32) [(.int e0), (.int e1)] (.int 0) ∧ own_HP Z h n0 hp di hn hq (0 : Int32) ∧ Arv Z h hn khn .int (2 : Int32) [(.int e2), (.int e3)] (.int 0) ∧ Arv Z h hq khq .int (2 : Int32) [(.int (-1)), (.int (-1))] (.int 0)
theorem ef_sr0 (m : MethodId) (x0 : Addr) : entryFrame m #[(.ref x0), (.int 0), (.int 1)] 11 = mkF m 0 #[rv x0, iv 0, iv 1, .unset, .unset, .unset, .unset, .unset, .unset, .unset, .unset] [] := by first | (simp [entryFrame, mkF, argsToLocals, Value.category]; done) | rfl
set_option maxRecDepth 65536 in
set_option maxHeartbeats 40000000 in
theorem rmsr0 (l : Launch) (Z : State) (a0 : Array Value) (hw : ∀ d ∈ tables_1, d.before a0 Z = true) (x0 : Addr) {nx : Addr} {tg : Addr} {rs : Addr} {co : Addr} {fi : Addr} {po : Addr} {di : Addr} {pa : Addr} {hp : Addr} {hn : Addr} {hq : Addr} {qu : Addr} {qd : Addr} {lw : Addr} {sk : Addr} {cu : Addr} {vi : Addr} {ar : Int32} {ac : Int64} {fc : Int64} {vl : Int32} {so : Int32} {si : Int32} {vt : Int64} {k0 : Int64} {k1 : Int64} {kfi : ClassId} {knx : ClassId} {ktg : ClassId} {kco : ClassId} {krs : ClassId} {kdi : ClassId} {kpa : ClassId} {khn : ClassId} {rs0 : Int64} {rs1 : Int64} {rs2 : Int64} {rs3 : Int64} {di0 : Int64} {di1 : Int64} {pa0 : Int32} {pa1 : Int32} {hn0 : Int32} {hn1 : Int32} {kpo : ClassId} {po1 : Int64} {khq : ClassId} (h0 : Heap) (n0 : Nat) (Z0 : n0 ≤ h0.size) (pre_own_XF : own_XF Z h0 n0 x0 nx tg rs co fi po di pa hp hn hq qu qd lw sk cu vi ar ac fc vl so si vt) (pre_A_fi : Arv Z h0 fi kfi .int (2 : Int32) [(.int 2), (.int 3)] (.int 0)) (pre_A_nx : Arv Z h0 nx knx .int (16 : Int32) [(.int (-1)), (.int (-1)), (.int 0), (.int 1)] (.int 0)) (pre_A_tg : Arv Z h0 tg ktg .int (16 : Int32) [(.int 1), (.int 0), (.int 1), (.int 0)] (.int 0)) (pre_A_co : Arv Z h0 co kco .long (16 : Int32) [(.long k0), (.long (-k0)), (.long k1), (.long (-k1))] (.long 0)) (pre_A_rs : Arv Z h0 rs krs .long (16 : Int32) [(.long rs0), (.long rs1), (.long rs2), (.long rs3)] (.long 0)) (pre_A_po : Arv Z h0 po kpo .long (2 : Int32) [(.long 0), (.long po1)] (.long 0)) (pre_own_HP : own_HP Z h0 n0 hp di hn hq (0 : Int32)) (pre_A_hn : Arv Z h0 hn khn .int (2 : Int32) [(.int hn0), (.int hn1)] (.int 0)) (pre_A_hq : Arv Z h0 hq khq .int (2 : Int32) [(.int (-1)), (.int (-1))] (.int 0)) (pre_A_di : Arv Z h0 di kdi .long (2 : Int32) [(.long di0), (.long di1)] (.long 0)) (pre_A_pa : Arv Z h0 pa kpa .int (2 : Int32) [(.int pa0), (.int pa1)] (.int 0)) (yz2 : rs2 = (0 : Int64)) (yz0 : ¬ (rs0 = (0 : Int64))) (yb0 : ((0 : Int64) + ((k0 + (0 : Int64)) - po1)) < (9223372036854775807 : Int64)) (yz3 : ¬ (rs3 = (0 : Int64)) → ¬ ((((0 : Int64) + ((k0 + (0 : Int64)) - po1)) + (((-k1) + po1) - (0 : Int64))) < (0 : Int64))) (yz1 : ¬ (rs1 = (0 : Int64)) → ¬ ((((0 : Int64) + ((k0 + (0 : Int64)) - po1)) + (((-k0) + po1) - (0 : Int64))) < (0 : Int64))) :
    own_M l (⟨"com/example/violarc/violarc/graph/FlowNetwork", "search", "(IZ)V"⟩ : MethodName) c24 11 none ({ frames := 3, cells := 0, slots := 0, locals := 43 } : Room) #[(.ref x0), (.int 0), (.int 1)] Z h0 (Qsr0 Z x0 nx tg rs co fi po di pa hp hn hq qu qd lw sk cu vi ar ac fc vl so si vt k0 k1 kfi knx ktg kco krs kdi kpa khn rs0 rs1 rs2 rs3 di0 di1 pa0 pa1 hn0 hn1 kpo po1 khq h0 n0) := by
  refine MetFree.of_bodySF (plainFor_of_name pn_24) hisR ?_
  intro p e s m args below meth c s₁ Bd hml0 hP hK
  obtain ⟨rfl, hZ, hh⟩ := hP
  have hx := Bd.exec
  have hby := Bd.bytes
  have hml : c.maxLocals = 11 := hml0
  have hown : s.vm.findClass "com/example/violarc/violarc/graph/FlowNetwork" = some m.cls := findClass_of_methodNamed Bd.named
  have hnm := (name_of_methodNamed Bd.named Bd.method).1
  have X0 : Stand p l e ({ frames := 3, cells := 0, slots := 0, locals := 43 } : Room) s m #[(.ref x0), (.int 0), (.int 1)] below meth c s₁ [] 0 0 := Stand.of_body Bd
  have e0 : s₁.heap = h0 := by rw [← hh, Bd.state]; rfl
  have N0 := Fr.nil n0
  have Kp0 := Keep.refl h0 [di, pa, hp, hn, hq]
  have hlk := BodyLoose.notSynchronized Bd
  have hrt := Bd.returns
  have K : own_K p c c24 Z s "com/example/violarc/violarc/graph/FlowNetwork" m a0 := ⟨hx, hby, hZ, hown, hw⟩
  refine gStart (S' := s₁.setTop (mkF m 0 #[rv x0, iv 0, iv 1, uu, uu, uu, uu, uu, uu, uu, uu] [])) (congrArg (fun f => s₁.setTop f) (ef_sr0 m x0)) fun Rp hR => ?_
  obtain ⟨nb0_0, nb0_1, nb0_2, nb0_3, nb0_4, nb0_5, nb0_6, nb0_7, nb0_8, nb0_9, nb0_10, nb0_11, nb0_12, nb0_13, nb0_14, nb0_15, nb0_16, nb0_17, nb0_18, nb0_19, nb0_20, nb0_21, nb0_22, nb0_23, nb0_24⟩ := id pre_own_XF
  obtain ⟨nb1_0, nb1_1, nb1_2, nb1_3, nb1_4⟩ := id pre_own_HP
  have na0 : x0 ∉ [di] := own_nin nb0_24 0 rfl [7] _ rfl (by decide)
  have na1 : pa ∉ [di] := own_nin nb0_24 8 rfl [7] _ rfl (by decide)
  have na2 : x0 ∉ [pa] := own_nin nb0_24 0 rfl [8] _ rfl (by decide)
  have na3 : hp ∉ [di] := own_nin nb0_24 9 rfl [7] _ rfl (by decide)
  have na4 : hp ∉ [pa] := own_nin nb0_24 9 rfl [8] _ rfl (by decide)
  have na5 : x0 ∉ [hp] := own_nin nb0_24 0 rfl [9] _ rfl (by decide)
  have na6 : di ∉ [pa] := own_nin nb0_24 7 rfl [8] _ rfl (by decide)
  have na7 : di ∉ [hp] := own_nin nb0_24 7 rfl [9] _ rfl (by decide)
  have na8 : hn ∉ [di] := own_nin nb0_24 10 rfl [7] _ rfl (by decide)
  have na9 : hn ∉ [pa] := own_nin nb0_24 10 rfl [8] _ rfl (by decide)
  have na10 : hn ∉ [hp] := own_nin nb0_24 10 rfl [9] _ rfl (by decide)
  have na11 : hq ∉ [di] := own_nin nb0_24 11 rfl [7] _ rfl (by decide)
  have na12 : hq ∉ [pa] := own_nin nb0_24 11 rfl [8] _ rfl (by decide)
  have na13 : hq ∉ [hp] := own_nin nb0_24 11 rfl [9] _ rfl (by decide)
  have na14 : x0 ∉ [hp, hn, hq] := own_nin nb0_24 0 rfl [9, 10, 11] _ rfl (by decide)
  have na15 : x0 ∉ [hp, hq] := own_nin nb0_24 0 rfl [9, 11] _ rfl (by decide)
  have na16 : fi ∉ [di] := own_nin nb0_24 5 rfl [7] _ rfl (by decide)
  have na17 : fi ∉ [pa] := own_nin nb0_24 5 rfl [8] _ rfl (by decide)
  have na18 : fi ∉ [hp] := own_nin nb0_24 5 rfl [9] _ rfl (by decide)
  have na19 : fi ∉ [hp, hn, hq] := own_nin nb0_24 5 rfl [9, 10, 11] _ rfl (by decide)
  have na20 : fi ∉ [hp, hq] := own_nin nb0_24 5 rfl [9, 11] _ rfl (by decide)
  have na21 : tg ∉ [di] := own_nin nb0_24 2 rfl [7] _ rfl (by decide)
  have na22 : tg ∉ [pa] := own_nin nb0_24 2 rfl [8] _ rfl (by decide)
  have na23 : tg ∉ [hp] := own_nin nb0_24 2 rfl [9] _ rfl (by decide)
  have na24 : tg ∉ [hp, hn, hq] := own_nin nb0_24 2 rfl [9, 10, 11] _ rfl (by decide)
  have na25 : tg ∉ [hp, hq] := own_nin nb0_24 2 rfl [9, 11] _ rfl (by decide)
  have na26 : rs ∉ [di] := own_nin nb0_24 3 rfl [7] _ rfl (by decide)
  have na27 : rs ∉ [pa] := own_nin nb0_24 3 rfl [8] _ rfl (by decide)
  have na28 : rs ∉ [hp] := own_nin nb0_24 3 rfl [9] _ rfl (by decide)
  have na29 : rs ∉ [hp, hn, hq] := own_nin nb0_24 3 rfl [9, 10, 11] _ rfl (by decide)
  have na30 : rs ∉ [hp, hq] := own_nin nb0_24 3 rfl [9, 11] _ rfl (by decide)
  have na31 : nx ∉ [di] := own_nin nb0_24 1 rfl [7] _ rfl (by decide)
  have na32 : nx ∉ [pa] := own_nin nb0_24 1 rfl [8] _ rfl (by decide)
  have na33 : nx ∉ [hp] := own_nin nb0_24 1 rfl [9] _ rfl (by decide)
  have na34 : nx ∉ [hp, hn, hq] := own_nin nb0_24 1 rfl [9, 10, 11] _ rfl (by decide)
  have na35 : nx ∉ [hp, hq] := own_nin nb0_24 1 rfl [9, 11] _ rfl (by decide)
  have na36 : co ∉ [di] := own_nin nb0_24 4 rfl [7] _ rfl (by decide)
  have na37 : co ∉ [pa] := own_nin nb0_24 4 rfl [8] _ rfl (by decide)
  have na38 : co ∉ [hp] := own_nin nb0_24 4 rfl [9] _ rfl (by decide)
  have na39 : co ∉ [hp, hn, hq] := own_nin nb0_24 4 rfl [9, 10, 11] _ rfl (by decide)
  have na40 : co ∉ [hp, hq] := own_nin nb0_24 4 rfl [9, 11] _ rfl (by decide)
  have na41 : po ∉ [di] := own_nin nb0_24 6 rfl [7] _ rfl (by decide)
  have na42 : po ∉ [pa] := own_nin nb0_24 6 rfl [8] _ rfl (by decide)
  have na43 : po ∉ [hp] := own_nin nb0_24 6 rfl [9] _ rfl (by decide)
  have na44 : po ∉ [hp, hn, hq] := own_nin nb0_24 6 rfl [9, 10, 11] _ rfl (by decide)
  have na45 : po ∉ [hp, hq] := own_nin nb0_24 6 rfl [9, 11] _ rfl (by decide)
  have na46 : di ∉ [hp, hn, hq] := own_nin nb0_24 7 rfl [9, 10, 11] _ rfl (by decide)
  have na47 : di ∉ [hp, hq] := own_nin nb0_24 7 rfl [9, 11] _ rfl (by decide)
  have na48 : pa ∉ [hp] := own_nin nb0_24 8 rfl [9] _ rfl (by decide)
  have na49 : pa ∉ [hp, hn, hq] := own_nin nb0_24 8 rfl [9, 10, 11] _ rfl (by decide)
  have na50 : pa ∉ [hp, hq] := own_nin nb0_24 8 rfl [9, 11] _ rfl (by decide)
  have na51 : hn ∉ [hp, hq] := own_nin nb0_24 10 rfl [9, 11] _ rfl (by decide)
  refine g_ag X0 K e0 28 rfl pre_own_XF.2.2.2.2.2.2.2.1 d24_0 d24_1 rfl fun T1 X1 e1 => g_ldc2 X1 K 163 rfl d24_4 (z := (9223372036854775807 : Int64)) rfl (g_callS X1 K e1 108 109 47 110 rfl rfl rfl rfl (by decide) (rm14 l Z a0 hw (9223372036854775807 : Int64) h0 n0 Z0 pre_A_di (own_ong nb0_24 nb0_23 7 rfl)) d24_7 hml.symm (argsL := [(.ref di), (.long 9223372036854775807)]) (lenOf pd_7 rfl) rfl 0 (Nat.le_of_ble_eq_true rfl) (by decide) fun v2 T2 Lc2 hQ2 X2 => ?_)
  obtain ⟨rfl, N2q, K2, r2_0⟩ := hQ2
  have N2 := Fr.app N0 N2q
  have KK2 := Kp0.trans K2 (own_al [0] rfl)
  dsimp only [Option.toList, List.cons_append, List.nil_append]
  have xb3 := own_XF_keep pre_own_XF K2 na0
  refine g_ag X2 K rfl 30 rfl xb3.2.2.2.2.2.2.2.2.1 d24_10 d24_11 rfl fun T4 X4 e4 => g_iconst X4 K d24_14 (z := -1) rfl ?_
  have q5 := (pre_A_pa.keep K2 na1)
  refine g_callS X4 K e4 64 46 47 48 rfl rfl rfl rfl (by decide) (rm4 l Z a0 hw (-1 : Int32) T2.heap n0 (Nat.le_trans Z0 KK2.1) q5 (own_ong nb0_24 nb0_23 8 rfl)) d24_15 hml.symm (argsL := [(.ref pa), (.int (-1))]) (lenOf pd_0 rfl) rfl 0 (Nat.le_of_ble_eq_true rfl) (by decide) fun v6 T6 Lc6 hQ6 X6 => ?_
  obtain ⟨rfl, N6q, K6, r6_0⟩ := hQ6
  have N6 := Fr.app N2 N6q
  have KK6 := KK2.trans K6 (own_al [1] rfl)
  dsimp only [Option.toList, List.cons_append, List.nil_append]
  have xb7 := own_XF_keep xb3 K6 na2
  refine g_ag X6 K rfl 49 rfl xb7.2.2.2.2.2.2.2.2.2.1 d24_18 d24_19 rfl fun T8 X8 e8 => ?_
  have q9 := ((nb1_0.keep K2).keep K6)
  have q10 := ((nb1_1.keep K2 na3).keep K6 na4)
  have q11 := ((nb1_2.keep K2 na3).keep K6 na4)
  have q12 := ((nb1_3.keep K2 na3).keep K6 na4)
  have q13 := ((nb1_4.keep K2 na3).keep K6 na4)
  refine g_callV X8 K e8 164 166 34 168 165 167 rfl rfl rfl rfl rfl rfl (by decide) (rm25 l Z a0 hw hp T6.heap n0 (Nat.le_trans Z0 KK6.1) ⟨q9, q10, q11, q12, q13⟩ (own_ong nb0_24 nb0_23 9 rfl)) q9 d24_22 hml.symm (argsL := []) (lenOf pd_9 rfl) rfl 0 (Nat.le_of_ble_eq_true rfl) (by decide) fun v14 T14 Lc14 hQ14 X14 => ?_
  obtain ⟨rfl, N14q, K14, ⟨r14_0_0, r14_0_1, r14_0_2, r14_0_3, r14_0_4⟩⟩ := hQ14
  have N14 := Fr.app N6 N14q
  have KK14 := KK6.trans K14 (own_al [2] rfl)
  dsimp only [Option.toList, List.cons_append, List.nil_append]
  have xb15 := own_XF_keep xb7 K14 na5
  refine g_ag X14 K rfl 28 rfl xb15.2.2.2.2.2.2.2.1 d24_25 d24_26 rfl fun T16 X16 e16 => g_iloadN X16 K d24_29 rfl (g_lconst X16 K d24_30 (z := 0) rfl ?_)
  have q17 := ((r2_0.keep K6 na6).keep K14 na7)
  refine g_lastore X16 K e16 q17 d24_31 (by decide) 0 ⟨rfl, Nat.le_of_ble_eq_true rfl⟩ (w := [(.long 0), (.long 9223372036854775807)]) rfl rfl fun T18 h18 X18 e18 W18 V18 => ?_
  have N18 := Fr.snoc X18 N14 (own_ong nb0_24 nb0_23 7 rfl)
  have KK18 := KK14.wr W18 (Or.inl (List.mem_of_getElem? (i := 0) rfl))
  have xb19 := own_XF_wr xb15 W18 (own_on nb0_24 0 7 rfl rfl)
  refine g_ag X18 K e18 49 rfl xb19.2.2.2.2.2.2.2.2.2.1 d24_32 d24_33 rfl fun T20 X20 e20 => g_iloadN X20 K d24_36 rfl ?_
  have q21 := (r14_0_0.wr W18)
  have q22 := (r14_0_1.other W18 (Or.inl (own_on nb0_24 9 7 rfl rfl)))
  have q23 := (r14_0_2.other W18 (Or.inl (own_on nb0_24 9 7 rfl rfl)))
  have q24 := (r14_0_3.other W18 (Or.inl (own_on nb0_24 9 7 rfl rfl)))
  have q25 := (r14_0_4.other W18 (Or.inl (own_on nb0_24 9 7 rfl rfl)))
  have q26 := ((((pre_A_hn.keep K2 na8).keep K6 na9).keep K14 na10).other W18 (own_on nb0_24 10 7 rfl rfl))
  have q27 := ((((pre_A_hq.keep K2 na11).keep K6 na12).keep K14 na13).other W18 (own_on nb0_24 11 7 rfl rfl))
  refine g_callV X20 K e20 171 173 34 175 172 174 rfl rfl rfl rfl rfl rfl (by decide) (rmhp0 l Z a0 hw hp h18 n0 (Nat.le_trans Z0 KK18.1) ⟨q21, q22, q23, q24, q25⟩ q26 q27 (own_ong nb0_24 nb0_23 9 rfl) (own_ong nb0_24 nb0_23 10 rfl) (own_ong nb0_24 nb0_23 11 rfl) (own_on nb0_24 9 10 rfl rfl) (own_on nb0_24 9 11 rfl rfl) (own_on nb0_24 10 11 rfl rfl)) q21 d24_37 hml.symm (argsL := [(.int 0)]) (lenOf pd_3 rfl) rfl 0 (Nat.le_of_ble_eq_true rfl) (by decide) fun v28 T28 Lc28 hQ28 X28 => ?_
  obtain ⟨rfl, N28q, K28, ⟨r28_0_0, r28_0_1, r28_0_2, r28_0_3, r28_0_4⟩, r28_1, r28_2⟩ := hQ28
  have N28 := Fr.app N18 N28q
  have KK28 := KK18.trans K28 (own_al [2, 3, 4] rfl)
  dsimp only [Option.toList, List.cons_append, List.nil_append]
  have xb29 := own_XF_keep xb19 K28 na14
  refine g_ag X28 K rfl 49 rfl xb29.2.2.2.2.2.2.2.2.2.1 d24_40 d24_41 rfl fun T30 X30 e30 => g_callV X30 K e30 184 186 34 188 185 187 rfl rfl rfl rfl rfl rfl (by decide) (rmhe1 l Z a0 hw hp T28.heap n0 (Nat.le_trans Z0 KK28.1) ⟨r28_0_0, r28_0_1, r28_0_2, r28_0_3, r28_0_4⟩) r28_0_0 d24_44 hml.symm (argsL := []) (lenOf pd_10 rfl) rfl 0 (Nat.le_of_ble_eq_true rfl) (by decide) fun v31 T31 Lc31 hQ31 X31 => ?_
  obtain ⟨rfl, N31q, e31⟩ := hQ31
  have N31 := Fr.app N28 N31q
  dsimp only [Option.toList, List.cons_append, List.nil_append]
  refine g_ifN X31 K d24_47 ((if0 _ _).trans (teq (by decide)).2) (g_ag X31 K e31 49 rfl xb29.2.2.2.2.2.2.2.2.2.1 d24_50 d24_51 rfl fun T33 X33 e33 => g_callV X33 K e33 189 191 34 193 190 192 rfl rfl rfl rfl rfl rfl (by decide) (rmpo0 l Z a0 hw hp T28.heap n0 (Nat.le_trans Z0 KK28.1) ⟨r28_0_0, r28_0_1, r28_0_2, r28_0_3, r28_0_4⟩ r28_1 r28_2 (own_ong nb0_24 nb0_23 9 rfl) (own_ong nb0_24 nb0_23 10 rfl) (own_ong nb0_24 nb0_23 11 rfl) (own_on nb0_24 9 10 rfl rfl) (own_on nb0_24 9 11 rfl rfl) (own_on nb0_24 10 11 rfl rfl)) r28_0_0 d24_54 hml.symm (argsL := []) (lenOf pd_11 rfl) rfl 0 (Nat.le_of_ble_eq_true rfl) (by decide) fun v34 T34 Lc34 hQ34 X34 => ?_)
  obtain ⟨rfl, N34q, K34, ⟨r34_0_0, r34_0_1, r34_0_2, r34_0_3, r34_0_4⟩, r34_1⟩ := hQ34
  have N34 := Fr.app N31 N34q
  have KK34 := KK28.trans K34 (own_al [2, 4] rfl)
  dsimp only [Option.toList, List.cons_append, List.nil_append]
  refine g_istoreN X34 K d24_57 (L' := #[rv x0, iv 0, iv 1, iv 0, uu, uu, uu, uu, uu, uu, uu]) rfl ?_
  have xb35 := own_XF_keep xb29 K34 na15
  refine g_ag X34 K rfl 24 rfl xb35.2.2.2.2.2.1 d24_58 d24_59 rfl fun T36 X36 e36 => g_iloadN X36 K d24_62 rfl ?_
  have q37 := ((((((pre_A_fi.keep K2 na16).keep K6 na17).keep K14 na18).other W18 (own_on nb0_24 5 7 rfl rfl)).keep K28 na19).keep K34 na20)
  refine g_iaload X36 K e36 q37 d24_63 (by decide) (v := (.int 2)) rfl (g_istore X36 K d24_64 (L' := #[rv x0, iv 0, iv 1, iv 0, iv 2, uu, uu, uu, uu, uu, uu]) rfl (g_iload X36 K d24_66 rfl (g_ifN X36 K d24_68 ((if0 _ _).trans (flt (by decide)).1) (g_iloadN X36 K d24_71 rfl (g_ifN X36 K d24_72 ((if0 _ _).trans (feq (by decide)).1) (g_iload X36 K d24_75 rfl (g_goto X36 K 84 d24_77 (by decide) (g_istore X36 K d24_84 (L' := #[rv x0, iv 0, iv 1, iv 0, iv 2, iv 2, uu, uu, uu, uu, uu]) rfl (g_ag X36 K e36 14 rfl xb35.2.2.1 d24_86 d24_87 rfl fun T40 X40 e40 => g_iload X40 K d24_90 rfl ?_)))))))))
  have q41 := ((((((pre_A_tg.keep K2 na21).keep K6 na22).keep K14 na23).other W18 (own_on nb0_24 2 7 rfl rfl)).keep K28 na24).keep K34 na25)
  refine g_iaload X40 K e40 q41 d24_92 (by decide) (v := (.int 1)) rfl (g_istore X40 K d24_93 (L' := #[rv x0, iv 0, iv 1, iv 0, iv 2, iv 2, iv 1, uu, uu, uu, uu]) rfl (g_ag X40 K e40 16 rfl xb35.2.2.2.1 d24_95 d24_96 rfl fun T42 X42 e42 => g_iload X42 K d24_99 rfl ?_))
  have q43 := ((((((pre_A_rs.keep K2 na26).keep K6 na27).keep K14 na28).other W18 (own_on nb0_24 3 7 rfl rfl)).keep K28 na29).keep K34 na30)
  refine g_laload X42 K e42 q43 d24_101 (by decide) (v := (.long rs2)) rfl (g_lconst X42 K d24_102 (z := 0) rfl (g_lcmp X42 K d24_103 rfl ?_))
  have hc104_44 : rs2 = (0 : Int64) := yz2
  refine g_ifN X42 K d24_104 ((if0 _ _).trans (teq ((lw_eq rs2 (0 : Int64)).mpr hc104_44)).2) (g_goto X42 K 214 d24_107 (by decide) (g_ag X42 K e42 12 rfl xb35.2.1 d24_214 d24_215 rfl fun T45 X45 e45 => g_iload X45 K d24_218 rfl ?_))
  have q46 := ((((((pre_A_nx.keep K2 na31).keep K6 na32).keep K14 na33).other W18 (own_on nb0_24 1 7 rfl rfl)).keep K28 na34).keep K34 na35)
  refine g_iaload X45 K e45 q46 d24_220 (by decide) (v := (.int 0)) rfl (g_istore X45 K d24_221 (L' := #[rv x0, iv 0, iv 1, iv 0, iv 0, iv 2, iv 1, uu, uu, uu, uu]) rfl (g_goto X45 K 66 d24_223 (by decide) (g_iload X45 K d24_66 rfl (g_ifN X45 K d24_68 ((if0 _ _).trans (flt (by decide)).1) (g_iloadN X45 K d24_71 rfl (g_ifN X45 K d24_72 ((if0 _ _).trans (feq (by decide)).1) (g_iload X45 K d24_75 rfl (g_goto X45 K 84 d24_77 (by decide) (g_istore X45 K d24_84 (L' := #[rv x0, iv 0, iv 1, iv 0, iv 0, iv 0, iv 1, uu, uu, uu, uu]) rfl (g_ag X45 K e45 14 rfl xb35.2.2.1 d24_86 d24_87 rfl fun T49 X49 e49 => g_iload X49 K d24_90 rfl (g_iaload X49 K e49 q41 d24_92 (by decide) (v := (.int 1)) rfl ?_)))))))))))
  refine g_istore X49 K d24_93 (L' := #[rv x0, iv 0, iv 1, iv 0, iv 0, iv 0, iv 1, uu, uu, uu, uu]) rfl (g_ag X49 K e49 16 rfl xb35.2.2.2.1 d24_95 d24_96 rfl fun T50 X50 e50 => g_iload X50 K d24_99 rfl (g_laload X50 K e50 q43 d24_101 (by decide) (v := (.long rs0)) rfl (g_lconst X50 K d24_102 (z := 0) rfl (g_lcmp X50 K d24_103 rfl ?_))))
  have hc104_51 : ¬ (rs0 = (0 : Int64)) := yz0
  refine g_ifY X50 K 110 d24_104 (by decide) ((if0 _ _).trans (feq (fun q => hc104_51 ((lw_eq rs0 (0 : Int64)).mp q))).2) (g_iloadN X50 K d24_110 rfl (g_ifN X50 K d24_111 ((if0 _ _).trans (feq (by decide)).1) (g_ag X50 K e50 18 rfl xb35.2.2.2.2.1 d24_114 d24_115 rfl fun T53 X53 e53 => g_iload X53 K d24_118 rfl ?_)))
  have q54 := ((((((pre_A_co.keep K2 na36).keep K6 na37).keep K14 na38).other W18 (own_on nb0_24 4 7 rfl rfl)).keep K28 na39).keep K34 na40)
  refine g_laload X53 K e53 q54 d24_120 (by decide) (v := (.long k0)) rfl (g_ag X53 K e53 26 rfl xb35.2.2.2.2.2.2.1 d24_121 d24_122 rfl fun T55 X55 e55 => g_iloadN X55 K d24_125 rfl ?_)
  have q56 := ((((((pre_A_po.keep K2 na41).keep K6 na42).keep K14 na43).other W18 (own_on nb0_24 6 7 rfl rfl)).keep K28 na44).keep K34 na45)
  refine g_laload X55 K e55 q56 d24_126 (by decide) (v := (.long 0)) rfl (g_ladd X55 K d24_127 rfl (g_ag X55 K e55 26 rfl xb35.2.2.2.2.2.2.1 d24_128 d24_129 rfl fun T57 X57 e57 => g_iload X57 K d24_132 rfl (g_laload X57 K e57 q56 d24_134 (by decide) (v := (.long po1)) rfl (g_lsub X57 K d24_135 rfl (g_goto X57 K 161 d24_136 (by decide) (g_lstore X57 K d24_161 (L' := #[rv x0, iv 0, iv 1, iv 0, iv 0, iv 0, iv 1, lv ((k0 + (0 : Int64)) - po1), .second, uu, uu]) rfl (g_ag X57 K e57 28 rfl xb35.2.2.2.2.2.2.2.1 d24_163 d24_164 rfl fun T58 X58 e58 => g_iloadN X58 K d24_167 rfl ?_)))))))
  have q59 := ((V18.keep K28 na46).keep K34 na47)
  refine g_laload X58 K e58 q59 d24_168 (by decide) (v := (.long 0)) rfl (g_lload X58 K d24_169 rfl (g_ladd X58 K d24_171 rfl (g_lstore X58 K d24_172 (L' := #[rv x0, iv 0, iv 1, iv 0, iv 0, iv 0, iv 1, lv ((k0 + (0 : Int64)) - po1), .second, lv ((0 : Int64) + ((k0 + (0 : Int64)) - po1)), .second]) rfl (g_lload X58 K d24_174 rfl (g_ag X58 K e58 28 rfl xb35.2.2.2.2.2.2.2.1 d24_176 d24_177 rfl fun T60 X60 e60 => g_iload X60 K d24_180 rfl (g_laload X60 K e60 q59 d24_182 (by decide) (v := (.long 9223372036854775807)) rfl (g_lcmp X60 K d24_183 rfl ?_)))))))
  have hc184_61 : ((0 : Int64) + ((k0 + (0 : Int64)) - po1)) < (9223372036854775807 : Int64) := yb0
  refine g_ifN X60 K d24_184 ((if0 _ _).trans (tlt ((lw_lt ((0 : Int64) + ((k0 + (0 : Int64)) - po1)) (9223372036854775807 : Int64)).mpr hc184_61)).2.1) (g_ag X60 K e60 28 rfl xb35.2.2.2.2.2.2.2.1 d24_187 d24_188 rfl fun T62 X62 e62 => g_iload X62 K d24_191 rfl (g_lload X62 K d24_193 rfl (g_lastore X62 K e62 q59 d24_195 (by decide) 1 ⟨rfl, Nat.le_of_ble_eq_true rfl⟩ (w := [(.long 0), (.long ((0 : Int64) + ((k0 + (0 : Int64)) - po1)))]) rfl rfl fun T63 h63 X63 e63 W63 V63 => ?_)))
  have N63 := Fr.snoc X63 N34 (own_ong nb0_24 nb0_23 7 rfl)
  have KK63 := KK34.wr W63 (Or.inl (List.mem_of_getElem? (i := 0) rfl))
  have xb64 := own_XF_wr xb35 W63 (own_on nb0_24 0 7 rfl rfl)
  refine g_ag X63 K e63 30 rfl xb64.2.2.2.2.2.2.2.2.1 d24_196 d24_197 rfl fun T65 X65 e65 => g_iload X65 K d24_200 rfl (g_iload X65 K d24_202 rfl ?_)
  have q66 := (((((r6_0.keep K14 na48).other W18 (own_on nb0_24 8 7 rfl rfl)).keep K28 na49).keep K34 na50).other W63 (own_on nb0_24 8 7 rfl rfl))
  refine g_iastore X65 K e65 q66 d24_204 (by decide) 1 ⟨rfl, Nat.le_of_ble_eq_true rfl⟩ (w := [(.int (-1)), (.int 0)]) rfl rfl fun T67 h67 X67 e67 W67 V67 => ?_
  have N67 := Fr.snoc X67 N63 (own_ong nb0_24 nb0_23 8 rfl)
  have KK67 := KK63.wr W67 (Or.inl (List.mem_of_getElem? (i := 1) rfl))
  have xb68 := own_XF_wr xb64 W67 (own_on nb0_24 0 8 rfl rfl)
  refine g_ag X67 K e67 49 rfl xb68.2.2.2.2.2.2.2.2.2.1 d24_205 d24_206 rfl fun T69 X69 e69 => g_iload X69 K d24_209 rfl ?_
  have q70 := ((r34_0_0.wr W63).wr W67)
  have q71 := ((r34_0_1.other W63 (Or.inl (own_on nb0_24 9 7 rfl rfl))).other W67 (Or.inl (own_on nb0_24 9 8 rfl rfl)))
  have q72 := ((r34_0_2.other W63 (Or.inl (own_on nb0_24 9 7 rfl rfl))).other W67 (Or.inl (own_on nb0_24 9 8 rfl rfl)))
  have q73 := ((r34_0_3.other W63 (Or.inl (own_on nb0_24 9 7 rfl rfl))).other W67 (Or.inl (own_on nb0_24 9 8 rfl rfl)))
  have q74 := ((r34_0_4.other W63 (Or.inl (own_on nb0_24 9 7 rfl rfl))).other W67 (Or.inl (own_on nb0_24 9 8 rfl rfl)))
  have q75 := (((r28_1.keep K34 na51).other W63 (own_on nb0_24 10 7 rfl rfl)).other W67 (own_on nb0_24 10 8 rfl rfl))
  have q76 := ((r34_1.other W63 (own_on nb0_24 11 7 rfl rfl)).other W67 (own_on nb0_24 11 8 rfl rfl))
  refine g_callV X69 K e69 171 173 34 175 172 174 rfl rfl rfl rfl rfl rfl (by decide) (rmhp1 l Z a0 hw hp h67 n0 (Nat.le_trans Z0 KK67.1) ⟨q70, q71, q72, q73, q74⟩ q75 q76 (own_ong nb0_24 nb0_23 9 rfl) (own_ong nb0_24 nb0_23 10 rfl) (own_ong nb0_24 nb0_23 11 rfl) (own_on nb0_24 9 10 rfl rfl) (own_on nb0_24 9 11 rfl rfl) (own_on nb0_24 10 11 rfl rfl)) q70 d24_211 hml.symm (argsL := [(.int 1)]) (lenOf pd_3 rfl) rfl 0 (Nat.le_of_ble_eq_true rfl) (by decide) fun v77 T77 Lc77 hQ77 X77 => ?_
  obtain ⟨rfl, N77q, K77, ⟨r77_0_0, r77_0_1, r77_0_2, r77_0_3, r77_0_4⟩, r77_1, r77_2⟩ := hQ77
  have N77 := Fr.app N67 N77q
  have KK77 := KK67.trans K77 (own_al [2, 3, 4] rfl)
  dsimp only [Option.toList, List.cons_append, List.nil_append]
  have xb78 := own_XF_keep xb68 K77 na14
  refine g_ag X77 K rfl 12 rfl xb78.2.1 d24_214 d24_215 rfl fun T79 X79 e79 => g_iload X79 K d24_218 rfl ?_
  have q80 := (((q46.other W63 (own_on nb0_24 1 7 rfl rfl)).other W67 (own_on nb0_24 1 8 rfl rfl)).keep K77 na34)
  refine g_iaload X79 K e79 q80 d24_220 (by decide) (v := (.int (-1))) rfl (g_istore X79 K d24_221 (L' := #[rv x0, iv 0, iv 1, iv 0, iv (-1), iv 0, iv 1, lv ((k0 + (0 : Int64)) - po1), .second, lv ((0 : Int64) + ((k0 + (0 : Int64)) - po1)), .second]) rfl (g_goto X79 K 66 d24_223 (by decide) (g_iload X79 K d24_66 rfl (g_ifY X79 K 226 d24_68 (by decide) ((if0 _ _).trans (tlt (by decide)).1) (g_goto X79 K 40 d24_226 (by decide) (g_ag X79 K e79 49 rfl xb78.2.2.2.2.2.2.2.2.2.1 d24_40 d24_41 rfl fun T82 X82 e82 => g_callV X82 K e82 184 186 34 188 185 187 rfl rfl rfl rfl rfl rfl (by decide) (rmhe1 l Z a0 hw hp T77.heap n0 (Nat.le_trans Z0 KK77.1) ⟨r77_0_0, r77_0_1, r77_0_2, r77_0_3, r77_0_4⟩) r77_0_0 d24_44 hml.symm (argsL := []) (lenOf pd_10 rfl) rfl 0 (Nat.le_of_ble_eq_true rfl) (by decide) fun v83 T83 Lc83 hQ83 X83 => ?_))))))
  obtain ⟨rfl, N83q, e83⟩ := hQ83
  have N83 := Fr.app N77 N83q
  dsimp only [Option.toList, List.cons_append, List.nil_append]
  refine g_ifN X83 K d24_47 ((if0 _ _).trans (teq (by decide)).2) (g_ag X83 K e83 49 rfl xb78.2.2.2.2.2.2.2.2.2.1 d24_50 d24_51 rfl fun T85 X85 e85 => g_callV X85 K e85 189 191 34 193 190 192 rfl rfl rfl rfl rfl rfl (by decide) (rmpo1 l Z a0 hw hp T77.heap n0 (Nat.le_trans Z0 KK77.1) ⟨r77_0_0, r77_0_1, r77_0_2, r77_0_3, r77_0_4⟩ r77_1 r77_2 (own_ong nb0_24 nb0_23 9 rfl) (own_ong nb0_24 nb0_23 10 rfl) (own_ong nb0_24 nb0_23 11 rfl) (own_on nb0_24 9 10 rfl rfl) (own_on nb0_24 9 11 rfl rfl) (own_on nb0_24 10 11 rfl rfl)) r77_0_0 d24_54 hml.symm (argsL := []) (lenOf pd_11 rfl) rfl 0 (Nat.le_of_ble_eq_true rfl) (by decide) fun v86 T86 Lc86 hQ86 X86 => ?_)
  obtain ⟨rfl, N86q, K86, ⟨r86_0_0, r86_0_1, r86_0_2, r86_0_3, r86_0_4⟩, r86_1⟩ := hQ86
  have N86 := Fr.app N83 N86q
  have KK86 := KK77.trans K86 (own_al [2, 4] rfl)
  dsimp only [Option.toList, List.cons_append, List.nil_append]
  refine g_istoreN X86 K d24_57 (L' := #[rv x0, iv 0, iv 1, iv 1, iv (-1), iv 0, iv 1, lv ((k0 + (0 : Int64)) - po1), .second, lv ((0 : Int64) + ((k0 + (0 : Int64)) - po1)), .second]) rfl ?_
  have xb87 := own_XF_keep xb78 K86 na15
  refine g_ag X86 K rfl 24 rfl xb87.2.2.2.2.2.1 d24_58 d24_59 rfl fun T88 X88 e88 => g_iloadN X88 K d24_62 rfl ?_
  have q89 := ((((q37.other W63 (own_on nb0_24 5 7 rfl rfl)).other W67 (own_on nb0_24 5 8 rfl rfl)).keep K77 na19).keep K86 na20)
  refine g_iaload X88 K e88 q89 d24_63 (by decide) (v := (.int 3)) rfl (g_istore X88 K d24_64 (L' := #[rv x0, iv 0, iv 1, iv 1, iv 3, iv 0, iv 1, lv ((k0 + (0 : Int64)) - po1), .second, lv ((0 : Int64) + ((k0 + (0 : Int64)) - po1)), .second]) rfl (g_iload X88 K d24_66 rfl (g_ifN X88 K d24_68 ((if0 _ _).trans (flt (by decide)).1) (g_iloadN X88 K d24_71 rfl (g_ifN X88 K d24_72 ((if0 _ _).trans (feq (by decide)).1) (g_iload X88 K d24_75 rfl (g_goto X88 K 84 d24_77 (by decide) (g_istore X88 K d24_84 (L' := #[rv x0, iv 0, iv 1, iv 1, iv 3, iv 3, iv 1, lv ((k0 + (0 : Int64)) - po1), .second, lv ((0 : Int64) + ((k0 + (0 : Int64)) - po1)), .second]) rfl (g_ag X88 K e88 14 rfl xb87.2.2.1 d24_86 d24_87 rfl fun T92 X92 e92 => g_iload X92 K d24_90 rfl ?_)))))))))
  have q93 := ((((q41.other W63 (own_on nb0_24 2 7 rfl rfl)).other W67 (own_on nb0_24 2 8 rfl rfl)).keep K77 na24).keep K86 na25)
  refine g_iaload X92 K e92 q93 d24_92 (by decide) (v := (.int 0)) rfl (g_istore X92 K d24_93 (L' := #[rv x0, iv 0, iv 1, iv 1, iv 3, iv 3, iv 0, lv ((k0 + (0 : Int64)) - po1), .second, lv ((0 : Int64) + ((k0 + (0 : Int64)) - po1)), .second]) rfl (g_ag X92 K e92 16 rfl xb87.2.2.2.1 d24_95 d24_96 rfl fun T94 X94 e94 => g_iload X94 K d24_99 rfl ?_))
  have q95 := ((((q43.other W63 (own_on nb0_24 3 7 rfl rfl)).other W67 (own_on nb0_24 3 8 rfl rfl)).keep K77 na29).keep K86 na30)
  refine g_laload X94 K e94 q95 d24_101 (by decide) (v := (.long rs3)) rfl (g_lconst X94 K d24_102 (z := 0) rfl (g_lcmp X94 K d24_103 rfl ?_))
  have J96 : ∀ (T96 : State) (L96 : List Loc) (v96_0 : Int64) (v96_1 : Int64), Stand p l e ({ frames := 3, cells := 0, slots := 0, locals := 43 } : Room) s m #[(.ref x0), (.int 0), (.int 1)] below meth c T96 L96 0 0 → Fr n0 L96 → T96.heap = T86.heap → Gl p e below Rp (T96.setTop (mkF m 214 #[rv x0, iv 0, iv 1, iv 1, iv 3, iv 3, iv 0, lv v96_0, .second, lv v96_1, .second] [])) := by
   intro T96 L96 v96_0 v96_1 X96 N96 e96
   refine g_ag X96 K e96 12 rfl xb87.2.1 d24_214 d24_215 rfl fun T97 X97 e97 => g_iload X97 K d24_218 rfl ?_
   have q98 := (q80.keep K86 na35)
   refine g_iaload X97 K e97 q98 d24_220 (by decide) (v := (.int 1)) rfl (g_istore X97 K d24_221 (L' := #[rv x0, iv 0, iv 1, iv 1, iv 1, iv 3, iv 0, lv v96_0, .second, lv v96_1, .second]) rfl (g_goto X97 K 66 d24_223 (by decide) (g_iload X97 K d24_66 rfl (g_ifN X97 K d24_68 ((if0 _ _).trans (flt (by decide)).1) (g_iloadN X97 K d24_71 rfl (g_ifN X97 K d24_72 ((if0 _ _).trans (feq (by decide)).1) (g_iload X97 K d24_75 rfl (g_goto X97 K 84 d24_77 (by decide) (g_istore X97 K d24_84 (L' := #[rv x0, iv 0, iv 1, iv 1, iv 1, iv 1, iv 0, lv v96_0, .second, lv v96_1, .second]) rfl (g_ag X97 K e97 14 rfl xb87.2.2.1 d24_86 d24_87 rfl fun T101 X101 e101 => g_iload X101 K d24_90 rfl (g_iaload X101 K e101 q93 d24_92 (by decide) (v := (.int 0)) rfl ?_)))))))))))
   refine g_istore X101 K d24_93 (L' := #[rv x0, iv 0, iv 1, iv 1, iv 1, iv 1, iv 0, lv v96_0, .second, lv v96_1, .second]) rfl (g_ag X101 K e101 16 rfl xb87.2.2.2.1 d24_95 d24_96 rfl fun T102 X102 e102 => g_iload X102 K d24_99 rfl (g_laload X102 K e102 q95 d24_101 (by decide) (v := (.long rs1)) rfl (g_lconst X102 K d24_102 (z := 0) rfl (g_lcmp X102 K d24_103 rfl ?_))))
   have J103 : ∀ (T103 : State) (L103 : List Loc) (v103_0 : Int64) (v103_1 : Int64), Stand p l e ({ frames := 3, cells := 0, slots := 0, locals := 43 } : Room) s m #[(.ref x0), (.int 0), (.int 1)] below meth c T103 L103 0 0 → Fr n0 L103 → T103.heap = T86.heap → Gl p e below Rp (T103.setTop (mkF m 214 #[rv x0, iv 0, iv 1, iv 1, iv 1, iv 1, iv 0, lv v103_0, .second, lv v103_1, .second] [])) := by
    intro T103 L103 v103_0 v103_1 X103 N103 e103
    refine g_ag X103 K e103 12 rfl xb87.2.1 d24_214 d24_215 rfl fun T104 X104 e104 => g_iload X104 K d24_218 rfl (g_iaload X104 K e104 q98 d24_220 (by decide) (v := (.int (-1))) rfl (g_istore X104 K d24_221 (L' := #[rv x0, iv 0, iv 1, iv 1, iv (-1), iv 1, iv 0, lv v103_0, .second, lv v103_1, .second]) rfl (g_goto X104 K 66 d24_223 (by decide) (g_iload X104 K d24_66 rfl (g_ifY X104 K 226 d24_68 (by decide) ((if0 _ _).trans (tlt (by decide)).1) (g_goto X104 K 40 d24_226 (by decide) (g_ag X104 K e104 49 rfl xb87.2.2.2.2.2.2.2.2.2.1 d24_40 d24_41 rfl fun T106 X106 e106 => g_callV X106 K e106 184 186 34 188 185 187 rfl rfl rfl rfl rfl rfl (by decide) (rmhe0 l Z a0 hw hp T86.heap n0 (Nat.le_trans Z0 KK86.1) ⟨r86_0_0, r86_0_1, r86_0_2, r86_0_3, r86_0_4⟩) r86_0_0 d24_44 hml.symm (argsL := []) (lenOf pd_10 rfl) rfl 0 (Nat.le_of_ble_eq_true rfl) (by decide) fun v107 T107 Lc107 hQ107 X107 => ?_)))))))
    obtain ⟨rfl, N107q, e107⟩ := hQ107
    have N107 := Fr.app N103 N107q
    dsimp only [Option.toList, List.cons_append, List.nil_append]
    refine g_ifY X107 K 229 d24_47 (by decide) ((if0 _ _).trans (feq (by decide)).2) ?_
    have q109 := (((V63.other W67 (own_on nb0_24 7 8 rfl rfl)).keep K77 na46).keep K86 na47)
    have q110 := ((V67.keep K77 na49).keep K86 na50)
    have q111 := (r77_1.keep K86 na51)
    exact g_lv0 X107 K hlk hrt hR d24_229 (by decide) (by rw [e107]; exact ⟨(-1 : Int32), (0 : Int32), (1 : Int32), hn1, rfl, N107, KK86, q109, q110, ⟨r86_0_0, r86_0_1, r86_0_2, r86_0_3, r86_0_4⟩, q111, r86_1⟩)
   by_cases hc104_112 : rs1 = (0 : Int64)
   refine g_ifN X102 K d24_104 ((if0 _ _).trans (teq ((lw_eq rs1 (0 : Int64)).mpr hc104_112)).2) ?_
   ·
    refine g_goto X102 K 214 d24_107 (by decide) ?_
    exact J103 _ _ v96_0 v96_1 X102 N96 e102
   refine g_ifY X102 K 110 d24_104 (by decide) ((if0 _ _).trans (feq (fun q => hc104_112 ((lw_eq rs1 (0 : Int64)).mp q))).2) ?_
   ·
    refine g_iloadN X102 K d24_110 rfl (g_ifN X102 K d24_111 ((if0 _ _).trans (feq (by decide)).1) (g_ag X102 K e102 18 rfl xb87.2.2.2.2.1 d24_114 d24_115 rfl fun T114 X114 e114 => g_iload X114 K d24_118 rfl ?_))
    have q115 := ((((q54.other W63 (own_on nb0_24 4 7 rfl rfl)).other W67 (own_on nb0_24 4 8 rfl rfl)).keep K77 na39).keep K86 na40)
    refine g_laload X114 K e114 q115 d24_120 (by decide) (v := (.long (-k0))) rfl (g_ag X114 K e114 26 rfl xb87.2.2.2.2.2.2.1 d24_121 d24_122 rfl fun T116 X116 e116 => g_iloadN X116 K d24_125 rfl ?_)
    have q117 := ((((q56.other W63 (own_on nb0_24 6 7 rfl rfl)).other W67 (own_on nb0_24 6 8 rfl rfl)).keep K77 na44).keep K86 na45)
    refine g_laload X116 K e116 q117 d24_126 (by decide) (v := (.long po1)) rfl (g_ladd X116 K d24_127 rfl (g_ag X116 K e116 26 rfl xb87.2.2.2.2.2.2.1 d24_128 d24_129 rfl fun T118 X118 e118 => g_iload X118 K d24_132 rfl (g_laload X118 K e118 q117 d24_134 (by decide) (v := (.long 0)) rfl (g_lsub X118 K d24_135 rfl (g_goto X118 K 161 d24_136 (by decide) (g_lstore X118 K d24_161 (L' := #[rv x0, iv 0, iv 1, iv 1, iv 1, iv 1, iv 0, lv (((-k0) + po1) - (0 : Int64)), .second, lv v96_1, .second]) rfl (g_ag X118 K e118 28 rfl xb87.2.2.2.2.2.2.2.1 d24_163 d24_164 rfl fun T119 X119 e119 => g_iloadN X119 K d24_167 rfl ?_)))))))
    have q120 := (((V63.other W67 (own_on nb0_24 7 8 rfl rfl)).keep K77 na46).keep K86 na47)
    refine g_laload X119 K e119 q120 d24_168 (by decide) (v := (.long ((0 : Int64) + ((k0 + (0 : Int64)) - po1)))) rfl (g_lload X119 K d24_169 rfl (g_ladd X119 K d24_171 rfl (g_lstore X119 K d24_172 (L' := #[rv x0, iv 0, iv 1, iv 1, iv 1, iv 1, iv 0, lv (((-k0) + po1) - (0 : Int64)), .second, lv (((0 : Int64) + ((k0 + (0 : Int64)) - po1)) + (((-k0) + po1) - (0 : Int64))), .second]) rfl (g_lload X119 K d24_174 rfl (g_ag X119 K e119 28 rfl xb87.2.2.2.2.2.2.2.1 d24_176 d24_177 rfl fun T121 X121 e121 => g_iload X121 K d24_180 rfl (g_laload X121 K e121 q120 d24_182 (by decide) (v := (.long 0)) rfl (g_lcmp X121 K d24_183 rfl ?_)))))))
    have hc184_122 : ¬ ((((0 : Int64) + ((k0 + (0 : Int64)) - po1)) + (((-k0) + po1) - (0 : Int64))) < (0 : Int64)) := yz1 hc104_112
    refine g_ifY X121 K 214 d24_184 (by decide) ((if0 _ _).trans (flt (fun q => hc184_122 ((lw_lt (((0 : Int64) + ((k0 + (0 : Int64)) - po1)) + (((-k0) + po1) - (0 : Int64))) (0 : Int64)).mp q))).2.1) ?_
    exact J103 _ _ (((-k0) + po1) - (0 : Int64)) (((0 : Int64) + ((k0 + (0 : Int64)) - po1)) + (((-k0) + po1) - (0 : Int64))) X121 N96 e121
  by_cases hc104_123 : rs3 = (0 : Int64)
  refine g_ifN X94 K d24_104 ((if0 _ _).trans (teq ((lw_eq rs3 (0 : Int64)).mpr hc104_123)).2) ?_
  ·
   refine g_goto X94 K 214 d24_107 (by decide) ?_
   exact J96 _ _ ((k0 + (0 : Int64)) - po1) ((0 : Int64) + ((k0 + (0 : Int64)) - po1)) X94 N86 e94
  refine g_ifY X94 K 110 d24_104 (by decide) ((if0 _ _).trans (feq (fun q => hc104_123 ((lw_eq rs3 (0 : Int64)).mp q))).2) ?_
  ·
   refine g_iloadN X94 K d24_110 rfl (g_ifN X94 K d24_111 ((if0 _ _).trans (feq (by decide)).1) (g_ag X94 K e94 18 rfl xb87.2.2.2.2.1 d24_114 d24_115 rfl fun T125 X125 e125 => g_iload X125 K d24_118 rfl ?_))
   have q126 := ((((q54.other W63 (own_on nb0_24 4 7 rfl rfl)).other W67 (own_on nb0_24 4 8 rfl rfl)).keep K77 na39).keep K86 na40)
   refine g_laload X125 K e125 q126 d24_120 (by decide) (v := (.long (-k1))) rfl (g_ag X125 K e125 26 rfl xb87.2.2.2.2.2.2.1 d24_121 d24_122 rfl fun T127 X127 e127 => g_iloadN X127 K d24_125 rfl ?_)
   have q128 := ((((q56.other W63 (own_on nb0_24 6 7 rfl rfl)).other W67 (own_on nb0_24 6 8 rfl rfl)).keep K77 na44).keep K86 na45)
   refine g_laload X127 K e127 q128 d24_126 (by decide) (v := (.long po1)) rfl (g_ladd X127 K d24_127 rfl (g_ag X127 K e127 26 rfl xb87.2.2.2.2.2.2.1 d24_128 d24_129 rfl fun T129 X129 e129 => g_iload X129 K d24_132 rfl (g_laload X129 K e129 q128 d24_134 (by decide) (v := (.long 0)) rfl (g_lsub X129 K d24_135 rfl (g_goto X129 K 161 d24_136 (by decide) (g_lstore X129 K d24_161 (L' := #[rv x0, iv 0, iv 1, iv 1, iv 3, iv 3, iv 0, lv (((-k1) + po1) - (0 : Int64)), .second, lv ((0 : Int64) + ((k0 + (0 : Int64)) - po1)), .second]) rfl (g_ag X129 K e129 28 rfl xb87.2.2.2.2.2.2.2.1 d24_163 d24_164 rfl fun T130 X130 e130 => g_iloadN X130 K d24_167 rfl ?_)))))))
   have q131 := (((V63.other W67 (own_on nb0_24 7 8 rfl rfl)).keep K77 na46).keep K86 na47)
   refine g_laload X130 K e130 q131 d24_168 (by decide) (v := (.long ((0 : Int64) + ((k0 + (0 : Int64)) - po1)))) rfl (g_lload X130 K d24_169 rfl (g_ladd X130 K d24_171 rfl (g_lstore X130 K d24_172 (L' := #[rv x0, iv 0, iv 1, iv 1, iv 3, iv 3, iv 0, lv (((-k1) + po1) - (0 : Int64)), .second, lv (((0 : Int64) + ((k0 + (0 : Int64)) - po1)) + (((-k1) + po1) - (0 : Int64))), .second]) rfl (g_lload X130 K d24_174 rfl (g_ag X130 K e130 28 rfl xb87.2.2.2.2.2.2.2.1 d24_176 d24_177 rfl fun T132 X132 e132 => g_iload X132 K d24_180 rfl (g_laload X132 K e132 q131 d24_182 (by decide) (v := (.long 0)) rfl (g_lcmp X132 K d24_183 rfl ?_)))))))
   have hc184_133 : ¬ ((((0 : Int64) + ((k0 + (0 : Int64)) - po1)) + (((-k1) + po1) - (0 : Int64))) < (0 : Int64)) := yz3 hc104_123
   refine g_ifY X132 K 214 d24_184 (by decide) ((if0 _ _).trans (flt (fun q => hc184_133 ((lw_lt (((0 : Int64) + ((k0 + (0 : Int64)) - po1)) + (((-k1) + po1) - (0 : Int64))) (0 : Int64)).mp q))).2.1) ?_
   exact J96 _ _ (((-k1) + po1) - (0 : Int64)) (((0 : Int64) + ((k0 + (0 : Int64)) - po1)) + (((-k1) + po1) - (0 : Int64))) X132 N86 e132
def QsrB0 (Z : State) (x0 : Addr) (nx : Addr) (tg : Addr) (rs : Addr) (co : Addr) (fi : Addr) (po : Addr) (di : Addr) (pa : Addr) (hp : Addr) (hn : Addr) (hq : Addr) (qu : Addr) (qd : Addr) (lw : Addr) (sk : Addr) (cu : Addr) (vi : Addr) (ar : Int32) (ac : Int64) (fc : Int64) (vl : Int32) (so : Int32) (si : Int32) (vt : Int64) (k0 : Int64) (k1 : Int64) (kfi : ClassId) (knx : ClassId) (ktg : ClassId) (kco : ClassId) (krs : ClassId) (kdi : ClassId) (kpa : ClassId) (khn : ClassId) (rs0 : Int64) (rs1 : Int64) (rs2 : Int64) (rs3 : Int64) (di0 : Int64) (di1 : Int64) (pa0 : Int32) (pa1 : Int32) (hn0 : Int32) (hn1 : Int32) (kpo : ClassId) (po1 : Int64) (khq : ClassId) (h0 : Heap) (n0 : Nat) (v : Option Value) (h : Heap) (L : List Loc) : Prop := ∃ (e0 : Int32), ∃ (e1 : Int32), ∃ (e2 : Int32), ∃ (e3 : Int32), v = none ∧ Fr n0 L ∧ Keep h0 h [di, pa, hp, hn, hq] ∧ Arv Z h di kdi .long (2 : Int32) [(.long 0), (.long ((0 : Int64) + ((k0 + (0 : Int64)) - po1)))] (.long 0) ∧ Arv Z h pa kpa .int (2 : Int32) [(.int e0), (.int e1)] (.int 0) ∧ own_HP Z h n0 hp di hn hq (0 : Int32) ∧ Arv Z h hn khn .int (2 : Int32) [(.int e2), (.int e3)] (.int 0) ∧ Arv Z h hq khq .int (2 : Int32) [(.int (-1)), (.int (-1))] (.int 0)
theorem ef_srB0 (m : MethodId) (x0 : Addr) : entryFrame m #[(.ref x0), (.int 0), (.int 1)] 11 = mkF m 0 #[rv x0, iv 0, iv 1, .unset, .unset, .unset, .unset, .unset, .unset, .unset, .unset] [] := by first | (simp [entryFrame, mkF, argsToLocals, Value.category]; done) | rfl
set_option maxRecDepth 65536 in
set_option maxHeartbeats 40000000 in
theorem rmsrB0 (l : Launch) (Z : State) (a0 : Array Value) (hw : ∀ d ∈ tables_1, d.before a0 Z = true) (x0 : Addr) {nx : Addr} {tg : Addr} {rs : Addr} {co : Addr} {fi : Addr} {po : Addr} {di : Addr} {pa : Addr} {hp : Addr} {hn : Addr} {hq : Addr} {qu : Addr} {qd : Addr} {lw : Addr} {sk : Addr} {cu : Addr} {vi : Addr} {ar : Int32} {ac : Int64} {fc : Int64} {vl : Int32} {so : Int32} {si : Int32} {vt : Int64} {k0 : Int64} {k1 : Int64} {kfi : ClassId} {knx : ClassId} {ktg : ClassId} {kco : ClassId} {krs : ClassId} {kdi : ClassId} {kpa : ClassId} {khn : ClassId} {rs0 : Int64} {rs1 : Int64} {rs2 : Int64} {rs3 : Int64} {di0 : Int64} {di1 : Int64} {pa0 : Int32} {pa1 : Int32} {hn0 : Int32} {hn1 : Int32} {kpo : ClassId} {po1 : Int64} {khq : ClassId} (h0 : Heap) (n0 : Nat) (Z0 : n0 ≤ h0.size) (pre_own_XF : own_XF Z h0 n0 x0 nx tg rs co fi po di pa hp hn hq qu qd lw sk cu vi ar ac fc vl so si vt) (pre_A_fi : Arv Z h0 fi kfi .int (2 : Int32) [(.int 2), (.int 3)] (.int 0)) (pre_A_nx : Arv Z h0 nx knx .int (16 : Int32) [(.int (-1)), (.int (-1)), (.int 0), (.int 1)] (.int 0)) (pre_A_tg : Arv Z h0 tg ktg .int (16 : Int32) [(.int 1), (.int 0), (.int 1), (.int 0)] (.int 0)) (pre_A_co : Arv Z h0 co kco .long (16 : Int32) [(.long k0), (.long (-k0)), (.long k1), (.long (-k1))] (.long 0)) (pre_A_rs : Arv Z h0 rs krs .long (16 : Int32) [(.long rs0), (.long rs1), (.long rs2), (.long rs3)] (.long 0)) (pre_A_po : Arv Z h0 po kpo .long (2 : Int32) [(.long 0), (.long po1)] (.long 0)) (pre_own_HP : own_HP Z h0 n0 hp di hn hq (0 : Int32)) (pre_A_hn : Arv Z h0 hn khn .int (2 : Int32) [(.int hn0), (.int hn1)] (.int 0)) (pre_A_hq : Arv Z h0 hq khq .int (2 : Int32) [(.int (-1)), (.int (-1))] (.int 0)) (pre_A_di : Arv Z h0 di kdi .long (2 : Int32) [(.long di0), (.long di1)] (.long 0)) (pre_A_pa : Arv Z h0 pa kpa .int (2 : Int32) [(.int pa0), (.int pa1)] (.int 0)) (yz2 : ¬ (rs2 = (0 : Int64))) (yz0 : ¬ (rs0 = (0 : Int64))) (yb2 : ((0 : Int64) + ((k1 + (0 : Int64)) - po1)) < (9223372036854775807 : Int64)) (ylt : ((0 : Int64) + ((k0 + (0 : Int64)) - po1)) < ((0 : Int64) + ((k1 + (0 : Int64)) - po1))) (yz3 : ¬ (rs3 = (0 : Int64)) → ¬ ((((0 : Int64) + ((k0 + (0 : Int64)) - po1)) + (((-k1) + po1) - (0 : Int64))) < (0 : Int64))) (yz1 : ¬ (rs1 = (0 : Int64)) → ¬ ((((0 : Int64) + ((k0 + (0 : Int64)) - po1)) + (((-k0) + po1) - (0 : Int64))) < (0 : Int64))) :
    own_M l (⟨"com/example/violarc/violarc/graph/FlowNetwork", "search", "(IZ)V"⟩ : MethodName) c24 11 none ({ frames := 3, cells := 0, slots := 0, locals := 43 } : Room) #[(.ref x0), (.int 0), (.int 1)] Z h0 (QsrB0 Z x0 nx tg rs co fi po di pa hp hn hq qu qd lw sk cu vi ar ac fc vl so si vt k0 k1 kfi knx ktg kco krs kdi kpa khn rs0 rs1 rs2 rs3 di0 di1 pa0 pa1 hn0 hn1 kpo po1 khq h0 n0) := by
  refine MetFree.of_bodySF (plainFor_of_name pn_24) hisR ?_
  intro p e s m args below meth c s₁ Bd hml0 hP hK
  obtain ⟨rfl, hZ, hh⟩ := hP
  have hx := Bd.exec
  have hby := Bd.bytes
  have hml : c.maxLocals = 11 := hml0
  have hown : s.vm.findClass "com/example/violarc/violarc/graph/FlowNetwork" = some m.cls := findClass_of_methodNamed Bd.named
  have hnm := (name_of_methodNamed Bd.named Bd.method).1
  have X0 : Stand p l e ({ frames := 3, cells := 0, slots := 0, locals := 43 } : Room) s m #[(.ref x0), (.int 0), (.int 1)] below meth c s₁ [] 0 0 := Stand.of_body Bd
  have e0 : s₁.heap = h0 := by rw [← hh, Bd.state]; rfl
  have N0 := Fr.nil n0
  have Kp0 := Keep.refl h0 [di, pa, hp, hn, hq]
  have hlk := BodyLoose.notSynchronized Bd
  have hrt := Bd.returns
  have K : own_K p c c24 Z s "com/example/violarc/violarc/graph/FlowNetwork" m a0 := ⟨hx, hby, hZ, hown, hw⟩
  refine gStart (S' := s₁.setTop (mkF m 0 #[rv x0, iv 0, iv 1, uu, uu, uu, uu, uu, uu, uu, uu] [])) (congrArg (fun f => s₁.setTop f) (ef_srB0 m x0)) fun Rp hR => ?_
  obtain ⟨nb0_0, nb0_1, nb0_2, nb0_3, nb0_4, nb0_5, nb0_6, nb0_7, nb0_8, nb0_9, nb0_10, nb0_11, nb0_12, nb0_13, nb0_14, nb0_15, nb0_16, nb0_17, nb0_18, nb0_19, nb0_20, nb0_21, nb0_22, nb0_23, nb0_24⟩ := id pre_own_XF
  obtain ⟨nb1_0, nb1_1, nb1_2, nb1_3, nb1_4⟩ := id pre_own_HP
  have na0 : x0 ∉ [di] := own_nin nb0_24 0 rfl [7] _ rfl (by decide)
  have na1 : pa ∉ [di] := own_nin nb0_24 8 rfl [7] _ rfl (by decide)
  have na2 : x0 ∉ [pa] := own_nin nb0_24 0 rfl [8] _ rfl (by decide)
  have na3 : hp ∉ [di] := own_nin nb0_24 9 rfl [7] _ rfl (by decide)
  have na4 : hp ∉ [pa] := own_nin nb0_24 9 rfl [8] _ rfl (by decide)
  have na5 : x0 ∉ [hp] := own_nin nb0_24 0 rfl [9] _ rfl (by decide)
  have na6 : di ∉ [pa] := own_nin nb0_24 7 rfl [8] _ rfl (by decide)
  have na7 : di ∉ [hp] := own_nin nb0_24 7 rfl [9] _ rfl (by decide)
  have na8 : hn ∉ [di] := own_nin nb0_24 10 rfl [7] _ rfl (by decide)
  have na9 : hn ∉ [pa] := own_nin nb0_24 10 rfl [8] _ rfl (by decide)
  have na10 : hn ∉ [hp] := own_nin nb0_24 10 rfl [9] _ rfl (by decide)
  have na11 : hq ∉ [di] := own_nin nb0_24 11 rfl [7] _ rfl (by decide)
  have na12 : hq ∉ [pa] := own_nin nb0_24 11 rfl [8] _ rfl (by decide)
  have na13 : hq ∉ [hp] := own_nin nb0_24 11 rfl [9] _ rfl (by decide)
  have na14 : x0 ∉ [hp, hn, hq] := own_nin nb0_24 0 rfl [9, 10, 11] _ rfl (by decide)
  have na15 : x0 ∉ [hp, hq] := own_nin nb0_24 0 rfl [9, 11] _ rfl (by decide)
  have na16 : fi ∉ [di] := own_nin nb0_24 5 rfl [7] _ rfl (by decide)
  have na17 : fi ∉ [pa] := own_nin nb0_24 5 rfl [8] _ rfl (by decide)
  have na18 : fi ∉ [hp] := own_nin nb0_24 5 rfl [9] _ rfl (by decide)
  have na19 : fi ∉ [hp, hn, hq] := own_nin nb0_24 5 rfl [9, 10, 11] _ rfl (by decide)
  have na20 : fi ∉ [hp, hq] := own_nin nb0_24 5 rfl [9, 11] _ rfl (by decide)
  have na21 : tg ∉ [di] := own_nin nb0_24 2 rfl [7] _ rfl (by decide)
  have na22 : tg ∉ [pa] := own_nin nb0_24 2 rfl [8] _ rfl (by decide)
  have na23 : tg ∉ [hp] := own_nin nb0_24 2 rfl [9] _ rfl (by decide)
  have na24 : tg ∉ [hp, hn, hq] := own_nin nb0_24 2 rfl [9, 10, 11] _ rfl (by decide)
  have na25 : tg ∉ [hp, hq] := own_nin nb0_24 2 rfl [9, 11] _ rfl (by decide)
  have na26 : rs ∉ [di] := own_nin nb0_24 3 rfl [7] _ rfl (by decide)
  have na27 : rs ∉ [pa] := own_nin nb0_24 3 rfl [8] _ rfl (by decide)
  have na28 : rs ∉ [hp] := own_nin nb0_24 3 rfl [9] _ rfl (by decide)
  have na29 : rs ∉ [hp, hn, hq] := own_nin nb0_24 3 rfl [9, 10, 11] _ rfl (by decide)
  have na30 : rs ∉ [hp, hq] := own_nin nb0_24 3 rfl [9, 11] _ rfl (by decide)
  have na31 : co ∉ [di] := own_nin nb0_24 4 rfl [7] _ rfl (by decide)
  have na32 : co ∉ [pa] := own_nin nb0_24 4 rfl [8] _ rfl (by decide)
  have na33 : co ∉ [hp] := own_nin nb0_24 4 rfl [9] _ rfl (by decide)
  have na34 : co ∉ [hp, hn, hq] := own_nin nb0_24 4 rfl [9, 10, 11] _ rfl (by decide)
  have na35 : co ∉ [hp, hq] := own_nin nb0_24 4 rfl [9, 11] _ rfl (by decide)
  have na36 : po ∉ [di] := own_nin nb0_24 6 rfl [7] _ rfl (by decide)
  have na37 : po ∉ [pa] := own_nin nb0_24 6 rfl [8] _ rfl (by decide)
  have na38 : po ∉ [hp] := own_nin nb0_24 6 rfl [9] _ rfl (by decide)
  have na39 : po ∉ [hp, hn, hq] := own_nin nb0_24 6 rfl [9, 10, 11] _ rfl (by decide)
  have na40 : po ∉ [hp, hq] := own_nin nb0_24 6 rfl [9, 11] _ rfl (by decide)
  have na41 : di ∉ [hp, hn, hq] := own_nin nb0_24 7 rfl [9, 10, 11] _ rfl (by decide)
  have na42 : di ∉ [hp, hq] := own_nin nb0_24 7 rfl [9, 11] _ rfl (by decide)
  have na43 : pa ∉ [hp] := own_nin nb0_24 8 rfl [9] _ rfl (by decide)
  have na44 : pa ∉ [hp, hn, hq] := own_nin nb0_24 8 rfl [9, 10, 11] _ rfl (by decide)
  have na45 : pa ∉ [hp, hq] := own_nin nb0_24 8 rfl [9, 11] _ rfl (by decide)
  have na46 : hn ∉ [hp, hq] := own_nin nb0_24 10 rfl [9, 11] _ rfl (by decide)
  have na47 : nx ∉ [di] := own_nin nb0_24 1 rfl [7] _ rfl (by decide)
  have na48 : nx ∉ [pa] := own_nin nb0_24 1 rfl [8] _ rfl (by decide)
  have na49 : nx ∉ [hp] := own_nin nb0_24 1 rfl [9] _ rfl (by decide)
  have na50 : nx ∉ [hp, hn, hq] := own_nin nb0_24 1 rfl [9, 10, 11] _ rfl (by decide)
  have na51 : nx ∉ [hp, hq] := own_nin nb0_24 1 rfl [9, 11] _ rfl (by decide)
  have na52 : x0 ∉ [hn, hq] := own_nin nb0_24 0 rfl [10, 11] _ rfl (by decide)
  have na53 : nx ∉ [hn, hq] := own_nin nb0_24 1 rfl [10, 11] _ rfl (by decide)
  have na54 : hp ∉ [hn, hq] := own_nin nb0_24 9 rfl [10, 11] _ rfl (by decide)
  have na55 : fi ∉ [hn, hq] := own_nin nb0_24 5 rfl [10, 11] _ rfl (by decide)
  have na56 : tg ∉ [hn, hq] := own_nin nb0_24 2 rfl [10, 11] _ rfl (by decide)
  have na57 : rs ∉ [hn, hq] := own_nin nb0_24 3 rfl [10, 11] _ rfl (by decide)
  have na58 : co ∉ [hn, hq] := own_nin nb0_24 4 rfl [10, 11] _ rfl (by decide)
  have na59 : po ∉ [hn, hq] := own_nin nb0_24 6 rfl [10, 11] _ rfl (by decide)
  have na60 : di ∉ [hn, hq] := own_nin nb0_24 7 rfl [10, 11] _ rfl (by decide)
  have na61 : pa ∉ [hn, hq] := own_nin nb0_24 8 rfl [10, 11] _ rfl (by decide)
  refine g_ag X0 K e0 28 rfl pre_own_XF.2.2.2.2.2.2.2.1 d24_0 d24_1 rfl fun T1 X1 e1 => g_ldc2 X1 K 163 rfl d24_4 (z := (9223372036854775807 : Int64)) rfl (g_callS X1 K e1 108 109 47 110 rfl rfl rfl rfl (by decide) (rm14 l Z a0 hw (9223372036854775807 : Int64) h0 n0 Z0 pre_A_di (own_ong nb0_24 nb0_23 7 rfl)) d24_7 hml.symm (argsL := [(.ref di), (.long 9223372036854775807)]) (lenOf pd_7 rfl) rfl 0 (Nat.le_of_ble_eq_true rfl) (by decide) fun v2 T2 Lc2 hQ2 X2 => ?_)
  obtain ⟨rfl, N2q, K2, r2_0⟩ := hQ2
  have N2 := Fr.app N0 N2q
  have KK2 := Kp0.trans K2 (own_al [0] rfl)
  dsimp only [Option.toList, List.cons_append, List.nil_append]
  have xb3 := own_XF_keep pre_own_XF K2 na0
  refine g_ag X2 K rfl 30 rfl xb3.2.2.2.2.2.2.2.2.1 d24_10 d24_11 rfl fun T4 X4 e4 => g_iconst X4 K d24_14 (z := -1) rfl ?_
  have q5 := (pre_A_pa.keep K2 na1)
  refine g_callS X4 K e4 64 46 47 48 rfl rfl rfl rfl (by decide) (rm4 l Z a0 hw (-1 : Int32) T2.heap n0 (Nat.le_trans Z0 KK2.1) q5 (own_ong nb0_24 nb0_23 8 rfl)) d24_15 hml.symm (argsL := [(.ref pa), (.int (-1))]) (lenOf pd_0 rfl) rfl 0 (Nat.le_of_ble_eq_true rfl) (by decide) fun v6 T6 Lc6 hQ6 X6 => ?_
  obtain ⟨rfl, N6q, K6, r6_0⟩ := hQ6
  have N6 := Fr.app N2 N6q
  have KK6 := KK2.trans K6 (own_al [1] rfl)
  dsimp only [Option.toList, List.cons_append, List.nil_append]
  have xb7 := own_XF_keep xb3 K6 na2
  refine g_ag X6 K rfl 49 rfl xb7.2.2.2.2.2.2.2.2.2.1 d24_18 d24_19 rfl fun T8 X8 e8 => ?_
  have q9 := ((nb1_0.keep K2).keep K6)
  have q10 := ((nb1_1.keep K2 na3).keep K6 na4)
  have q11 := ((nb1_2.keep K2 na3).keep K6 na4)
  have q12 := ((nb1_3.keep K2 na3).keep K6 na4)
  have q13 := ((nb1_4.keep K2 na3).keep K6 na4)
  refine g_callV X8 K e8 164 166 34 168 165 167 rfl rfl rfl rfl rfl rfl (by decide) (rm25 l Z a0 hw hp T6.heap n0 (Nat.le_trans Z0 KK6.1) ⟨q9, q10, q11, q12, q13⟩ (own_ong nb0_24 nb0_23 9 rfl)) q9 d24_22 hml.symm (argsL := []) (lenOf pd_9 rfl) rfl 0 (Nat.le_of_ble_eq_true rfl) (by decide) fun v14 T14 Lc14 hQ14 X14 => ?_
  obtain ⟨rfl, N14q, K14, ⟨r14_0_0, r14_0_1, r14_0_2, r14_0_3, r14_0_4⟩⟩ := hQ14
  have N14 := Fr.app N6 N14q
  have KK14 := KK6.trans K14 (own_al [2] rfl)
  dsimp only [Option.toList, List.cons_append, List.nil_append]
  have xb15 := own_XF_keep xb7 K14 na5
  refine g_ag X14 K rfl 28 rfl xb15.2.2.2.2.2.2.2.1 d24_25 d24_26 rfl fun T16 X16 e16 => g_iloadN X16 K d24_29 rfl (g_lconst X16 K d24_30 (z := 0) rfl ?_)
  have q17 := ((r2_0.keep K6 na6).keep K14 na7)
  refine g_lastore X16 K e16 q17 d24_31 (by decide) 0 ⟨rfl, Nat.le_of_ble_eq_true rfl⟩ (w := [(.long 0), (.long 9223372036854775807)]) rfl rfl fun T18 h18 X18 e18 W18 V18 => ?_
  have N18 := Fr.snoc X18 N14 (own_ong nb0_24 nb0_23 7 rfl)
  have KK18 := KK14.wr W18 (Or.inl (List.mem_of_getElem? (i := 0) rfl))
  have xb19 := own_XF_wr xb15 W18 (own_on nb0_24 0 7 rfl rfl)
  refine g_ag X18 K e18 49 rfl xb19.2.2.2.2.2.2.2.2.2.1 d24_32 d24_33 rfl fun T20 X20 e20 => g_iloadN X20 K d24_36 rfl ?_
  have q21 := (r14_0_0.wr W18)
  have q22 := (r14_0_1.other W18 (Or.inl (own_on nb0_24 9 7 rfl rfl)))
  have q23 := (r14_0_2.other W18 (Or.inl (own_on nb0_24 9 7 rfl rfl)))
  have q24 := (r14_0_3.other W18 (Or.inl (own_on nb0_24 9 7 rfl rfl)))
  have q25 := (r14_0_4.other W18 (Or.inl (own_on nb0_24 9 7 rfl rfl)))
  have q26 := ((((pre_A_hn.keep K2 na8).keep K6 na9).keep K14 na10).other W18 (own_on nb0_24 10 7 rfl rfl))
  have q27 := ((((pre_A_hq.keep K2 na11).keep K6 na12).keep K14 na13).other W18 (own_on nb0_24 11 7 rfl rfl))
  refine g_callV X20 K e20 171 173 34 175 172 174 rfl rfl rfl rfl rfl rfl (by decide) (rmhp0 l Z a0 hw hp h18 n0 (Nat.le_trans Z0 KK18.1) ⟨q21, q22, q23, q24, q25⟩ q26 q27 (own_ong nb0_24 nb0_23 9 rfl) (own_ong nb0_24 nb0_23 10 rfl) (own_ong nb0_24 nb0_23 11 rfl) (own_on nb0_24 9 10 rfl rfl) (own_on nb0_24 9 11 rfl rfl) (own_on nb0_24 10 11 rfl rfl)) q21 d24_37 hml.symm (argsL := [(.int 0)]) (lenOf pd_3 rfl) rfl 0 (Nat.le_of_ble_eq_true rfl) (by decide) fun v28 T28 Lc28 hQ28 X28 => ?_
  obtain ⟨rfl, N28q, K28, ⟨r28_0_0, r28_0_1, r28_0_2, r28_0_3, r28_0_4⟩, r28_1, r28_2⟩ := hQ28
  have N28 := Fr.app N18 N28q
  have KK28 := KK18.trans K28 (own_al [2, 3, 4] rfl)
  dsimp only [Option.toList, List.cons_append, List.nil_append]
  have xb29 := own_XF_keep xb19 K28 na14
  refine g_ag X28 K rfl 49 rfl xb29.2.2.2.2.2.2.2.2.2.1 d24_40 d24_41 rfl fun T30 X30 e30 => g_callV X30 K e30 184 186 34 188 185 187 rfl rfl rfl rfl rfl rfl (by decide) (rmhe1 l Z a0 hw hp T28.heap n0 (Nat.le_trans Z0 KK28.1) ⟨r28_0_0, r28_0_1, r28_0_2, r28_0_3, r28_0_4⟩) r28_0_0 d24_44 hml.symm (argsL := []) (lenOf pd_10 rfl) rfl 0 (Nat.le_of_ble_eq_true rfl) (by decide) fun v31 T31 Lc31 hQ31 X31 => ?_
  obtain ⟨rfl, N31q, e31⟩ := hQ31
  have N31 := Fr.app N28 N31q
  dsimp only [Option.toList, List.cons_append, List.nil_append]
  refine g_ifN X31 K d24_47 ((if0 _ _).trans (teq (by decide)).2) (g_ag X31 K e31 49 rfl xb29.2.2.2.2.2.2.2.2.2.1 d24_50 d24_51 rfl fun T33 X33 e33 => g_callV X33 K e33 189 191 34 193 190 192 rfl rfl rfl rfl rfl rfl (by decide) (rmpo0 l Z a0 hw hp T28.heap n0 (Nat.le_trans Z0 KK28.1) ⟨r28_0_0, r28_0_1, r28_0_2, r28_0_3, r28_0_4⟩ r28_1 r28_2 (own_ong nb0_24 nb0_23 9 rfl) (own_ong nb0_24 nb0_23 10 rfl) (own_ong nb0_24 nb0_23 11 rfl) (own_on nb0_24 9 10 rfl rfl) (own_on nb0_24 9 11 rfl rfl) (own_on nb0_24 10 11 rfl rfl)) r28_0_0 d24_54 hml.symm (argsL := []) (lenOf pd_11 rfl) rfl 0 (Nat.le_of_ble_eq_true rfl) (by decide) fun v34 T34 Lc34 hQ34 X34 => ?_)
  obtain ⟨rfl, N34q, K34, ⟨r34_0_0, r34_0_1, r34_0_2, r34_0_3, r34_0_4⟩, r34_1⟩ := hQ34
  have N34 := Fr.app N31 N34q
  have KK34 := KK28.trans K34 (own_al [2, 4] rfl)
  dsimp only [Option.toList, List.cons_append, List.nil_append]
  refine g_istoreN X34 K d24_57 (L' := #[rv x0, iv 0, iv 1, iv 0, uu, uu, uu, uu, uu, uu, uu]) rfl ?_
  have xb35 := own_XF_keep xb29 K34 na15
  refine g_ag X34 K rfl 24 rfl xb35.2.2.2.2.2.1 d24_58 d24_59 rfl fun T36 X36 e36 => g_iloadN X36 K d24_62 rfl ?_
  have q37 := ((((((pre_A_fi.keep K2 na16).keep K6 na17).keep K14 na18).other W18 (own_on nb0_24 5 7 rfl rfl)).keep K28 na19).keep K34 na20)
  refine g_iaload X36 K e36 q37 d24_63 (by decide) (v := (.int 2)) rfl (g_istore X36 K d24_64 (L' := #[rv x0, iv 0, iv 1, iv 0, iv 2, uu, uu, uu, uu, uu, uu]) rfl (g_iload X36 K d24_66 rfl (g_ifN X36 K d24_68 ((if0 _ _).trans (flt (by decide)).1) (g_iloadN X36 K d24_71 rfl (g_ifN X36 K d24_72 ((if0 _ _).trans (feq (by decide)).1) (g_iload X36 K d24_75 rfl (g_goto X36 K 84 d24_77 (by decide) (g_istore X36 K d24_84 (L' := #[rv x0, iv 0, iv 1, iv 0, iv 2, iv 2, uu, uu, uu, uu, uu]) rfl (g_ag X36 K e36 14 rfl xb35.2.2.1 d24_86 d24_87 rfl fun T40 X40 e40 => g_iload X40 K d24_90 rfl ?_)))))))))
  have q41 := ((((((pre_A_tg.keep K2 na21).keep K6 na22).keep K14 na23).other W18 (own_on nb0_24 2 7 rfl rfl)).keep K28 na24).keep K34 na25)
  refine g_iaload X40 K e40 q41 d24_92 (by decide) (v := (.int 1)) rfl (g_istore X40 K d24_93 (L' := #[rv x0, iv 0, iv 1, iv 0, iv 2, iv 2, iv 1, uu, uu, uu, uu]) rfl (g_ag X40 K e40 16 rfl xb35.2.2.2.1 d24_95 d24_96 rfl fun T42 X42 e42 => g_iload X42 K d24_99 rfl ?_))
  have q43 := ((((((pre_A_rs.keep K2 na26).keep K6 na27).keep K14 na28).other W18 (own_on nb0_24 3 7 rfl rfl)).keep K28 na29).keep K34 na30)
  refine g_laload X42 K e42 q43 d24_101 (by decide) (v := (.long rs2)) rfl (g_lconst X42 K d24_102 (z := 0) rfl (g_lcmp X42 K d24_103 rfl ?_))
  have hc104_44 : ¬ (rs2 = (0 : Int64)) := yz2
  refine g_ifY X42 K 110 d24_104 (by decide) ((if0 _ _).trans (feq (fun q => hc104_44 ((lw_eq rs2 (0 : Int64)).mp q))).2) (g_iloadN X42 K d24_110 rfl (g_ifN X42 K d24_111 ((if0 _ _).trans (feq (by decide)).1) (g_ag X42 K e42 18 rfl xb35.2.2.2.2.1 d24_114 d24_115 rfl fun T46 X46 e46 => g_iload X46 K d24_118 rfl ?_)))
  have q47 := ((((((pre_A_co.keep K2 na31).keep K6 na32).keep K14 na33).other W18 (own_on nb0_24 4 7 rfl rfl)).keep K28 na34).keep K34 na35)
  refine g_laload X46 K e46 q47 d24_120 (by decide) (v := (.long k1)) rfl (g_ag X46 K e46 26 rfl xb35.2.2.2.2.2.2.1 d24_121 d24_122 rfl fun T48 X48 e48 => g_iloadN X48 K d24_125 rfl ?_)
  have q49 := ((((((pre_A_po.keep K2 na36).keep K6 na37).keep K14 na38).other W18 (own_on nb0_24 6 7 rfl rfl)).keep K28 na39).keep K34 na40)
  refine g_laload X48 K e48 q49 d24_126 (by decide) (v := (.long 0)) rfl (g_ladd X48 K d24_127 rfl (g_ag X48 K e48 26 rfl xb35.2.2.2.2.2.2.1 d24_128 d24_129 rfl fun T50 X50 e50 => g_iload X50 K d24_132 rfl (g_laload X50 K e50 q49 d24_134 (by decide) (v := (.long po1)) rfl (g_lsub X50 K d24_135 rfl (g_goto X50 K 161 d24_136 (by decide) (g_lstore X50 K d24_161 (L' := #[rv x0, iv 0, iv 1, iv 0, iv 2, iv 2, iv 1, lv ((k1 + (0 : Int64)) - po1), .second, uu, uu]) rfl (g_ag X50 K e50 28 rfl xb35.2.2.2.2.2.2.2.1 d24_163 d24_164 rfl fun T51 X51 e51 => g_iloadN X51 K d24_167 rfl ?_)))))))
  have q52 := ((V18.keep K28 na41).keep K34 na42)
  refine g_laload X51 K e51 q52 d24_168 (by decide) (v := (.long 0)) rfl (g_lload X51 K d24_169 rfl (g_ladd X51 K d24_171 rfl (g_lstore X51 K d24_172 (L' := #[rv x0, iv 0, iv 1, iv 0, iv 2, iv 2, iv 1, lv ((k1 + (0 : Int64)) - po1), .second, lv ((0 : Int64) + ((k1 + (0 : Int64)) - po1)), .second]) rfl (g_lload X51 K d24_174 rfl (g_ag X51 K e51 28 rfl xb35.2.2.2.2.2.2.2.1 d24_176 d24_177 rfl fun T53 X53 e53 => g_iload X53 K d24_180 rfl (g_laload X53 K e53 q52 d24_182 (by decide) (v := (.long 9223372036854775807)) rfl (g_lcmp X53 K d24_183 rfl ?_)))))))
  have hc184_54 : ((0 : Int64) + ((k1 + (0 : Int64)) - po1)) < (9223372036854775807 : Int64) := yb2
  refine g_ifN X53 K d24_184 ((if0 _ _).trans (tlt ((lw_lt ((0 : Int64) + ((k1 + (0 : Int64)) - po1)) (9223372036854775807 : Int64)).mpr hc184_54)).2.1) (g_ag X53 K e53 28 rfl xb35.2.2.2.2.2.2.2.1 d24_187 d24_188 rfl fun T55 X55 e55 => g_iload X55 K d24_191 rfl (g_lload X55 K d24_193 rfl (g_lastore X55 K e55 q52 d24_195 (by decide) 1 ⟨rfl, Nat.le_of_ble_eq_true rfl⟩ (w := [(.long 0), (.long ((0 : Int64) + ((k1 + (0 : Int64)) - po1)))]) rfl rfl fun T56 h56 X56 e56 W56 V56 => ?_)))
  have N56 := Fr.snoc X56 N34 (own_ong nb0_24 nb0_23 7 rfl)
  have KK56 := KK34.wr W56 (Or.inl (List.mem_of_getElem? (i := 0) rfl))
  have xb57 := own_XF_wr xb35 W56 (own_on nb0_24 0 7 rfl rfl)
  refine g_ag X56 K e56 30 rfl xb57.2.2.2.2.2.2.2.2.1 d24_196 d24_197 rfl fun T58 X58 e58 => g_iload X58 K d24_200 rfl (g_iload X58 K d24_202 rfl ?_)
  have q59 := (((((r6_0.keep K14 na43).other W18 (own_on nb0_24 8 7 rfl rfl)).keep K28 na44).keep K34 na45).other W56 (own_on nb0_24 8 7 rfl rfl))
  refine g_iastore X58 K e58 q59 d24_204 (by decide) 1 ⟨rfl, Nat.le_of_ble_eq_true rfl⟩ (w := [(.int (-1)), (.int 2)]) rfl rfl fun T60 h60 X60 e60 W60 V60 => ?_
  have N60 := Fr.snoc X60 N56 (own_ong nb0_24 nb0_23 8 rfl)
  have KK60 := KK56.wr W60 (Or.inl (List.mem_of_getElem? (i := 1) rfl))
  have xb61 := own_XF_wr xb57 W60 (own_on nb0_24 0 8 rfl rfl)
  refine g_ag X60 K e60 49 rfl xb61.2.2.2.2.2.2.2.2.2.1 d24_205 d24_206 rfl fun T62 X62 e62 => g_iload X62 K d24_209 rfl ?_
  have q63 := ((r34_0_0.wr W56).wr W60)
  have q64 := ((r34_0_1.other W56 (Or.inl (own_on nb0_24 9 7 rfl rfl))).other W60 (Or.inl (own_on nb0_24 9 8 rfl rfl)))
  have q65 := ((r34_0_2.other W56 (Or.inl (own_on nb0_24 9 7 rfl rfl))).other W60 (Or.inl (own_on nb0_24 9 8 rfl rfl)))
  have q66 := ((r34_0_3.other W56 (Or.inl (own_on nb0_24 9 7 rfl rfl))).other W60 (Or.inl (own_on nb0_24 9 8 rfl rfl)))
  have q67 := ((r34_0_4.other W56 (Or.inl (own_on nb0_24 9 7 rfl rfl))).other W60 (Or.inl (own_on nb0_24 9 8 rfl rfl)))
  have q68 := (((r28_1.keep K34 na46).other W56 (own_on nb0_24 10 7 rfl rfl)).other W60 (own_on nb0_24 10 8 rfl rfl))
  have q69 := ((r34_1.other W56 (own_on nb0_24 11 7 rfl rfl)).other W60 (own_on nb0_24 11 8 rfl rfl))
  refine g_callV X62 K e62 171 173 34 175 172 174 rfl rfl rfl rfl rfl rfl (by decide) (rmhp1 l Z a0 hw hp h60 n0 (Nat.le_trans Z0 KK60.1) ⟨q63, q64, q65, q66, q67⟩ q68 q69 (own_ong nb0_24 nb0_23 9 rfl) (own_ong nb0_24 nb0_23 10 rfl) (own_ong nb0_24 nb0_23 11 rfl) (own_on nb0_24 9 10 rfl rfl) (own_on nb0_24 9 11 rfl rfl) (own_on nb0_24 10 11 rfl rfl)) q63 d24_211 hml.symm (argsL := [(.int 1)]) (lenOf pd_3 rfl) rfl 0 (Nat.le_of_ble_eq_true rfl) (by decide) fun v70 T70 Lc70 hQ70 X70 => ?_
  obtain ⟨rfl, N70q, K70, ⟨r70_0_0, r70_0_1, r70_0_2, r70_0_3, r70_0_4⟩, r70_1, r70_2⟩ := hQ70
  have N70 := Fr.app N60 N70q
  have KK70 := KK60.trans K70 (own_al [2, 3, 4] rfl)
  dsimp only [Option.toList, List.cons_append, List.nil_append]
  have xb71 := own_XF_keep xb61 K70 na14
  refine g_ag X70 K rfl 12 rfl xb71.2.1 d24_214 d24_215 rfl fun T72 X72 e72 => g_iload X72 K d24_218 rfl ?_
  have q73 := (((((((((pre_A_nx.keep K2 na47).keep K6 na48).keep K14 na49).other W18 (own_on nb0_24 1 7 rfl rfl)).keep K28 na50).keep K34 na51).other W56 (own_on nb0_24 1 7 rfl rfl)).other W60 (own_on nb0_24 1 8 rfl rfl)).keep K70 na50)
  refine g_iaload X72 K e72 q73 d24_220 (by decide) (v := (.int 0)) rfl (g_istore X72 K d24_221 (L' := #[rv x0, iv 0, iv 1, iv 0, iv 0, iv 2, iv 1, lv ((k1 + (0 : Int64)) - po1), .second, lv ((0 : Int64) + ((k1 + (0 : Int64)) - po1)), .second]) rfl (g_goto X72 K 66 d24_223 (by decide) (g_iload X72 K d24_66 rfl (g_ifN X72 K d24_68 ((if0 _ _).trans (flt (by decide)).1) (g_iloadN X72 K d24_71 rfl (g_ifN X72 K d24_72 ((if0 _ _).trans (feq (by decide)).1) (g_iload X72 K d24_75 rfl (g_goto X72 K 84 d24_77 (by decide) (g_istore X72 K d24_84 (L' := #[rv x0, iv 0, iv 1, iv 0, iv 0, iv 0, iv 1, lv ((k1 + (0 : Int64)) - po1), .second, lv ((0 : Int64) + ((k1 + (0 : Int64)) - po1)), .second]) rfl (g_ag X72 K e72 14 rfl xb71.2.2.1 d24_86 d24_87 rfl fun T76 X76 e76 => g_iload X76 K d24_90 rfl ?_))))))))))
  have q77 := (((q41.other W56 (own_on nb0_24 2 7 rfl rfl)).other W60 (own_on nb0_24 2 8 rfl rfl)).keep K70 na24)
  refine g_iaload X76 K e76 q77 d24_92 (by decide) (v := (.int 1)) rfl (g_istore X76 K d24_93 (L' := #[rv x0, iv 0, iv 1, iv 0, iv 0, iv 0, iv 1, lv ((k1 + (0 : Int64)) - po1), .second, lv ((0 : Int64) + ((k1 + (0 : Int64)) - po1)), .second]) rfl (g_ag X76 K e76 16 rfl xb71.2.2.2.1 d24_95 d24_96 rfl fun T78 X78 e78 => g_iload X78 K d24_99 rfl ?_))
  have q79 := (((q43.other W56 (own_on nb0_24 3 7 rfl rfl)).other W60 (own_on nb0_24 3 8 rfl rfl)).keep K70 na29)
  refine g_laload X78 K e78 q79 d24_101 (by decide) (v := (.long rs0)) rfl (g_lconst X78 K d24_102 (z := 0) rfl (g_lcmp X78 K d24_103 rfl ?_))
  have hc104_80 : ¬ (rs0 = (0 : Int64)) := yz0
  refine g_ifY X78 K 110 d24_104 (by decide) ((if0 _ _).trans (feq (fun q => hc104_80 ((lw_eq rs0 (0 : Int64)).mp q))).2) (g_iloadN X78 K d24_110 rfl (g_ifN X78 K d24_111 ((if0 _ _).trans (feq (by decide)).1) (g_ag X78 K e78 18 rfl xb71.2.2.2.2.1 d24_114 d24_115 rfl fun T82 X82 e82 => g_iload X82 K d24_118 rfl ?_)))
  have q83 := (((q47.other W56 (own_on nb0_24 4 7 rfl rfl)).other W60 (own_on nb0_24 4 8 rfl rfl)).keep K70 na34)
  refine g_laload X82 K e82 q83 d24_120 (by decide) (v := (.long k0)) rfl (g_ag X82 K e82 26 rfl xb71.2.2.2.2.2.2.1 d24_121 d24_122 rfl fun T84 X84 e84 => g_iloadN X84 K d24_125 rfl ?_)
  have q85 := (((q49.other W56 (own_on nb0_24 6 7 rfl rfl)).other W60 (own_on nb0_24 6 8 rfl rfl)).keep K70 na39)
  refine g_laload X84 K e84 q85 d24_126 (by decide) (v := (.long 0)) rfl (g_ladd X84 K d24_127 rfl (g_ag X84 K e84 26 rfl xb71.2.2.2.2.2.2.1 d24_128 d24_129 rfl fun T86 X86 e86 => g_iload X86 K d24_132 rfl (g_laload X86 K e86 q85 d24_134 (by decide) (v := (.long po1)) rfl (g_lsub X86 K d24_135 rfl (g_goto X86 K 161 d24_136 (by decide) (g_lstore X86 K d24_161 (L' := #[rv x0, iv 0, iv 1, iv 0, iv 0, iv 0, iv 1, lv ((k0 + (0 : Int64)) - po1), .second, lv ((0 : Int64) + ((k1 + (0 : Int64)) - po1)), .second]) rfl (g_ag X86 K e86 28 rfl xb71.2.2.2.2.2.2.2.1 d24_163 d24_164 rfl fun T87 X87 e87 => g_iloadN X87 K d24_167 rfl ?_)))))))
  have q88 := ((V56.other W60 (own_on nb0_24 7 8 rfl rfl)).keep K70 na41)
  refine g_laload X87 K e87 q88 d24_168 (by decide) (v := (.long 0)) rfl (g_lload X87 K d24_169 rfl (g_ladd X87 K d24_171 rfl (g_lstore X87 K d24_172 (L' := #[rv x0, iv 0, iv 1, iv 0, iv 0, iv 0, iv 1, lv ((k0 + (0 : Int64)) - po1), .second, lv ((0 : Int64) + ((k0 + (0 : Int64)) - po1)), .second]) rfl (g_lload X87 K d24_174 rfl (g_ag X87 K e87 28 rfl xb71.2.2.2.2.2.2.2.1 d24_176 d24_177 rfl fun T89 X89 e89 => g_iload X89 K d24_180 rfl (g_laload X89 K e89 q88 d24_182 (by decide) (v := (.long ((0 : Int64) + ((k1 + (0 : Int64)) - po1)))) rfl (g_lcmp X89 K d24_183 rfl ?_)))))))
  have hc184_90 : ((0 : Int64) + ((k0 + (0 : Int64)) - po1)) < ((0 : Int64) + ((k1 + (0 : Int64)) - po1)) := ylt
  refine g_ifN X89 K d24_184 ((if0 _ _).trans (tlt ((lw_lt ((0 : Int64) + ((k0 + (0 : Int64)) - po1)) ((0 : Int64) + ((k1 + (0 : Int64)) - po1))).mpr hc184_90)).2.1) (g_ag X89 K e89 28 rfl xb71.2.2.2.2.2.2.2.1 d24_187 d24_188 rfl fun T91 X91 e91 => g_iload X91 K d24_191 rfl (g_lload X91 K d24_193 rfl (g_lastore X91 K e91 q88 d24_195 (by decide) 1 ⟨rfl, Nat.le_of_ble_eq_true rfl⟩ (w := [(.long 0), (.long ((0 : Int64) + ((k0 + (0 : Int64)) - po1)))]) rfl rfl fun T92 h92 X92 e92 W92 V92 => ?_)))
  have N92 := Fr.snoc X92 N70 (own_ong nb0_24 nb0_23 7 rfl)
  have KK92 := KK70.wr W92 (Or.inl (List.mem_of_getElem? (i := 0) rfl))
  have xb93 := own_XF_wr xb71 W92 (own_on nb0_24 0 7 rfl rfl)
  refine g_ag X92 K e92 30 rfl xb93.2.2.2.2.2.2.2.2.1 d24_196 d24_197 rfl fun T94 X94 e94 => g_iload X94 K d24_200 rfl (g_iload X94 K d24_202 rfl ?_)
  have q95 := ((V60.keep K70 na44).other W92 (own_on nb0_24 8 7 rfl rfl))
  refine g_iastore X94 K e94 q95 d24_204 (by decide) 1 ⟨rfl, Nat.le_of_ble_eq_true rfl⟩ (w := [(.int (-1)), (.int 0)]) rfl rfl fun T96 h96 X96 e96 W96 V96 => ?_
  have N96 := Fr.snoc X96 N92 (own_ong nb0_24 nb0_23 8 rfl)
  have KK96 := KK92.wr W96 (Or.inl (List.mem_of_getElem? (i := 1) rfl))
  have xb97 := own_XF_wr xb93 W96 (own_on nb0_24 0 8 rfl rfl)
  refine g_ag X96 K e96 49 rfl xb97.2.2.2.2.2.2.2.2.2.1 d24_205 d24_206 rfl fun T98 X98 e98 => g_iload X98 K d24_209 rfl ?_
  have q99 := ((r70_0_0.wr W92).wr W96)
  have q100 := ((r70_0_1.other W92 (Or.inl (own_on nb0_24 9 7 rfl rfl))).other W96 (Or.inl (own_on nb0_24 9 8 rfl rfl)))
  have q101 := ((r70_0_2.other W92 (Or.inl (own_on nb0_24 9 7 rfl rfl))).other W96 (Or.inl (own_on nb0_24 9 8 rfl rfl)))
  have q102 := ((r70_0_3.other W92 (Or.inl (own_on nb0_24 9 7 rfl rfl))).other W96 (Or.inl (own_on nb0_24 9 8 rfl rfl)))
  have q103 := ((r70_0_4.other W92 (Or.inl (own_on nb0_24 9 7 rfl rfl))).other W96 (Or.inl (own_on nb0_24 9 8 rfl rfl)))
  have q104 := ((r70_1.other W92 (own_on nb0_24 10 7 rfl rfl)).other W96 (own_on nb0_24 10 8 rfl rfl))
  have q105 := ((r70_2.other W92 (own_on nb0_24 11 7 rfl rfl)).other W96 (own_on nb0_24 11 8 rfl rfl))
  refine g_callV X98 K e98 171 173 34 175 172 174 rfl rfl rfl rfl rfl rfl (by decide) (rmhpa l Z a0 hw hp h96 n0 (Nat.le_trans Z0 KK96.1) ⟨q99, q100, q101, q102, q103⟩ q104 q105 (own_ong nb0_24 nb0_23 9 rfl) (own_ong nb0_24 nb0_23 10 rfl) (own_ong nb0_24 nb0_23 11 rfl) (own_on nb0_24 9 10 rfl rfl) (own_on nb0_24 9 11 rfl rfl) (own_on nb0_24 10 11 rfl rfl)) q99 d24_211 hml.symm (argsL := [(.int 1)]) (lenOf pd_3 rfl) rfl 0 (Nat.le_of_ble_eq_true rfl) (by decide) fun v106 T106 Lc106 hQ106 X106 => ?_
  obtain ⟨rfl, N106q, K106, r106_0, r106_1⟩ := hQ106
  have N106 := Fr.app N96 N106q
  have KK106 := KK96.trans K106 (own_al [3, 4] rfl)
  dsimp only [Option.toList, List.cons_append, List.nil_append]
  have xb107 := own_XF_keep xb97 K106 na52
  refine g_ag X106 K rfl 12 rfl xb107.2.1 d24_214 d24_215 rfl fun T108 X108 e108 => g_iload X108 K d24_218 rfl ?_
  have q109 := (((q73.other W92 (own_on nb0_24 1 7 rfl rfl)).other W96 (own_on nb0_24 1 8 rfl rfl)).keep K106 na53)
  refine g_iaload X108 K e108 q109 d24_220 (by decide) (v := (.int (-1))) rfl (g_istore X108 K d24_221 (L' := #[rv x0, iv 0, iv 1, iv 0, iv (-1), iv 0, iv 1, lv ((k0 + (0 : Int64)) - po1), .second, lv ((0 : Int64) + ((k0 + (0 : Int64)) - po1)), .second]) rfl (g_goto X108 K 66 d24_223 (by decide) (g_iload X108 K d24_66 rfl (g_ifY X108 K 226 d24_68 (by decide) ((if0 _ _).trans (tlt (by decide)).1) (g_goto X108 K 40 d24_226 (by decide) (g_ag X108 K e108 49 rfl xb107.2.2.2.2.2.2.2.2.2.1 d24_40 d24_41 rfl fun T111 X111 e111 => ?_))))))
  have q112 := (q99.keep K106)
  have q113 := (q100.keep K106 na54)
  have q114 := (q101.keep K106 na54)
  have q115 := (q102.keep K106 na54)
  have q116 := (q103.keep K106 na54)
  refine g_callV X111 K e111 184 186 34 188 185 187 rfl rfl rfl rfl rfl rfl (by decide) (rmhe1 l Z a0 hw hp T106.heap n0 (Nat.le_trans Z0 KK106.1) ⟨q112, q113, q114, q115, q116⟩) q112 d24_44 hml.symm (argsL := []) (lenOf pd_10 rfl) rfl 0 (Nat.le_of_ble_eq_true rfl) (by decide) fun v117 T117 Lc117 hQ117 X117 => ?_
  obtain ⟨rfl, N117q, e117⟩ := hQ117
  have N117 := Fr.app N106 N117q
  dsimp only [Option.toList, List.cons_append, List.nil_append]
  refine g_ifN X117 K d24_47 ((if0 _ _).trans (teq (by decide)).2) (g_ag X117 K e117 49 rfl xb107.2.2.2.2.2.2.2.2.2.1 d24_50 d24_51 rfl fun T119 X119 e119 => g_callV X119 K e119 189 191 34 193 190 192 rfl rfl rfl rfl rfl rfl (by decide) (rmpo1 l Z a0 hw hp T106.heap n0 (Nat.le_trans Z0 KK106.1) ⟨q112, q113, q114, q115, q116⟩ r106_0 r106_1 (own_ong nb0_24 nb0_23 9 rfl) (own_ong nb0_24 nb0_23 10 rfl) (own_ong nb0_24 nb0_23 11 rfl) (own_on nb0_24 9 10 rfl rfl) (own_on nb0_24 9 11 rfl rfl) (own_on nb0_24 10 11 rfl rfl)) q112 d24_54 hml.symm (argsL := []) (lenOf pd_11 rfl) rfl 0 (Nat.le_of_ble_eq_true rfl) (by decide) fun v120 T120 Lc120 hQ120 X120 => ?_)
  obtain ⟨rfl, N120q, K120, ⟨r120_0_0, r120_0_1, r120_0_2, r120_0_3, r120_0_4⟩, r120_1⟩ := hQ120
  have N120 := Fr.app N117 N120q
  have KK120 := KK106.trans K120 (own_al [2, 4] rfl)
  dsimp only [Option.toList, List.cons_append, List.nil_append]
  refine g_istoreN X120 K d24_57 (L' := #[rv x0, iv 0, iv 1, iv 1, iv (-1), iv 0, iv 1, lv ((k0 + (0 : Int64)) - po1), .second, lv ((0 : Int64) + ((k0 + (0 : Int64)) - po1)), .second]) rfl ?_
  have xb121 := own_XF_keep xb107 K120 na15
  refine g_ag X120 K rfl 24 rfl xb121.2.2.2.2.2.1 d24_58 d24_59 rfl fun T122 X122 e122 => g_iloadN X122 K d24_62 rfl ?_
  have q123 := (((((((q37.other W56 (own_on nb0_24 5 7 rfl rfl)).other W60 (own_on nb0_24 5 8 rfl rfl)).keep K70 na19).other W92 (own_on nb0_24 5 7 rfl rfl)).other W96 (own_on nb0_24 5 8 rfl rfl)).keep K106 na55).keep K120 na20)
  refine g_iaload X122 K e122 q123 d24_63 (by decide) (v := (.int 3)) rfl (g_istore X122 K d24_64 (L' := #[rv x0, iv 0, iv 1, iv 1, iv 3, iv 0, iv 1, lv ((k0 + (0 : Int64)) - po1), .second, lv ((0 : Int64) + ((k0 + (0 : Int64)) - po1)), .second]) rfl (g_iload X122 K d24_66 rfl (g_ifN X122 K d24_68 ((if0 _ _).trans (flt (by decide)).1) (g_iloadN X122 K d24_71 rfl (g_ifN X122 K d24_72 ((if0 _ _).trans (feq (by decide)).1) (g_iload X122 K d24_75 rfl (g_goto X122 K 84 d24_77 (by decide) (g_istore X122 K d24_84 (L' := #[rv x0, iv 0, iv 1, iv 1, iv 3, iv 3, iv 1, lv ((k0 + (0 : Int64)) - po1), .second, lv ((0 : Int64) + ((k0 + (0 : Int64)) - po1)), .second]) rfl (g_ag X122 K e122 14 rfl xb121.2.2.1 d24_86 d24_87 rfl fun T126 X126 e126 => g_iload X126 K d24_90 rfl ?_)))))))))
  have q127 := ((((q77.other W92 (own_on nb0_24 2 7 rfl rfl)).other W96 (own_on nb0_24 2 8 rfl rfl)).keep K106 na56).keep K120 na25)
  refine g_iaload X126 K e126 q127 d24_92 (by decide) (v := (.int 0)) rfl (g_istore X126 K d24_93 (L' := #[rv x0, iv 0, iv 1, iv 1, iv 3, iv 3, iv 0, lv ((k0 + (0 : Int64)) - po1), .second, lv ((0 : Int64) + ((k0 + (0 : Int64)) - po1)), .second]) rfl (g_ag X126 K e126 16 rfl xb121.2.2.2.1 d24_95 d24_96 rfl fun T128 X128 e128 => g_iload X128 K d24_99 rfl ?_))
  have q129 := ((((q79.other W92 (own_on nb0_24 3 7 rfl rfl)).other W96 (own_on nb0_24 3 8 rfl rfl)).keep K106 na57).keep K120 na30)
  refine g_laload X128 K e128 q129 d24_101 (by decide) (v := (.long rs3)) rfl (g_lconst X128 K d24_102 (z := 0) rfl (g_lcmp X128 K d24_103 rfl ?_))
  have J130 : ∀ (T130 : State) (L130 : List Loc) (v130_0 : Int64) (v130_1 : Int64), Stand p l e ({ frames := 3, cells := 0, slots := 0, locals := 43 } : Room) s m #[(.ref x0), (.int 0), (.int 1)] below meth c T130 L130 0 0 → Fr n0 L130 → T130.heap = T120.heap → Gl p e below Rp (T130.setTop (mkF m 214 #[rv x0, iv 0, iv 1, iv 1, iv 3, iv 3, iv 0, lv v130_0, .second, lv v130_1, .second] [])) := by
   intro T130 L130 v130_0 v130_1 X130 N130 e130
   refine g_ag X130 K e130 12 rfl xb121.2.1 d24_214 d24_215 rfl fun T131 X131 e131 => g_iload X131 K d24_218 rfl ?_
   have q132 := (q109.keep K120 na51)
   refine g_iaload X131 K e131 q132 d24_220 (by decide) (v := (.int 1)) rfl (g_istore X131 K d24_221 (L' := #[rv x0, iv 0, iv 1, iv 1, iv 1, iv 3, iv 0, lv v130_0, .second, lv v130_1, .second]) rfl (g_goto X131 K 66 d24_223 (by decide) (g_iload X131 K d24_66 rfl (g_ifN X131 K d24_68 ((if0 _ _).trans (flt (by decide)).1) (g_iloadN X131 K d24_71 rfl (g_ifN X131 K d24_72 ((if0 _ _).trans (feq (by decide)).1) (g_iload X131 K d24_75 rfl (g_goto X131 K 84 d24_77 (by decide) (g_istore X131 K d24_84 (L' := #[rv x0, iv 0, iv 1, iv 1, iv 1, iv 1, iv 0, lv v130_0, .second, lv v130_1, .second]) rfl (g_ag X131 K e131 14 rfl xb121.2.2.1 d24_86 d24_87 rfl fun T135 X135 e135 => g_iload X135 K d24_90 rfl (g_iaload X135 K e135 q127 d24_92 (by decide) (v := (.int 0)) rfl ?_)))))))))))
   refine g_istore X135 K d24_93 (L' := #[rv x0, iv 0, iv 1, iv 1, iv 1, iv 1, iv 0, lv v130_0, .second, lv v130_1, .second]) rfl (g_ag X135 K e135 16 rfl xb121.2.2.2.1 d24_95 d24_96 rfl fun T136 X136 e136 => g_iload X136 K d24_99 rfl (g_laload X136 K e136 q129 d24_101 (by decide) (v := (.long rs1)) rfl (g_lconst X136 K d24_102 (z := 0) rfl (g_lcmp X136 K d24_103 rfl ?_))))
   have J137 : ∀ (T137 : State) (L137 : List Loc) (v137_0 : Int64) (v137_1 : Int64), Stand p l e ({ frames := 3, cells := 0, slots := 0, locals := 43 } : Room) s m #[(.ref x0), (.int 0), (.int 1)] below meth c T137 L137 0 0 → Fr n0 L137 → T137.heap = T120.heap → Gl p e below Rp (T137.setTop (mkF m 214 #[rv x0, iv 0, iv 1, iv 1, iv 1, iv 1, iv 0, lv v137_0, .second, lv v137_1, .second] [])) := by
    intro T137 L137 v137_0 v137_1 X137 N137 e137
    refine g_ag X137 K e137 12 rfl xb121.2.1 d24_214 d24_215 rfl fun T138 X138 e138 => g_iload X138 K d24_218 rfl (g_iaload X138 K e138 q132 d24_220 (by decide) (v := (.int (-1))) rfl (g_istore X138 K d24_221 (L' := #[rv x0, iv 0, iv 1, iv 1, iv (-1), iv 1, iv 0, lv v137_0, .second, lv v137_1, .second]) rfl (g_goto X138 K 66 d24_223 (by decide) (g_iload X138 K d24_66 rfl (g_ifY X138 K 226 d24_68 (by decide) ((if0 _ _).trans (tlt (by decide)).1) (g_goto X138 K 40 d24_226 (by decide) (g_ag X138 K e138 49 rfl xb121.2.2.2.2.2.2.2.2.2.1 d24_40 d24_41 rfl fun T140 X140 e140 => g_callV X140 K e140 184 186 34 188 185 187 rfl rfl rfl rfl rfl rfl (by decide) (rmhe0 l Z a0 hw hp T120.heap n0 (Nat.le_trans Z0 KK120.1) ⟨r120_0_0, r120_0_1, r120_0_2, r120_0_3, r120_0_4⟩) r120_0_0 d24_44 hml.symm (argsL := []) (lenOf pd_10 rfl) rfl 0 (Nat.le_of_ble_eq_true rfl) (by decide) fun v141 T141 Lc141 hQ141 X141 => ?_)))))))
    obtain ⟨rfl, N141q, e141⟩ := hQ141
    have N141 := Fr.app N137 N141q
    dsimp only [Option.toList, List.cons_append, List.nil_append]
    refine g_ifY X141 K 229 d24_47 (by decide) ((if0 _ _).trans (feq (by decide)).2) ?_
    have q143 := (((V92.other W96 (own_on nb0_24 7 8 rfl rfl)).keep K106 na60).keep K120 na42)
    have q144 := ((V96.keep K106 na61).keep K120 na45)
    have q145 := (r106_0.keep K120 na46)
    exact g_lv0 X141 K hlk hrt hR d24_229 (by decide) (by rw [e141]; exact ⟨(-1 : Int32), (0 : Int32), (1 : Int32), hn1, rfl, N141, KK120, q143, q144, ⟨r120_0_0, r120_0_1, r120_0_2, r120_0_3, r120_0_4⟩, q145, r120_1⟩)
   by_cases hc104_146 : rs1 = (0 : Int64)
   refine g_ifN X136 K d24_104 ((if0 _ _).trans (teq ((lw_eq rs1 (0 : Int64)).mpr hc104_146)).2) ?_
   ·
    refine g_goto X136 K 214 d24_107 (by decide) ?_
    exact J137 _ _ v130_0 v130_1 X136 N130 e136
   refine g_ifY X136 K 110 d24_104 (by decide) ((if0 _ _).trans (feq (fun q => hc104_146 ((lw_eq rs1 (0 : Int64)).mp q))).2) ?_
   ·
    refine g_iloadN X136 K d24_110 rfl (g_ifN X136 K d24_111 ((if0 _ _).trans (feq (by decide)).1) (g_ag X136 K e136 18 rfl xb121.2.2.2.2.1 d24_114 d24_115 rfl fun T148 X148 e148 => g_iload X148 K d24_118 rfl ?_))
    have q149 := ((((q83.other W92 (own_on nb0_24 4 7 rfl rfl)).other W96 (own_on nb0_24 4 8 rfl rfl)).keep K106 na58).keep K120 na35)
    refine g_laload X148 K e148 q149 d24_120 (by decide) (v := (.long (-k0))) rfl (g_ag X148 K e148 26 rfl xb121.2.2.2.2.2.2.1 d24_121 d24_122 rfl fun T150 X150 e150 => g_iloadN X150 K d24_125 rfl ?_)
    have q151 := ((((q85.other W92 (own_on nb0_24 6 7 rfl rfl)).other W96 (own_on nb0_24 6 8 rfl rfl)).keep K106 na59).keep K120 na40)
    refine g_laload X150 K e150 q151 d24_126 (by decide) (v := (.long po1)) rfl (g_ladd X150 K d24_127 rfl (g_ag X150 K e150 26 rfl xb121.2.2.2.2.2.2.1 d24_128 d24_129 rfl fun T152 X152 e152 => g_iload X152 K d24_132 rfl (g_laload X152 K e152 q151 d24_134 (by decide) (v := (.long 0)) rfl (g_lsub X152 K d24_135 rfl (g_goto X152 K 161 d24_136 (by decide) (g_lstore X152 K d24_161 (L' := #[rv x0, iv 0, iv 1, iv 1, iv 1, iv 1, iv 0, lv (((-k0) + po1) - (0 : Int64)), .second, lv v130_1, .second]) rfl (g_ag X152 K e152 28 rfl xb121.2.2.2.2.2.2.2.1 d24_163 d24_164 rfl fun T153 X153 e153 => g_iloadN X153 K d24_167 rfl ?_)))))))
    have q154 := (((V92.other W96 (own_on nb0_24 7 8 rfl rfl)).keep K106 na60).keep K120 na42)
    refine g_laload X153 K e153 q154 d24_168 (by decide) (v := (.long ((0 : Int64) + ((k0 + (0 : Int64)) - po1)))) rfl (g_lload X153 K d24_169 rfl (g_ladd X153 K d24_171 rfl (g_lstore X153 K d24_172 (L' := #[rv x0, iv 0, iv 1, iv 1, iv 1, iv 1, iv 0, lv (((-k0) + po1) - (0 : Int64)), .second, lv (((0 : Int64) + ((k0 + (0 : Int64)) - po1)) + (((-k0) + po1) - (0 : Int64))), .second]) rfl (g_lload X153 K d24_174 rfl (g_ag X153 K e153 28 rfl xb121.2.2.2.2.2.2.2.1 d24_176 d24_177 rfl fun T155 X155 e155 => g_iload X155 K d24_180 rfl (g_laload X155 K e155 q154 d24_182 (by decide) (v := (.long 0)) rfl (g_lcmp X155 K d24_183 rfl ?_)))))))
    have hc184_156 : ¬ ((((0 : Int64) + ((k0 + (0 : Int64)) - po1)) + (((-k0) + po1) - (0 : Int64))) < (0 : Int64)) := yz1 hc104_146
    refine g_ifY X155 K 214 d24_184 (by decide) ((if0 _ _).trans (flt (fun q => hc184_156 ((lw_lt (((0 : Int64) + ((k0 + (0 : Int64)) - po1)) + (((-k0) + po1) - (0 : Int64))) (0 : Int64)).mp q))).2.1) ?_
    exact J137 _ _ (((-k0) + po1) - (0 : Int64)) (((0 : Int64) + ((k0 + (0 : Int64)) - po1)) + (((-k0) + po1) - (0 : Int64))) X155 N130 e155
  by_cases hc104_157 : rs3 = (0 : Int64)
  refine g_ifN X128 K d24_104 ((if0 _ _).trans (teq ((lw_eq rs3 (0 : Int64)).mpr hc104_157)).2) ?_
  ·
   refine g_goto X128 K 214 d24_107 (by decide) ?_
   exact J130 _ _ ((k0 + (0 : Int64)) - po1) ((0 : Int64) + ((k0 + (0 : Int64)) - po1)) X128 N120 e128
  refine g_ifY X128 K 110 d24_104 (by decide) ((if0 _ _).trans (feq (fun q => hc104_157 ((lw_eq rs3 (0 : Int64)).mp q))).2) ?_
  ·
   refine g_iloadN X128 K d24_110 rfl (g_ifN X128 K d24_111 ((if0 _ _).trans (feq (by decide)).1) (g_ag X128 K e128 18 rfl xb121.2.2.2.2.1 d24_114 d24_115 rfl fun T159 X159 e159 => g_iload X159 K d24_118 rfl ?_))
   have q160 := ((((q83.other W92 (own_on nb0_24 4 7 rfl rfl)).other W96 (own_on nb0_24 4 8 rfl rfl)).keep K106 na58).keep K120 na35)
   refine g_laload X159 K e159 q160 d24_120 (by decide) (v := (.long (-k1))) rfl (g_ag X159 K e159 26 rfl xb121.2.2.2.2.2.2.1 d24_121 d24_122 rfl fun T161 X161 e161 => g_iloadN X161 K d24_125 rfl ?_)
   have q162 := ((((q85.other W92 (own_on nb0_24 6 7 rfl rfl)).other W96 (own_on nb0_24 6 8 rfl rfl)).keep K106 na59).keep K120 na40)
   refine g_laload X161 K e161 q162 d24_126 (by decide) (v := (.long po1)) rfl (g_ladd X161 K d24_127 rfl (g_ag X161 K e161 26 rfl xb121.2.2.2.2.2.2.1 d24_128 d24_129 rfl fun T163 X163 e163 => g_iload X163 K d24_132 rfl (g_laload X163 K e163 q162 d24_134 (by decide) (v := (.long 0)) rfl (g_lsub X163 K d24_135 rfl (g_goto X163 K 161 d24_136 (by decide) (g_lstore X163 K d24_161 (L' := #[rv x0, iv 0, iv 1, iv 1, iv 3, iv 3, iv 0, lv (((-k1) + po1) - (0 : Int64)), .second, lv ((0 : Int64) + ((k0 + (0 : Int64)) - po1)), .second]) rfl (g_ag X163 K e163 28 rfl xb121.2.2.2.2.2.2.2.1 d24_163 d24_164 rfl fun T164 X164 e164 => g_iloadN X164 K d24_167 rfl ?_)))))))
   have q165 := (((V92.other W96 (own_on nb0_24 7 8 rfl rfl)).keep K106 na60).keep K120 na42)
   refine g_laload X164 K e164 q165 d24_168 (by decide) (v := (.long ((0 : Int64) + ((k0 + (0 : Int64)) - po1)))) rfl (g_lload X164 K d24_169 rfl (g_ladd X164 K d24_171 rfl (g_lstore X164 K d24_172 (L' := #[rv x0, iv 0, iv 1, iv 1, iv 3, iv 3, iv 0, lv (((-k1) + po1) - (0 : Int64)), .second, lv (((0 : Int64) + ((k0 + (0 : Int64)) - po1)) + (((-k1) + po1) - (0 : Int64))), .second]) rfl (g_lload X164 K d24_174 rfl (g_ag X164 K e164 28 rfl xb121.2.2.2.2.2.2.2.1 d24_176 d24_177 rfl fun T166 X166 e166 => g_iload X166 K d24_180 rfl (g_laload X166 K e166 q165 d24_182 (by decide) (v := (.long 0)) rfl (g_lcmp X166 K d24_183 rfl ?_)))))))
   have hc184_167 : ¬ ((((0 : Int64) + ((k0 + (0 : Int64)) - po1)) + (((-k1) + po1) - (0 : Int64))) < (0 : Int64)) := yz3 hc104_157
   refine g_ifY X166 K 214 d24_184 (by decide) ((if0 _ _).trans (flt (fun q => hc184_167 ((lw_lt (((0 : Int64) + ((k0 + (0 : Int64)) - po1)) + (((-k1) + po1) - (0 : Int64))) (0 : Int64)).mp q))).2.1) ?_
   exact J130 _ _ (((-k1) + po1) - (0 : Int64)) (((0 : Int64) + ((k0 + (0 : Int64)) - po1)) + (((-k1) + po1) - (0 : Int64))) X166 N120 e166
def QsrB2 (Z : State) (x0 : Addr) (nx : Addr) (tg : Addr) (rs : Addr) (co : Addr) (fi : Addr) (po : Addr) (di : Addr) (pa : Addr) (hp : Addr) (hn : Addr) (hq : Addr) (qu : Addr) (qd : Addr) (lw : Addr) (sk : Addr) (cu : Addr) (vi : Addr) (ar : Int32) (ac : Int64) (fc : Int64) (vl : Int32) (so : Int32) (si : Int32) (vt : Int64) (k0 : Int64) (k1 : Int64) (kfi : ClassId) (knx : ClassId) (ktg : ClassId) (kco : ClassId) (krs : ClassId) (kdi : ClassId) (kpa : ClassId) (khn : ClassId) (rs0 : Int64) (rs1 : Int64) (rs2 : Int64) (rs3 : Int64) (di0 : Int64) (di1 : Int64) (pa0 : Int32) (pa1 : Int32) (hn0 : Int32) (hn1 : Int32) (kpo : ClassId) (po1 : Int64) (khq : ClassId) (h0 : Heap) (n0 : Nat) (v : Option Value) (h : Heap) (L : List Loc) : Prop := ∃ (e0 : Int32), ∃ (e1 : Int32), ∃ (e2 : Int32), ∃ (e3 : Int32), v = none ∧ Fr n0 L ∧ Keep h0 h [di, pa, hp, hn, hq] ∧ Arv Z h di kdi .long (2 : Int32) [(.long 0), (.long ((0 : Int64) + ((k1 + (0 : Int64)) - po1)))] (.long 0) ∧ Arv Z h pa kpa .int (2 : Int32) [(.int e0), (.int e1)] (.int 0) ∧ own_HP Z h n0 hp di hn hq (0 : Int32) ∧ Arv Z h hn khn .int (2 : Int32) [(.int e2), (.int e3)] (.int 0) ∧ Arv Z h hq khq .int (2 : Int32) [(.int (-1)), (.int (-1))] (.int 0)
theorem ef_srB2 (m : MethodId) (x0 : Addr) : entryFrame m #[(.ref x0), (.int 0), (.int 1)] 11 = mkF m 0 #[rv x0, iv 0, iv 1, .unset, .unset, .unset, .unset, .unset, .unset, .unset, .unset] [] := by first | (simp [entryFrame, mkF, argsToLocals, Value.category]; done) | rfl
set_option maxRecDepth 65536 in
set_option maxHeartbeats 40000000 in
theorem rmsrB2 (l : Launch) (Z : State) (a0 : Array Value) (hw : ∀ d ∈ tables_1, d.before a0 Z = true) (x0 : Addr) {nx : Addr} {tg : Addr} {rs : Addr} {co : Addr} {fi : Addr} {po : Addr} {di : Addr} {pa : Addr} {hp : Addr} {hn : Addr} {hq : Addr} {qu : Addr} {qd : Addr} {lw : Addr} {sk : Addr} {cu : Addr} {vi : Addr} {ar : Int32} {ac : Int64} {fc : Int64} {vl : Int32} {so : Int32} {si : Int32} {vt : Int64} {k0 : Int64} {k1 : Int64} {kfi : ClassId} {knx : ClassId} {ktg : ClassId} {kco : ClassId} {krs : ClassId} {kdi : ClassId} {kpa : ClassId} {khn : ClassId} {rs0 : Int64} {rs1 : Int64} {rs2 : Int64} {rs3 : Int64} {di0 : Int64} {di1 : Int64} {pa0 : Int32} {pa1 : Int32} {hn0 : Int32} {hn1 : Int32} {kpo : ClassId} {po1 : Int64} {khq : ClassId} (h0 : Heap) (n0 : Nat) (Z0 : n0 ≤ h0.size) (pre_own_XF : own_XF Z h0 n0 x0 nx tg rs co fi po di pa hp hn hq qu qd lw sk cu vi ar ac fc vl so si vt) (pre_A_fi : Arv Z h0 fi kfi .int (2 : Int32) [(.int 2), (.int 3)] (.int 0)) (pre_A_nx : Arv Z h0 nx knx .int (16 : Int32) [(.int (-1)), (.int (-1)), (.int 0), (.int 1)] (.int 0)) (pre_A_tg : Arv Z h0 tg ktg .int (16 : Int32) [(.int 1), (.int 0), (.int 1), (.int 0)] (.int 0)) (pre_A_co : Arv Z h0 co kco .long (16 : Int32) [(.long k0), (.long (-k0)), (.long k1), (.long (-k1))] (.long 0)) (pre_A_rs : Arv Z h0 rs krs .long (16 : Int32) [(.long rs0), (.long rs1), (.long rs2), (.long rs3)] (.long 0)) (pre_A_po : Arv Z h0 po kpo .long (2 : Int32) [(.long 0), (.long po1)] (.long 0)) (pre_own_HP : own_HP Z h0 n0 hp di hn hq (0 : Int32)) (pre_A_hn : Arv Z h0 hn khn .int (2 : Int32) [(.int hn0), (.int hn1)] (.int 0)) (pre_A_hq : Arv Z h0 hq khq .int (2 : Int32) [(.int (-1)), (.int (-1))] (.int 0)) (pre_A_di : Arv Z h0 di kdi .long (2 : Int32) [(.long di0), (.long di1)] (.long 0)) (pre_A_pa : Arv Z h0 pa kpa .int (2 : Int32) [(.int pa0), (.int pa1)] (.int 0)) (yz2 : ¬ (rs2 = (0 : Int64))) (yz0 : ¬ (rs0 = (0 : Int64))) (yb2 : ((0 : Int64) + ((k1 + (0 : Int64)) - po1)) < (9223372036854775807 : Int64)) (ylt : ¬ (((0 : Int64) + ((k0 + (0 : Int64)) - po1)) < ((0 : Int64) + ((k1 + (0 : Int64)) - po1)))) (yz3 : ¬ (rs3 = (0 : Int64)) → ¬ ((((0 : Int64) + ((k1 + (0 : Int64)) - po1)) + (((-k1) + po1) - (0 : Int64))) < (0 : Int64))) (yz1 : ¬ (rs1 = (0 : Int64)) → ¬ ((((0 : Int64) + ((k1 + (0 : Int64)) - po1)) + (((-k0) + po1) - (0 : Int64))) < (0 : Int64))) :
    own_M l (⟨"com/example/violarc/violarc/graph/FlowNetwork", "search", "(IZ)V"⟩ : MethodName) c24 11 none ({ frames := 3, cells := 0, slots := 0, locals := 43 } : Room) #[(.ref x0), (.int 0), (.int 1)] Z h0 (QsrB2 Z x0 nx tg rs co fi po di pa hp hn hq qu qd lw sk cu vi ar ac fc vl so si vt k0 k1 kfi knx ktg kco krs kdi kpa khn rs0 rs1 rs2 rs3 di0 di1 pa0 pa1 hn0 hn1 kpo po1 khq h0 n0) := by
  refine MetFree.of_bodySF (plainFor_of_name pn_24) hisR ?_
  intro p e s m args below meth c s₁ Bd hml0 hP hK
  obtain ⟨rfl, hZ, hh⟩ := hP
  have hx := Bd.exec
  have hby := Bd.bytes
  have hml : c.maxLocals = 11 := hml0
  have hown : s.vm.findClass "com/example/violarc/violarc/graph/FlowNetwork" = some m.cls := findClass_of_methodNamed Bd.named
  have hnm := (name_of_methodNamed Bd.named Bd.method).1
  have X0 : Stand p l e ({ frames := 3, cells := 0, slots := 0, locals := 43 } : Room) s m #[(.ref x0), (.int 0), (.int 1)] below meth c s₁ [] 0 0 := Stand.of_body Bd
  have e0 : s₁.heap = h0 := by rw [← hh, Bd.state]; rfl
  have N0 := Fr.nil n0
  have Kp0 := Keep.refl h0 [di, pa, hp, hn, hq]
  have hlk := BodyLoose.notSynchronized Bd
  have hrt := Bd.returns
  have K : own_K p c c24 Z s "com/example/violarc/violarc/graph/FlowNetwork" m a0 := ⟨hx, hby, hZ, hown, hw⟩
  refine gStart (S' := s₁.setTop (mkF m 0 #[rv x0, iv 0, iv 1, uu, uu, uu, uu, uu, uu, uu, uu] [])) (congrArg (fun f => s₁.setTop f) (ef_srB2 m x0)) fun Rp hR => ?_
  obtain ⟨nb0_0, nb0_1, nb0_2, nb0_3, nb0_4, nb0_5, nb0_6, nb0_7, nb0_8, nb0_9, nb0_10, nb0_11, nb0_12, nb0_13, nb0_14, nb0_15, nb0_16, nb0_17, nb0_18, nb0_19, nb0_20, nb0_21, nb0_22, nb0_23, nb0_24⟩ := id pre_own_XF
  obtain ⟨nb1_0, nb1_1, nb1_2, nb1_3, nb1_4⟩ := id pre_own_HP
  have na0 : x0 ∉ [di] := own_nin nb0_24 0 rfl [7] _ rfl (by decide)
  have na1 : pa ∉ [di] := own_nin nb0_24 8 rfl [7] _ rfl (by decide)
  have na2 : x0 ∉ [pa] := own_nin nb0_24 0 rfl [8] _ rfl (by decide)
  have na3 : hp ∉ [di] := own_nin nb0_24 9 rfl [7] _ rfl (by decide)
  have na4 : hp ∉ [pa] := own_nin nb0_24 9 rfl [8] _ rfl (by decide)
  have na5 : x0 ∉ [hp] := own_nin nb0_24 0 rfl [9] _ rfl (by decide)
  have na6 : di ∉ [pa] := own_nin nb0_24 7 rfl [8] _ rfl (by decide)
  have na7 : di ∉ [hp] := own_nin nb0_24 7 rfl [9] _ rfl (by decide)
  have na8 : hn ∉ [di] := own_nin nb0_24 10 rfl [7] _ rfl (by decide)
  have na9 : hn ∉ [pa] := own_nin nb0_24 10 rfl [8] _ rfl (by decide)
  have na10 : hn ∉ [hp] := own_nin nb0_24 10 rfl [9] _ rfl (by decide)
  have na11 : hq ∉ [di] := own_nin nb0_24 11 rfl [7] _ rfl (by decide)
  have na12 : hq ∉ [pa] := own_nin nb0_24 11 rfl [8] _ rfl (by decide)
  have na13 : hq ∉ [hp] := own_nin nb0_24 11 rfl [9] _ rfl (by decide)
  have na14 : x0 ∉ [hp, hn, hq] := own_nin nb0_24 0 rfl [9, 10, 11] _ rfl (by decide)
  have na15 : x0 ∉ [hp, hq] := own_nin nb0_24 0 rfl [9, 11] _ rfl (by decide)
  have na16 : fi ∉ [di] := own_nin nb0_24 5 rfl [7] _ rfl (by decide)
  have na17 : fi ∉ [pa] := own_nin nb0_24 5 rfl [8] _ rfl (by decide)
  have na18 : fi ∉ [hp] := own_nin nb0_24 5 rfl [9] _ rfl (by decide)
  have na19 : fi ∉ [hp, hn, hq] := own_nin nb0_24 5 rfl [9, 10, 11] _ rfl (by decide)
  have na20 : fi ∉ [hp, hq] := own_nin nb0_24 5 rfl [9, 11] _ rfl (by decide)
  have na21 : tg ∉ [di] := own_nin nb0_24 2 rfl [7] _ rfl (by decide)
  have na22 : tg ∉ [pa] := own_nin nb0_24 2 rfl [8] _ rfl (by decide)
  have na23 : tg ∉ [hp] := own_nin nb0_24 2 rfl [9] _ rfl (by decide)
  have na24 : tg ∉ [hp, hn, hq] := own_nin nb0_24 2 rfl [9, 10, 11] _ rfl (by decide)
  have na25 : tg ∉ [hp, hq] := own_nin nb0_24 2 rfl [9, 11] _ rfl (by decide)
  have na26 : rs ∉ [di] := own_nin nb0_24 3 rfl [7] _ rfl (by decide)
  have na27 : rs ∉ [pa] := own_nin nb0_24 3 rfl [8] _ rfl (by decide)
  have na28 : rs ∉ [hp] := own_nin nb0_24 3 rfl [9] _ rfl (by decide)
  have na29 : rs ∉ [hp, hn, hq] := own_nin nb0_24 3 rfl [9, 10, 11] _ rfl (by decide)
  have na30 : rs ∉ [hp, hq] := own_nin nb0_24 3 rfl [9, 11] _ rfl (by decide)
  have na31 : co ∉ [di] := own_nin nb0_24 4 rfl [7] _ rfl (by decide)
  have na32 : co ∉ [pa] := own_nin nb0_24 4 rfl [8] _ rfl (by decide)
  have na33 : co ∉ [hp] := own_nin nb0_24 4 rfl [9] _ rfl (by decide)
  have na34 : co ∉ [hp, hn, hq] := own_nin nb0_24 4 rfl [9, 10, 11] _ rfl (by decide)
  have na35 : co ∉ [hp, hq] := own_nin nb0_24 4 rfl [9, 11] _ rfl (by decide)
  have na36 : po ∉ [di] := own_nin nb0_24 6 rfl [7] _ rfl (by decide)
  have na37 : po ∉ [pa] := own_nin nb0_24 6 rfl [8] _ rfl (by decide)
  have na38 : po ∉ [hp] := own_nin nb0_24 6 rfl [9] _ rfl (by decide)
  have na39 : po ∉ [hp, hn, hq] := own_nin nb0_24 6 rfl [9, 10, 11] _ rfl (by decide)
  have na40 : po ∉ [hp, hq] := own_nin nb0_24 6 rfl [9, 11] _ rfl (by decide)
  have na41 : di ∉ [hp, hn, hq] := own_nin nb0_24 7 rfl [9, 10, 11] _ rfl (by decide)
  have na42 : di ∉ [hp, hq] := own_nin nb0_24 7 rfl [9, 11] _ rfl (by decide)
  have na43 : pa ∉ [hp] := own_nin nb0_24 8 rfl [9] _ rfl (by decide)
  have na44 : pa ∉ [hp, hn, hq] := own_nin nb0_24 8 rfl [9, 10, 11] _ rfl (by decide)
  have na45 : pa ∉ [hp, hq] := own_nin nb0_24 8 rfl [9, 11] _ rfl (by decide)
  have na46 : hn ∉ [hp, hq] := own_nin nb0_24 10 rfl [9, 11] _ rfl (by decide)
  have na47 : nx ∉ [di] := own_nin nb0_24 1 rfl [7] _ rfl (by decide)
  have na48 : nx ∉ [pa] := own_nin nb0_24 1 rfl [8] _ rfl (by decide)
  have na49 : nx ∉ [hp] := own_nin nb0_24 1 rfl [9] _ rfl (by decide)
  have na50 : nx ∉ [hp, hn, hq] := own_nin nb0_24 1 rfl [9, 10, 11] _ rfl (by decide)
  have na51 : nx ∉ [hp, hq] := own_nin nb0_24 1 rfl [9, 11] _ rfl (by decide)
  refine g_ag X0 K e0 28 rfl pre_own_XF.2.2.2.2.2.2.2.1 d24_0 d24_1 rfl fun T1 X1 e1 => g_ldc2 X1 K 163 rfl d24_4 (z := (9223372036854775807 : Int64)) rfl (g_callS X1 K e1 108 109 47 110 rfl rfl rfl rfl (by decide) (rm14 l Z a0 hw (9223372036854775807 : Int64) h0 n0 Z0 pre_A_di (own_ong nb0_24 nb0_23 7 rfl)) d24_7 hml.symm (argsL := [(.ref di), (.long 9223372036854775807)]) (lenOf pd_7 rfl) rfl 0 (Nat.le_of_ble_eq_true rfl) (by decide) fun v2 T2 Lc2 hQ2 X2 => ?_)
  obtain ⟨rfl, N2q, K2, r2_0⟩ := hQ2
  have N2 := Fr.app N0 N2q
  have KK2 := Kp0.trans K2 (own_al [0] rfl)
  dsimp only [Option.toList, List.cons_append, List.nil_append]
  have xb3 := own_XF_keep pre_own_XF K2 na0
  refine g_ag X2 K rfl 30 rfl xb3.2.2.2.2.2.2.2.2.1 d24_10 d24_11 rfl fun T4 X4 e4 => g_iconst X4 K d24_14 (z := -1) rfl ?_
  have q5 := (pre_A_pa.keep K2 na1)
  refine g_callS X4 K e4 64 46 47 48 rfl rfl rfl rfl (by decide) (rm4 l Z a0 hw (-1 : Int32) T2.heap n0 (Nat.le_trans Z0 KK2.1) q5 (own_ong nb0_24 nb0_23 8 rfl)) d24_15 hml.symm (argsL := [(.ref pa), (.int (-1))]) (lenOf pd_0 rfl) rfl 0 (Nat.le_of_ble_eq_true rfl) (by decide) fun v6 T6 Lc6 hQ6 X6 => ?_
  obtain ⟨rfl, N6q, K6, r6_0⟩ := hQ6
  have N6 := Fr.app N2 N6q
  have KK6 := KK2.trans K6 (own_al [1] rfl)
  dsimp only [Option.toList, List.cons_append, List.nil_append]
  have xb7 := own_XF_keep xb3 K6 na2
  refine g_ag X6 K rfl 49 rfl xb7.2.2.2.2.2.2.2.2.2.1 d24_18 d24_19 rfl fun T8 X8 e8 => ?_
  have q9 := ((nb1_0.keep K2).keep K6)
  have q10 := ((nb1_1.keep K2 na3).keep K6 na4)
  have q11 := ((nb1_2.keep K2 na3).keep K6 na4)
  have q12 := ((nb1_3.keep K2 na3).keep K6 na4)
  have q13 := ((nb1_4.keep K2 na3).keep K6 na4)
  refine g_callV X8 K e8 164 166 34 168 165 167 rfl rfl rfl rfl rfl rfl (by decide) (rm25 l Z a0 hw hp T6.heap n0 (Nat.le_trans Z0 KK6.1) ⟨q9, q10, q11, q12, q13⟩ (own_ong nb0_24 nb0_23 9 rfl)) q9 d24_22 hml.symm (argsL := []) (lenOf pd_9 rfl) rfl 0 (Nat.le_of_ble_eq_true rfl) (by decide) fun v14 T14 Lc14 hQ14 X14 => ?_
  obtain ⟨rfl, N14q, K14, ⟨r14_0_0, r14_0_1, r14_0_2, r14_0_3, r14_0_4⟩⟩ := hQ14
  have N14 := Fr.app N6 N14q
  have KK14 := KK6.trans K14 (own_al [2] rfl)
  dsimp only [Option.toList, List.cons_append, List.nil_append]
  have xb15 := own_XF_keep xb7 K14 na5
  refine g_ag X14 K rfl 28 rfl xb15.2.2.2.2.2.2.2.1 d24_25 d24_26 rfl fun T16 X16 e16 => g_iloadN X16 K d24_29 rfl (g_lconst X16 K d24_30 (z := 0) rfl ?_)
  have q17 := ((r2_0.keep K6 na6).keep K14 na7)
  refine g_lastore X16 K e16 q17 d24_31 (by decide) 0 ⟨rfl, Nat.le_of_ble_eq_true rfl⟩ (w := [(.long 0), (.long 9223372036854775807)]) rfl rfl fun T18 h18 X18 e18 W18 V18 => ?_
  have N18 := Fr.snoc X18 N14 (own_ong nb0_24 nb0_23 7 rfl)
  have KK18 := KK14.wr W18 (Or.inl (List.mem_of_getElem? (i := 0) rfl))
  have xb19 := own_XF_wr xb15 W18 (own_on nb0_24 0 7 rfl rfl)
  refine g_ag X18 K e18 49 rfl xb19.2.2.2.2.2.2.2.2.2.1 d24_32 d24_33 rfl fun T20 X20 e20 => g_iloadN X20 K d24_36 rfl ?_
  have q21 := (r14_0_0.wr W18)
  have q22 := (r14_0_1.other W18 (Or.inl (own_on nb0_24 9 7 rfl rfl)))
  have q23 := (r14_0_2.other W18 (Or.inl (own_on nb0_24 9 7 rfl rfl)))
  have q24 := (r14_0_3.other W18 (Or.inl (own_on nb0_24 9 7 rfl rfl)))
  have q25 := (r14_0_4.other W18 (Or.inl (own_on nb0_24 9 7 rfl rfl)))
  have q26 := ((((pre_A_hn.keep K2 na8).keep K6 na9).keep K14 na10).other W18 (own_on nb0_24 10 7 rfl rfl))
  have q27 := ((((pre_A_hq.keep K2 na11).keep K6 na12).keep K14 na13).other W18 (own_on nb0_24 11 7 rfl rfl))
  refine g_callV X20 K e20 171 173 34 175 172 174 rfl rfl rfl rfl rfl rfl (by decide) (rmhp0 l Z a0 hw hp h18 n0 (Nat.le_trans Z0 KK18.1) ⟨q21, q22, q23, q24, q25⟩ q26 q27 (own_ong nb0_24 nb0_23 9 rfl) (own_ong nb0_24 nb0_23 10 rfl) (own_ong nb0_24 nb0_23 11 rfl) (own_on nb0_24 9 10 rfl rfl) (own_on nb0_24 9 11 rfl rfl) (own_on nb0_24 10 11 rfl rfl)) q21 d24_37 hml.symm (argsL := [(.int 0)]) (lenOf pd_3 rfl) rfl 0 (Nat.le_of_ble_eq_true rfl) (by decide) fun v28 T28 Lc28 hQ28 X28 => ?_
  obtain ⟨rfl, N28q, K28, ⟨r28_0_0, r28_0_1, r28_0_2, r28_0_3, r28_0_4⟩, r28_1, r28_2⟩ := hQ28
  have N28 := Fr.app N18 N28q
  have KK28 := KK18.trans K28 (own_al [2, 3, 4] rfl)
  dsimp only [Option.toList, List.cons_append, List.nil_append]
  have xb29 := own_XF_keep xb19 K28 na14
  refine g_ag X28 K rfl 49 rfl xb29.2.2.2.2.2.2.2.2.2.1 d24_40 d24_41 rfl fun T30 X30 e30 => g_callV X30 K e30 184 186 34 188 185 187 rfl rfl rfl rfl rfl rfl (by decide) (rmhe1 l Z a0 hw hp T28.heap n0 (Nat.le_trans Z0 KK28.1) ⟨r28_0_0, r28_0_1, r28_0_2, r28_0_3, r28_0_4⟩) r28_0_0 d24_44 hml.symm (argsL := []) (lenOf pd_10 rfl) rfl 0 (Nat.le_of_ble_eq_true rfl) (by decide) fun v31 T31 Lc31 hQ31 X31 => ?_
  obtain ⟨rfl, N31q, e31⟩ := hQ31
  have N31 := Fr.app N28 N31q
  dsimp only [Option.toList, List.cons_append, List.nil_append]
  refine g_ifN X31 K d24_47 ((if0 _ _).trans (teq (by decide)).2) (g_ag X31 K e31 49 rfl xb29.2.2.2.2.2.2.2.2.2.1 d24_50 d24_51 rfl fun T33 X33 e33 => g_callV X33 K e33 189 191 34 193 190 192 rfl rfl rfl rfl rfl rfl (by decide) (rmpo0 l Z a0 hw hp T28.heap n0 (Nat.le_trans Z0 KK28.1) ⟨r28_0_0, r28_0_1, r28_0_2, r28_0_3, r28_0_4⟩ r28_1 r28_2 (own_ong nb0_24 nb0_23 9 rfl) (own_ong nb0_24 nb0_23 10 rfl) (own_ong nb0_24 nb0_23 11 rfl) (own_on nb0_24 9 10 rfl rfl) (own_on nb0_24 9 11 rfl rfl) (own_on nb0_24 10 11 rfl rfl)) r28_0_0 d24_54 hml.symm (argsL := []) (lenOf pd_11 rfl) rfl 0 (Nat.le_of_ble_eq_true rfl) (by decide) fun v34 T34 Lc34 hQ34 X34 => ?_)
  obtain ⟨rfl, N34q, K34, ⟨r34_0_0, r34_0_1, r34_0_2, r34_0_3, r34_0_4⟩, r34_1⟩ := hQ34
  have N34 := Fr.app N31 N34q
  have KK34 := KK28.trans K34 (own_al [2, 4] rfl)
  dsimp only [Option.toList, List.cons_append, List.nil_append]
  refine g_istoreN X34 K d24_57 (L' := #[rv x0, iv 0, iv 1, iv 0, uu, uu, uu, uu, uu, uu, uu]) rfl ?_
  have xb35 := own_XF_keep xb29 K34 na15
  refine g_ag X34 K rfl 24 rfl xb35.2.2.2.2.2.1 d24_58 d24_59 rfl fun T36 X36 e36 => g_iloadN X36 K d24_62 rfl ?_
  have q37 := ((((((pre_A_fi.keep K2 na16).keep K6 na17).keep K14 na18).other W18 (own_on nb0_24 5 7 rfl rfl)).keep K28 na19).keep K34 na20)
  refine g_iaload X36 K e36 q37 d24_63 (by decide) (v := (.int 2)) rfl (g_istore X36 K d24_64 (L' := #[rv x0, iv 0, iv 1, iv 0, iv 2, uu, uu, uu, uu, uu, uu]) rfl (g_iload X36 K d24_66 rfl (g_ifN X36 K d24_68 ((if0 _ _).trans (flt (by decide)).1) (g_iloadN X36 K d24_71 rfl (g_ifN X36 K d24_72 ((if0 _ _).trans (feq (by decide)).1) (g_iload X36 K d24_75 rfl (g_goto X36 K 84 d24_77 (by decide) (g_istore X36 K d24_84 (L' := #[rv x0, iv 0, iv 1, iv 0, iv 2, iv 2, uu, uu, uu, uu, uu]) rfl (g_ag X36 K e36 14 rfl xb35.2.2.1 d24_86 d24_87 rfl fun T40 X40 e40 => g_iload X40 K d24_90 rfl ?_)))))))))
  have q41 := ((((((pre_A_tg.keep K2 na21).keep K6 na22).keep K14 na23).other W18 (own_on nb0_24 2 7 rfl rfl)).keep K28 na24).keep K34 na25)
  refine g_iaload X40 K e40 q41 d24_92 (by decide) (v := (.int 1)) rfl (g_istore X40 K d24_93 (L' := #[rv x0, iv 0, iv 1, iv 0, iv 2, iv 2, iv 1, uu, uu, uu, uu]) rfl (g_ag X40 K e40 16 rfl xb35.2.2.2.1 d24_95 d24_96 rfl fun T42 X42 e42 => g_iload X42 K d24_99 rfl ?_))
  have q43 := ((((((pre_A_rs.keep K2 na26).keep K6 na27).keep K14 na28).other W18 (own_on nb0_24 3 7 rfl rfl)).keep K28 na29).keep K34 na30)
  refine g_laload X42 K e42 q43 d24_101 (by decide) (v := (.long rs2)) rfl (g_lconst X42 K d24_102 (z := 0) rfl (g_lcmp X42 K d24_103 rfl ?_))
  have hc104_44 : ¬ (rs2 = (0 : Int64)) := yz2
  refine g_ifY X42 K 110 d24_104 (by decide) ((if0 _ _).trans (feq (fun q => hc104_44 ((lw_eq rs2 (0 : Int64)).mp q))).2) (g_iloadN X42 K d24_110 rfl (g_ifN X42 K d24_111 ((if0 _ _).trans (feq (by decide)).1) (g_ag X42 K e42 18 rfl xb35.2.2.2.2.1 d24_114 d24_115 rfl fun T46 X46 e46 => g_iload X46 K d24_118 rfl ?_)))
  have q47 := ((((((pre_A_co.keep K2 na31).keep K6 na32).keep K14 na33).other W18 (own_on nb0_24 4 7 rfl rfl)).keep K28 na34).keep K34 na35)
  refine g_laload X46 K e46 q47 d24_120 (by decide) (v := (.long k1)) rfl (g_ag X46 K e46 26 rfl xb35.2.2.2.2.2.2.1 d24_121 d24_122 rfl fun T48 X48 e48 => g_iloadN X48 K d24_125 rfl ?_)
  have q49 := ((((((pre_A_po.keep K2 na36).keep K6 na37).keep K14 na38).other W18 (own_on nb0_24 6 7 rfl rfl)).keep K28 na39).keep K34 na40)
  refine g_laload X48 K e48 q49 d24_126 (by decide) (v := (.long 0)) rfl (g_ladd X48 K d24_127 rfl (g_ag X48 K e48 26 rfl xb35.2.2.2.2.2.2.1 d24_128 d24_129 rfl fun T50 X50 e50 => g_iload X50 K d24_132 rfl (g_laload X50 K e50 q49 d24_134 (by decide) (v := (.long po1)) rfl (g_lsub X50 K d24_135 rfl (g_goto X50 K 161 d24_136 (by decide) (g_lstore X50 K d24_161 (L' := #[rv x0, iv 0, iv 1, iv 0, iv 2, iv 2, iv 1, lv ((k1 + (0 : Int64)) - po1), .second, uu, uu]) rfl (g_ag X50 K e50 28 rfl xb35.2.2.2.2.2.2.2.1 d24_163 d24_164 rfl fun T51 X51 e51 => g_iloadN X51 K d24_167 rfl ?_)))))))
  have q52 := ((V18.keep K28 na41).keep K34 na42)
  refine g_laload X51 K e51 q52 d24_168 (by decide) (v := (.long 0)) rfl (g_lload X51 K d24_169 rfl (g_ladd X51 K d24_171 rfl (g_lstore X51 K d24_172 (L' := #[rv x0, iv 0, iv 1, iv 0, iv 2, iv 2, iv 1, lv ((k1 + (0 : Int64)) - po1), .second, lv ((0 : Int64) + ((k1 + (0 : Int64)) - po1)), .second]) rfl (g_lload X51 K d24_174 rfl (g_ag X51 K e51 28 rfl xb35.2.2.2.2.2.2.2.1 d24_176 d24_177 rfl fun T53 X53 e53 => g_iload X53 K d24_180 rfl (g_laload X53 K e53 q52 d24_182 (by decide) (v := (.long 9223372036854775807)) rfl (g_lcmp X53 K d24_183 rfl ?_)))))))
  have hc184_54 : ((0 : Int64) + ((k1 + (0 : Int64)) - po1)) < (9223372036854775807 : Int64) := yb2
  refine g_ifN X53 K d24_184 ((if0 _ _).trans (tlt ((lw_lt ((0 : Int64) + ((k1 + (0 : Int64)) - po1)) (9223372036854775807 : Int64)).mpr hc184_54)).2.1) (g_ag X53 K e53 28 rfl xb35.2.2.2.2.2.2.2.1 d24_187 d24_188 rfl fun T55 X55 e55 => g_iload X55 K d24_191 rfl (g_lload X55 K d24_193 rfl (g_lastore X55 K e55 q52 d24_195 (by decide) 1 ⟨rfl, Nat.le_of_ble_eq_true rfl⟩ (w := [(.long 0), (.long ((0 : Int64) + ((k1 + (0 : Int64)) - po1)))]) rfl rfl fun T56 h56 X56 e56 W56 V56 => ?_)))
  have N56 := Fr.snoc X56 N34 (own_ong nb0_24 nb0_23 7 rfl)
  have KK56 := KK34.wr W56 (Or.inl (List.mem_of_getElem? (i := 0) rfl))
  have xb57 := own_XF_wr xb35 W56 (own_on nb0_24 0 7 rfl rfl)
  refine g_ag X56 K e56 30 rfl xb57.2.2.2.2.2.2.2.2.1 d24_196 d24_197 rfl fun T58 X58 e58 => g_iload X58 K d24_200 rfl (g_iload X58 K d24_202 rfl ?_)
  have q59 := (((((r6_0.keep K14 na43).other W18 (own_on nb0_24 8 7 rfl rfl)).keep K28 na44).keep K34 na45).other W56 (own_on nb0_24 8 7 rfl rfl))
  refine g_iastore X58 K e58 q59 d24_204 (by decide) 1 ⟨rfl, Nat.le_of_ble_eq_true rfl⟩ (w := [(.int (-1)), (.int 2)]) rfl rfl fun T60 h60 X60 e60 W60 V60 => ?_
  have N60 := Fr.snoc X60 N56 (own_ong nb0_24 nb0_23 8 rfl)
  have KK60 := KK56.wr W60 (Or.inl (List.mem_of_getElem? (i := 1) rfl))
  have xb61 := own_XF_wr xb57 W60 (own_on nb0_24 0 8 rfl rfl)
  refine g_ag X60 K e60 49 rfl xb61.2.2.2.2.2.2.2.2.2.1 d24_205 d24_206 rfl fun T62 X62 e62 => g_iload X62 K d24_209 rfl ?_
  have q63 := ((r34_0_0.wr W56).wr W60)
  have q64 := ((r34_0_1.other W56 (Or.inl (own_on nb0_24 9 7 rfl rfl))).other W60 (Or.inl (own_on nb0_24 9 8 rfl rfl)))
  have q65 := ((r34_0_2.other W56 (Or.inl (own_on nb0_24 9 7 rfl rfl))).other W60 (Or.inl (own_on nb0_24 9 8 rfl rfl)))
  have q66 := ((r34_0_3.other W56 (Or.inl (own_on nb0_24 9 7 rfl rfl))).other W60 (Or.inl (own_on nb0_24 9 8 rfl rfl)))
  have q67 := ((r34_0_4.other W56 (Or.inl (own_on nb0_24 9 7 rfl rfl))).other W60 (Or.inl (own_on nb0_24 9 8 rfl rfl)))
  have q68 := (((r28_1.keep K34 na46).other W56 (own_on nb0_24 10 7 rfl rfl)).other W60 (own_on nb0_24 10 8 rfl rfl))
  have q69 := ((r34_1.other W56 (own_on nb0_24 11 7 rfl rfl)).other W60 (own_on nb0_24 11 8 rfl rfl))
  refine g_callV X62 K e62 171 173 34 175 172 174 rfl rfl rfl rfl rfl rfl (by decide) (rmhp1 l Z a0 hw hp h60 n0 (Nat.le_trans Z0 KK60.1) ⟨q63, q64, q65, q66, q67⟩ q68 q69 (own_ong nb0_24 nb0_23 9 rfl) (own_ong nb0_24 nb0_23 10 rfl) (own_ong nb0_24 nb0_23 11 rfl) (own_on nb0_24 9 10 rfl rfl) (own_on nb0_24 9 11 rfl rfl) (own_on nb0_24 10 11 rfl rfl)) q63 d24_211 hml.symm (argsL := [(.int 1)]) (lenOf pd_3 rfl) rfl 0 (Nat.le_of_ble_eq_true rfl) (by decide) fun v70 T70 Lc70 hQ70 X70 => ?_
  obtain ⟨rfl, N70q, K70, ⟨r70_0_0, r70_0_1, r70_0_2, r70_0_3, r70_0_4⟩, r70_1, r70_2⟩ := hQ70
  have N70 := Fr.app N60 N70q
  have KK70 := KK60.trans K70 (own_al [2, 3, 4] rfl)
  dsimp only [Option.toList, List.cons_append, List.nil_append]
  have xb71 := own_XF_keep xb61 K70 na14
  refine g_ag X70 K rfl 12 rfl xb71.2.1 d24_214 d24_215 rfl fun T72 X72 e72 => g_iload X72 K d24_218 rfl ?_
  have q73 := (((((((((pre_A_nx.keep K2 na47).keep K6 na48).keep K14 na49).other W18 (own_on nb0_24 1 7 rfl rfl)).keep K28 na50).keep K34 na51).other W56 (own_on nb0_24 1 7 rfl rfl)).other W60 (own_on nb0_24 1 8 rfl rfl)).keep K70 na50)
  refine g_iaload X72 K e72 q73 d24_220 (by decide) (v := (.int 0)) rfl (g_istore X72 K d24_221 (L' := #[rv x0, iv 0, iv 1, iv 0, iv 0, iv 2, iv 1, lv ((k1 + (0 : Int64)) - po1), .second, lv ((0 : Int64) + ((k1 + (0 : Int64)) - po1)), .second]) rfl (g_goto X72 K 66 d24_223 (by decide) (g_iload X72 K d24_66 rfl (g_ifN X72 K d24_68 ((if0 _ _).trans (flt (by decide)).1) (g_iloadN X72 K d24_71 rfl (g_ifN X72 K d24_72 ((if0 _ _).trans (feq (by decide)).1) (g_iload X72 K d24_75 rfl (g_goto X72 K 84 d24_77 (by decide) (g_istore X72 K d24_84 (L' := #[rv x0, iv 0, iv 1, iv 0, iv 0, iv 0, iv 1, lv ((k1 + (0 : Int64)) - po1), .second, lv ((0 : Int64) + ((k1 + (0 : Int64)) - po1)), .second]) rfl (g_ag X72 K e72 14 rfl xb71.2.2.1 d24_86 d24_87 rfl fun T76 X76 e76 => g_iload X76 K d24_90 rfl ?_))))))))))
  have q77 := (((q41.other W56 (own_on nb0_24 2 7 rfl rfl)).other W60 (own_on nb0_24 2 8 rfl rfl)).keep K70 na24)
  refine g_iaload X76 K e76 q77 d24_92 (by decide) (v := (.int 1)) rfl (g_istore X76 K d24_93 (L' := #[rv x0, iv 0, iv 1, iv 0, iv 0, iv 0, iv 1, lv ((k1 + (0 : Int64)) - po1), .second, lv ((0 : Int64) + ((k1 + (0 : Int64)) - po1)), .second]) rfl (g_ag X76 K e76 16 rfl xb71.2.2.2.1 d24_95 d24_96 rfl fun T78 X78 e78 => g_iload X78 K d24_99 rfl ?_))
  have q79 := (((q43.other W56 (own_on nb0_24 3 7 rfl rfl)).other W60 (own_on nb0_24 3 8 rfl rfl)).keep K70 na29)
  refine g_laload X78 K e78 q79 d24_101 (by decide) (v := (.long rs0)) rfl (g_lconst X78 K d24_102 (z := 0) rfl (g_lcmp X78 K d24_103 rfl ?_))
  have hc104_80 : ¬ (rs0 = (0 : Int64)) := yz0
  refine g_ifY X78 K 110 d24_104 (by decide) ((if0 _ _).trans (feq (fun q => hc104_80 ((lw_eq rs0 (0 : Int64)).mp q))).2) (g_iloadN X78 K d24_110 rfl (g_ifN X78 K d24_111 ((if0 _ _).trans (feq (by decide)).1) (g_ag X78 K e78 18 rfl xb71.2.2.2.2.1 d24_114 d24_115 rfl fun T82 X82 e82 => g_iload X82 K d24_118 rfl ?_)))
  have q83 := (((q47.other W56 (own_on nb0_24 4 7 rfl rfl)).other W60 (own_on nb0_24 4 8 rfl rfl)).keep K70 na34)
  refine g_laload X82 K e82 q83 d24_120 (by decide) (v := (.long k0)) rfl (g_ag X82 K e82 26 rfl xb71.2.2.2.2.2.2.1 d24_121 d24_122 rfl fun T84 X84 e84 => g_iloadN X84 K d24_125 rfl ?_)
  have q85 := (((q49.other W56 (own_on nb0_24 6 7 rfl rfl)).other W60 (own_on nb0_24 6 8 rfl rfl)).keep K70 na39)
  refine g_laload X84 K e84 q85 d24_126 (by decide) (v := (.long 0)) rfl (g_ladd X84 K d24_127 rfl (g_ag X84 K e84 26 rfl xb71.2.2.2.2.2.2.1 d24_128 d24_129 rfl fun T86 X86 e86 => g_iload X86 K d24_132 rfl (g_laload X86 K e86 q85 d24_134 (by decide) (v := (.long po1)) rfl (g_lsub X86 K d24_135 rfl (g_goto X86 K 161 d24_136 (by decide) (g_lstore X86 K d24_161 (L' := #[rv x0, iv 0, iv 1, iv 0, iv 0, iv 0, iv 1, lv ((k0 + (0 : Int64)) - po1), .second, lv ((0 : Int64) + ((k1 + (0 : Int64)) - po1)), .second]) rfl (g_ag X86 K e86 28 rfl xb71.2.2.2.2.2.2.2.1 d24_163 d24_164 rfl fun T87 X87 e87 => g_iloadN X87 K d24_167 rfl ?_)))))))
  have q88 := ((V56.other W60 (own_on nb0_24 7 8 rfl rfl)).keep K70 na41)
  refine g_laload X87 K e87 q88 d24_168 (by decide) (v := (.long 0)) rfl (g_lload X87 K d24_169 rfl (g_ladd X87 K d24_171 rfl (g_lstore X87 K d24_172 (L' := #[rv x0, iv 0, iv 1, iv 0, iv 0, iv 0, iv 1, lv ((k0 + (0 : Int64)) - po1), .second, lv ((0 : Int64) + ((k0 + (0 : Int64)) - po1)), .second]) rfl (g_lload X87 K d24_174 rfl (g_ag X87 K e87 28 rfl xb71.2.2.2.2.2.2.2.1 d24_176 d24_177 rfl fun T89 X89 e89 => g_iload X89 K d24_180 rfl (g_laload X89 K e89 q88 d24_182 (by decide) (v := (.long ((0 : Int64) + ((k1 + (0 : Int64)) - po1)))) rfl (g_lcmp X89 K d24_183 rfl ?_)))))))
  have hc184_90 : ¬ (((0 : Int64) + ((k0 + (0 : Int64)) - po1)) < ((0 : Int64) + ((k1 + (0 : Int64)) - po1))) := ylt
  refine g_ifY X89 K 214 d24_184 (by decide) ((if0 _ _).trans (flt (fun q => hc184_90 ((lw_lt ((0 : Int64) + ((k0 + (0 : Int64)) - po1)) ((0 : Int64) + ((k1 + (0 : Int64)) - po1))).mp q))).2.1) (g_ag X89 K e89 12 rfl xb71.2.1 d24_214 d24_215 rfl fun T91 X91 e91 => g_iload X91 K d24_218 rfl (g_iaload X91 K e91 q73 d24_220 (by decide) (v := (.int (-1))) rfl (g_istore X91 K d24_221 (L' := #[rv x0, iv 0, iv 1, iv 0, iv (-1), iv 0, iv 1, lv ((k0 + (0 : Int64)) - po1), .second, lv ((0 : Int64) + ((k0 + (0 : Int64)) - po1)), .second]) rfl (g_goto X91 K 66 d24_223 (by decide) (g_iload X91 K d24_66 rfl (g_ifY X91 K 226 d24_68 (by decide) ((if0 _ _).trans (tlt (by decide)).1) (g_goto X91 K 40 d24_226 (by decide) (g_ag X91 K e91 49 rfl xb71.2.2.2.2.2.2.2.2.2.1 d24_40 d24_41 rfl fun T93 X93 e93 => g_callV X93 K e93 184 186 34 188 185 187 rfl rfl rfl rfl rfl rfl (by decide) (rmhe1 l Z a0 hw hp T70.heap n0 (Nat.le_trans Z0 KK70.1) ⟨r70_0_0, r70_0_1, r70_0_2, r70_0_3, r70_0_4⟩) r70_0_0 d24_44 hml.symm (argsL := []) (lenOf pd_10 rfl) rfl 0 (Nat.le_of_ble_eq_true rfl) (by decide) fun v94 T94 Lc94 hQ94 X94 => ?_))))))))
  obtain ⟨rfl, N94q, e94⟩ := hQ94
  have N94 := Fr.app N70 N94q
  dsimp only [Option.toList, List.cons_append, List.nil_append]
  refine g_ifN X94 K d24_47 ((if0 _ _).trans (teq (by decide)).2) (g_ag X94 K e94 49 rfl xb71.2.2.2.2.2.2.2.2.2.1 d24_50 d24_51 rfl fun T96 X96 e96 => g_callV X96 K e96 189 191 34 193 190 192 rfl rfl rfl rfl rfl rfl (by decide) (rmpo1 l Z a0 hw hp T70.heap n0 (Nat.le_trans Z0 KK70.1) ⟨r70_0_0, r70_0_1, r70_0_2, r70_0_3, r70_0_4⟩ r70_1 r70_2 (own_ong nb0_24 nb0_23 9 rfl) (own_ong nb0_24 nb0_23 10 rfl) (own_ong nb0_24 nb0_23 11 rfl) (own_on nb0_24 9 10 rfl rfl) (own_on nb0_24 9 11 rfl rfl) (own_on nb0_24 10 11 rfl rfl)) r70_0_0 d24_54 hml.symm (argsL := []) (lenOf pd_11 rfl) rfl 0 (Nat.le_of_ble_eq_true rfl) (by decide) fun v97 T97 Lc97 hQ97 X97 => ?_)
  obtain ⟨rfl, N97q, K97, ⟨r97_0_0, r97_0_1, r97_0_2, r97_0_3, r97_0_4⟩, r97_1⟩ := hQ97
  have N97 := Fr.app N94 N97q
  have KK97 := KK70.trans K97 (own_al [2, 4] rfl)
  dsimp only [Option.toList, List.cons_append, List.nil_append]
  refine g_istoreN X97 K d24_57 (L' := #[rv x0, iv 0, iv 1, iv 1, iv (-1), iv 0, iv 1, lv ((k0 + (0 : Int64)) - po1), .second, lv ((0 : Int64) + ((k0 + (0 : Int64)) - po1)), .second]) rfl ?_
  have xb98 := own_XF_keep xb71 K97 na15
  refine g_ag X97 K rfl 24 rfl xb98.2.2.2.2.2.1 d24_58 d24_59 rfl fun T99 X99 e99 => g_iloadN X99 K d24_62 rfl ?_
  have q100 := ((((q37.other W56 (own_on nb0_24 5 7 rfl rfl)).other W60 (own_on nb0_24 5 8 rfl rfl)).keep K70 na19).keep K97 na20)
  refine g_iaload X99 K e99 q100 d24_63 (by decide) (v := (.int 3)) rfl (g_istore X99 K d24_64 (L' := #[rv x0, iv 0, iv 1, iv 1, iv 3, iv 0, iv 1, lv ((k0 + (0 : Int64)) - po1), .second, lv ((0 : Int64) + ((k0 + (0 : Int64)) - po1)), .second]) rfl (g_iload X99 K d24_66 rfl (g_ifN X99 K d24_68 ((if0 _ _).trans (flt (by decide)).1) (g_iloadN X99 K d24_71 rfl (g_ifN X99 K d24_72 ((if0 _ _).trans (feq (by decide)).1) (g_iload X99 K d24_75 rfl (g_goto X99 K 84 d24_77 (by decide) (g_istore X99 K d24_84 (L' := #[rv x0, iv 0, iv 1, iv 1, iv 3, iv 3, iv 1, lv ((k0 + (0 : Int64)) - po1), .second, lv ((0 : Int64) + ((k0 + (0 : Int64)) - po1)), .second]) rfl (g_ag X99 K e99 14 rfl xb98.2.2.1 d24_86 d24_87 rfl fun T103 X103 e103 => g_iload X103 K d24_90 rfl ?_)))))))))
  have q104 := (q77.keep K97 na25)
  refine g_iaload X103 K e103 q104 d24_92 (by decide) (v := (.int 0)) rfl (g_istore X103 K d24_93 (L' := #[rv x0, iv 0, iv 1, iv 1, iv 3, iv 3, iv 0, lv ((k0 + (0 : Int64)) - po1), .second, lv ((0 : Int64) + ((k0 + (0 : Int64)) - po1)), .second]) rfl (g_ag X103 K e103 16 rfl xb98.2.2.2.1 d24_95 d24_96 rfl fun T105 X105 e105 => g_iload X105 K d24_99 rfl ?_))
  have q106 := (q79.keep K97 na30)
  refine g_laload X105 K e105 q106 d24_101 (by decide) (v := (.long rs3)) rfl (g_lconst X105 K d24_102 (z := 0) rfl (g_lcmp X105 K d24_103 rfl ?_))
  have J107 : ∀ (T107 : State) (L107 : List Loc) (v107_0 : Int64) (v107_1 : Int64), Stand p l e ({ frames := 3, cells := 0, slots := 0, locals := 43 } : Room) s m #[(.ref x0), (.int 0), (.int 1)] below meth c T107 L107 0 0 → Fr n0 L107 → T107.heap = T97.heap → Gl p e below Rp (T107.setTop (mkF m 214 #[rv x0, iv 0, iv 1, iv 1, iv 3, iv 3, iv 0, lv v107_0, .second, lv v107_1, .second] [])) := by
   intro T107 L107 v107_0 v107_1 X107 N107 e107
   refine g_ag X107 K e107 12 rfl xb98.2.1 d24_214 d24_215 rfl fun T108 X108 e108 => g_iload X108 K d24_218 rfl ?_
   have q109 := (q73.keep K97 na51)
   refine g_iaload X108 K e108 q109 d24_220 (by decide) (v := (.int 1)) rfl (g_istore X108 K d24_221 (L' := #[rv x0, iv 0, iv 1, iv 1, iv 1, iv 3, iv 0, lv v107_0, .second, lv v107_1, .second]) rfl (g_goto X108 K 66 d24_223 (by decide) (g_iload X108 K d24_66 rfl (g_ifN X108 K d24_68 ((if0 _ _).trans (flt (by decide)).1) (g_iloadN X108 K d24_71 rfl (g_ifN X108 K d24_72 ((if0 _ _).trans (feq (by decide)).1) (g_iload X108 K d24_75 rfl (g_goto X108 K 84 d24_77 (by decide) (g_istore X108 K d24_84 (L' := #[rv x0, iv 0, iv 1, iv 1, iv 1, iv 1, iv 0, lv v107_0, .second, lv v107_1, .second]) rfl (g_ag X108 K e108 14 rfl xb98.2.2.1 d24_86 d24_87 rfl fun T112 X112 e112 => g_iload X112 K d24_90 rfl (g_iaload X112 K e112 q104 d24_92 (by decide) (v := (.int 0)) rfl ?_)))))))))))
   refine g_istore X112 K d24_93 (L' := #[rv x0, iv 0, iv 1, iv 1, iv 1, iv 1, iv 0, lv v107_0, .second, lv v107_1, .second]) rfl (g_ag X112 K e112 16 rfl xb98.2.2.2.1 d24_95 d24_96 rfl fun T113 X113 e113 => g_iload X113 K d24_99 rfl (g_laload X113 K e113 q106 d24_101 (by decide) (v := (.long rs1)) rfl (g_lconst X113 K d24_102 (z := 0) rfl (g_lcmp X113 K d24_103 rfl ?_))))
   have J114 : ∀ (T114 : State) (L114 : List Loc) (v114_0 : Int64) (v114_1 : Int64), Stand p l e ({ frames := 3, cells := 0, slots := 0, locals := 43 } : Room) s m #[(.ref x0), (.int 0), (.int 1)] below meth c T114 L114 0 0 → Fr n0 L114 → T114.heap = T97.heap → Gl p e below Rp (T114.setTop (mkF m 214 #[rv x0, iv 0, iv 1, iv 1, iv 1, iv 1, iv 0, lv v114_0, .second, lv v114_1, .second] [])) := by
    intro T114 L114 v114_0 v114_1 X114 N114 e114
    refine g_ag X114 K e114 12 rfl xb98.2.1 d24_214 d24_215 rfl fun T115 X115 e115 => g_iload X115 K d24_218 rfl (g_iaload X115 K e115 q109 d24_220 (by decide) (v := (.int (-1))) rfl (g_istore X115 K d24_221 (L' := #[rv x0, iv 0, iv 1, iv 1, iv (-1), iv 1, iv 0, lv v114_0, .second, lv v114_1, .second]) rfl (g_goto X115 K 66 d24_223 (by decide) (g_iload X115 K d24_66 rfl (g_ifY X115 K 226 d24_68 (by decide) ((if0 _ _).trans (tlt (by decide)).1) (g_goto X115 K 40 d24_226 (by decide) (g_ag X115 K e115 49 rfl xb98.2.2.2.2.2.2.2.2.2.1 d24_40 d24_41 rfl fun T117 X117 e117 => g_callV X117 K e117 184 186 34 188 185 187 rfl rfl rfl rfl rfl rfl (by decide) (rmhe0 l Z a0 hw hp T97.heap n0 (Nat.le_trans Z0 KK97.1) ⟨r97_0_0, r97_0_1, r97_0_2, r97_0_3, r97_0_4⟩) r97_0_0 d24_44 hml.symm (argsL := []) (lenOf pd_10 rfl) rfl 0 (Nat.le_of_ble_eq_true rfl) (by decide) fun v118 T118 Lc118 hQ118 X118 => ?_)))))))
    obtain ⟨rfl, N118q, e118⟩ := hQ118
    have N118 := Fr.app N114 N118q
    dsimp only [Option.toList, List.cons_append, List.nil_append]
    refine g_ifY X118 K 229 d24_47 (by decide) ((if0 _ _).trans (feq (by decide)).2) ?_
    have q120 := (q88.keep K97 na42)
    have q121 := ((V60.keep K70 na44).keep K97 na45)
    have q122 := (r70_1.keep K97 na46)
    exact g_lv0 X118 K hlk hrt hR d24_229 (by decide) (by rw [e118]; exact ⟨(-1 : Int32), (2 : Int32), (1 : Int32), hn1, rfl, N118, KK97, q120, q121, ⟨r97_0_0, r97_0_1, r97_0_2, r97_0_3, r97_0_4⟩, q122, r97_1⟩)
   by_cases hc104_123 : rs1 = (0 : Int64)
   refine g_ifN X113 K d24_104 ((if0 _ _).trans (teq ((lw_eq rs1 (0 : Int64)).mpr hc104_123)).2) ?_
   ·
    refine g_goto X113 K 214 d24_107 (by decide) ?_
    exact J114 _ _ v107_0 v107_1 X113 N107 e113
   refine g_ifY X113 K 110 d24_104 (by decide) ((if0 _ _).trans (feq (fun q => hc104_123 ((lw_eq rs1 (0 : Int64)).mp q))).2) ?_
   ·
    refine g_iloadN X113 K d24_110 rfl (g_ifN X113 K d24_111 ((if0 _ _).trans (feq (by decide)).1) (g_ag X113 K e113 18 rfl xb98.2.2.2.2.1 d24_114 d24_115 rfl fun T125 X125 e125 => g_iload X125 K d24_118 rfl ?_))
    have q126 := (q83.keep K97 na35)
    refine g_laload X125 K e125 q126 d24_120 (by decide) (v := (.long (-k0))) rfl (g_ag X125 K e125 26 rfl xb98.2.2.2.2.2.2.1 d24_121 d24_122 rfl fun T127 X127 e127 => g_iloadN X127 K d24_125 rfl ?_)
    have q128 := (q85.keep K97 na40)
    refine g_laload X127 K e127 q128 d24_126 (by decide) (v := (.long po1)) rfl (g_ladd X127 K d24_127 rfl (g_ag X127 K e127 26 rfl xb98.2.2.2.2.2.2.1 d24_128 d24_129 rfl fun T129 X129 e129 => g_iload X129 K d24_132 rfl (g_laload X129 K e129 q128 d24_134 (by decide) (v := (.long 0)) rfl (g_lsub X129 K d24_135 rfl (g_goto X129 K 161 d24_136 (by decide) (g_lstore X129 K d24_161 (L' := #[rv x0, iv 0, iv 1, iv 1, iv 1, iv 1, iv 0, lv (((-k0) + po1) - (0 : Int64)), .second, lv v107_1, .second]) rfl (g_ag X129 K e129 28 rfl xb98.2.2.2.2.2.2.2.1 d24_163 d24_164 rfl fun T130 X130 e130 => g_iloadN X130 K d24_167 rfl ?_)))))))
    have q131 := (q88.keep K97 na42)
    refine g_laload X130 K e130 q131 d24_168 (by decide) (v := (.long ((0 : Int64) + ((k1 + (0 : Int64)) - po1)))) rfl (g_lload X130 K d24_169 rfl (g_ladd X130 K d24_171 rfl (g_lstore X130 K d24_172 (L' := #[rv x0, iv 0, iv 1, iv 1, iv 1, iv 1, iv 0, lv (((-k0) + po1) - (0 : Int64)), .second, lv (((0 : Int64) + ((k1 + (0 : Int64)) - po1)) + (((-k0) + po1) - (0 : Int64))), .second]) rfl (g_lload X130 K d24_174 rfl (g_ag X130 K e130 28 rfl xb98.2.2.2.2.2.2.2.1 d24_176 d24_177 rfl fun T132 X132 e132 => g_iload X132 K d24_180 rfl (g_laload X132 K e132 q131 d24_182 (by decide) (v := (.long 0)) rfl (g_lcmp X132 K d24_183 rfl ?_)))))))
    have hc184_133 : ¬ ((((0 : Int64) + ((k1 + (0 : Int64)) - po1)) + (((-k0) + po1) - (0 : Int64))) < (0 : Int64)) := yz1 hc104_123
    refine g_ifY X132 K 214 d24_184 (by decide) ((if0 _ _).trans (flt (fun q => hc184_133 ((lw_lt (((0 : Int64) + ((k1 + (0 : Int64)) - po1)) + (((-k0) + po1) - (0 : Int64))) (0 : Int64)).mp q))).2.1) ?_
    exact J114 _ _ (((-k0) + po1) - (0 : Int64)) (((0 : Int64) + ((k1 + (0 : Int64)) - po1)) + (((-k0) + po1) - (0 : Int64))) X132 N107 e132
  by_cases hc104_134 : rs3 = (0 : Int64)
  refine g_ifN X105 K d24_104 ((if0 _ _).trans (teq ((lw_eq rs3 (0 : Int64)).mpr hc104_134)).2) ?_
  ·
   refine g_goto X105 K 214 d24_107 (by decide) ?_
   exact J107 _ _ ((k0 + (0 : Int64)) - po1) ((0 : Int64) + ((k0 + (0 : Int64)) - po1)) X105 N97 e105
  refine g_ifY X105 K 110 d24_104 (by decide) ((if0 _ _).trans (feq (fun q => hc104_134 ((lw_eq rs3 (0 : Int64)).mp q))).2) ?_
  ·
   refine g_iloadN X105 K d24_110 rfl (g_ifN X105 K d24_111 ((if0 _ _).trans (feq (by decide)).1) (g_ag X105 K e105 18 rfl xb98.2.2.2.2.1 d24_114 d24_115 rfl fun T136 X136 e136 => g_iload X136 K d24_118 rfl ?_))
   have q137 := (q83.keep K97 na35)
   refine g_laload X136 K e136 q137 d24_120 (by decide) (v := (.long (-k1))) rfl (g_ag X136 K e136 26 rfl xb98.2.2.2.2.2.2.1 d24_121 d24_122 rfl fun T138 X138 e138 => g_iloadN X138 K d24_125 rfl ?_)
   have q139 := (q85.keep K97 na40)
   refine g_laload X138 K e138 q139 d24_126 (by decide) (v := (.long po1)) rfl (g_ladd X138 K d24_127 rfl (g_ag X138 K e138 26 rfl xb98.2.2.2.2.2.2.1 d24_128 d24_129 rfl fun T140 X140 e140 => g_iload X140 K d24_132 rfl (g_laload X140 K e140 q139 d24_134 (by decide) (v := (.long 0)) rfl (g_lsub X140 K d24_135 rfl (g_goto X140 K 161 d24_136 (by decide) (g_lstore X140 K d24_161 (L' := #[rv x0, iv 0, iv 1, iv 1, iv 3, iv 3, iv 0, lv (((-k1) + po1) - (0 : Int64)), .second, lv ((0 : Int64) + ((k0 + (0 : Int64)) - po1)), .second]) rfl (g_ag X140 K e140 28 rfl xb98.2.2.2.2.2.2.2.1 d24_163 d24_164 rfl fun T141 X141 e141 => g_iloadN X141 K d24_167 rfl ?_)))))))
   have q142 := (q88.keep K97 na42)
   refine g_laload X141 K e141 q142 d24_168 (by decide) (v := (.long ((0 : Int64) + ((k1 + (0 : Int64)) - po1)))) rfl (g_lload X141 K d24_169 rfl (g_ladd X141 K d24_171 rfl (g_lstore X141 K d24_172 (L' := #[rv x0, iv 0, iv 1, iv 1, iv 3, iv 3, iv 0, lv (((-k1) + po1) - (0 : Int64)), .second, lv (((0 : Int64) + ((k1 + (0 : Int64)) - po1)) + (((-k1) + po1) - (0 : Int64))), .second]) rfl (g_lload X141 K d24_174 rfl (g_ag X141 K e141 28 rfl xb98.2.2.2.2.2.2.2.1 d24_176 d24_177 rfl fun T143 X143 e143 => g_iload X143 K d24_180 rfl (g_laload X143 K e143 q142 d24_182 (by decide) (v := (.long 0)) rfl (g_lcmp X143 K d24_183 rfl ?_)))))))
   have hc184_144 : ¬ ((((0 : Int64) + ((k1 + (0 : Int64)) - po1)) + (((-k1) + po1) - (0 : Int64))) < (0 : Int64)) := yz3 hc104_134
   refine g_ifY X143 K 214 d24_184 (by decide) ((if0 _ _).trans (flt (fun q => hc184_144 ((lw_lt (((0 : Int64) + ((k1 + (0 : Int64)) - po1)) + (((-k1) + po1) - (0 : Int64))) (0 : Int64)).mp q))).2.1) ?_
   exact J107 _ _ (((-k1) + po1) - (0 : Int64)) (((0 : Int64) + ((k1 + (0 : Int64)) - po1)) + (((-k1) + po1) - (0 : Int64))) X143 N97 e143
def Q31 (Z : State) (x0 : Addr) (x1 : Int64) (nx : Addr) (tg : Addr) (rs : Addr) (co : Addr) (fi : Addr) (po : Addr) (di : Addr) (pa : Addr) (hp : Addr) (hn : Addr) (hq : Addr) (qu : Addr) (qd : Addr) (lw : Addr) (sk : Addr) (cu : Addr) (vi : Addr) (ar : Int32) (ac : Int64) (fc : Int64) (vl : Int32) (so : Int32) (si : Int32) (vt : Int64) (kpo : ClassId) (po1 : Int64) (kdi : ClassId) (np : Int64) (h0 : Heap) (n0 : Nat) (v : Option Value) (h : Heap) (L : List Loc) : Prop := v = none ∧ Fr n0 L ∧ Keep h0 h [po] ∧ Arv Z h po kpo .long (2 : Int32) [(.long 0), (.long np)] (.long 0)
theorem ef_31 (m : MethodId) (x0 : Addr) (x1 : Int64) : entryFrame m #[(.ref x0), (.long x1)] 4 = mkF m 0 #[rv x0, lv x1, .second, .unset] [] := by first | (simp [entryFrame, mkF, argsToLocals, Value.category]; done) | rfl
set_option maxRecDepth 65536 in
set_option maxHeartbeats 40000000 in
theorem rm31 (l : Launch) (Z : State) (a0 : Array Value) (hw : ∀ d ∈ tables_1, d.before a0 Z = true) (x0 : Addr) {x1 : Int64} {nx : Addr} {tg : Addr} {rs : Addr} {co : Addr} {fi : Addr} {po : Addr} {di : Addr} {pa : Addr} {hp : Addr} (hn : Addr) (hq : Addr) {qu : Addr} {qd : Addr} {lw : Addr} {sk : Addr} {cu : Addr} {vi : Addr} {ar : Int32} {ac : Int64} {fc : Int64} {vl : Int32} {so : Int32} {si : Int32} {vt : Int64} {kpo : ClassId} {po1 : Int64} {kdi : ClassId} (np : Int64) (h0 : Heap) (n0 : Nat) (Z0 : n0 ≤ h0.size) (pre_own_XF : own_XF Z h0 n0 x0 nx tg rs co fi po di pa hp hn hq qu qd lw sk cu vi ar ac fc vl so si vt) (pre_A_po : Arv Z h0 po kpo .long (2 : Int32) [(.long 0), (.long po1)] (.long 0)) (pre_A_di : Arv Z h0 di kdi .long (2 : Int32) [(.long 0), (.long x1)] (.long 0)) (hD : ¬ (x1 < (0 : Int64))) (hnp : (po1 + x1) = np) (hmax : ¬ ((1152921504606846975 : Int64) < np)) :
    own_M l (⟨"com/example/violarc/violarc/graph/FlowNetwork", "advance", "(J)V"⟩ : MethodName) c31 4 none ({ frames := 1, cells := 0, slots := 0, locals := 19 } : Room) #[(.ref x0), (.long x1)] Z h0 (Q31 Z x0 x1 nx tg rs co fi po di pa hp hn hq qu qd lw sk cu vi ar ac fc vl so si vt kpo po1 kdi np h0 n0) := by
  refine MetFree.of_bodySF (plainFor_of_name pn_31) hisR ?_
  intro p e s m args below meth c s₁ Bd hml0 hP hK
  obtain ⟨rfl, hZ, hh⟩ := hP
  have hx := Bd.exec
  have hby := Bd.bytes
  have hml : c.maxLocals = 4 := hml0
  have hown : s.vm.findClass "com/example/violarc/violarc/graph/FlowNetwork" = some m.cls := findClass_of_methodNamed Bd.named
  have hnm := (name_of_methodNamed Bd.named Bd.method).1
  have X0 : Stand p l e ({ frames := 1, cells := 0, slots := 0, locals := 19 } : Room) s m #[(.ref x0), (.long x1)] below meth c s₁ [] 0 0 := Stand.of_body Bd
  have e0 : s₁.heap = h0 := by rw [← hh, Bd.state]; rfl
  have N0 := Fr.nil n0
  have Kp0 := Keep.refl h0 [po]
  have hlk := BodyLoose.notSynchronized Bd
  have hrt := Bd.returns
  have K : own_K p c c31 Z s "com/example/violarc/violarc/graph/FlowNetwork" m a0 := ⟨hx, hby, hZ, hown, hw⟩
  refine gStart (S' := s₁.setTop (mkF m 0 #[rv x0, lv x1, .second, uu] [])) (congrArg (fun f => s₁.setTop f) (ef_31 m x0 x1)) fun Rp hR => ?_
  obtain ⟨nb0_0, nb0_1, nb0_2, nb0_3, nb0_4, nb0_5, nb0_6, nb0_7, nb0_8, nb0_9, nb0_10, nb0_11, nb0_12, nb0_13, nb0_14, nb0_15, nb0_16, nb0_17, nb0_18, nb0_19, nb0_20, nb0_21, nb0_22, nb0_23, nb0_24⟩ := id pre_own_XF
  refine g_iconst X0 K d31_0 (z := 0) rfl (g_istoreN X0 K d31_1 (L' := #[rv x0, lv x1, .second, iv 0]) rfl (g_iloadN X0 K d31_2 rfl (g_ag X0 K e0 26 rfl pre_own_XF.2.2.2.2.2.2.1 d31_3 d31_4 rfl fun T1 X1 e1 => g_len X1 K e1 pre_A_po d31_7 (g_icN X1 K d31_8 (tlt (by decide)).2.1 (g_ag X1 K e1 26 rfl pre_own_XF.2.2.2.2.2.2.1 d31_11 d31_12 rfl fun T3 X3 e3 => g_iloadN X3 K d31_15 rfl (g_dup2 X3 K d31_16 rfl rfl (g_laload X3 K e3 pre_A_po d31_17 (by decide) (v := (.long 0)) rfl (g_ag X3 K e3 28 rfl pre_own_XF.2.2.2.2.2.2.2.1 d31_18 d31_19 rfl fun T4 X4 e4 => g_iloadN X4 K d31_22 rfl (g_laload X4 K e4 pre_A_di d31_23 (by decide) (v := (.long 0)) rfl ?_)))))))))
  refine g_lloadN X4 K d31_24 rfl (g_callS X4 K e4 198 199 81 200 rfl rfl rfl rfl (by decide) (rm32 l Z a0 hw (0 : Int64) x1 h0 n0 Z0 ) d31_25 hml.symm (argsL := [(.long 0), (.long x1)]) (lenOf pd_5 rfl) rfl 4 (Nat.le_of_ble_eq_true rfl) (by decide) fun v5 T5 Lc5 hQ5 X5 => ?_)
  obtain ⟨rfl, N5q, e5⟩ := hQ5
  have N5 := Fr.app N0 N5q
  dsimp only [Option.toList, List.cons_append, List.nil_append]
  refine g_ladd X5 K d31_28 rfl ?_
  have hv6 : ((0 : Int64) + (if x1 < (0 : Int64) then x1 else (0 : Int64))) = (0 : Int64) := by rw [if_neg hD]; rfl
  refine gB (S' := T5.setTop (mkF m 29 #[rv x0, lv x1, .second, iv 0] [(.long 0), (.int 0), (.ref po)])) ?_ (by
    intro t k
    rw [hv6]
    exact k)
  refine g_lastore X5 K e5 pre_A_po d31_29 (by decide) 0 ⟨rfl, Nat.le_of_ble_eq_true rfl⟩ (w := [(.long 0), (.long po1)]) rfl rfl fun T7 h7 X7 e7 W7 V7 => ?_
  have N7 := Fr.snoc X7 N5 (own_ong nb0_24 nb0_23 6 rfl)
  have KK7 := Kp0.wr W7 (Or.inl (List.mem_of_getElem? (i := 0) rfl))
  have xb8 := own_XF_wr pre_own_XF W7 (own_on nb0_24 0 6 rfl rfl)
  refine g_ag X7 K e7 26 rfl xb8.2.2.2.2.2.2.1 d31_30 d31_31 rfl fun T9 X9 e9 => g_iloadN X9 K d31_34 rfl (g_laload X9 K e9 V7 d31_35 (by decide) (v := (.long 0)) rfl (g_ldc2 X9 K 90 rfl d31_36 (z := (1152921504606846975 : Int64)) rfl (g_lcmp X9 K d31_39 (z := (-1 : Int32)) rfl (g_ifY X9 K 48 d31_40 (by decide) ((if0 _ _).trans (flt (by decide)).2.2.2) (g_iinc X9 K d31_48 rfl (L' := #[rv x0, lv x1, .second, iv 1]) rfl (g_goto X9 K 2 d31_51 (by decide) (g_iloadN X9 K d31_2 rfl (g_ag X9 K e9 26 rfl xb8.2.2.2.2.2.2.1 d31_3 d31_4 rfl fun T11 X11 e11 => g_len X11 K e11 V7 d31_7 (g_icN X11 K d31_8 (tlt (by decide)).2.1 (g_ag X11 K e11 26 rfl xb8.2.2.2.2.2.2.1 d31_11 d31_12 rfl fun T13 X13 e13 => ?_))))))))))
  refine g_iloadN X13 K d31_15 rfl (g_dup2 X13 K d31_16 rfl rfl (g_laload X13 K e13 V7 d31_17 (by decide) (v := (.long po1)) rfl (g_ag X13 K e13 28 rfl xb8.2.2.2.2.2.2.2.1 d31_18 d31_19 rfl fun T14 X14 e14 => g_iloadN X14 K d31_22 rfl ?_)))
  have q15 := (pre_A_di.other W7 (own_on nb0_24 7 6 rfl rfl))
  refine g_laload X14 K e14 q15 d31_23 (by decide) (v := (.long x1)) rfl (g_lloadN X14 K d31_24 rfl (g_callS X14 K e14 198 199 81 200 rfl rfl rfl rfl (by decide) (rm32 l Z a0 hw x1 x1 h7 n0 (Nat.le_trans Z0 KK7.1) ) d31_25 hml.symm (argsL := [(.long x1), (.long x1)]) (lenOf pd_5 rfl) rfl 4 (Nat.le_of_ble_eq_true rfl) (by decide) fun v16 T16 Lc16 hQ16 X16 => ?_))
  obtain ⟨rfl, N16q, e16⟩ := hQ16
  have N16 := Fr.app N7 N16q
  dsimp only [Option.toList, List.cons_append, List.nil_append]
  refine g_ladd X16 K d31_28 rfl ?_
  have hv17 : (po1 + (if x1 < x1 then x1 else x1)) = np := by rw [if_neg (Int64.lt_irrefl)]; exact hnp
  refine gB (S' := T16.setTop (mkF m 29 #[rv x0, lv x1, .second, iv 1] [(.long np), (.int 1), (.ref po)])) ?_ (by
    intro t k
    rw [hv17]
    exact k)
  refine g_lastore X16 K e16 V7 d31_29 (by decide) 1 ⟨rfl, Nat.le_of_ble_eq_true rfl⟩ (w := [(.long 0), (.long np)]) rfl rfl fun T18 h18 X18 e18 W18 V18 => ?_
  have N18 := Fr.snoc X18 N16 (own_ong nb0_24 nb0_23 6 rfl)
  have KK18 := KK7.wr W18 (Or.inl (List.mem_of_getElem? (i := 0) rfl))
  have xb19 := own_XF_wr xb8 W18 (own_on nb0_24 0 6 rfl rfl)
  refine g_ag X18 K e18 26 rfl xb19.2.2.2.2.2.2.1 d31_30 d31_31 rfl fun T20 X20 e20 => g_iloadN X20 K d31_34 rfl (g_laload X20 K e20 V18 d31_35 (by decide) (v := (.long np)) rfl (g_ldc2 X20 K 90 rfl d31_36 (z := (1152921504606846975 : Int64)) rfl (g_lcmp X20 K d31_39 rfl ?_)))
  have hc40_21 : ¬ ((1152921504606846975 : Int64) < np) := hmax
  refine g_ifY X20 K 48 d31_40 (by decide) ((if0 _ _).trans (flt (fun q => hc40_21 ((lw_gt np (1152921504606846975 : Int64)).mp q))).2.2.2) (g_iinc X20 K d31_48 rfl (L' := #[rv x0, lv x1, .second, iv 2]) rfl (g_goto X20 K 2 d31_51 (by decide) (g_iloadN X20 K d31_2 rfl (g_ag X20 K e20 26 rfl xb19.2.2.2.2.2.2.1 d31_3 d31_4 rfl fun T22 X22 e22 => g_len X22 K e22 V18 d31_7 (g_icY X22 K 54 d31_8 (by decide) (flt (by decide)).2.1 ?_)))))
  exact g_lv0 X22 K hlk hrt hR d31_54 (by decide) (by rw [e22]; exact ⟨rfl, N18, KK18, V18⟩)
def Qwk2 (Z : State) (x0 : Addr) (nx : Addr) (tg : Addr) (rs : Addr) (co : Addr) (fi : Addr) (po : Addr) (di : Addr) (pa : Addr) (hp : Addr) (hn : Addr) (hq : Addr) (qu : Addr) (qd : Addr) (lw : Addr) (sk : Addr) (cu : Addr) (vi : Addr) (ar : Int32) (ac : Int64) (fc : Int64) (vl : Int32) (so : Int32) (si : Int32) (vt : Int64) (k0 : Int64) (k1 : Int64) (kfi : ClassId) (knx : ClassId) (ktg : ClassId) (kco : ClassId) (krs : ClassId) (ksk : ClassId) (kvi : ClassId) (kcu : ClassId) (kpa : ClassId) (rs0 : Int64) (rs1 : Int64) (rs2 : Int64) (rs3 : Int64) (sk0 : Int32) (sk1 : Int32) (vi0 : Int64) (vi1 : Int64) (cu0 : Int32) (cu1 : Int32) (pa0 : Int32) (pa1 : Int32) (kpo : ClassId) (po1 : Int64) (h0 : Heap) (n0 : Nat) (v : Option Value) (h : Heap) (L : List Loc) : Prop := ∃ (e0 : Int32), ∃ (e1 : Int32), ∃ (e2 : Int32), ∃ (e3 : Int32), v = some (.int 1) ∧ Fr n0 L ∧ Keep h0 h [x0, sk, vi, cu, pa] ∧ own_XF Z h n0 x0 nx tg rs co fi po di pa hp hn hq qu qd lw sk cu vi ar ac fc vl so si (vt + (1 : Int64)) ∧ Arv Z h sk ksk .int (2 : Int32) [(.int e0), (.int e1)] (.int 0) ∧ Arv Z h cu kcu .int (2 : Int32) [(.int e2), (.int e3)] (.int 0) ∧ Arv Z h vi kvi .long (2 : Int32) [(.long (vt + (1 : Int64))), (.long (vt + (1 : Int64)))] (.long 0) ∧ Arv Z h pa kpa .int (2 : Int32) [(.int pa0), (.int 2)] (.int 0)
theorem ef_wk2 (m : MethodId) (x0 : Addr) : entryFrame m #[(.ref x0), (.int 0), (.int 1)] 7 = mkF m 0 #[rv x0, iv 0, iv 1, .unset, .unset, .unset, .unset] [] := by first | (simp [entryFrame, mkF, argsToLocals, Value.category]; done) | rfl
set_option maxRecDepth 65536 in
set_option maxHeartbeats 40000000 in
theorem rmwk2 (l : Launch) (Z : State) (a0 : Array Value) (hw : ∀ d ∈ tables_1, d.before a0 Z = true) (x0 : Addr) {nx : Addr} {tg : Addr} {rs : Addr} {co : Addr} {fi : Addr} {po : Addr} {di : Addr} {pa : Addr} {hp : Addr} (hn : Addr) (hq : Addr) {qu : Addr} {qd : Addr} {lw : Addr} {sk : Addr} {cu : Addr} {vi : Addr} {ar : Int32} {ac : Int64} {fc : Int64} {vl : Int32} {so : Int32} {si : Int32} {vt : Int64} {k0 : Int64} {k1 : Int64} {kfi : ClassId} {knx : ClassId} {ktg : ClassId} {kco : ClassId} {krs : ClassId} {ksk : ClassId} {kvi : ClassId} {kcu : ClassId} {kpa : ClassId} {rs0 : Int64} {rs1 : Int64} {rs2 : Int64} {rs3 : Int64} {sk0 : Int32} {sk1 : Int32} {vi0 : Int64} {vi1 : Int64} {cu0 : Int32} {cu1 : Int32} {pa0 : Int32} {pa1 : Int32} {kpo : ClassId} {po1 : Int64} (h0 : Heap) (n0 : Nat) (Z0 : n0 ≤ h0.size) (pre_own_XF : own_XF Z h0 n0 x0 nx tg rs co fi po di pa hp hn hq qu qd lw sk cu vi ar ac fc vl so si vt) (pre_A_fi : Arv Z h0 fi kfi .int (2 : Int32) [(.int 2), (.int 3)] (.int 0)) (pre_A_nx : Arv Z h0 nx knx .int (16 : Int32) [(.int (-1)), (.int (-1)), (.int 0), (.int 1)] (.int 0)) (pre_A_tg : Arv Z h0 tg ktg .int (16 : Int32) [(.int 1), (.int 0), (.int 1), (.int 0)] (.int 0)) (pre_A_co : Arv Z h0 co kco .long (16 : Int32) [(.long k0), (.long (-k0)), (.long k1), (.long (-k1))] (.long 0)) (pre_A_rs : Arv Z h0 rs krs .long (16 : Int32) [(.long rs0), (.long rs1), (.long rs2), (.long rs3)] (.long 0)) (pre_A_po : Arv Z h0 po kpo .long (2 : Int32) [(.long 0), (.long po1)] (.long 0)) (pre_A_sk : Arv Z h0 sk ksk .int (2 : Int32) [(.int sk0), (.int sk1)] (.int 0)) (pre_A_vi : Arv Z h0 vi kvi .long (2 : Int32) [(.long vi0), (.long vi1)] (.long 0)) (pre_A_cu : Arv Z h0 cu kcu .int (2 : Int32) [(.int cu0), (.int cu1)] (.int 0)) (pre_A_pa : Arv Z h0 pa kpa .int (2 : Int32) [(.int pa0), (.int pa1)] (.int 0)) (hvis : ¬ (vi1 = (vt + (1 : Int64)))) (g2 : (0 : Int64) < rs2) (z2 : ((k1 + (0 : Int64)) - po1) = (0 : Int64)) :
    own_M l (⟨"com/example/violarc/violarc/graph/FlowNetwork", "walk", "(II)Z"⟩ : MethodName) c33 7 (some .boolean) ({ frames := 0, cells := 0, slots := 0, locals := 0 } : Room) #[(.ref x0), (.int 0), (.int 1)] Z h0 (Qwk2 Z x0 nx tg rs co fi po di pa hp hn hq qu qd lw sk cu vi ar ac fc vl so si vt k0 k1 kfi knx ktg kco krs ksk kvi kcu kpa rs0 rs1 rs2 rs3 sk0 sk1 vi0 vi1 cu0 cu1 pa0 pa1 kpo po1 h0 n0) := by
  refine MetFree.of_bodySF (plainFor_of_name pn_33) hisR ?_
  intro p e s m args below meth c s₁ Bd hml0 hP hK
  obtain ⟨rfl, hZ, hh⟩ := hP
  have hx := Bd.exec
  have hby := Bd.bytes
  have hml : c.maxLocals = 7 := hml0
  have hown : s.vm.findClass "com/example/violarc/violarc/graph/FlowNetwork" = some m.cls := findClass_of_methodNamed Bd.named
  have hnm := (name_of_methodNamed Bd.named Bd.method).1
  have X0 : Stand p l e ({ frames := 0, cells := 0, slots := 0, locals := 0 } : Room) s m #[(.ref x0), (.int 0), (.int 1)] below meth c s₁ [] 0 0 := Stand.of_body Bd
  have e0 : s₁.heap = h0 := by rw [← hh, Bd.state]; rfl
  have N0 := Fr.nil n0
  have Kp0 := Keep.refl h0 [x0, sk, vi, cu, pa]
  have hlk := BodyLoose.notSynchronized Bd
  have hrt := Bd.returns
  have K : own_K p c c33 Z s "com/example/violarc/violarc/graph/FlowNetwork" m a0 := ⟨hx, hby, hZ, hown, hw⟩
  refine gStart (S' := s₁.setTop (mkF m 0 #[rv x0, iv 0, iv 1, uu, uu, uu, uu] [])) (congrArg (fun f => s₁.setTop f) (ef_wk2 m x0)) fun Rp hR => ?_
  obtain ⟨nb0_0, nb0_1, nb0_2, nb0_3, nb0_4, nb0_5, nb0_6, nb0_7, nb0_8, nb0_9, nb0_10, nb0_11, nb0_12, nb0_13, nb0_14, nb0_15, nb0_16, nb0_17, nb0_18, nb0_19, nb0_20, nb0_21, nb0_22, nb0_23, nb0_24⟩ := id pre_own_XF
  refine g_aloadN X0 K d33_0 rfl rfl (g_dup X0 K d33_1 rfl (g_getF X0 K e0 205 rfl pre_own_XF.2.2.2.2.2.2.2.2.2.2.2.2.2.2.2.2.2.2.2.2.2.2.1 d33_2 fun T1 X1 e1 => g_lconst X1 K d33_5 (z := 1) rfl (g_ladd X1 K d33_6 rfl (g_putF X1 K e1 205 rfl pre_own_XF.2.2.2.2.2.2.2.2.2.2.2.2.2.2.2.2.2.2.2.2.2.2.1 pre_own_XF.1 (Or.inl (hw _ (im 206 rfl))) (hw _ (im 3 rfl)) (ty := .long) (by decide) rfl rfl d33_7 fun T2 h2 X2 e2 W2 Fw2 => ?_))))
  have N2 := Fr.snoc X2 N0 nb0_23
  have KK2 := Kp0.wr W2 (Or.inl (List.mem_of_getElem? (i := 0) rfl))
  refine g_iconst X2 K d33_10 (z := 0) rfl (g_istoreN X2 K d33_11 (L' := #[rv x0, iv 0, iv 1, iv 0, uu, uu, uu]) rfl ?_)
  have xb3 := own_XF_p_visit hw pre_own_XF W2 Fw2
  refine g_ag X2 K e2 58 rfl xb3.2.2.2.2.2.2.2.2.2.2.2.2.2.1 d33_12 d33_13 rfl fun T4 X4 e4 => g_iconst X4 K d33_16 (z := 0) rfl (g_iloadN X4 K d33_17 rfl ?_)
  have q5 := (pre_A_sk.other W2 (own_on nb0_24 15 0 rfl rfl))
  refine g_iastore X4 K e4 q5 d33_18 (by decide) 0 ⟨rfl, Nat.le_of_ble_eq_true rfl⟩ (w := [(.int 0), (.int sk1)]) rfl rfl fun T6 h6 X6 e6 W6 V6 => ?_
  have N6 := Fr.snoc X6 N2 (own_ong nb0_24 nb0_23 15 rfl)
  have KK6 := KK2.wr W6 (Or.inl (List.mem_of_getElem? (i := 1) rfl))
  have xb7 := own_XF_wr xb3 W6 (own_on nb0_24 0 15 rfl rfl)
  refine g_ag X6 K e6 62 rfl xb7.2.2.2.2.2.2.2.2.2.2.2.2.2.2.2.1 d33_19 d33_20 rfl fun T8 X8 e8 => g_iloadN X8 K d33_23 rfl (g_ag X8 K e8 205 rfl xb7.2.2.2.2.2.2.2.2.2.2.2.2.2.2.2.2.2.2.2.2.2.2.1 d33_24 d33_25 rfl fun T9 X9 e9 => ?_)
  have q10 := ((pre_A_vi.other W2 (own_on nb0_24 17 0 rfl rfl)).other W6 (own_on nb0_24 17 15 rfl rfl))
  refine g_lastore X9 K e9 q10 d33_28 (by decide) 0 ⟨rfl, Nat.le_of_ble_eq_true rfl⟩ (w := [(.long (vt + (1 : Int64))), (.long vi1)]) rfl rfl fun T11 h11 X11 e11 W11 V11 => ?_
  have N11 := Fr.snoc X11 N6 (own_ong nb0_24 nb0_23 17 rfl)
  have KK11 := KK6.wr W11 (Or.inl (List.mem_of_getElem? (i := 2) rfl))
  have xb12 := own_XF_wr xb7 W11 (own_on nb0_24 0 17 rfl rfl)
  refine g_ag X11 K e11 60 rfl xb12.2.2.2.2.2.2.2.2.2.2.2.2.2.2.1 d33_29 d33_30 rfl fun T13 X13 e13 => g_iloadN X13 K d33_33 rfl (g_ag X13 K e13 24 rfl xb12.2.2.2.2.2.1 d33_34 d33_35 rfl fun T14 X14 e14 => g_iloadN X14 K d33_38 rfl ?_)
  have q15 := (((pre_A_fi.other W2 (own_on nb0_24 5 0 rfl rfl)).other W6 (own_on nb0_24 5 15 rfl rfl)).other W11 (own_on nb0_24 5 17 rfl rfl))
  refine g_iaload X14 K e14 q15 d33_39 (by decide) (v := (.int 2)) rfl ?_
  have q16 := (((pre_A_cu.other W2 (own_on nb0_24 16 0 rfl rfl)).other W6 (own_on nb0_24 16 15 rfl rfl)).other W11 (own_on nb0_24 16 17 rfl rfl))
  refine g_iastore X14 K e14 q16 d33_40 (by decide) 0 ⟨rfl, Nat.le_of_ble_eq_true rfl⟩ (w := [(.int 2), (.int cu1)]) rfl rfl fun T17 h17 X17 e17 W17 V17 => ?_
  have N17 := Fr.snoc X17 N11 (own_ong nb0_24 nb0_23 16 rfl)
  have KK17 := KK11.wr W17 (Or.inl (List.mem_of_getElem? (i := 3) rfl))
  refine g_iloadN X17 K d33_41 rfl (g_ifN X17 K d33_42 ((if0 _ _).trans (flt (by decide)).1) ?_)
  have xb19 := own_XF_wr xb12 W17 (own_on nb0_24 0 16 rfl rfl)
  refine g_ag X17 K e17 58 rfl xb19.2.2.2.2.2.2.2.2.2.2.2.2.2.1 d33_45 d33_46 rfl fun T20 X20 e20 => g_iloadN X20 K d33_49 rfl ?_
  have q21 := ((V6.other W11 (own_on nb0_24 15 17 rfl rfl)).other W17 (own_on nb0_24 15 16 rfl rfl))
  refine g_iaload X20 K e20 q21 d33_50 (by decide) (v := (.int 0)) rfl (g_istore X20 K d33_51 (L' := #[rv x0, iv 0, iv 1, iv 0, iv 0, uu, uu]) rfl (g_iload X20 K d33_53 rfl (g_iloadN X20 K d33_55 rfl (g_icY X20 K 61 d33_56 (by decide) (feq (by decide)).2 (g_ag X20 K e20 60 rfl xb19.2.2.2.2.2.2.2.2.2.2.2.2.2.2.1 d33_61 d33_62 rfl fun T23 X23 e23 => g_iload X23 K d33_65 rfl (g_iaload X23 K e23 V17 d33_67 (by decide) (v := (.int 2)) rfl (g_istore X23 K d33_68 (L' := #[rv x0, iv 0, iv 1, iv 0, iv 0, iv 2, uu]) rfl (g_iload X23 K d33_70 rfl (g_ifY X23 K 81 d33_72 (by decide) ((if0 _ _).trans (flt (by decide)).2.1) (g_ag X23 K e23 60 rfl xb19.2.2.2.2.2.2.2.2.2.2.2.2.2.2.1 d33_81 d33_82 rfl fun T25 X25 e25 => g_iload X25 K d33_85 rfl ?_))))))))))
  refine g_ag X25 K e25 12 rfl xb19.2.1 d33_87 d33_88 rfl fun T26 X26 e26 => g_iload X26 K d33_91 rfl ?_
  have q27 := ((((pre_A_nx.other W2 (own_on nb0_24 1 0 rfl rfl)).other W6 (own_on nb0_24 1 15 rfl rfl)).other W11 (own_on nb0_24 1 17 rfl rfl)).other W17 (own_on nb0_24 1 16 rfl rfl))
  refine g_iaload X26 K e26 q27 d33_93 (by decide) (v := (.int 0)) rfl (g_iastore X26 K e26 V17 d33_94 (by decide) 0 ⟨rfl, Nat.le_of_ble_eq_true rfl⟩ (w := [(.int 0), (.int cu1)]) rfl rfl fun T28 h28 X28 e28 W28 V28 => ?_)
  have N28 := Fr.snoc X28 N17 (own_ong nb0_24 nb0_23 16 rfl)
  have KK28 := KK17.wr W28 (Or.inl (List.mem_of_getElem? (i := 3) rfl))
  have xb29 := own_XF_wr xb19 W28 (own_on nb0_24 0 16 rfl rfl)
  refine g_ag X28 K e28 14 rfl xb29.2.2.1 d33_95 d33_96 rfl fun T30 X30 e30 => g_iload X30 K d33_99 rfl ?_
  have q31 := (((((pre_A_tg.other W2 (own_on nb0_24 2 0 rfl rfl)).other W6 (own_on nb0_24 2 15 rfl rfl)).other W11 (own_on nb0_24 2 17 rfl rfl)).other W17 (own_on nb0_24 2 16 rfl rfl)).other W28 (own_on nb0_24 2 16 rfl rfl))
  refine g_iaload X30 K e30 q31 d33_101 (by decide) (v := (.int 1)) rfl (g_istore X30 K d33_102 (L' := #[rv x0, iv 0, iv 1, iv 0, iv 0, iv 2, iv 1]) rfl (g_ag X30 K e30 16 rfl xb29.2.2.2.1 d33_104 d33_105 rfl fun T32 X32 e32 => g_iload X32 K d33_108 rfl ?_))
  have q33 := (((((pre_A_rs.other W2 (own_on nb0_24 3 0 rfl rfl)).other W6 (own_on nb0_24 3 15 rfl rfl)).other W11 (own_on nb0_24 3 17 rfl rfl)).other W17 (own_on nb0_24 3 16 rfl rfl)).other W28 (own_on nb0_24 3 16 rfl rfl))
  refine g_laload X32 K e32 q33 d33_110 (by decide) (v := (.long rs2)) rfl (g_lconst X32 K d33_111 (z := 0) rfl (g_lcmp X32 K d33_112 rfl ?_))
  have hc113_34 : (0 : Int64) < rs2 := g2
  refine g_ifN X32 K d33_113 ((if0 _ _).trans (tlt ((lw_gt rs2 (0 : Int64)).mpr hc113_34)).2.2.2) (g_ag X32 K e32 62 rfl xb29.2.2.2.2.2.2.2.2.2.2.2.2.2.2.2.1 d33_116 d33_117 rfl fun T35 X35 e35 => g_iload X35 K d33_120 rfl ?_)
  have q36 := ((V11.other W17 (own_on nb0_24 17 16 rfl rfl)).other W28 (own_on nb0_24 17 16 rfl rfl))
  refine g_laload X35 K e35 q36 d33_122 (by decide) (v := (.long vi1)) rfl (g_ag X35 K e35 205 rfl xb29.2.2.2.2.2.2.2.2.2.2.2.2.2.2.2.2.2.2.2.2.2.2.1 d33_123 d33_124 rfl fun T37 X37 e37 => g_lcmp X37 K d33_127 rfl ?_)
  have hc128_38 : ¬ (vi1 = (vt + (1 : Int64))) := hvis
  refine g_ifN X37 K d33_128 ((if0 _ _).trans (feq (fun q => hc128_38 ((lw_eq vi1 (vt + (1 : Int64))).mp q))).1) (g_ag X37 K e37 18 rfl xb29.2.2.2.2.1 d33_131 d33_132 rfl fun T39 X39 e39 => g_iload X39 K d33_135 rfl ?_)
  have q40 := (((((pre_A_co.other W2 (own_on nb0_24 4 0 rfl rfl)).other W6 (own_on nb0_24 4 15 rfl rfl)).other W11 (own_on nb0_24 4 17 rfl rfl)).other W17 (own_on nb0_24 4 16 rfl rfl)).other W28 (own_on nb0_24 4 16 rfl rfl))
  refine g_laload X39 K e39 q40 d33_137 (by decide) (v := (.long k1)) rfl (g_ag X39 K e39 26 rfl xb29.2.2.2.2.2.2.1 d33_138 d33_139 rfl fun T41 X41 e41 => g_iload X41 K d33_142 rfl ?_)
  have q42 := (((((pre_A_po.other W2 (own_on nb0_24 6 0 rfl rfl)).other W6 (own_on nb0_24 6 15 rfl rfl)).other W11 (own_on nb0_24 6 17 rfl rfl)).other W17 (own_on nb0_24 6 16 rfl rfl)).other W28 (own_on nb0_24 6 16 rfl rfl))
  refine g_laload X41 K e41 q42 d33_144 (by decide) (v := (.long 0)) rfl (g_ladd X41 K d33_145 rfl (g_ag X41 K e41 26 rfl xb29.2.2.2.2.2.2.1 d33_146 d33_147 rfl fun T43 X43 e43 => g_iload X43 K d33_150 rfl (g_laload X43 K e43 q42 d33_152 (by decide) (v := (.long po1)) rfl (g_lsub X43 K d33_153 rfl (g_lconst X43 K d33_154 (z := 0) rfl (g_lcmp X43 K d33_155 rfl ?_))))))
  have hc156_44 : ((k1 + (0 : Int64)) - po1) = (0 : Int64) := z2
  refine g_ifN X43 K d33_156 ((if0 _ _).trans (teq ((lw_eq ((k1 + (0 : Int64)) - po1) (0 : Int64)).mpr hc156_44)).2) (g_ag X43 K e43 62 rfl xb29.2.2.2.2.2.2.2.2.2.2.2.2.2.2.2.1 d33_159 d33_160 rfl fun T45 X45 e45 => g_iload X45 K d33_163 rfl (g_ag X45 K e45 205 rfl xb29.2.2.2.2.2.2.2.2.2.2.2.2.2.2.2.2.2.2.2.2.2.2.1 d33_165 d33_166 rfl fun T46 X46 e46 => g_lastore X46 K e46 q36 d33_169 (by decide) 1 ⟨rfl, Nat.le_of_ble_eq_true rfl⟩ (w := [(.long (vt + (1 : Int64))), (.long (vt + (1 : Int64)))]) rfl rfl fun T47 h47 X47 e47 W47 V47 => ?_))
  have N47 := Fr.snoc X47 N28 (own_ong nb0_24 nb0_23 17 rfl)
  have KK47 := KK28.wr W47 (Or.inl (List.mem_of_getElem? (i := 2) rfl))
  have xb48 := own_XF_wr xb29 W47 (own_on nb0_24 0 17 rfl rfl)
  refine g_ag X47 K e47 30 rfl xb48.2.2.2.2.2.2.2.2.1 d33_170 d33_171 rfl fun T49 X49 e49 => g_iload X49 K d33_174 rfl (g_iload X49 K d33_176 rfl ?_)
  have q50 := ((((((pre_A_pa.other W2 (own_on nb0_24 8 0 rfl rfl)).other W6 (own_on nb0_24 8 15 rfl rfl)).other W11 (own_on nb0_24 8 17 rfl rfl)).other W17 (own_on nb0_24 8 16 rfl rfl)).other W28 (own_on nb0_24 8 16 rfl rfl)).other W47 (own_on nb0_24 8 17 rfl rfl))
  refine g_iastore X49 K e49 q50 d33_178 (by decide) 1 ⟨rfl, Nat.le_of_ble_eq_true rfl⟩ (w := [(.int pa0), (.int 2)]) rfl rfl fun T51 h51 X51 e51 W51 V51 => ?_
  have N51 := Fr.snoc X51 N47 (own_ong nb0_24 nb0_23 8 rfl)
  have KK51 := KK47.wr W51 (Or.inl (List.mem_of_getElem? (i := 4) rfl))
  have xb52 := own_XF_wr xb48 W51 (own_on nb0_24 0 8 rfl rfl)
  refine g_ag X51 K e51 60 rfl xb52.2.2.2.2.2.2.2.2.2.2.2.2.2.2.1 d33_179 d33_180 rfl fun T53 X53 e53 => g_iload X53 K d33_183 rfl (g_ag X53 K e53 24 rfl xb52.2.2.2.2.2.1 d33_185 d33_186 rfl fun T54 X54 e54 => g_iload X54 K d33_189 rfl ?_)
  have q55 := ((((q15.other W17 (own_on nb0_24 5 16 rfl rfl)).other W28 (own_on nb0_24 5 16 rfl rfl)).other W47 (own_on nb0_24 5 17 rfl rfl)).other W51 (own_on nb0_24 5 8 rfl rfl))
  refine g_iaload X54 K e54 q55 d33_191 (by decide) (v := (.int 3)) rfl ?_
  have q56 := ((V28.other W47 (own_on nb0_24 16 17 rfl rfl)).other W51 (own_on nb0_24 16 8 rfl rfl))
  refine g_iastore X54 K e54 q56 d33_192 (by decide) 1 ⟨rfl, Nat.le_of_ble_eq_true rfl⟩ (w := [(.int 0), (.int 3)]) rfl rfl fun T57 h57 X57 e57 W57 V57 => ?_
  have N57 := Fr.snoc X57 N51 (own_ong nb0_24 nb0_23 16 rfl)
  have KK57 := KK51.wr W57 (Or.inl (List.mem_of_getElem? (i := 3) rfl))
  have xb58 := own_XF_wr xb52 W57 (own_on nb0_24 0 16 rfl rfl)
  refine g_ag X57 K e57 58 rfl xb58.2.2.2.2.2.2.2.2.2.2.2.2.2.1 d33_193 d33_194 rfl fun T59 X59 e59 => g_iinc X59 K d33_197 rfl (L' := #[rv x0, iv 0, iv 1, iv 1, iv 0, iv 2, iv 1]) rfl (g_iloadN X59 K d33_200 rfl (g_iload X59 K d33_201 rfl ?_))
  have q60 := ((((q21.other W28 (own_on nb0_24 15 16 rfl rfl)).other W47 (own_on nb0_24 15 17 rfl rfl)).other W51 (own_on nb0_24 15 8 rfl rfl)).other W57 (own_on nb0_24 15 16 rfl rfl))
  refine g_iastore X59 K e59 q60 d33_203 (by decide) 1 ⟨rfl, Nat.le_of_ble_eq_true rfl⟩ (w := [(.int 0), (.int 1)]) rfl rfl fun T61 h61 X61 e61 W61 V61 => ?_
  have N61 := Fr.snoc X61 N57 (own_ong nb0_24 nb0_23 15 rfl)
  have KK61 := KK57.wr W61 (Or.inl (List.mem_of_getElem? (i := 1) rfl))
  refine g_goto X61 K 41 d33_204 (by decide) (g_iloadN X61 K d33_41 rfl (g_ifN X61 K d33_42 ((if0 _ _).trans (flt (by decide)).1) ?_))
  have xb63 := own_XF_wr xb58 W61 (own_on nb0_24 0 15 rfl rfl)
  refine g_ag X61 K e61 58 rfl xb63.2.2.2.2.2.2.2.2.2.2.2.2.2.1 d33_45 d33_46 rfl fun T64 X64 e64 => g_iloadN X64 K d33_49 rfl (g_iaload X64 K e64 V61 d33_50 (by decide) (v := (.int 1)) rfl (g_istore X64 K d33_51 (L' := #[rv x0, iv 0, iv 1, iv 1, iv 1, iv 2, iv 1]) rfl (g_iload X64 K d33_53 rfl (g_iloadN X64 K d33_55 rfl (g_icN X64 K d33_56 (teq (by decide)).2 (g_iconst X64 K d33_59 (z := 1) rfl ?_))))))
  have q66 := (V57.other W61 (own_on nb0_24 16 15 rfl rfl))
  have q67 := (((V47.other W51 (own_on nb0_24 17 8 rfl rfl)).other W57 (own_on nb0_24 17 16 rfl rfl)).other W61 (own_on nb0_24 17 15 rfl rfl))
  have q68 := ((V51.other W57 (own_on nb0_24 8 16 rfl rfl)).other W61 (own_on nb0_24 8 15 rfl rfl))
  exact g_lvZ X64 K hlk hrt hR d33_60 (by decide) rfl (by rw [e64]; exact ⟨(0 : Int32), (1 : Int32), (0 : Int32), (3 : Int32), rfl, N61, KK61, xb63, V61, q66, q67, q68⟩)
def Qwk0 (Z : State) (x0 : Addr) (nx : Addr) (tg : Addr) (rs : Addr) (co : Addr) (fi : Addr) (po : Addr) (di : Addr) (pa : Addr) (hp : Addr) (hn : Addr) (hq : Addr) (qu : Addr) (qd : Addr) (lw : Addr) (sk : Addr) (cu : Addr) (vi : Addr) (ar : Int32) (ac : Int64) (fc : Int64) (vl : Int32) (so : Int32) (si : Int32) (vt : Int64) (k0 : Int64) (k1 : Int64) (kfi : ClassId) (knx : ClassId) (ktg : ClassId) (kco : ClassId) (krs : ClassId) (ksk : ClassId) (kvi : ClassId) (kcu : ClassId) (kpa : ClassId) (rs0 : Int64) (rs1 : Int64) (rs2 : Int64) (rs3 : Int64) (sk0 : Int32) (sk1 : Int32) (vi0 : Int64) (vi1 : Int64) (cu0 : Int32) (cu1 : Int32) (pa0 : Int32) (pa1 : Int32) (kpo : ClassId) (po1 : Int64) (h0 : Heap) (n0 : Nat) (v : Option Value) (h : Heap) (L : List Loc) : Prop := ∃ (e0 : Int32), ∃ (e1 : Int32), ∃ (e2 : Int32), ∃ (e3 : Int32), v = some (.int 1) ∧ Fr n0 L ∧ Keep h0 h [x0, sk, vi, cu, pa] ∧ own_XF Z h n0 x0 nx tg rs co fi po di pa hp hn hq qu qd lw sk cu vi ar ac fc vl so si (vt + (1 : Int64)) ∧ Arv Z h sk ksk .int (2 : Int32) [(.int e0), (.int e1)] (.int 0) ∧ Arv Z h cu kcu .int (2 : Int32) [(.int e2), (.int e3)] (.int 0) ∧ Arv Z h vi kvi .long (2 : Int32) [(.long (vt + (1 : Int64))), (.long (vt + (1 : Int64)))] (.long 0) ∧ Arv Z h pa kpa .int (2 : Int32) [(.int pa0), (.int 0)] (.int 0)
theorem ef_wk0 (m : MethodId) (x0 : Addr) : entryFrame m #[(.ref x0), (.int 0), (.int 1)] 7 = mkF m 0 #[rv x0, iv 0, iv 1, .unset, .unset, .unset, .unset] [] := by first | (simp [entryFrame, mkF, argsToLocals, Value.category]; done) | rfl
set_option maxRecDepth 65536 in
set_option maxHeartbeats 40000000 in
theorem rmwk0 (l : Launch) (Z : State) (a0 : Array Value) (hw : ∀ d ∈ tables_1, d.before a0 Z = true) (x0 : Addr) {nx : Addr} {tg : Addr} {rs : Addr} {co : Addr} {fi : Addr} {po : Addr} {di : Addr} {pa : Addr} {hp : Addr} (hn : Addr) (hq : Addr) {qu : Addr} {qd : Addr} {lw : Addr} {sk : Addr} {cu : Addr} {vi : Addr} {ar : Int32} {ac : Int64} {fc : Int64} {vl : Int32} {so : Int32} {si : Int32} {vt : Int64} {k0 : Int64} {k1 : Int64} {kfi : ClassId} {knx : ClassId} {ktg : ClassId} {kco : ClassId} {krs : ClassId} {ksk : ClassId} {kvi : ClassId} {kcu : ClassId} {kpa : ClassId} {rs0 : Int64} {rs1 : Int64} {rs2 : Int64} {rs3 : Int64} {sk0 : Int32} {sk1 : Int32} {vi0 : Int64} {vi1 : Int64} {cu0 : Int32} {cu1 : Int32} {pa0 : Int32} {pa1 : Int32} {kpo : ClassId} {po1 : Int64} (h0 : Heap) (n0 : Nat) (Z0 : n0 ≤ h0.size) (pre_own_XF : own_XF Z h0 n0 x0 nx tg rs co fi po di pa hp hn hq qu qd lw sk cu vi ar ac fc vl so si vt) (pre_A_fi : Arv Z h0 fi kfi .int (2 : Int32) [(.int 2), (.int 3)] (.int 0)) (pre_A_nx : Arv Z h0 nx knx .int (16 : Int32) [(.int (-1)), (.int (-1)), (.int 0), (.int 1)] (.int 0)) (pre_A_tg : Arv Z h0 tg ktg .int (16 : Int32) [(.int 1), (.int 0), (.int 1), (.int 0)] (.int 0)) (pre_A_co : Arv Z h0 co kco .long (16 : Int32) [(.long k0), (.long (-k0)), (.long k1), (.long (-k1))] (.long 0)) (pre_A_rs : Arv Z h0 rs krs .long (16 : Int32) [(.long rs0), (.long rs1), (.long rs2), (.long rs3)] (.long 0)) (pre_A_po : Arv Z h0 po kpo .long (2 : Int32) [(.long 0), (.long po1)] (.long 0)) (pre_A_sk : Arv Z h0 sk ksk .int (2 : Int32) [(.int sk0), (.int sk1)] (.int 0)) (pre_A_vi : Arv Z h0 vi kvi .long (2 : Int32) [(.long vi0), (.long vi1)] (.long 0)) (pre_A_cu : Arv Z h0 cu kcu .int (2 : Int32) [(.int cu0), (.int cu1)] (.int 0)) (pre_A_pa : Arv Z h0 pa kpa .int (2 : Int32) [(.int pa0), (.int pa1)] (.int 0)) (hvis : ¬ (vi1 = (vt + (1 : Int64)))) (no2 : (0 : Int64) < rs2 → ¬ (((k1 + (0 : Int64)) - po1) = (0 : Int64))) (g0 : (0 : Int64) < rs0) (z0 : ((k0 + (0 : Int64)) - po1) = (0 : Int64)) :
    own_M l (⟨"com/example/violarc/violarc/graph/FlowNetwork", "walk", "(II)Z"⟩ : MethodName) c33 7 (some .boolean) ({ frames := 0, cells := 0, slots := 0, locals := 0 } : Room) #[(.ref x0), (.int 0), (.int 1)] Z h0 (Qwk0 Z x0 nx tg rs co fi po di pa hp hn hq qu qd lw sk cu vi ar ac fc vl so si vt k0 k1 kfi knx ktg kco krs ksk kvi kcu kpa rs0 rs1 rs2 rs3 sk0 sk1 vi0 vi1 cu0 cu1 pa0 pa1 kpo po1 h0 n0) := by
  refine MetFree.of_bodySF (plainFor_of_name pn_33) hisR ?_
  intro p e s m args below meth c s₁ Bd hml0 hP hK
  obtain ⟨rfl, hZ, hh⟩ := hP
  have hx := Bd.exec
  have hby := Bd.bytes
  have hml : c.maxLocals = 7 := hml0
  have hown : s.vm.findClass "com/example/violarc/violarc/graph/FlowNetwork" = some m.cls := findClass_of_methodNamed Bd.named
  have hnm := (name_of_methodNamed Bd.named Bd.method).1
  have X0 : Stand p l e ({ frames := 0, cells := 0, slots := 0, locals := 0 } : Room) s m #[(.ref x0), (.int 0), (.int 1)] below meth c s₁ [] 0 0 := Stand.of_body Bd
  have e0 : s₁.heap = h0 := by rw [← hh, Bd.state]; rfl
  have N0 := Fr.nil n0
  have Kp0 := Keep.refl h0 [x0, sk, vi, cu, pa]
  have hlk := BodyLoose.notSynchronized Bd
  have hrt := Bd.returns
  have K : own_K p c c33 Z s "com/example/violarc/violarc/graph/FlowNetwork" m a0 := ⟨hx, hby, hZ, hown, hw⟩
  refine gStart (S' := s₁.setTop (mkF m 0 #[rv x0, iv 0, iv 1, uu, uu, uu, uu] [])) (congrArg (fun f => s₁.setTop f) (ef_wk0 m x0)) fun Rp hR => ?_
  obtain ⟨nb0_0, nb0_1, nb0_2, nb0_3, nb0_4, nb0_5, nb0_6, nb0_7, nb0_8, nb0_9, nb0_10, nb0_11, nb0_12, nb0_13, nb0_14, nb0_15, nb0_16, nb0_17, nb0_18, nb0_19, nb0_20, nb0_21, nb0_22, nb0_23, nb0_24⟩ := id pre_own_XF
  refine g_aloadN X0 K d33_0 rfl rfl (g_dup X0 K d33_1 rfl (g_getF X0 K e0 205 rfl pre_own_XF.2.2.2.2.2.2.2.2.2.2.2.2.2.2.2.2.2.2.2.2.2.2.1 d33_2 fun T1 X1 e1 => g_lconst X1 K d33_5 (z := 1) rfl (g_ladd X1 K d33_6 rfl (g_putF X1 K e1 205 rfl pre_own_XF.2.2.2.2.2.2.2.2.2.2.2.2.2.2.2.2.2.2.2.2.2.2.1 pre_own_XF.1 (Or.inl (hw _ (im 206 rfl))) (hw _ (im 3 rfl)) (ty := .long) (by decide) rfl rfl d33_7 fun T2 h2 X2 e2 W2 Fw2 => ?_))))
  have N2 := Fr.snoc X2 N0 nb0_23
  have KK2 := Kp0.wr W2 (Or.inl (List.mem_of_getElem? (i := 0) rfl))
  refine g_iconst X2 K d33_10 (z := 0) rfl (g_istoreN X2 K d33_11 (L' := #[rv x0, iv 0, iv 1, iv 0, uu, uu, uu]) rfl ?_)
  have xb3 := own_XF_p_visit hw pre_own_XF W2 Fw2
  refine g_ag X2 K e2 58 rfl xb3.2.2.2.2.2.2.2.2.2.2.2.2.2.1 d33_12 d33_13 rfl fun T4 X4 e4 => g_iconst X4 K d33_16 (z := 0) rfl (g_iloadN X4 K d33_17 rfl ?_)
  have q5 := (pre_A_sk.other W2 (own_on nb0_24 15 0 rfl rfl))
  refine g_iastore X4 K e4 q5 d33_18 (by decide) 0 ⟨rfl, Nat.le_of_ble_eq_true rfl⟩ (w := [(.int 0), (.int sk1)]) rfl rfl fun T6 h6 X6 e6 W6 V6 => ?_
  have N6 := Fr.snoc X6 N2 (own_ong nb0_24 nb0_23 15 rfl)
  have KK6 := KK2.wr W6 (Or.inl (List.mem_of_getElem? (i := 1) rfl))
  have xb7 := own_XF_wr xb3 W6 (own_on nb0_24 0 15 rfl rfl)
  refine g_ag X6 K e6 62 rfl xb7.2.2.2.2.2.2.2.2.2.2.2.2.2.2.2.1 d33_19 d33_20 rfl fun T8 X8 e8 => g_iloadN X8 K d33_23 rfl (g_ag X8 K e8 205 rfl xb7.2.2.2.2.2.2.2.2.2.2.2.2.2.2.2.2.2.2.2.2.2.2.1 d33_24 d33_25 rfl fun T9 X9 e9 => ?_)
  have q10 := ((pre_A_vi.other W2 (own_on nb0_24 17 0 rfl rfl)).other W6 (own_on nb0_24 17 15 rfl rfl))
  refine g_lastore X9 K e9 q10 d33_28 (by decide) 0 ⟨rfl, Nat.le_of_ble_eq_true rfl⟩ (w := [(.long (vt + (1 : Int64))), (.long vi1)]) rfl rfl fun T11 h11 X11 e11 W11 V11 => ?_
  have N11 := Fr.snoc X11 N6 (own_ong nb0_24 nb0_23 17 rfl)
  have KK11 := KK6.wr W11 (Or.inl (List.mem_of_getElem? (i := 2) rfl))
  have xb12 := own_XF_wr xb7 W11 (own_on nb0_24 0 17 rfl rfl)
  refine g_ag X11 K e11 60 rfl xb12.2.2.2.2.2.2.2.2.2.2.2.2.2.2.1 d33_29 d33_30 rfl fun T13 X13 e13 => g_iloadN X13 K d33_33 rfl (g_ag X13 K e13 24 rfl xb12.2.2.2.2.2.1 d33_34 d33_35 rfl fun T14 X14 e14 => g_iloadN X14 K d33_38 rfl ?_)
  have q15 := (((pre_A_fi.other W2 (own_on nb0_24 5 0 rfl rfl)).other W6 (own_on nb0_24 5 15 rfl rfl)).other W11 (own_on nb0_24 5 17 rfl rfl))
  refine g_iaload X14 K e14 q15 d33_39 (by decide) (v := (.int 2)) rfl ?_
  have q16 := (((pre_A_cu.other W2 (own_on nb0_24 16 0 rfl rfl)).other W6 (own_on nb0_24 16 15 rfl rfl)).other W11 (own_on nb0_24 16 17 rfl rfl))
  refine g_iastore X14 K e14 q16 d33_40 (by decide) 0 ⟨rfl, Nat.le_of_ble_eq_true rfl⟩ (w := [(.int 2), (.int cu1)]) rfl rfl fun T17 h17 X17 e17 W17 V17 => ?_
  have N17 := Fr.snoc X17 N11 (own_ong nb0_24 nb0_23 16 rfl)
  have KK17 := KK11.wr W17 (Or.inl (List.mem_of_getElem? (i := 3) rfl))
  refine g_iloadN X17 K d33_41 rfl (g_ifN X17 K d33_42 ((if0 _ _).trans (flt (by decide)).1) ?_)
  have xb19 := own_XF_wr xb12 W17 (own_on nb0_24 0 16 rfl rfl)
  refine g_ag X17 K e17 58 rfl xb19.2.2.2.2.2.2.2.2.2.2.2.2.2.1 d33_45 d33_46 rfl fun T20 X20 e20 => g_iloadN X20 K d33_49 rfl ?_
  have q21 := ((V6.other W11 (own_on nb0_24 15 17 rfl rfl)).other W17 (own_on nb0_24 15 16 rfl rfl))
  refine g_iaload X20 K e20 q21 d33_50 (by decide) (v := (.int 0)) rfl (g_istore X20 K d33_51 (L' := #[rv x0, iv 0, iv 1, iv 0, iv 0, uu, uu]) rfl (g_iload X20 K d33_53 rfl (g_iloadN X20 K d33_55 rfl (g_icY X20 K 61 d33_56 (by decide) (feq (by decide)).2 (g_ag X20 K e20 60 rfl xb19.2.2.2.2.2.2.2.2.2.2.2.2.2.2.1 d33_61 d33_62 rfl fun T23 X23 e23 => g_iload X23 K d33_65 rfl (g_iaload X23 K e23 V17 d33_67 (by decide) (v := (.int 2)) rfl (g_istore X23 K d33_68 (L' := #[rv x0, iv 0, iv 1, iv 0, iv 0, iv 2, uu]) rfl (g_iload X23 K d33_70 rfl (g_ifY X23 K 81 d33_72 (by decide) ((if0 _ _).trans (flt (by decide)).2.1) (g_ag X23 K e23 60 rfl xb19.2.2.2.2.2.2.2.2.2.2.2.2.2.2.1 d33_81 d33_82 rfl fun T25 X25 e25 => g_iload X25 K d33_85 rfl ?_))))))))))
  refine g_ag X25 K e25 12 rfl xb19.2.1 d33_87 d33_88 rfl fun T26 X26 e26 => g_iload X26 K d33_91 rfl ?_
  have q27 := ((((pre_A_nx.other W2 (own_on nb0_24 1 0 rfl rfl)).other W6 (own_on nb0_24 1 15 rfl rfl)).other W11 (own_on nb0_24 1 17 rfl rfl)).other W17 (own_on nb0_24 1 16 rfl rfl))
  refine g_iaload X26 K e26 q27 d33_93 (by decide) (v := (.int 0)) rfl (g_iastore X26 K e26 V17 d33_94 (by decide) 0 ⟨rfl, Nat.le_of_ble_eq_true rfl⟩ (w := [(.int 0), (.int cu1)]) rfl rfl fun T28 h28 X28 e28 W28 V28 => ?_)
  have N28 := Fr.snoc X28 N17 (own_ong nb0_24 nb0_23 16 rfl)
  have KK28 := KK17.wr W28 (Or.inl (List.mem_of_getElem? (i := 3) rfl))
  have xb29 := own_XF_wr xb19 W28 (own_on nb0_24 0 16 rfl rfl)
  refine g_ag X28 K e28 14 rfl xb29.2.2.1 d33_95 d33_96 rfl fun T30 X30 e30 => g_iload X30 K d33_99 rfl ?_
  have q31 := (((((pre_A_tg.other W2 (own_on nb0_24 2 0 rfl rfl)).other W6 (own_on nb0_24 2 15 rfl rfl)).other W11 (own_on nb0_24 2 17 rfl rfl)).other W17 (own_on nb0_24 2 16 rfl rfl)).other W28 (own_on nb0_24 2 16 rfl rfl))
  refine g_iaload X30 K e30 q31 d33_101 (by decide) (v := (.int 1)) rfl (g_istore X30 K d33_102 (L' := #[rv x0, iv 0, iv 1, iv 0, iv 0, iv 2, iv 1]) rfl (g_ag X30 K e30 16 rfl xb29.2.2.2.1 d33_104 d33_105 rfl fun T32 X32 e32 => g_iload X32 K d33_108 rfl ?_))
  have q33 := (((((pre_A_rs.other W2 (own_on nb0_24 3 0 rfl rfl)).other W6 (own_on nb0_24 3 15 rfl rfl)).other W11 (own_on nb0_24 3 17 rfl rfl)).other W17 (own_on nb0_24 3 16 rfl rfl)).other W28 (own_on nb0_24 3 16 rfl rfl))
  refine g_laload X32 K e32 q33 d33_110 (by decide) (v := (.long rs2)) rfl (g_lconst X32 K d33_111 (z := 0) rfl (g_lcmp X32 K d33_112 rfl ?_))
  have J34 : ∀ (T34 : State) (L34 : List Loc), Stand p l e ({ frames := 0, cells := 0, slots := 0, locals := 0 } : Room) s m #[(.ref x0), (.int 0), (.int 1)] below meth c T34 L34 0 0 → Fr n0 L34 → T34.heap = h28 → Gl p e below Rp (T34.setTop (mkF m 204 #[rv x0, iv 0, iv 1, iv 0, iv 0, iv 2, iv 1] [])) := by
   intro T34 L34 X34 N34 e34
   refine g_goto X34 K 41 d33_204 (by decide) (g_iloadN X34 K d33_41 rfl (g_ifN X34 K d33_42 ((if0 _ _).trans (flt (by decide)).1) (g_ag X34 K e34 58 rfl xb29.2.2.2.2.2.2.2.2.2.2.2.2.2.1 d33_45 d33_46 rfl fun T36 X36 e36 => g_iloadN X36 K d33_49 rfl ?_)))
   have q37 := (q21.other W28 (own_on nb0_24 15 16 rfl rfl))
   refine g_iaload X36 K e36 q37 d33_50 (by decide) (v := (.int 0)) rfl (g_istore X36 K d33_51 (L' := #[rv x0, iv 0, iv 1, iv 0, iv 0, iv 2, iv 1]) rfl (g_iload X36 K d33_53 rfl (g_iloadN X36 K d33_55 rfl (g_icY X36 K 61 d33_56 (by decide) (feq (by decide)).2 (g_ag X36 K e36 60 rfl xb29.2.2.2.2.2.2.2.2.2.2.2.2.2.2.1 d33_61 d33_62 rfl fun T39 X39 e39 => g_iload X39 K d33_65 rfl (g_iaload X39 K e39 V28 d33_67 (by decide) (v := (.int 0)) rfl (g_istore X39 K d33_68 (L' := #[rv x0, iv 0, iv 1, iv 0, iv 0, iv 0, iv 1]) rfl (g_iload X39 K d33_70 rfl (g_ifY X39 K 81 d33_72 (by decide) ((if0 _ _).trans (flt (by decide)).2.1) (g_ag X39 K e39 60 rfl xb29.2.2.2.2.2.2.2.2.2.2.2.2.2.2.1 d33_81 d33_82 rfl fun T41 X41 e41 => g_iload X41 K d33_85 rfl ?_))))))))))
   refine g_ag X41 K e41 12 rfl xb29.2.1 d33_87 d33_88 rfl fun T42 X42 e42 => g_iload X42 K d33_91 rfl ?_
   have q43 := (q27.other W28 (own_on nb0_24 1 16 rfl rfl))
   refine g_iaload X42 K e42 q43 d33_93 (by decide) (v := (.int (-1))) rfl (g_iastore X42 K e42 V28 d33_94 (by decide) 0 ⟨rfl, Nat.le_of_ble_eq_true rfl⟩ (w := [(.int (-1)), (.int cu1)]) rfl rfl fun T44 h44 X44 e44 W44 V44 => ?_)
   have N44 := Fr.snoc X44 N34 (own_ong nb0_24 nb0_23 16 rfl)
   have KK44 := KK28.wr W44 (Or.inl (List.mem_of_getElem? (i := 3) rfl))
   have xb45 := own_XF_wr xb29 W44 (own_on nb0_24 0 16 rfl rfl)
   refine g_ag X44 K e44 14 rfl xb45.2.2.1 d33_95 d33_96 rfl fun T46 X46 e46 => g_iload X46 K d33_99 rfl ?_
   have q47 := (q31.other W44 (own_on nb0_24 2 16 rfl rfl))
   refine g_iaload X46 K e46 q47 d33_101 (by decide) (v := (.int 1)) rfl (g_istore X46 K d33_102 (L' := #[rv x0, iv 0, iv 1, iv 0, iv 0, iv 0, iv 1]) rfl (g_ag X46 K e46 16 rfl xb45.2.2.2.1 d33_104 d33_105 rfl fun T48 X48 e48 => g_iload X48 K d33_108 rfl ?_))
   have q49 := (q33.other W44 (own_on nb0_24 3 16 rfl rfl))
   refine g_laload X48 K e48 q49 d33_110 (by decide) (v := (.long rs0)) rfl (g_lconst X48 K d33_111 (z := 0) rfl (g_lcmp X48 K d33_112 rfl ?_))
   have hc113_50 : (0 : Int64) < rs0 := g0
   refine g_ifN X48 K d33_113 ((if0 _ _).trans (tlt ((lw_gt rs0 (0 : Int64)).mpr hc113_50)).2.2.2) (g_ag X48 K e48 62 rfl xb45.2.2.2.2.2.2.2.2.2.2.2.2.2.2.2.1 d33_116 d33_117 rfl fun T51 X51 e51 => g_iload X51 K d33_120 rfl ?_)
   have q52 := (((V11.other W17 (own_on nb0_24 17 16 rfl rfl)).other W28 (own_on nb0_24 17 16 rfl rfl)).other W44 (own_on nb0_24 17 16 rfl rfl))
   refine g_laload X51 K e51 q52 d33_122 (by decide) (v := (.long vi1)) rfl (g_ag X51 K e51 205 rfl xb45.2.2.2.2.2.2.2.2.2.2.2.2.2.2.2.2.2.2.2.2.2.2.1 d33_123 d33_124 rfl fun T53 X53 e53 => g_lcmp X53 K d33_127 rfl ?_)
   have hc128_54 : ¬ (vi1 = (vt + (1 : Int64))) := hvis
   refine g_ifN X53 K d33_128 ((if0 _ _).trans (feq (fun q => hc128_54 ((lw_eq vi1 (vt + (1 : Int64))).mp q))).1) (g_ag X53 K e53 18 rfl xb45.2.2.2.2.1 d33_131 d33_132 rfl fun T55 X55 e55 => g_iload X55 K d33_135 rfl ?_)
   have q56 := ((((((pre_A_co.other W2 (own_on nb0_24 4 0 rfl rfl)).other W6 (own_on nb0_24 4 15 rfl rfl)).other W11 (own_on nb0_24 4 17 rfl rfl)).other W17 (own_on nb0_24 4 16 rfl rfl)).other W28 (own_on nb0_24 4 16 rfl rfl)).other W44 (own_on nb0_24 4 16 rfl rfl))
   refine g_laload X55 K e55 q56 d33_137 (by decide) (v := (.long k0)) rfl (g_ag X55 K e55 26 rfl xb45.2.2.2.2.2.2.1 d33_138 d33_139 rfl fun T57 X57 e57 => g_iload X57 K d33_142 rfl ?_)
   have q58 := ((((((pre_A_po.other W2 (own_on nb0_24 6 0 rfl rfl)).other W6 (own_on nb0_24 6 15 rfl rfl)).other W11 (own_on nb0_24 6 17 rfl rfl)).other W17 (own_on nb0_24 6 16 rfl rfl)).other W28 (own_on nb0_24 6 16 rfl rfl)).other W44 (own_on nb0_24 6 16 rfl rfl))
   refine g_laload X57 K e57 q58 d33_144 (by decide) (v := (.long 0)) rfl (g_ladd X57 K d33_145 rfl (g_ag X57 K e57 26 rfl xb45.2.2.2.2.2.2.1 d33_146 d33_147 rfl fun T59 X59 e59 => g_iload X59 K d33_150 rfl (g_laload X59 K e59 q58 d33_152 (by decide) (v := (.long po1)) rfl (g_lsub X59 K d33_153 rfl (g_lconst X59 K d33_154 (z := 0) rfl (g_lcmp X59 K d33_155 rfl ?_))))))
   have hc156_60 : ((k0 + (0 : Int64)) - po1) = (0 : Int64) := z0
   refine g_ifN X59 K d33_156 ((if0 _ _).trans (teq ((lw_eq ((k0 + (0 : Int64)) - po1) (0 : Int64)).mpr hc156_60)).2) (g_ag X59 K e59 62 rfl xb45.2.2.2.2.2.2.2.2.2.2.2.2.2.2.2.1 d33_159 d33_160 rfl fun T61 X61 e61 => g_iload X61 K d33_163 rfl (g_ag X61 K e61 205 rfl xb45.2.2.2.2.2.2.2.2.2.2.2.2.2.2.2.2.2.2.2.2.2.2.1 d33_165 d33_166 rfl fun T62 X62 e62 => g_lastore X62 K e62 q52 d33_169 (by decide) 1 ⟨rfl, Nat.le_of_ble_eq_true rfl⟩ (w := [(.long (vt + (1 : Int64))), (.long (vt + (1 : Int64)))]) rfl rfl fun T63 h63 X63 e63 W63 V63 => ?_))
   have N63 := Fr.snoc X63 N44 (own_ong nb0_24 nb0_23 17 rfl)
   have KK63 := KK44.wr W63 (Or.inl (List.mem_of_getElem? (i := 2) rfl))
   have xb64 := own_XF_wr xb45 W63 (own_on nb0_24 0 17 rfl rfl)
   refine g_ag X63 K e63 30 rfl xb64.2.2.2.2.2.2.2.2.1 d33_170 d33_171 rfl fun T65 X65 e65 => g_iload X65 K d33_174 rfl (g_iload X65 K d33_176 rfl ?_)
   have q66 := (((((((pre_A_pa.other W2 (own_on nb0_24 8 0 rfl rfl)).other W6 (own_on nb0_24 8 15 rfl rfl)).other W11 (own_on nb0_24 8 17 rfl rfl)).other W17 (own_on nb0_24 8 16 rfl rfl)).other W28 (own_on nb0_24 8 16 rfl rfl)).other W44 (own_on nb0_24 8 16 rfl rfl)).other W63 (own_on nb0_24 8 17 rfl rfl))
   refine g_iastore X65 K e65 q66 d33_178 (by decide) 1 ⟨rfl, Nat.le_of_ble_eq_true rfl⟩ (w := [(.int pa0), (.int 0)]) rfl rfl fun T67 h67 X67 e67 W67 V67 => ?_
   have N67 := Fr.snoc X67 N63 (own_ong nb0_24 nb0_23 8 rfl)
   have KK67 := KK63.wr W67 (Or.inl (List.mem_of_getElem? (i := 4) rfl))
   have xb68 := own_XF_wr xb64 W67 (own_on nb0_24 0 8 rfl rfl)
   refine g_ag X67 K e67 60 rfl xb68.2.2.2.2.2.2.2.2.2.2.2.2.2.2.1 d33_179 d33_180 rfl fun T69 X69 e69 => g_iload X69 K d33_183 rfl (g_ag X69 K e69 24 rfl xb68.2.2.2.2.2.1 d33_185 d33_186 rfl fun T70 X70 e70 => g_iload X70 K d33_189 rfl ?_)
   have q71 := (((((q15.other W17 (own_on nb0_24 5 16 rfl rfl)).other W28 (own_on nb0_24 5 16 rfl rfl)).other W44 (own_on nb0_24 5 16 rfl rfl)).other W63 (own_on nb0_24 5 17 rfl rfl)).other W67 (own_on nb0_24 5 8 rfl rfl))
   refine g_iaload X70 K e70 q71 d33_191 (by decide) (v := (.int 3)) rfl ?_
   have q72 := ((V44.other W63 (own_on nb0_24 16 17 rfl rfl)).other W67 (own_on nb0_24 16 8 rfl rfl))
   refine g_iastore X70 K e70 q72 d33_192 (by decide) 1 ⟨rfl, Nat.le_of_ble_eq_true rfl⟩ (w := [(.int (-1)), (.int 3)]) rfl rfl fun T73 h73 X73 e73 W73 V73 => ?_
   have N73 := Fr.snoc X73 N67 (own_ong nb0_24 nb0_23 16 rfl)
   have KK73 := KK67.wr W73 (Or.inl (List.mem_of_getElem? (i := 3) rfl))
   have xb74 := own_XF_wr xb68 W73 (own_on nb0_24 0 16 rfl rfl)
   refine g_ag X73 K e73 58 rfl xb74.2.2.2.2.2.2.2.2.2.2.2.2.2.1 d33_193 d33_194 rfl fun T75 X75 e75 => g_iinc X75 K d33_197 rfl (L' := #[rv x0, iv 0, iv 1, iv 1, iv 0, iv 0, iv 1]) rfl (g_iloadN X75 K d33_200 rfl (g_iload X75 K d33_201 rfl ?_))
   have q76 := ((((q37.other W44 (own_on nb0_24 15 16 rfl rfl)).other W63 (own_on nb0_24 15 17 rfl rfl)).other W67 (own_on nb0_24 15 8 rfl rfl)).other W73 (own_on nb0_24 15 16 rfl rfl))
   refine g_iastore X75 K e75 q76 d33_203 (by decide) 1 ⟨rfl, Nat.le_of_ble_eq_true rfl⟩ (w := [(.int 0), (.int 1)]) rfl rfl fun T77 h77 X77 e77 W77 V77 => ?_
   have N77 := Fr.snoc X77 N73 (own_ong nb0_24 nb0_23 15 rfl)
   have KK77 := KK73.wr W77 (Or.inl (List.mem_of_getElem? (i := 1) rfl))
   refine g_goto X77 K 41 d33_204 (by decide) (g_iloadN X77 K d33_41 rfl (g_ifN X77 K d33_42 ((if0 _ _).trans (flt (by decide)).1) ?_))
   have xb79 := own_XF_wr xb74 W77 (own_on nb0_24 0 15 rfl rfl)
   refine g_ag X77 K e77 58 rfl xb79.2.2.2.2.2.2.2.2.2.2.2.2.2.1 d33_45 d33_46 rfl fun T80 X80 e80 => g_iloadN X80 K d33_49 rfl (g_iaload X80 K e80 V77 d33_50 (by decide) (v := (.int 1)) rfl (g_istore X80 K d33_51 (L' := #[rv x0, iv 0, iv 1, iv 1, iv 1, iv 0, iv 1]) rfl (g_iload X80 K d33_53 rfl (g_iloadN X80 K d33_55 rfl (g_icN X80 K d33_56 (teq (by decide)).2 (g_iconst X80 K d33_59 (z := 1) rfl ?_))))))
   have q82 := (V73.other W77 (own_on nb0_24 16 15 rfl rfl))
   have q83 := (((V63.other W67 (own_on nb0_24 17 8 rfl rfl)).other W73 (own_on nb0_24 17 16 rfl rfl)).other W77 (own_on nb0_24 17 15 rfl rfl))
   have q84 := ((V67.other W73 (own_on nb0_24 8 16 rfl rfl)).other W77 (own_on nb0_24 8 15 rfl rfl))
   exact g_lvZ X80 K hlk hrt hR d33_60 (by decide) rfl (by rw [e80]; exact ⟨(0 : Int32), (1 : Int32), (-1 : Int32), (3 : Int32), rfl, N77, KK77, xb79, V77, q82, q83, q84⟩)
  by_cases hc113_85 : (0 : Int64) < rs2
  refine g_ifN X32 K d33_113 ((if0 _ _).trans (tlt ((lw_gt rs2 (0 : Int64)).mpr hc113_85)).2.2.2) ?_
  ·
   refine g_ag X32 K e32 62 rfl xb29.2.2.2.2.2.2.2.2.2.2.2.2.2.2.2.1 d33_116 d33_117 rfl fun T86 X86 e86 => g_iload X86 K d33_120 rfl ?_
   have q87 := ((V11.other W17 (own_on nb0_24 17 16 rfl rfl)).other W28 (own_on nb0_24 17 16 rfl rfl))
   refine g_laload X86 K e86 q87 d33_122 (by decide) (v := (.long vi1)) rfl (g_ag X86 K e86 205 rfl xb29.2.2.2.2.2.2.2.2.2.2.2.2.2.2.2.2.2.2.2.2.2.2.1 d33_123 d33_124 rfl fun T88 X88 e88 => g_lcmp X88 K d33_127 rfl ?_)
   have hc128_89 : ¬ (vi1 = (vt + (1 : Int64))) := hvis
   refine g_ifN X88 K d33_128 ((if0 _ _).trans (feq (fun q => hc128_89 ((lw_eq vi1 (vt + (1 : Int64))).mp q))).1) (g_ag X88 K e88 18 rfl xb29.2.2.2.2.1 d33_131 d33_132 rfl fun T90 X90 e90 => g_iload X90 K d33_135 rfl ?_)
   have q91 := (((((pre_A_co.other W2 (own_on nb0_24 4 0 rfl rfl)).other W6 (own_on nb0_24 4 15 rfl rfl)).other W11 (own_on nb0_24 4 17 rfl rfl)).other W17 (own_on nb0_24 4 16 rfl rfl)).other W28 (own_on nb0_24 4 16 rfl rfl))
   refine g_laload X90 K e90 q91 d33_137 (by decide) (v := (.long k1)) rfl (g_ag X90 K e90 26 rfl xb29.2.2.2.2.2.2.1 d33_138 d33_139 rfl fun T92 X92 e92 => g_iload X92 K d33_142 rfl ?_)
   have q93 := (((((pre_A_po.other W2 (own_on nb0_24 6 0 rfl rfl)).other W6 (own_on nb0_24 6 15 rfl rfl)).other W11 (own_on nb0_24 6 17 rfl rfl)).other W17 (own_on nb0_24 6 16 rfl rfl)).other W28 (own_on nb0_24 6 16 rfl rfl))
   refine g_laload X92 K e92 q93 d33_144 (by decide) (v := (.long 0)) rfl (g_ladd X92 K d33_145 rfl (g_ag X92 K e92 26 rfl xb29.2.2.2.2.2.2.1 d33_146 d33_147 rfl fun T94 X94 e94 => g_iload X94 K d33_150 rfl (g_laload X94 K e94 q93 d33_152 (by decide) (v := (.long po1)) rfl (g_lsub X94 K d33_153 rfl (g_lconst X94 K d33_154 (z := 0) rfl (g_lcmp X94 K d33_155 rfl ?_))))))
   have hc156_95 : ¬ (((k1 + (0 : Int64)) - po1) = (0 : Int64)) := no2 hc113_85
   refine g_ifY X94 K 204 d33_156 (by decide) ((if0 _ _).trans (feq (fun q => hc156_95 ((lw_eq ((k1 + (0 : Int64)) - po1) (0 : Int64)).mp q))).2) ?_
   exact J34 _ _ X94 N28 e94
  refine g_ifY X32 K 204 d33_113 (by decide) ((if0 _ _).trans (flt (fun q => hc113_85 ((lw_gt rs2 (0 : Int64)).mp q))).2.2.2) ?_
  ·
   exact J34 _ _ X32 N28 e32
def QwkF (Z : State) (x0 : Addr) (nx : Addr) (tg : Addr) (rs : Addr) (co : Addr) (fi : Addr) (po : Addr) (di : Addr) (pa : Addr) (hp : Addr) (hn : Addr) (hq : Addr) (qu : Addr) (qd : Addr) (lw : Addr) (sk : Addr) (cu : Addr) (vi : Addr) (ar : Int32) (ac : Int64) (fc : Int64) (vl : Int32) (so : Int32) (si : Int32) (vt : Int64) (k0 : Int64) (k1 : Int64) (kfi : ClassId) (knx : ClassId) (ktg : ClassId) (kco : ClassId) (krs : ClassId) (ksk : ClassId) (kvi : ClassId) (kcu : ClassId) (kpa : ClassId) (rs0 : Int64) (rs1 : Int64) (rs2 : Int64) (rs3 : Int64) (sk0 : Int32) (sk1 : Int32) (vi0 : Int64) (vi1 : Int64) (cu0 : Int32) (cu1 : Int32) (pa0 : Int32) (pa1 : Int32) (kpo : ClassId) (po1 : Int64) (h0 : Heap) (n0 : Nat) (v : Option Value) (h : Heap) (L : List Loc) : Prop := ∃ (e0 : Int32), ∃ (e1 : Int32), ∃ (e2 : Int32), ∃ (e3 : Int32), v = some (.int 0) ∧ Fr n0 L ∧ Keep h0 h [x0, sk, vi, cu, pa] ∧ own_XF Z h n0 x0 nx tg rs co fi po di pa hp hn hq qu qd lw sk cu vi ar ac fc vl so si (vt + (1 : Int64)) ∧ Arv Z h sk ksk .int (2 : Int32) [(.int e0), (.int e1)] (.int 0) ∧ Arv Z h cu kcu .int (2 : Int32) [(.int e2), (.int e3)] (.int 0) ∧ Arv Z h vi kvi .long (2 : Int32) [(.long (vt + (1 : Int64))), (.long vi1)] (.long 0) ∧ Arv Z h pa kpa .int (2 : Int32) [(.int pa0), (.int pa1)] (.int 0)
theorem ef_wkF (m : MethodId) (x0 : Addr) : entryFrame m #[(.ref x0), (.int 0), (.int 1)] 7 = mkF m 0 #[rv x0, iv 0, iv 1, .unset, .unset, .unset, .unset] [] := by first | (simp [entryFrame, mkF, argsToLocals, Value.category]; done) | rfl
set_option maxRecDepth 65536 in
set_option maxHeartbeats 40000000 in
theorem rmwkF (l : Launch) (Z : State) (a0 : Array Value) (hw : ∀ d ∈ tables_1, d.before a0 Z = true) (x0 : Addr) {nx : Addr} {tg : Addr} {rs : Addr} {co : Addr} {fi : Addr} {po : Addr} {di : Addr} {pa : Addr} {hp : Addr} (hn : Addr) (hq : Addr) {qu : Addr} {qd : Addr} {lw : Addr} {sk : Addr} {cu : Addr} {vi : Addr} {ar : Int32} {ac : Int64} {fc : Int64} {vl : Int32} {so : Int32} {si : Int32} {vt : Int64} {k0 : Int64} {k1 : Int64} {kfi : ClassId} {knx : ClassId} {ktg : ClassId} {kco : ClassId} {krs : ClassId} {ksk : ClassId} {kvi : ClassId} {kcu : ClassId} {kpa : ClassId} {rs0 : Int64} {rs1 : Int64} {rs2 : Int64} {rs3 : Int64} {sk0 : Int32} {sk1 : Int32} {vi0 : Int64} {vi1 : Int64} {cu0 : Int32} {cu1 : Int32} {pa0 : Int32} {pa1 : Int32} {kpo : ClassId} {po1 : Int64} (h0 : Heap) (n0 : Nat) (Z0 : n0 ≤ h0.size) (pre_own_XF : own_XF Z h0 n0 x0 nx tg rs co fi po di pa hp hn hq qu qd lw sk cu vi ar ac fc vl so si vt) (pre_A_fi : Arv Z h0 fi kfi .int (2 : Int32) [(.int 2), (.int 3)] (.int 0)) (pre_A_nx : Arv Z h0 nx knx .int (16 : Int32) [(.int (-1)), (.int (-1)), (.int 0), (.int 1)] (.int 0)) (pre_A_tg : Arv Z h0 tg ktg .int (16 : Int32) [(.int 1), (.int 0), (.int 1), (.int 0)] (.int 0)) (pre_A_co : Arv Z h0 co kco .long (16 : Int32) [(.long k0), (.long (-k0)), (.long k1), (.long (-k1))] (.long 0)) (pre_A_rs : Arv Z h0 rs krs .long (16 : Int32) [(.long rs0), (.long rs1), (.long rs2), (.long rs3)] (.long 0)) (pre_A_po : Arv Z h0 po kpo .long (2 : Int32) [(.long 0), (.long po1)] (.long 0)) (pre_A_sk : Arv Z h0 sk ksk .int (2 : Int32) [(.int sk0), (.int sk1)] (.int 0)) (pre_A_vi : Arv Z h0 vi kvi .long (2 : Int32) [(.long vi0), (.long vi1)] (.long 0)) (pre_A_cu : Arv Z h0 cu kcu .int (2 : Int32) [(.int cu0), (.int cu1)] (.int 0)) (pre_A_pa : Arv Z h0 pa kpa .int (2 : Int32) [(.int pa0), (.int pa1)] (.int 0)) (hvis : ¬ (vi1 = (vt + (1 : Int64)))) (no2 : (0 : Int64) < rs2 → ¬ (((k1 + (0 : Int64)) - po1) = (0 : Int64))) (no0 : (0 : Int64) < rs0 → ¬ (((k0 + (0 : Int64)) - po1) = (0 : Int64))) :
    own_M l (⟨"com/example/violarc/violarc/graph/FlowNetwork", "walk", "(II)Z"⟩ : MethodName) c33 7 (some .boolean) ({ frames := 0, cells := 0, slots := 0, locals := 0 } : Room) #[(.ref x0), (.int 0), (.int 1)] Z h0 (QwkF Z x0 nx tg rs co fi po di pa hp hn hq qu qd lw sk cu vi ar ac fc vl so si vt k0 k1 kfi knx ktg kco krs ksk kvi kcu kpa rs0 rs1 rs2 rs3 sk0 sk1 vi0 vi1 cu0 cu1 pa0 pa1 kpo po1 h0 n0) := by
  refine MetFree.of_bodySF (plainFor_of_name pn_33) hisR ?_
  intro p e s m args below meth c s₁ Bd hml0 hP hK
  obtain ⟨rfl, hZ, hh⟩ := hP
  have hx := Bd.exec
  have hby := Bd.bytes
  have hml : c.maxLocals = 7 := hml0
  have hown : s.vm.findClass "com/example/violarc/violarc/graph/FlowNetwork" = some m.cls := findClass_of_methodNamed Bd.named
  have hnm := (name_of_methodNamed Bd.named Bd.method).1
  have X0 : Stand p l e ({ frames := 0, cells := 0, slots := 0, locals := 0 } : Room) s m #[(.ref x0), (.int 0), (.int 1)] below meth c s₁ [] 0 0 := Stand.of_body Bd
  have e0 : s₁.heap = h0 := by rw [← hh, Bd.state]; rfl
  have N0 := Fr.nil n0
  have Kp0 := Keep.refl h0 [x0, sk, vi, cu, pa]
  have hlk := BodyLoose.notSynchronized Bd
  have hrt := Bd.returns
  have K : own_K p c c33 Z s "com/example/violarc/violarc/graph/FlowNetwork" m a0 := ⟨hx, hby, hZ, hown, hw⟩
  refine gStart (S' := s₁.setTop (mkF m 0 #[rv x0, iv 0, iv 1, uu, uu, uu, uu] [])) (congrArg (fun f => s₁.setTop f) (ef_wkF m x0)) fun Rp hR => ?_
  obtain ⟨nb0_0, nb0_1, nb0_2, nb0_3, nb0_4, nb0_5, nb0_6, nb0_7, nb0_8, nb0_9, nb0_10, nb0_11, nb0_12, nb0_13, nb0_14, nb0_15, nb0_16, nb0_17, nb0_18, nb0_19, nb0_20, nb0_21, nb0_22, nb0_23, nb0_24⟩ := id pre_own_XF
  refine g_aloadN X0 K d33_0 rfl rfl (g_dup X0 K d33_1 rfl (g_getF X0 K e0 205 rfl pre_own_XF.2.2.2.2.2.2.2.2.2.2.2.2.2.2.2.2.2.2.2.2.2.2.1 d33_2 fun T1 X1 e1 => g_lconst X1 K d33_5 (z := 1) rfl (g_ladd X1 K d33_6 rfl (g_putF X1 K e1 205 rfl pre_own_XF.2.2.2.2.2.2.2.2.2.2.2.2.2.2.2.2.2.2.2.2.2.2.1 pre_own_XF.1 (Or.inl (hw _ (im 206 rfl))) (hw _ (im 3 rfl)) (ty := .long) (by decide) rfl rfl d33_7 fun T2 h2 X2 e2 W2 Fw2 => ?_))))
  have N2 := Fr.snoc X2 N0 nb0_23
  have KK2 := Kp0.wr W2 (Or.inl (List.mem_of_getElem? (i := 0) rfl))
  refine g_iconst X2 K d33_10 (z := 0) rfl (g_istoreN X2 K d33_11 (L' := #[rv x0, iv 0, iv 1, iv 0, uu, uu, uu]) rfl ?_)
  have xb3 := own_XF_p_visit hw pre_own_XF W2 Fw2
  refine g_ag X2 K e2 58 rfl xb3.2.2.2.2.2.2.2.2.2.2.2.2.2.1 d33_12 d33_13 rfl fun T4 X4 e4 => g_iconst X4 K d33_16 (z := 0) rfl (g_iloadN X4 K d33_17 rfl ?_)
  have q5 := (pre_A_sk.other W2 (own_on nb0_24 15 0 rfl rfl))
  refine g_iastore X4 K e4 q5 d33_18 (by decide) 0 ⟨rfl, Nat.le_of_ble_eq_true rfl⟩ (w := [(.int 0), (.int sk1)]) rfl rfl fun T6 h6 X6 e6 W6 V6 => ?_
  have N6 := Fr.snoc X6 N2 (own_ong nb0_24 nb0_23 15 rfl)
  have KK6 := KK2.wr W6 (Or.inl (List.mem_of_getElem? (i := 1) rfl))
  have xb7 := own_XF_wr xb3 W6 (own_on nb0_24 0 15 rfl rfl)
  refine g_ag X6 K e6 62 rfl xb7.2.2.2.2.2.2.2.2.2.2.2.2.2.2.2.1 d33_19 d33_20 rfl fun T8 X8 e8 => g_iloadN X8 K d33_23 rfl (g_ag X8 K e8 205 rfl xb7.2.2.2.2.2.2.2.2.2.2.2.2.2.2.2.2.2.2.2.2.2.2.1 d33_24 d33_25 rfl fun T9 X9 e9 => ?_)
  have q10 := ((pre_A_vi.other W2 (own_on nb0_24 17 0 rfl rfl)).other W6 (own_on nb0_24 17 15 rfl rfl))
  refine g_lastore X9 K e9 q10 d33_28 (by decide) 0 ⟨rfl, Nat.le_of_ble_eq_true rfl⟩ (w := [(.long (vt + (1 : Int64))), (.long vi1)]) rfl rfl fun T11 h11 X11 e11 W11 V11 => ?_
  have N11 := Fr.snoc X11 N6 (own_ong nb0_24 nb0_23 17 rfl)
  have KK11 := KK6.wr W11 (Or.inl (List.mem_of_getElem? (i := 2) rfl))
  have xb12 := own_XF_wr xb7 W11 (own_on nb0_24 0 17 rfl rfl)
  refine g_ag X11 K e11 60 rfl xb12.2.2.2.2.2.2.2.2.2.2.2.2.2.2.1 d33_29 d33_30 rfl fun T13 X13 e13 => g_iloadN X13 K d33_33 rfl (g_ag X13 K e13 24 rfl xb12.2.2.2.2.2.1 d33_34 d33_35 rfl fun T14 X14 e14 => g_iloadN X14 K d33_38 rfl ?_)
  have q15 := (((pre_A_fi.other W2 (own_on nb0_24 5 0 rfl rfl)).other W6 (own_on nb0_24 5 15 rfl rfl)).other W11 (own_on nb0_24 5 17 rfl rfl))
  refine g_iaload X14 K e14 q15 d33_39 (by decide) (v := (.int 2)) rfl ?_
  have q16 := (((pre_A_cu.other W2 (own_on nb0_24 16 0 rfl rfl)).other W6 (own_on nb0_24 16 15 rfl rfl)).other W11 (own_on nb0_24 16 17 rfl rfl))
  refine g_iastore X14 K e14 q16 d33_40 (by decide) 0 ⟨rfl, Nat.le_of_ble_eq_true rfl⟩ (w := [(.int 2), (.int cu1)]) rfl rfl fun T17 h17 X17 e17 W17 V17 => ?_
  have N17 := Fr.snoc X17 N11 (own_ong nb0_24 nb0_23 16 rfl)
  have KK17 := KK11.wr W17 (Or.inl (List.mem_of_getElem? (i := 3) rfl))
  refine g_iloadN X17 K d33_41 rfl (g_ifN X17 K d33_42 ((if0 _ _).trans (flt (by decide)).1) ?_)
  have xb19 := own_XF_wr xb12 W17 (own_on nb0_24 0 16 rfl rfl)
  refine g_ag X17 K e17 58 rfl xb19.2.2.2.2.2.2.2.2.2.2.2.2.2.1 d33_45 d33_46 rfl fun T20 X20 e20 => g_iloadN X20 K d33_49 rfl ?_
  have q21 := ((V6.other W11 (own_on nb0_24 15 17 rfl rfl)).other W17 (own_on nb0_24 15 16 rfl rfl))
  refine g_iaload X20 K e20 q21 d33_50 (by decide) (v := (.int 0)) rfl (g_istore X20 K d33_51 (L' := #[rv x0, iv 0, iv 1, iv 0, iv 0, uu, uu]) rfl (g_iload X20 K d33_53 rfl (g_iloadN X20 K d33_55 rfl (g_icY X20 K 61 d33_56 (by decide) (feq (by decide)).2 (g_ag X20 K e20 60 rfl xb19.2.2.2.2.2.2.2.2.2.2.2.2.2.2.1 d33_61 d33_62 rfl fun T23 X23 e23 => g_iload X23 K d33_65 rfl (g_iaload X23 K e23 V17 d33_67 (by decide) (v := (.int 2)) rfl (g_istore X23 K d33_68 (L' := #[rv x0, iv 0, iv 1, iv 0, iv 0, iv 2, uu]) rfl (g_iload X23 K d33_70 rfl (g_ifY X23 K 81 d33_72 (by decide) ((if0 _ _).trans (flt (by decide)).2.1) (g_ag X23 K e23 60 rfl xb19.2.2.2.2.2.2.2.2.2.2.2.2.2.2.1 d33_81 d33_82 rfl fun T25 X25 e25 => g_iload X25 K d33_85 rfl ?_))))))))))
  refine g_ag X25 K e25 12 rfl xb19.2.1 d33_87 d33_88 rfl fun T26 X26 e26 => g_iload X26 K d33_91 rfl ?_
  have q27 := ((((pre_A_nx.other W2 (own_on nb0_24 1 0 rfl rfl)).other W6 (own_on nb0_24 1 15 rfl rfl)).other W11 (own_on nb0_24 1 17 rfl rfl)).other W17 (own_on nb0_24 1 16 rfl rfl))
  refine g_iaload X26 K e26 q27 d33_93 (by decide) (v := (.int 0)) rfl (g_iastore X26 K e26 V17 d33_94 (by decide) 0 ⟨rfl, Nat.le_of_ble_eq_true rfl⟩ (w := [(.int 0), (.int cu1)]) rfl rfl fun T28 h28 X28 e28 W28 V28 => ?_)
  have N28 := Fr.snoc X28 N17 (own_ong nb0_24 nb0_23 16 rfl)
  have KK28 := KK17.wr W28 (Or.inl (List.mem_of_getElem? (i := 3) rfl))
  have xb29 := own_XF_wr xb19 W28 (own_on nb0_24 0 16 rfl rfl)
  refine g_ag X28 K e28 14 rfl xb29.2.2.1 d33_95 d33_96 rfl fun T30 X30 e30 => g_iload X30 K d33_99 rfl ?_
  have q31 := (((((pre_A_tg.other W2 (own_on nb0_24 2 0 rfl rfl)).other W6 (own_on nb0_24 2 15 rfl rfl)).other W11 (own_on nb0_24 2 17 rfl rfl)).other W17 (own_on nb0_24 2 16 rfl rfl)).other W28 (own_on nb0_24 2 16 rfl rfl))
  refine g_iaload X30 K e30 q31 d33_101 (by decide) (v := (.int 1)) rfl (g_istore X30 K d33_102 (L' := #[rv x0, iv 0, iv 1, iv 0, iv 0, iv 2, iv 1]) rfl (g_ag X30 K e30 16 rfl xb29.2.2.2.1 d33_104 d33_105 rfl fun T32 X32 e32 => g_iload X32 K d33_108 rfl ?_))
  have q33 := (((((pre_A_rs.other W2 (own_on nb0_24 3 0 rfl rfl)).other W6 (own_on nb0_24 3 15 rfl rfl)).other W11 (own_on nb0_24 3 17 rfl rfl)).other W17 (own_on nb0_24 3 16 rfl rfl)).other W28 (own_on nb0_24 3 16 rfl rfl))
  refine g_laload X32 K e32 q33 d33_110 (by decide) (v := (.long rs2)) rfl (g_lconst X32 K d33_111 (z := 0) rfl (g_lcmp X32 K d33_112 rfl ?_))
  have J34 : ∀ (T34 : State) (L34 : List Loc), Stand p l e ({ frames := 0, cells := 0, slots := 0, locals := 0 } : Room) s m #[(.ref x0), (.int 0), (.int 1)] below meth c T34 L34 0 0 → Fr n0 L34 → T34.heap = h28 → Gl p e below Rp (T34.setTop (mkF m 204 #[rv x0, iv 0, iv 1, iv 0, iv 0, iv 2, iv 1] [])) := by
   intro T34 L34 X34 N34 e34
   refine g_goto X34 K 41 d33_204 (by decide) (g_iloadN X34 K d33_41 rfl (g_ifN X34 K d33_42 ((if0 _ _).trans (flt (by decide)).1) (g_ag X34 K e34 58 rfl xb29.2.2.2.2.2.2.2.2.2.2.2.2.2.1 d33_45 d33_46 rfl fun T36 X36 e36 => g_iloadN X36 K d33_49 rfl ?_)))
   have q37 := (q21.other W28 (own_on nb0_24 15 16 rfl rfl))
   refine g_iaload X36 K e36 q37 d33_50 (by decide) (v := (.int 0)) rfl (g_istore X36 K d33_51 (L' := #[rv x0, iv 0, iv 1, iv 0, iv 0, iv 2, iv 1]) rfl (g_iload X36 K d33_53 rfl (g_iloadN X36 K d33_55 rfl (g_icY X36 K 61 d33_56 (by decide) (feq (by decide)).2 (g_ag X36 K e36 60 rfl xb29.2.2.2.2.2.2.2.2.2.2.2.2.2.2.1 d33_61 d33_62 rfl fun T39 X39 e39 => g_iload X39 K d33_65 rfl (g_iaload X39 K e39 V28 d33_67 (by decide) (v := (.int 0)) rfl (g_istore X39 K d33_68 (L' := #[rv x0, iv 0, iv 1, iv 0, iv 0, iv 0, iv 1]) rfl (g_iload X39 K d33_70 rfl (g_ifY X39 K 81 d33_72 (by decide) ((if0 _ _).trans (flt (by decide)).2.1) (g_ag X39 K e39 60 rfl xb29.2.2.2.2.2.2.2.2.2.2.2.2.2.2.1 d33_81 d33_82 rfl fun T41 X41 e41 => g_iload X41 K d33_85 rfl ?_))))))))))
   refine g_ag X41 K e41 12 rfl xb29.2.1 d33_87 d33_88 rfl fun T42 X42 e42 => g_iload X42 K d33_91 rfl ?_
   have q43 := (q27.other W28 (own_on nb0_24 1 16 rfl rfl))
   refine g_iaload X42 K e42 q43 d33_93 (by decide) (v := (.int (-1))) rfl (g_iastore X42 K e42 V28 d33_94 (by decide) 0 ⟨rfl, Nat.le_of_ble_eq_true rfl⟩ (w := [(.int (-1)), (.int cu1)]) rfl rfl fun T44 h44 X44 e44 W44 V44 => ?_)
   have N44 := Fr.snoc X44 N34 (own_ong nb0_24 nb0_23 16 rfl)
   have KK44 := KK28.wr W44 (Or.inl (List.mem_of_getElem? (i := 3) rfl))
   have xb45 := own_XF_wr xb29 W44 (own_on nb0_24 0 16 rfl rfl)
   refine g_ag X44 K e44 14 rfl xb45.2.2.1 d33_95 d33_96 rfl fun T46 X46 e46 => g_iload X46 K d33_99 rfl ?_
   have q47 := (q31.other W44 (own_on nb0_24 2 16 rfl rfl))
   refine g_iaload X46 K e46 q47 d33_101 (by decide) (v := (.int 1)) rfl (g_istore X46 K d33_102 (L' := #[rv x0, iv 0, iv 1, iv 0, iv 0, iv 0, iv 1]) rfl (g_ag X46 K e46 16 rfl xb45.2.2.2.1 d33_104 d33_105 rfl fun T48 X48 e48 => g_iload X48 K d33_108 rfl ?_))
   have q49 := (q33.other W44 (own_on nb0_24 3 16 rfl rfl))
   refine g_laload X48 K e48 q49 d33_110 (by decide) (v := (.long rs0)) rfl (g_lconst X48 K d33_111 (z := 0) rfl (g_lcmp X48 K d33_112 rfl ?_))
   have J50 : ∀ (T50 : State) (L50 : List Loc), Stand p l e ({ frames := 0, cells := 0, slots := 0, locals := 0 } : Room) s m #[(.ref x0), (.int 0), (.int 1)] below meth c T50 L50 0 0 → Fr n0 L50 → T50.heap = h44 → Gl p e below Rp (T50.setTop (mkF m 204 #[rv x0, iv 0, iv 1, iv 0, iv 0, iv 0, iv 1] [])) := by
    intro T50 L50 X50 N50 e50
    refine g_goto X50 K 41 d33_204 (by decide) (g_iloadN X50 K d33_41 rfl (g_ifN X50 K d33_42 ((if0 _ _).trans (flt (by decide)).1) (g_ag X50 K e50 58 rfl xb45.2.2.2.2.2.2.2.2.2.2.2.2.2.1 d33_45 d33_46 rfl fun T52 X52 e52 => g_iloadN X52 K d33_49 rfl ?_)))
    have q53 := (q37.other W44 (own_on nb0_24 15 16 rfl rfl))
    refine g_iaload X52 K e52 q53 d33_50 (by decide) (v := (.int 0)) rfl (g_istore X52 K d33_51 (L' := #[rv x0, iv 0, iv 1, iv 0, iv 0, iv 0, iv 1]) rfl (g_iload X52 K d33_53 rfl (g_iloadN X52 K d33_55 rfl (g_icY X52 K 61 d33_56 (by decide) (feq (by decide)).2 (g_ag X52 K e52 60 rfl xb45.2.2.2.2.2.2.2.2.2.2.2.2.2.2.1 d33_61 d33_62 rfl fun T55 X55 e55 => g_iload X55 K d33_65 rfl (g_iaload X55 K e55 V44 d33_67 (by decide) (v := (.int (-1))) rfl (g_istore X55 K d33_68 (L' := #[rv x0, iv 0, iv 1, iv 0, iv 0, iv (-1), iv 1]) rfl (g_iload X55 K d33_70 rfl (g_ifN X55 K d33_72 ((if0 _ _).trans (tlt (by decide)).2.1) (g_iinc X55 K d33_75 rfl (L' := #[rv x0, iv 0, iv 1, iv (-1), iv 0, iv (-1), iv 1]) rfl (g_goto X55 K 41 d33_78 (by decide) ?_)))))))))))
    refine g_iloadN X55 K d33_41 rfl (g_ifY X55 K 207 d33_42 (by decide) ((if0 _ _).trans (tlt (by decide)).1) (g_iconst X55 K d33_207 (z := 0) rfl ?_))
    have q58 := (((V11.other W17 (own_on nb0_24 17 16 rfl rfl)).other W28 (own_on nb0_24 17 16 rfl rfl)).other W44 (own_on nb0_24 17 16 rfl rfl))
    have q59 := ((((((pre_A_pa.other W2 (own_on nb0_24 8 0 rfl rfl)).other W6 (own_on nb0_24 8 15 rfl rfl)).other W11 (own_on nb0_24 8 17 rfl rfl)).other W17 (own_on nb0_24 8 16 rfl rfl)).other W28 (own_on nb0_24 8 16 rfl rfl)).other W44 (own_on nb0_24 8 16 rfl rfl))
    exact g_lvZ X55 K hlk hrt hR d33_208 (by decide) rfl (by rw [e55]; exact ⟨(0 : Int32), sk1, (-1 : Int32), cu1, rfl, N50, KK44, xb45, q53, V44, q58, q59⟩)
   by_cases hc113_60 : (0 : Int64) < rs0
   refine g_ifN X48 K d33_113 ((if0 _ _).trans (tlt ((lw_gt rs0 (0 : Int64)).mpr hc113_60)).2.2.2) ?_
   ·
    refine g_ag X48 K e48 62 rfl xb45.2.2.2.2.2.2.2.2.2.2.2.2.2.2.2.1 d33_116 d33_117 rfl fun T61 X61 e61 => g_iload X61 K d33_120 rfl ?_
    have q62 := (((V11.other W17 (own_on nb0_24 17 16 rfl rfl)).other W28 (own_on nb0_24 17 16 rfl rfl)).other W44 (own_on nb0_24 17 16 rfl rfl))
    refine g_laload X61 K e61 q62 d33_122 (by decide) (v := (.long vi1)) rfl (g_ag X61 K e61 205 rfl xb45.2.2.2.2.2.2.2.2.2.2.2.2.2.2.2.2.2.2.2.2.2.2.1 d33_123 d33_124 rfl fun T63 X63 e63 => g_lcmp X63 K d33_127 rfl ?_)
    have hc128_64 : ¬ (vi1 = (vt + (1 : Int64))) := hvis
    refine g_ifN X63 K d33_128 ((if0 _ _).trans (feq (fun q => hc128_64 ((lw_eq vi1 (vt + (1 : Int64))).mp q))).1) (g_ag X63 K e63 18 rfl xb45.2.2.2.2.1 d33_131 d33_132 rfl fun T65 X65 e65 => g_iload X65 K d33_135 rfl ?_)
    have q66 := ((((((pre_A_co.other W2 (own_on nb0_24 4 0 rfl rfl)).other W6 (own_on nb0_24 4 15 rfl rfl)).other W11 (own_on nb0_24 4 17 rfl rfl)).other W17 (own_on nb0_24 4 16 rfl rfl)).other W28 (own_on nb0_24 4 16 rfl rfl)).other W44 (own_on nb0_24 4 16 rfl rfl))
    refine g_laload X65 K e65 q66 d33_137 (by decide) (v := (.long k0)) rfl (g_ag X65 K e65 26 rfl xb45.2.2.2.2.2.2.1 d33_138 d33_139 rfl fun T67 X67 e67 => g_iload X67 K d33_142 rfl ?_)
    have q68 := ((((((pre_A_po.other W2 (own_on nb0_24 6 0 rfl rfl)).other W6 (own_on nb0_24 6 15 rfl rfl)).other W11 (own_on nb0_24 6 17 rfl rfl)).other W17 (own_on nb0_24 6 16 rfl rfl)).other W28 (own_on nb0_24 6 16 rfl rfl)).other W44 (own_on nb0_24 6 16 rfl rfl))
    refine g_laload X67 K e67 q68 d33_144 (by decide) (v := (.long 0)) rfl (g_ladd X67 K d33_145 rfl (g_ag X67 K e67 26 rfl xb45.2.2.2.2.2.2.1 d33_146 d33_147 rfl fun T69 X69 e69 => g_iload X69 K d33_150 rfl (g_laload X69 K e69 q68 d33_152 (by decide) (v := (.long po1)) rfl (g_lsub X69 K d33_153 rfl (g_lconst X69 K d33_154 (z := 0) rfl (g_lcmp X69 K d33_155 rfl ?_))))))
    have hc156_70 : ¬ (((k0 + (0 : Int64)) - po1) = (0 : Int64)) := no0 hc113_60
    refine g_ifY X69 K 204 d33_156 (by decide) ((if0 _ _).trans (feq (fun q => hc156_70 ((lw_eq ((k0 + (0 : Int64)) - po1) (0 : Int64)).mp q))).2) ?_
    exact J50 _ _ X69 N44 e69
   refine g_ifY X48 K 204 d33_113 (by decide) ((if0 _ _).trans (flt (fun q => hc113_60 ((lw_gt rs0 (0 : Int64)).mp q))).2.2.2) ?_
   ·
    exact J50 _ _ X48 N44 e48
  by_cases hc113_71 : (0 : Int64) < rs2
  refine g_ifN X32 K d33_113 ((if0 _ _).trans (tlt ((lw_gt rs2 (0 : Int64)).mpr hc113_71)).2.2.2) ?_
  ·
   refine g_ag X32 K e32 62 rfl xb29.2.2.2.2.2.2.2.2.2.2.2.2.2.2.2.1 d33_116 d33_117 rfl fun T72 X72 e72 => g_iload X72 K d33_120 rfl ?_
   have q73 := ((V11.other W17 (own_on nb0_24 17 16 rfl rfl)).other W28 (own_on nb0_24 17 16 rfl rfl))
   refine g_laload X72 K e72 q73 d33_122 (by decide) (v := (.long vi1)) rfl (g_ag X72 K e72 205 rfl xb29.2.2.2.2.2.2.2.2.2.2.2.2.2.2.2.2.2.2.2.2.2.2.1 d33_123 d33_124 rfl fun T74 X74 e74 => g_lcmp X74 K d33_127 rfl ?_)
   have hc128_75 : ¬ (vi1 = (vt + (1 : Int64))) := hvis
   refine g_ifN X74 K d33_128 ((if0 _ _).trans (feq (fun q => hc128_75 ((lw_eq vi1 (vt + (1 : Int64))).mp q))).1) (g_ag X74 K e74 18 rfl xb29.2.2.2.2.1 d33_131 d33_132 rfl fun T76 X76 e76 => g_iload X76 K d33_135 rfl ?_)
   have q77 := (((((pre_A_co.other W2 (own_on nb0_24 4 0 rfl rfl)).other W6 (own_on nb0_24 4 15 rfl rfl)).other W11 (own_on nb0_24 4 17 rfl rfl)).other W17 (own_on nb0_24 4 16 rfl rfl)).other W28 (own_on nb0_24 4 16 rfl rfl))
   refine g_laload X76 K e76 q77 d33_137 (by decide) (v := (.long k1)) rfl (g_ag X76 K e76 26 rfl xb29.2.2.2.2.2.2.1 d33_138 d33_139 rfl fun T78 X78 e78 => g_iload X78 K d33_142 rfl ?_)
   have q79 := (((((pre_A_po.other W2 (own_on nb0_24 6 0 rfl rfl)).other W6 (own_on nb0_24 6 15 rfl rfl)).other W11 (own_on nb0_24 6 17 rfl rfl)).other W17 (own_on nb0_24 6 16 rfl rfl)).other W28 (own_on nb0_24 6 16 rfl rfl))
   refine g_laload X78 K e78 q79 d33_144 (by decide) (v := (.long 0)) rfl (g_ladd X78 K d33_145 rfl (g_ag X78 K e78 26 rfl xb29.2.2.2.2.2.2.1 d33_146 d33_147 rfl fun T80 X80 e80 => g_iload X80 K d33_150 rfl (g_laload X80 K e80 q79 d33_152 (by decide) (v := (.long po1)) rfl (g_lsub X80 K d33_153 rfl (g_lconst X80 K d33_154 (z := 0) rfl (g_lcmp X80 K d33_155 rfl ?_))))))
   have hc156_81 : ¬ (((k1 + (0 : Int64)) - po1) = (0 : Int64)) := no2 hc113_71
   refine g_ifY X80 K 204 d33_156 (by decide) ((if0 _ _).trans (feq (fun q => hc156_81 ((lw_eq ((k1 + (0 : Int64)) - po1) (0 : Int64)).mp q))).2) ?_
   exact J34 _ _ X80 N28 e80
  refine g_ifY X32 K 204 d33_113 (by decide) ((if0 _ _).trans (flt (fun q => hc113_71 ((lw_gt rs2 (0 : Int64)).mp q))).2.2.2) ?_
  ·
   exact J34 _ _ X32 N28 e32
def Qtl0 (Z : State) (x0 : Addr) (tg : Addr) (ktg : ClassId) (h0 : Heap) (n0 : Nat) (v : Option Value) (h : Heap) (L : List Loc) : Prop := v = some (.int 0) ∧ Fr n0 L ∧ h = h0
theorem ef_tl0 (m : MethodId) (x0 : Addr) : entryFrame m #[(.ref x0), (.int 0)] 2 = mkF m 0 #[rv x0, iv 0] [] := by first | (simp [entryFrame, mkF, argsToLocals, Value.category]; done) | rfl
set_option maxRecDepth 65536 in
set_option maxHeartbeats 40000000 in
theorem rmtl0 (l : Launch) (Z : State) (a0 : Array Value) (hw : ∀ d ∈ tables_1, d.before a0 Z = true) (x0 : Addr) {tg : Addr} {ktg : ClassId} (h0 : Heap) (n0 : Nat) (Z0 : n0 ≤ h0.size) (pre_F_x0_target : Fld Z h0 x0 "com/example/violarc/violarc/graph/FlowNetwork" "target" "[I" (.ref tg)) (pre_A_tg : Arv Z h0 tg ktg .int (16 : Int32) [(.int 1), (.int 0), (.int 1), (.int 0)] (.int 0)) :
    own_M l (⟨"com/example/violarc/violarc/graph/FlowNetwork", "tail", "(I)I"⟩ : MethodName) c34 2 (some .int) ({ frames := 0, cells := 0, slots := 0, locals := 0 } : Room) #[(.ref x0), (.int 0)] Z h0 (Qtl0 Z x0 tg ktg h0 n0) := by
  refine MetFree.of_bodySF (plainFor_of_name pn_34) hisR ?_
  intro p e s m args below meth c s₁ Bd hml0 hP hK
  obtain ⟨rfl, hZ, hh⟩ := hP
  have hx := Bd.exec
  have hby := Bd.bytes
  have hml : c.maxLocals = 2 := hml0
  have hown : s.vm.findClass "com/example/violarc/violarc/graph/FlowNetwork" = some m.cls := findClass_of_methodNamed Bd.named
  have hnm := (name_of_methodNamed Bd.named Bd.method).1
  have X0 : Stand p l e ({ frames := 0, cells := 0, slots := 0, locals := 0 } : Room) s m #[(.ref x0), (.int 0)] below meth c s₁ [] 0 0 := Stand.of_body Bd
  have e0 : s₁.heap = h0 := by rw [← hh, Bd.state]; rfl
  have N0 := Fr.nil n0
  have Kp0 := Keep.refl h0 []
  have hlk := BodyLoose.notSynchronized Bd
  have hrt := Bd.returns
  have K : own_K p c c34 Z s "com/example/violarc/violarc/graph/FlowNetwork" m a0 := ⟨hx, hby, hZ, hown, hw⟩
  refine gStart (S' := s₁.setTop (mkF m 0 #[rv x0, iv 0] [])) (congrArg (fun f => s₁.setTop f) (ef_tl0 m x0)) fun Rp hR => ?_
  refine g_ag X0 K e0 14 rfl pre_F_x0_target d34_0 d34_1 rfl fun T1 X1 e1 => g_iloadN X1 K d34_4 rfl (g_iconst X1 K d34_5 (z := 1) rfl ?_)
  refine gB (S' := T1.setTop (mkF m 7 #[rv x0, iv 0] [(.int 1), (.ref tg)])) ?_ (by
    intro t k
    refine XS.ixor X1.here hx rfl (hb hby d34_6) rfl ?_
    exact k)
  refine g_iaload X1 K e1 pre_A_tg d34_7 (by decide) (v := (.int 0)) rfl ?_
  exact g_lvI X1 K hlk hrt hR d34_8 (by decide) (by rw [e1]; exact ⟨rfl, N0, rfl⟩)
def Qtl2 (Z : State) (x0 : Addr) (tg : Addr) (ktg : ClassId) (h0 : Heap) (n0 : Nat) (v : Option Value) (h : Heap) (L : List Loc) : Prop := v = some (.int 0) ∧ Fr n0 L ∧ h = h0
theorem ef_tl2 (m : MethodId) (x0 : Addr) : entryFrame m #[(.ref x0), (.int 2)] 2 = mkF m 0 #[rv x0, iv 2] [] := by first | (simp [entryFrame, mkF, argsToLocals, Value.category]; done) | rfl
set_option maxRecDepth 65536 in
set_option maxHeartbeats 40000000 in
theorem rmtl2 (l : Launch) (Z : State) (a0 : Array Value) (hw : ∀ d ∈ tables_1, d.before a0 Z = true) (x0 : Addr) {tg : Addr} {ktg : ClassId} (h0 : Heap) (n0 : Nat) (Z0 : n0 ≤ h0.size) (pre_F_x0_target : Fld Z h0 x0 "com/example/violarc/violarc/graph/FlowNetwork" "target" "[I" (.ref tg)) (pre_A_tg : Arv Z h0 tg ktg .int (16 : Int32) [(.int 1), (.int 0), (.int 1), (.int 0)] (.int 0)) :
    own_M l (⟨"com/example/violarc/violarc/graph/FlowNetwork", "tail", "(I)I"⟩ : MethodName) c34 2 (some .int) ({ frames := 0, cells := 0, slots := 0, locals := 0 } : Room) #[(.ref x0), (.int 2)] Z h0 (Qtl2 Z x0 tg ktg h0 n0) := by
  refine MetFree.of_bodySF (plainFor_of_name pn_34) hisR ?_
  intro p e s m args below meth c s₁ Bd hml0 hP hK
  obtain ⟨rfl, hZ, hh⟩ := hP
  have hx := Bd.exec
  have hby := Bd.bytes
  have hml : c.maxLocals = 2 := hml0
  have hown : s.vm.findClass "com/example/violarc/violarc/graph/FlowNetwork" = some m.cls := findClass_of_methodNamed Bd.named
  have hnm := (name_of_methodNamed Bd.named Bd.method).1
  have X0 : Stand p l e ({ frames := 0, cells := 0, slots := 0, locals := 0 } : Room) s m #[(.ref x0), (.int 2)] below meth c s₁ [] 0 0 := Stand.of_body Bd
  have e0 : s₁.heap = h0 := by rw [← hh, Bd.state]; rfl
  have N0 := Fr.nil n0
  have Kp0 := Keep.refl h0 []
  have hlk := BodyLoose.notSynchronized Bd
  have hrt := Bd.returns
  have K : own_K p c c34 Z s "com/example/violarc/violarc/graph/FlowNetwork" m a0 := ⟨hx, hby, hZ, hown, hw⟩
  refine gStart (S' := s₁.setTop (mkF m 0 #[rv x0, iv 2] [])) (congrArg (fun f => s₁.setTop f) (ef_tl2 m x0)) fun Rp hR => ?_
  refine g_ag X0 K e0 14 rfl pre_F_x0_target d34_0 d34_1 rfl fun T1 X1 e1 => g_iloadN X1 K d34_4 rfl (g_iconst X1 K d34_5 (z := 1) rfl ?_)
  refine gB (S' := T1.setTop (mkF m 7 #[rv x0, iv 2] [(.int 3), (.ref tg)])) ?_ (by
    intro t k
    refine XS.ixor X1.here hx rfl (hb hby d34_6) rfl ?_
    exact k)
  refine g_iaload X1 K e1 pre_A_tg d34_7 (by decide) (v := (.int 0)) rfl ?_
  exact g_lvI X1 K hlk hrt hR d34_8 (by decide) (by rw [e1]; exact ⟨rfl, N0, rfl⟩)
def Qps0 (Z : State) (x0 : Addr) (x2 : Int64) (nx : Addr) (tg : Addr) (rs : Addr) (co : Addr) (fi : Addr) (po : Addr) (di : Addr) (pa : Addr) (hp : Addr) (hn : Addr) (hq : Addr) (qu : Addr) (qd : Addr) (lw : Addr) (sk : Addr) (cu : Addr) (vi : Addr) (ar : Int32) (ac : Int64) (fc : Int64) (vl : Int32) (so : Int32) (si : Int32) (vt : Int64) (k0 : Int64) (k1 : Int64) (kco : ClassId) (krs : ClassId) (rs0 : Int64) (rs1 : Int64) (rs2 : Int64) (rs3 : Int64) (h0 : Heap) (n0 : Nat) (v : Option Value) (h : Heap) (L : List Loc) : Prop := v = none ∧ Fr n0 L ∧ Keep h0 h [x0, rs] ∧ own_XF Z h n0 x0 nx tg rs co fi po di pa hp hn hq qu qd lw sk cu vi ar ac (fc + (x2 * k0)) vl so si vt ∧ Arv Z h rs krs .long (16 : Int32) [(.long (rs0 - x2)), (.long (rs1 + x2)), (.long rs2), (.long rs3)] (.long 0)
theorem ef_ps0 (m : MethodId) (x0 : Addr) (x2 : Int64) : entryFrame m #[(.ref x0), (.int 0), (.long x2)] 4 = mkF m 0 #[rv x0, iv 0, lv x2, .second] [] := by first | (simp [entryFrame, mkF, argsToLocals, Value.category]; done) | rfl
set_option maxRecDepth 65536 in
set_option maxHeartbeats 40000000 in
theorem rmps0 (l : Launch) (Z : State) (a0 : Array Value) (hw : ∀ d ∈ tables_1, d.before a0 Z = true) (x0 : Addr) (x2 : Int64) {nx : Addr} {tg : Addr} {rs : Addr} {co : Addr} {fi : Addr} {po : Addr} {di : Addr} {pa : Addr} {hp : Addr} (hn : Addr) (hq : Addr) {qu : Addr} {qd : Addr} {lw : Addr} {sk : Addr} {cu : Addr} {vi : Addr} {ar : Int32} {ac : Int64} {fc : Int64} {vl : Int32} {so : Int32} {si : Int32} {vt : Int64} {k0 : Int64} {k1 : Int64} {kco : ClassId} {krs : ClassId} {rs0 : Int64} {rs1 : Int64} {rs2 : Int64} {rs3 : Int64} (h0 : Heap) (n0 : Nat) (Z0 : n0 ≤ h0.size) (pre_own_XF : own_XF Z h0 n0 x0 nx tg rs co fi po di pa hp hn hq qu qd lw sk cu vi ar ac fc vl so si vt) (pre_A_co : Arv Z h0 co kco .long (16 : Int32) [(.long k0), (.long (-k0)), (.long k1), (.long (-k1))] (.long 0)) (pre_A_rs : Arv Z h0 rs krs .long (16 : Int32) [(.long rs0), (.long rs1), (.long rs2), (.long rs3)] (.long 0)) (hmin : ¬ (x2 = (-9223372036854775808 : Int64))) (hdiv : ¬ (k0 = (0 : Int64)) → ((x2 * k0) / k0) = x2) (hadd : ¬ (((fc ^^^ (fc + (x2 * k0))) &&& ((x2 * k0) ^^^ (fc + (x2 * k0)))) < (0 : Int64))) :
    own_M l (⟨"com/example/violarc/violarc/graph/FlowNetwork", "push", "(IJ)V"⟩ : MethodName) c35 4 none ({ frames := 2, cells := 0, slots := 0, locals := 37 } : Room) #[(.ref x0), (.int 0), (.long x2)] Z h0 (Qps0 Z x0 x2 nx tg rs co fi po di pa hp hn hq qu qd lw sk cu vi ar ac fc vl so si vt k0 k1 kco krs rs0 rs1 rs2 rs3 h0 n0) := by
  refine MetFree.of_bodySF (plainFor_of_name pn_35) hisR ?_
  intro p e s m args below meth c s₁ Bd hml0 hP hK
  obtain ⟨rfl, hZ, hh⟩ := hP
  have hx := Bd.exec
  have hby := Bd.bytes
  have hml : c.maxLocals = 4 := hml0
  have hown : s.vm.findClass "com/example/violarc/violarc/graph/FlowNetwork" = some m.cls := findClass_of_methodNamed Bd.named
  have hnm := (name_of_methodNamed Bd.named Bd.method).1
  have X0 : Stand p l e ({ frames := 2, cells := 0, slots := 0, locals := 37 } : Room) s m #[(.ref x0), (.int 0), (.long x2)] below meth c s₁ [] 0 0 := Stand.of_body Bd
  have e0 : s₁.heap = h0 := by rw [← hh, Bd.state]; rfl
  have N0 := Fr.nil n0
  have Kp0 := Keep.refl h0 [x0, rs]
  have hlk := BodyLoose.notSynchronized Bd
  have hrt := Bd.returns
  have K : own_K p c c35 Z s "com/example/violarc/violarc/graph/FlowNetwork" m a0 := ⟨hx, hby, hZ, hown, hw⟩
  refine gStart (S' := s₁.setTop (mkF m 0 #[rv x0, iv 0, lv x2, .second] [])) (congrArg (fun f => s₁.setTop f) (ef_ps0 m x0 x2)) fun Rp hR => ?_
  obtain ⟨nb0_0, nb0_1, nb0_2, nb0_3, nb0_4, nb0_5, nb0_6, nb0_7, nb0_8, nb0_9, nb0_10, nb0_11, nb0_12, nb0_13, nb0_14, nb0_15, nb0_16, nb0_17, nb0_18, nb0_19, nb0_20, nb0_21, nb0_22, nb0_23, nb0_24⟩ := id pre_own_XF
  refine g_ag X0 K e0 16 rfl pre_own_XF.2.2.2.1 d35_0 d35_1 rfl fun T1 X1 e1 => g_iloadN X1 K d35_4 rfl (g_dup2 X1 K d35_5 rfl rfl (g_laload X1 K e1 pre_A_rs d35_6 (by decide) (v := (.long rs0)) rfl (g_lloadN X1 K d35_7 rfl (g_lsub X1 K d35_8 rfl (g_lastore X1 K e1 pre_A_rs d35_9 (by decide) 0 ⟨rfl, Nat.le_of_ble_eq_true rfl⟩ (w := [(.long (rs0 - x2)), (.long rs1), (.long rs2), (.long rs3)]) rfl rfl fun T2 h2 X2 e2 W2 V2 => ?_)))))
  have N2 := Fr.snoc X2 N0 (own_ong nb0_24 nb0_23 3 rfl)
  have KK2 := Kp0.wr W2 (Or.inl (List.mem_of_getElem? (i := 1) rfl))
  have xb3 := own_XF_wr pre_own_XF W2 (own_on nb0_24 0 3 rfl rfl)
  refine g_ag X2 K e2 16 rfl xb3.2.2.2.1 d35_10 d35_11 rfl fun T4 X4 e4 => g_iloadN X4 K d35_14 rfl (g_iconst X4 K d35_15 (z := 1) rfl ?_)
  refine gB (S' := T4.setTop (mkF m 17 #[rv x0, iv 0, lv x2, .second] [(.int 1), (.ref rs)])) ?_ (by
    intro t k
    refine XS.ixor X4.here hx rfl (hb hby d35_16) rfl ?_
    exact k)
  refine g_dup2 X4 K d35_17 rfl rfl (g_laload X4 K e4 V2 d35_18 (by decide) (v := (.long rs1)) rfl (g_lloadN X4 K d35_19 rfl (g_ladd X4 K d35_20 rfl (g_lastore X4 K e4 V2 d35_21 (by decide) 1 ⟨rfl, Nat.le_of_ble_eq_true rfl⟩ (w := [(.long (rs0 - x2)), (.long (rs1 + x2)), (.long rs2), (.long rs3)]) rfl rfl fun T5 h5 X5 e5 W5 V5 => ?_))))
  have N5 := Fr.snoc X5 N2 (own_ong nb0_24 nb0_23 3 rfl)
  have KK5 := KK2.wr W5 (Or.inl (List.mem_of_getElem? (i := 1) rfl))
  refine g_aloadN X5 K d35_22 rfl rfl ?_
  have xb6 := own_XF_wr xb3 W5 (own_on nb0_24 0 3 rfl rfl)
  refine g_ag X5 K e5 134 rfl xb6.2.2.2.2.2.2.2.2.2.2.2.2.2.2.2.2.2.2.1 d35_23 d35_24 rfl fun T7 X7 e7 => g_lloadN X7 K d35_27 rfl (g_ag X7 K e7 18 rfl xb6.2.2.2.2.1 d35_28 d35_29 rfl fun T8 X8 e8 => g_iloadN X8 K d35_32 rfl ?_)
  have q9 := ((pre_A_co.other W2 (own_on nb0_24 4 3 rfl rfl)).other W5 (own_on nb0_24 4 3 rfl rfl))
  refine g_laload X8 K e8 q9 d35_33 (by decide) (v := (.long k0)) rfl (g_callS X8 K e8 215 216 81 217 rfl rfl rfl rfl (by decide) (rm36 l Z a0 hw x2 k0 h5 n0 (Nat.le_trans Z0 KK5.1) (hmin) (hdiv)) d35_34 hml.symm (argsL := [(.long x2), (.long k0)]) (lenOf pd_5 rfl) rfl 3 (Nat.le_of_ble_eq_true rfl) (by decide) fun v10 T10 Lc10 hQ10 X10 => ?_)
  obtain ⟨rfl, N10q, e10⟩ := hQ10
  have N10 := Fr.app N5 N10q
  dsimp only [Option.toList, List.cons_append, List.nil_append]
  refine g_callS X10 K e10 87 88 81 89 rfl rfl rfl rfl (by decide) (rm10 l Z a0 hw fc (x2 * k0) h5 n0 (Nat.le_trans Z0 KK5.1) (hadd)) d35_37 hml.symm (argsL := [(.long fc), (.long (x2 * k0))]) (lenOf pd_5 rfl) rfl 1 (Nat.le_of_ble_eq_true rfl) (by decide) fun v11 T11 Lc11 hQ11 X11 => ?_
  obtain ⟨rfl, N11q, e11⟩ := hQ11
  have N11 := Fr.app N10 N11q
  dsimp only [Option.toList, List.cons_append, List.nil_append]
  refine g_putF X11 K e11 134 rfl xb6.2.2.2.2.2.2.2.2.2.2.2.2.2.2.2.2.2.2.1 xb6.1 (Or.inl (hw _ (im 135 rfl))) (hw _ (im 3 rfl)) (ty := .long) (by decide) rfl rfl d35_40 fun T12 h12 X12 e12 W12 Fw12 => ?_
  have N12 := Fr.snoc X12 N11 nb0_23
  have KK12 := KK5.wr W12 (Or.inl (List.mem_of_getElem? (i := 0) rfl))
  have xb13 := own_XF_p_flowCost hw xb6 W12 Fw12
  have q14 := (V5.other W12 (own_on nb0_24 3 0 rfl rfl))
  exact g_lv0 X12 K hlk hrt hR d35_43 (by decide) (by rw [e12]; exact ⟨rfl, N12, KK12, xb13, q14⟩)
def Qps2 (Z : State) (x0 : Addr) (x2 : Int64) (nx : Addr) (tg : Addr) (rs : Addr) (co : Addr) (fi : Addr) (po : Addr) (di : Addr) (pa : Addr) (hp : Addr) (hn : Addr) (hq : Addr) (qu : Addr) (qd : Addr) (lw : Addr) (sk : Addr) (cu : Addr) (vi : Addr) (ar : Int32) (ac : Int64) (fc : Int64) (vl : Int32) (so : Int32) (si : Int32) (vt : Int64) (k0 : Int64) (k1 : Int64) (kco : ClassId) (krs : ClassId) (rs0 : Int64) (rs1 : Int64) (rs2 : Int64) (rs3 : Int64) (h0 : Heap) (n0 : Nat) (v : Option Value) (h : Heap) (L : List Loc) : Prop := v = none ∧ Fr n0 L ∧ Keep h0 h [x0, rs] ∧ own_XF Z h n0 x0 nx tg rs co fi po di pa hp hn hq qu qd lw sk cu vi ar ac (fc + (x2 * k1)) vl so si vt ∧ Arv Z h rs krs .long (16 : Int32) [(.long rs0), (.long rs1), (.long (rs2 - x2)), (.long (rs3 + x2))] (.long 0)
theorem ef_ps2 (m : MethodId) (x0 : Addr) (x2 : Int64) : entryFrame m #[(.ref x0), (.int 2), (.long x2)] 4 = mkF m 0 #[rv x0, iv 2, lv x2, .second] [] := by first | (simp [entryFrame, mkF, argsToLocals, Value.category]; done) | rfl
set_option maxRecDepth 65536 in
set_option maxHeartbeats 40000000 in
theorem rmps2 (l : Launch) (Z : State) (a0 : Array Value) (hw : ∀ d ∈ tables_1, d.before a0 Z = true) (x0 : Addr) (x2 : Int64) {nx : Addr} {tg : Addr} {rs : Addr} {co : Addr} {fi : Addr} {po : Addr} {di : Addr} {pa : Addr} {hp : Addr} (hn : Addr) (hq : Addr) {qu : Addr} {qd : Addr} {lw : Addr} {sk : Addr} {cu : Addr} {vi : Addr} {ar : Int32} {ac : Int64} {fc : Int64} {vl : Int32} {so : Int32} {si : Int32} {vt : Int64} {k0 : Int64} {k1 : Int64} {kco : ClassId} {krs : ClassId} {rs0 : Int64} {rs1 : Int64} {rs2 : Int64} {rs3 : Int64} (h0 : Heap) (n0 : Nat) (Z0 : n0 ≤ h0.size) (pre_own_XF : own_XF Z h0 n0 x0 nx tg rs co fi po di pa hp hn hq qu qd lw sk cu vi ar ac fc vl so si vt) (pre_A_co : Arv Z h0 co kco .long (16 : Int32) [(.long k0), (.long (-k0)), (.long k1), (.long (-k1))] (.long 0)) (pre_A_rs : Arv Z h0 rs krs .long (16 : Int32) [(.long rs0), (.long rs1), (.long rs2), (.long rs3)] (.long 0)) (hmin : ¬ (x2 = (-9223372036854775808 : Int64))) (hdiv : ¬ (k1 = (0 : Int64)) → ((x2 * k1) / k1) = x2) (hadd : ¬ (((fc ^^^ (fc + (x2 * k1))) &&& ((x2 * k1) ^^^ (fc + (x2 * k1)))) < (0 : Int64))) :
    own_M l (⟨"com/example/violarc/violarc/graph/FlowNetwork", "push", "(IJ)V"⟩ : MethodName) c35 4 none ({ frames := 2, cells := 0, slots := 0, locals := 37 } : Room) #[(.ref x0), (.int 2), (.long x2)] Z h0 (Qps2 Z x0 x2 nx tg rs co fi po di pa hp hn hq qu qd lw sk cu vi ar ac fc vl so si vt k0 k1 kco krs rs0 rs1 rs2 rs3 h0 n0) := by
  refine MetFree.of_bodySF (plainFor_of_name pn_35) hisR ?_
  intro p e s m args below meth c s₁ Bd hml0 hP hK
  obtain ⟨rfl, hZ, hh⟩ := hP
  have hx := Bd.exec
  have hby := Bd.bytes
  have hml : c.maxLocals = 4 := hml0
  have hown : s.vm.findClass "com/example/violarc/violarc/graph/FlowNetwork" = some m.cls := findClass_of_methodNamed Bd.named
  have hnm := (name_of_methodNamed Bd.named Bd.method).1
  have X0 : Stand p l e ({ frames := 2, cells := 0, slots := 0, locals := 37 } : Room) s m #[(.ref x0), (.int 2), (.long x2)] below meth c s₁ [] 0 0 := Stand.of_body Bd
  have e0 : s₁.heap = h0 := by rw [← hh, Bd.state]; rfl
  have N0 := Fr.nil n0
  have Kp0 := Keep.refl h0 [x0, rs]
  have hlk := BodyLoose.notSynchronized Bd
  have hrt := Bd.returns
  have K : own_K p c c35 Z s "com/example/violarc/violarc/graph/FlowNetwork" m a0 := ⟨hx, hby, hZ, hown, hw⟩
  refine gStart (S' := s₁.setTop (mkF m 0 #[rv x0, iv 2, lv x2, .second] [])) (congrArg (fun f => s₁.setTop f) (ef_ps2 m x0 x2)) fun Rp hR => ?_
  obtain ⟨nb0_0, nb0_1, nb0_2, nb0_3, nb0_4, nb0_5, nb0_6, nb0_7, nb0_8, nb0_9, nb0_10, nb0_11, nb0_12, nb0_13, nb0_14, nb0_15, nb0_16, nb0_17, nb0_18, nb0_19, nb0_20, nb0_21, nb0_22, nb0_23, nb0_24⟩ := id pre_own_XF
  refine g_ag X0 K e0 16 rfl pre_own_XF.2.2.2.1 d35_0 d35_1 rfl fun T1 X1 e1 => g_iloadN X1 K d35_4 rfl (g_dup2 X1 K d35_5 rfl rfl (g_laload X1 K e1 pre_A_rs d35_6 (by decide) (v := (.long rs2)) rfl (g_lloadN X1 K d35_7 rfl (g_lsub X1 K d35_8 rfl (g_lastore X1 K e1 pre_A_rs d35_9 (by decide) 2 ⟨rfl, Nat.le_of_ble_eq_true rfl⟩ (w := [(.long rs0), (.long rs1), (.long (rs2 - x2)), (.long rs3)]) rfl rfl fun T2 h2 X2 e2 W2 V2 => ?_)))))
  have N2 := Fr.snoc X2 N0 (own_ong nb0_24 nb0_23 3 rfl)
  have KK2 := Kp0.wr W2 (Or.inl (List.mem_of_getElem? (i := 1) rfl))
  have xb3 := own_XF_wr pre_own_XF W2 (own_on nb0_24 0 3 rfl rfl)
  refine g_ag X2 K e2 16 rfl xb3.2.2.2.1 d35_10 d35_11 rfl fun T4 X4 e4 => g_iloadN X4 K d35_14 rfl (g_iconst X4 K d35_15 (z := 1) rfl ?_)
  refine gB (S' := T4.setTop (mkF m 17 #[rv x0, iv 2, lv x2, .second] [(.int 3), (.ref rs)])) ?_ (by
    intro t k
    refine XS.ixor X4.here hx rfl (hb hby d35_16) rfl ?_
    exact k)
  refine g_dup2 X4 K d35_17 rfl rfl (g_laload X4 K e4 V2 d35_18 (by decide) (v := (.long rs3)) rfl (g_lloadN X4 K d35_19 rfl (g_ladd X4 K d35_20 rfl (g_lastore X4 K e4 V2 d35_21 (by decide) 3 ⟨rfl, Nat.le_of_ble_eq_true rfl⟩ (w := [(.long rs0), (.long rs1), (.long (rs2 - x2)), (.long (rs3 + x2))]) rfl rfl fun T5 h5 X5 e5 W5 V5 => ?_))))
  have N5 := Fr.snoc X5 N2 (own_ong nb0_24 nb0_23 3 rfl)
  have KK5 := KK2.wr W5 (Or.inl (List.mem_of_getElem? (i := 1) rfl))
  refine g_aloadN X5 K d35_22 rfl rfl ?_
  have xb6 := own_XF_wr xb3 W5 (own_on nb0_24 0 3 rfl rfl)
  refine g_ag X5 K e5 134 rfl xb6.2.2.2.2.2.2.2.2.2.2.2.2.2.2.2.2.2.2.1 d35_23 d35_24 rfl fun T7 X7 e7 => g_lloadN X7 K d35_27 rfl (g_ag X7 K e7 18 rfl xb6.2.2.2.2.1 d35_28 d35_29 rfl fun T8 X8 e8 => g_iloadN X8 K d35_32 rfl ?_)
  have q9 := ((pre_A_co.other W2 (own_on nb0_24 4 3 rfl rfl)).other W5 (own_on nb0_24 4 3 rfl rfl))
  refine g_laload X8 K e8 q9 d35_33 (by decide) (v := (.long k1)) rfl (g_callS X8 K e8 215 216 81 217 rfl rfl rfl rfl (by decide) (rm36 l Z a0 hw x2 k1 h5 n0 (Nat.le_trans Z0 KK5.1) (hmin) (hdiv)) d35_34 hml.symm (argsL := [(.long x2), (.long k1)]) (lenOf pd_5 rfl) rfl 3 (Nat.le_of_ble_eq_true rfl) (by decide) fun v10 T10 Lc10 hQ10 X10 => ?_)
  obtain ⟨rfl, N10q, e10⟩ := hQ10
  have N10 := Fr.app N5 N10q
  dsimp only [Option.toList, List.cons_append, List.nil_append]
  refine g_callS X10 K e10 87 88 81 89 rfl rfl rfl rfl (by decide) (rm10 l Z a0 hw fc (x2 * k1) h5 n0 (Nat.le_trans Z0 KK5.1) (hadd)) d35_37 hml.symm (argsL := [(.long fc), (.long (x2 * k1))]) (lenOf pd_5 rfl) rfl 1 (Nat.le_of_ble_eq_true rfl) (by decide) fun v11 T11 Lc11 hQ11 X11 => ?_
  obtain ⟨rfl, N11q, e11⟩ := hQ11
  have N11 := Fr.app N10 N11q
  dsimp only [Option.toList, List.cons_append, List.nil_append]
  refine g_putF X11 K e11 134 rfl xb6.2.2.2.2.2.2.2.2.2.2.2.2.2.2.2.2.2.2.1 xb6.1 (Or.inl (hw _ (im 135 rfl))) (hw _ (im 3 rfl)) (ty := .long) (by decide) rfl rfl d35_40 fun T12 h12 X12 e12 W12 Fw12 => ?_
  have N12 := Fr.snoc X12 N11 nb0_23
  have KK12 := KK5.wr W12 (Or.inl (List.mem_of_getElem? (i := 0) rfl))
  have xb13 := own_XF_p_flowCost hw xb6 W12 Fw12
  have q14 := (V5.other W12 (own_on nb0_24 3 0 rfl rfl))
  exact g_lv0 X12 K hlk hrt hR d35_43 (by decide) (by rw [e12]; exact ⟨rfl, N12, KK12, xb13, q14⟩)
def Q16 (Z : State) (x0 : Addr) (h0 : Heap) (n0 : Nat) (v : Option Value) (h : Heap) (L : List Loc) : Prop := v = none ∧ Fr n0 L ∧ h = h0
theorem ef_16 (m : MethodId) (x0 : Addr) : entryFrame m #[(.ref x0), (.int 1)] 2 = mkF m 0 #[rv x0, iv 1] [] := by first | (simp [entryFrame, mkF, argsToLocals, Value.category]; done) | rfl
set_option maxRecDepth 65536 in
set_option maxHeartbeats 40000000 in
theorem rm16 (l : Launch) (Z : State) (a0 : Array Value) (hw : ∀ d ∈ tables_1, d.before a0 Z = true) (x0 : Addr) (h0 : Heap) (n0 : Nat) (Z0 : n0 ≤ h0.size) (pre_F_x0_arcs : Fld Z h0 x0 "com/example/violarc/violarc/graph/FlowNetwork" "arcs" "I" (.int 2)) :
    own_M l (⟨"com/example/violarc/violarc/graph/FlowNetwork", "checkArc", "(I)V"⟩ : MethodName) c16 2 none ({ frames := 0, cells := 0, slots := 0, locals := 0 } : Room) #[(.ref x0), (.int 1)] Z h0 (Q16 Z x0 h0 n0) := by
  refine MetFree.of_bodySF (plainFor_of_name pn_16) hisR ?_
  intro p e s m args below meth c s₁ Bd hml0 hP hK
  obtain ⟨rfl, hZ, hh⟩ := hP
  have hx := Bd.exec
  have hby := Bd.bytes
  have hml : c.maxLocals = 2 := hml0
  have hown : s.vm.findClass "com/example/violarc/violarc/graph/FlowNetwork" = some m.cls := findClass_of_methodNamed Bd.named
  have hnm := (name_of_methodNamed Bd.named Bd.method).1
  have X0 : Stand p l e ({ frames := 0, cells := 0, slots := 0, locals := 0 } : Room) s m #[(.ref x0), (.int 1)] below meth c s₁ [] 0 0 := Stand.of_body Bd
  have e0 : s₁.heap = h0 := by rw [← hh, Bd.state]; rfl
  have N0 := Fr.nil n0
  have Kp0 := Keep.refl h0 []
  have hlk := BodyLoose.notSynchronized Bd
  have hrt := Bd.returns
  have K : own_K p c c16 Z s "com/example/violarc/violarc/graph/FlowNetwork" m a0 := ⟨hx, hby, hZ, hown, hw⟩
  refine gStart (S' := s₁.setTop (mkF m 0 #[rv x0, iv 1] [])) (congrArg (fun f => s₁.setTop f) (ef_16 m x0)) fun Rp hR => ?_
  refine g_iloadN X0 K d16_0 rfl (g_ifN X0 K d16_1 ((if0 _ _).trans (flt (by decide)).1) (g_iloadN X0 K d16_4 rfl (g_ag X0 K e0 91 rfl pre_F_x0_arcs d16_5 d16_6 rfl fun T2 X2 e2 => g_icY X2 K 26 d16_9 (by decide) (tlt (by decide)).1 ?_)))
  exact g_lv0 X2 K hlk hrt hR d16_26 (by decide) (by rw [e2]; exact ⟨rfl, N0, rfl⟩)
def Q15 (Z : State) (x0 : Addr) (rs : Addr) (krs : ClassId) (rs0 : Int64) (rs1 : Int64) (rs2 : Int64) (rs3 : Int64) (h0 : Heap) (n0 : Nat) (v : Option Value) (h : Heap) (L : List Loc) : Prop := v = some (.long rs3) ∧ Fr n0 L ∧ h = h0
theorem ef_15 (m : MethodId) (x0 : Addr) : entryFrame m #[(.ref x0), (.int 1)] 2 = mkF m 0 #[rv x0, iv 1] [] := by first | (simp [entryFrame, mkF, argsToLocals, Value.category]; done) | rfl
set_option maxRecDepth 65536 in
set_option maxHeartbeats 40000000 in
theorem rm15 (l : Launch) (Z : State) (a0 : Array Value) (hw : ∀ d ∈ tables_1, d.before a0 Z = true) (x0 : Addr) {rs : Addr} {krs : ClassId} {rs0 : Int64} {rs1 : Int64} {rs2 : Int64} {rs3 : Int64} (h0 : Heap) (n0 : Nat) (Z0 : n0 ≤ h0.size) (pre_F_x0_arcs : Fld Z h0 x0 "com/example/violarc/violarc/graph/FlowNetwork" "arcs" "I" (.int 2)) (pre_F_x0_residual : Fld Z h0 x0 "com/example/violarc/violarc/graph/FlowNetwork" "residual" "[J" (.ref rs)) (pre_E_x0 : Exa Z h0 x0 "com/example/violarc/violarc/graph/FlowNetwork") (pre_A_rs : Arv Z h0 rs krs .long (16 : Int32) [(.long rs0), (.long rs1), (.long rs2), (.long rs3)] (.long 0)) :
    own_M l (⟨"com/example/violarc/violarc/graph/FlowNetwork", "flow", "(I)J"⟩ : MethodName) c15 2 (some .long) ({ frames := 1, cells := 0, slots := 0, locals := 13 } : Room) #[(.ref x0), (.int 1)] Z h0 (Q15 Z x0 rs krs rs0 rs1 rs2 rs3 h0 n0) := by
  refine MetFree.of_bodySF (plainFor_of_name pn_15) hisR ?_
  intro p e s m args below meth c s₁ Bd hml0 hP hK
  obtain ⟨rfl, hZ, hh⟩ := hP
  have hx := Bd.exec
  have hby := Bd.bytes
  have hml : c.maxLocals = 2 := hml0
  have hown : s.vm.findClass "com/example/violarc/violarc/graph/FlowNetwork" = some m.cls := findClass_of_methodNamed Bd.named
  have hnm := (name_of_methodNamed Bd.named Bd.method).1
  have X0 : Stand p l e ({ frames := 1, cells := 0, slots := 0, locals := 13 } : Room) s m #[(.ref x0), (.int 1)] below meth c s₁ [] 0 0 := Stand.of_body Bd
  have e0 : s₁.heap = h0 := by rw [← hh, Bd.state]; rfl
  have N0 := Fr.nil n0
  have Kp0 := Keep.refl h0 []
  have hlk := BodyLoose.notSynchronized Bd
  have hrt := Bd.returns
  have K : own_K p c c15 Z s "com/example/violarc/violarc/graph/FlowNetwork" m a0 := ⟨hx, hby, hZ, hown, hw⟩
  refine gStart (S' := s₁.setTop (mkF m 0 #[rv x0, iv 1] [])) (congrArg (fun f => s₁.setTop f) (ef_15 m x0)) fun Rp hR => ?_
  refine g_aloadN X0 K d15_0 rfl rfl (g_iloadN X0 K d15_1 rfl (g_callP X0 K e0 116 117 4 119 118 3 rfl rfl rfl rfl rfl rfl (by decide) (rm16 l Z a0 hw x0 h0 n0 Z0 pre_F_x0_arcs) pre_E_x0 d15_2 hml.symm (argsL := [(.int 1)]) (lenOf pd_3 rfl) rfl 0 (Nat.le_of_ble_eq_true rfl) (by decide) fun v1 T1 Lc1 hQ1 X1 => ?_))
  obtain ⟨rfl, N1q, e1⟩ := hQ1
  have N1 := Fr.app N0 N1q
  dsimp only [Option.toList, List.cons_append, List.nil_append]
  refine g_ag X1 K e1 16 rfl pre_F_x0_residual d15_5 d15_6 rfl fun T2 X2 e2 => g_iconst X2 K d15_9 (z := 2) rfl (g_iloadN X2 K d15_10 rfl (g_imul X2 K d15_11 (z := (2 : Int32)) rfl (g_iconst X2 K d15_12 (z := 1) rfl (g_iadd X2 K d15_13 (z := (3 : Int32)) rfl (g_laload X2 K e2 pre_A_rs d15_14 (by decide) (v := (.long rs3)) rfl ?_)))))
  exact g_lvJ X2 K hlk hrt hR d15_15 (by decide) (by rw [e2]; exact ⟨rfl, N1, rfl⟩)
def Q18 (Z : State) (x0 : Addr) (x2 : Int64) (nx : Addr) (tg : Addr) (rs : Addr) (co : Addr) (fi : Addr) (po : Addr) (di : Addr) (pa : Addr) (hp : Addr) (hn : Addr) (hq : Addr) (qu : Addr) (qd : Addr) (lw : Addr) (sk : Addr) (cu : Addr) (vi : Addr) (ac : Int64) (fc : Int64) (vl : Int32) (so : Int32) (si : Int32) (vt : Int64) (krs : ClassId) (rs0 : Int64) (rs1 : Int64) (rs2 : Int64) (rs3 : Int64) (h0 : Heap) (n0 : Nat) (v : Option Value) (h : Heap) (L : List Loc) : Prop := ∃ (v2 : Int32), v = none ∧ Fr n0 L ∧ Keep h0 h [x0, rs] ∧ own_XF Z h n0 x0 nx tg rs co fi po di pa hp hn hq qu qd lw sk cu vi (2 : Int32) ac fc v2 so si vt ∧ Arv Z h rs krs .long (16 : Int32) [(.long rs0), (.long rs1), (.long (x2 - rs3)), (.long rs3)] (.long 0)
theorem ef_18 (m : MethodId) (x0 : Addr) (x2 : Int64) : entryFrame m #[(.ref x0), (.int 1), (.long x2)] 6 = mkF m 0 #[rv x0, iv 1, lv x2, .second, .unset, .unset] [] := by first | (simp [entryFrame, mkF, argsToLocals, Value.category]; done) | rfl
set_option maxRecDepth 65536 in
set_option maxHeartbeats 40000000 in
theorem rm18 (l : Launch) (Z : State) (a0 : Array Value) (hw : ∀ d ∈ tables_1, d.before a0 Z = true) (x0 : Addr) (x2 : Int64) {nx : Addr} {tg : Addr} {rs : Addr} {co : Addr} {fi : Addr} {po : Addr} {di : Addr} {pa : Addr} {hp : Addr} (hn : Addr) (hq : Addr) {qu : Addr} {qd : Addr} {lw : Addr} {sk : Addr} {cu : Addr} {vi : Addr} {ac : Int64} {fc : Int64} {vl : Int32} {so : Int32} {si : Int32} {vt : Int64} {krs : ClassId} {rs0 : Int64} {rs1 : Int64} {rs2 : Int64} {rs3 : Int64} (h0 : Heap) (n0 : Nat) (Z0 : n0 ≤ h0.size) (pre_own_XF : own_XF Z h0 n0 x0 nx tg rs co fi po di pa hp hn hq qu qd lw sk cu vi (2 : Int32) ac fc vl so si vt) (pre_A_rs : Arv Z h0 rs krs .long (16 : Int32) [(.long rs0), (.long rs1), (.long rs2), (.long rs3)] (.long 0)) (hcap : ¬ (x2 < (0 : Int64))) (hfl : ¬ (x2 < rs3)) :
    own_M l (⟨"com/example/violarc/violarc/graph/FlowNetwork", "setCapacity", "(IJ)V"⟩ : MethodName) c18 6 none ({ frames := 1, cells := 0, slots := 0, locals := 13 } : Room) #[(.ref x0), (.int 1), (.long x2)] Z h0 (Q18 Z x0 x2 nx tg rs co fi po di pa hp hn hq qu qd lw sk cu vi ac fc vl so si vt krs rs0 rs1 rs2 rs3 h0 n0) := by
  refine MetFree.of_bodySF (plainFor_of_name pn_18) hisR ?_
  intro p e s m args below meth c s₁ Bd hml0 hP hK
  obtain ⟨rfl, hZ, hh⟩ := hP
  have hx := Bd.exec
  have hby := Bd.bytes
  have hml : c.maxLocals = 6 := hml0
  have hown : s.vm.findClass "com/example/violarc/violarc/graph/FlowNetwork" = some m.cls := findClass_of_methodNamed Bd.named
  have hnm := (name_of_methodNamed Bd.named Bd.method).1
  have X0 : Stand p l e ({ frames := 1, cells := 0, slots := 0, locals := 13 } : Room) s m #[(.ref x0), (.int 1), (.long x2)] below meth c s₁ [] 0 0 := Stand.of_body Bd
  have e0 : s₁.heap = h0 := by rw [← hh, Bd.state]; rfl
  have N0 := Fr.nil n0
  have Kp0 := Keep.refl h0 [x0, rs]
  have hlk := BodyLoose.notSynchronized Bd
  have hrt := Bd.returns
  have K : own_K p c c18 Z s "com/example/violarc/violarc/graph/FlowNetwork" m a0 := ⟨hx, hby, hZ, hown, hw⟩
  refine gStart (S' := s₁.setTop (mkF m 0 #[rv x0, iv 1, lv x2, .second, uu, uu] [])) (congrArg (fun f => s₁.setTop f) (ef_18 m x0 x2)) fun Rp hR => ?_
  obtain ⟨nb0_0, nb0_1, nb0_2, nb0_3, nb0_4, nb0_5, nb0_6, nb0_7, nb0_8, nb0_9, nb0_10, nb0_11, nb0_12, nb0_13, nb0_14, nb0_15, nb0_16, nb0_17, nb0_18, nb0_19, nb0_20, nb0_21, nb0_22, nb0_23, nb0_24⟩ := id pre_own_XF
  refine g_aloadN X0 K d18_0 rfl rfl (g_iloadN X0 K d18_1 rfl (g_callP X0 K e0 116 117 4 119 118 3 rfl rfl rfl rfl rfl rfl (by decide) (rm16 l Z a0 hw x0 h0 n0 Z0 pre_own_XF.2.2.2.2.2.2.2.2.2.2.2.2.2.2.2.2.1) pre_own_XF.1 d18_2 hml.symm (argsL := [(.int 1)]) (lenOf pd_3 rfl) rfl 0 (Nat.le_of_ble_eq_true rfl) (by decide) fun v1 T1 Lc1 hQ1 X1 => ?_))
  obtain ⟨rfl, N1q, e1⟩ := hQ1
  have N1 := Fr.app N0 N1q
  dsimp only [Option.toList, List.cons_append, List.nil_append]
  refine g_lloadN X1 K d18_5 rfl (g_callS X1 K e1 74 75 4 76 rfl rfl rfl rfl (by decide) (rm7 l Z a0 hw x2 h0 n0 Z0 (hcap)) d18_6 hml.symm (argsL := [(.long x2)]) (lenOf pd_4 rfl) rfl 0 (Nat.le_of_ble_eq_true rfl) (by decide) fun v2 T2 Lc2 hQ2 X2 => ?_)
  obtain ⟨rfl, N2q, e2⟩ := hQ2
  have N2 := Fr.app N1 N2q
  dsimp only [Option.toList, List.cons_append, List.nil_append]
  refine g_ag X2 K e2 16 rfl pre_own_XF.2.2.2.1 d18_9 d18_10 rfl fun T3 X3 e3 => g_iconst X3 K d18_13 (z := 2) rfl (g_iloadN X3 K d18_14 rfl (g_imul X3 K d18_15 (z := (2 : Int32)) rfl (g_iconst X3 K d18_16 (z := 1) rfl (g_iadd X3 K d18_17 (z := (3 : Int32)) rfl (g_laload X3 K e3 pre_A_rs d18_18 (by decide) (v := (.long rs3)) rfl (g_lstore X3 K d18_19 (L' := #[rv x0, iv 1, lv x2, .second, lv rs3, .second]) rfl (g_lloadN X3 K d18_21 rfl (g_lload X3 K d18_22 rfl (g_lcmp X3 K d18_24 rfl ?_)))))))))
  have hc25_4 : ¬ (x2 < rs3) := hfl
  refine g_ifY X3 K 43 d18_25 (by decide) ((if0 _ _).trans (flt (fun q => hc25_4 ((lw_lt x2 rs3).mp q))).2.1) (g_lloadN X3 K d18_43 rfl (g_lload X3 K d18_44 rfl (g_lsub X3 K d18_46 rfl (g_ag X3 K e3 16 rfl pre_own_XF.2.2.2.1 d18_47 d18_48 rfl fun T5 X5 e5 => g_iconst X5 K d18_51 (z := 2) rfl (g_iloadN X5 K d18_52 rfl (g_imul X5 K d18_53 (z := (2 : Int32)) rfl (g_laload X5 K e5 pre_A_rs d18_54 (by decide) (v := (.long rs2)) rfl (g_lcmp X5 K d18_55 rfl ?_))))))))
  by_cases hc56_6 : rs2 < (x2 - rs3)
  refine g_ifN X5 K d18_56 ((if0 _ _).trans (tlt ((lw_gt (x2 - rs3) rs2).mpr hc56_6)).2.2.2) ?_
  ·
   refine g_aloadN X5 K d18_59 rfl rfl (g_iconst X5 K d18_60 (z := 0) rfl ?_)
   obtain ⟨T7, h7, X7, e7, W7, st7⟩ := putFN X5 hx hZ hown (hw _ (im 97 rfl)) Via.refl e5 pre_own_XF.2.2.2.2.2.2.2.2.2.2.2.2.2.2.2.2.2.2.2.1 pre_own_XF.1 (Or.inl (hw _ (im 98 rfl))) (hw _ (im 3 rfl)) (ty := .boolean) (v' := (.int 0)) (by decide) rfl (by first | exact fits_nar_bool _ | decide | rfl) (g := (mkF m 61 #[rv x0, iv 1, lv x2, .second, lv rs3, .second] [(.int 0), (.ref x0)])) rfl rfl (hb hby d18_61)
   have Fw7 := pre_own_XF.2.2.2.2.2.2.2.2.2.2.2.2.2.2.2.2.2.2.2.1.same W7
   have N7 := Fr.snoc X7 N2 nb0_23
   have KK7 := Kp0.wr W7 (Or.inl (List.mem_of_getElem? (i := 0) rfl))
   refine gB (S' := T7.setTop (mkF m 64 #[rv x0, iv 1, lv x2, .second, lv rs3, .second] [])) ?_ st7
   have xb8 := own_XF_p_valid hw pre_own_XF W7 Fw7
   refine g_ag X7 K e7 16 rfl xb8.2.2.2.1 d18_64 d18_65 rfl fun T9 X9 e9 => g_iconst X9 K d18_68 (z := 2) rfl (g_iloadN X9 K d18_69 rfl (g_imul X9 K d18_70 (z := (2 : Int32)) rfl (g_lloadN X9 K d18_71 rfl (g_lload X9 K d18_72 rfl (g_lsub X9 K d18_74 rfl ?_)))))
   have q10 := (pre_A_rs.other W7 (own_on nb0_24 3 0 rfl rfl))
   refine g_lastore X9 K e9 q10 d18_75 (by decide) 2 ⟨rfl, Nat.le_of_ble_eq_true rfl⟩ (w := [(.long rs0), (.long rs1), (.long (x2 - rs3)), (.long rs3)]) rfl rfl fun T11 h11 X11 e11 W11 V11 => ?_
   have N11 := Fr.snoc X11 N7 (own_ong nb0_24 nb0_23 3 rfl)
   have KK11 := KK7.wr W11 (Or.inl (List.mem_of_getElem? (i := 1) rfl))
   have xb12 := own_XF_wr xb8 W11 (own_on nb0_24 0 3 rfl rfl)
   exact g_lv0 X11 K hlk hrt hR d18_76 (by decide) (by rw [e11]; exact ⟨(0 : Int32), rfl, N11, KK11, xb12, V11⟩)
  refine g_ifY X5 K 64 d18_56 (by decide) ((if0 _ _).trans (flt (fun q => hc56_6 ((lw_gt (x2 - rs3) rs2).mp q))).2.2.2) ?_
  ·
   refine g_ag X5 K e5 16 rfl pre_own_XF.2.2.2.1 d18_64 d18_65 rfl fun T13 X13 e13 => g_iconst X13 K d18_68 (z := 2) rfl (g_iloadN X13 K d18_69 rfl (g_imul X13 K d18_70 (z := (2 : Int32)) rfl (g_lloadN X13 K d18_71 rfl (g_lload X13 K d18_72 rfl (g_lsub X13 K d18_74 rfl (g_lastore X13 K e13 pre_A_rs d18_75 (by decide) 2 ⟨rfl, Nat.le_of_ble_eq_true rfl⟩ (w := [(.long rs0), (.long rs1), (.long (x2 - rs3)), (.long rs3)]) rfl rfl fun T14 h14 X14 e14 W14 V14 => ?_))))))
   have N14 := Fr.snoc X14 N2 (own_ong nb0_24 nb0_23 3 rfl)
   have KK14 := Kp0.wr W14 (Or.inl (List.mem_of_getElem? (i := 1) rfl))
   have xb15 := own_XF_wr pre_own_XF W14 (own_on nb0_24 0 3 rfl rfl)
   exact g_lv0 X14 K hlk hrt hR d18_76 (by decide) (by rw [e14]; exact ⟨vl, rfl, N14, KK14, xb15, V14⟩)
def Q19 (Z : State) (x0 : Addr) (nx : Addr) (tg : Addr) (rs : Addr) (co : Addr) (fi : Addr) (po : Addr) (di : Addr) (pa : Addr) (hp : Addr) (hn : Addr) (hq : Addr) (qu : Addr) (qd : Addr) (lw : Addr) (sk : Addr) (cu : Addr) (vi : Addr) (ac : Int64) (fc : Int64) (vl : Int32) (so : Int32) (si : Int32) (vt : Int64) (krs : ClassId) (rs0 : Int64) (rs1 : Int64) (rs2 : Int64) (rs3 : Int64) (h0 : Heap) (n0 : Nat) (v : Option Value) (h : Heap) (L : List Loc) : Prop := v = none ∧ Fr n0 L ∧ Keep h0 h [x0, rs] ∧ own_XF Z h n0 x0 nx tg rs co fi po di pa hp hn hq qu qd lw sk cu vi (2 : Int32) ac (0 : Int64) (0 : Int32) so si vt ∧ Arv Z h rs krs .long (16 : Int32) [(.long (rs0 + rs1)), (.long 0), (.long (rs2 + rs3)), (.long 0)] (.long 0)
theorem ef_19 (m : MethodId) (x0 : Addr) : entryFrame m #[(.ref x0)] 2 = mkF m 0 #[rv x0, .unset] [] := by first | (simp [entryFrame, mkF, argsToLocals, Value.category]; done) | rfl
set_option maxRecDepth 65536 in
set_option maxHeartbeats 40000000 in
theorem rm19 (l : Launch) (Z : State) (a0 : Array Value) (hw : ∀ d ∈ tables_1, d.before a0 Z = true) (x0 : Addr) {nx : Addr} {tg : Addr} {rs : Addr} {co : Addr} {fi : Addr} {po : Addr} {di : Addr} {pa : Addr} {hp : Addr} (hn : Addr) (hq : Addr) {qu : Addr} {qd : Addr} {lw : Addr} {sk : Addr} {cu : Addr} {vi : Addr} {ac : Int64} {fc : Int64} {vl : Int32} {so : Int32} {si : Int32} {vt : Int64} {krs : ClassId} {rs0 : Int64} {rs1 : Int64} {rs2 : Int64} {rs3 : Int64} (h0 : Heap) (n0 : Nat) (Z0 : n0 ≤ h0.size) (pre_own_XF : own_XF Z h0 n0 x0 nx tg rs co fi po di pa hp hn hq qu qd lw sk cu vi (2 : Int32) ac fc vl so si vt) (pre_A_rs : Arv Z h0 rs krs .long (16 : Int32) [(.long rs0), (.long rs1), (.long rs2), (.long rs3)] (.long 0)) :
    own_M l (⟨"com/example/violarc/violarc/graph/FlowNetwork", "clearFlow", "()V"⟩ : MethodName) c19 2 none ({ frames := 0, cells := 0, slots := 0, locals := 0 } : Room) #[(.ref x0)] Z h0 (Q19 Z x0 nx tg rs co fi po di pa hp hn hq qu qd lw sk cu vi ac fc vl so si vt krs rs0 rs1 rs2 rs3 h0 n0) := by
  refine MetFree.of_bodySF (plainFor_of_name pn_19) hisR ?_
  intro p e s m args below meth c s₁ Bd hml0 hP hK
  obtain ⟨rfl, hZ, hh⟩ := hP
  have hx := Bd.exec
  have hby := Bd.bytes
  have hml : c.maxLocals = 2 := hml0
  have hown : s.vm.findClass "com/example/violarc/violarc/graph/FlowNetwork" = some m.cls := findClass_of_methodNamed Bd.named
  have hnm := (name_of_methodNamed Bd.named Bd.method).1
  have X0 : Stand p l e ({ frames := 0, cells := 0, slots := 0, locals := 0 } : Room) s m #[(.ref x0)] below meth c s₁ [] 0 0 := Stand.of_body Bd
  have e0 : s₁.heap = h0 := by rw [← hh, Bd.state]; rfl
  have N0 := Fr.nil n0
  have Kp0 := Keep.refl h0 [x0, rs]
  have hlk := BodyLoose.notSynchronized Bd
  have hrt := Bd.returns
  have K : own_K p c c19 Z s "com/example/violarc/violarc/graph/FlowNetwork" m a0 := ⟨hx, hby, hZ, hown, hw⟩
  refine gStart (S' := s₁.setTop (mkF m 0 #[rv x0, uu] [])) (congrArg (fun f => s₁.setTop f) (ef_19 m x0)) fun Rp hR => ?_
  obtain ⟨nb0_0, nb0_1, nb0_2, nb0_3, nb0_4, nb0_5, nb0_6, nb0_7, nb0_8, nb0_9, nb0_10, nb0_11, nb0_12, nb0_13, nb0_14, nb0_15, nb0_16, nb0_17, nb0_18, nb0_19, nb0_20, nb0_21, nb0_22, nb0_23, nb0_24⟩ := id pre_own_XF
  refine g_iconst X0 K d19_0 (z := 0) rfl (g_istoreN X0 K d19_1 (L' := #[rv x0, iv 0]) rfl (g_iloadN X0 K d19_2 rfl (g_iconst X0 K d19_3 (z := 2) rfl (g_ag X0 K e0 91 rfl pre_own_XF.2.2.2.2.2.2.2.2.2.2.2.2.2.2.2.2.1 d19_4 d19_5 rfl fun T1 X1 e1 => g_imul X1 K d19_8 (z := (4 : Int32)) rfl (g_icN X1 K d19_9 (tlt (by decide)).2.1 (g_ag X1 K e1 16 rfl pre_own_XF.2.2.2.1 d19_12 d19_13 rfl fun T3 X3 e3 => g_iloadN X3 K d19_16 rfl (g_dup2 X3 K d19_17 rfl rfl (g_laload X3 K e3 pre_A_rs d19_18 (by decide) (v := (.long rs0)) rfl (g_ag X3 K e3 16 rfl pre_own_XF.2.2.2.1 d19_19 d19_20 rfl fun T4 X4 e4 => g_iloadN X4 K d19_23 rfl ?_)))))))))
  refine g_iconst X4 K d19_24 (z := 1) rfl (g_iadd X4 K d19_25 (z := (1 : Int32)) rfl (g_laload X4 K e4 pre_A_rs d19_26 (by decide) (v := (.long rs1)) rfl (g_ladd X4 K d19_27 rfl (g_lastore X4 K e4 pre_A_rs d19_28 (by decide) 0 ⟨rfl, Nat.le_of_ble_eq_true rfl⟩ (w := [(.long (rs0 + rs1)), (.long rs1), (.long rs2), (.long rs3)]) rfl rfl fun T5 h5 X5 e5 W5 V5 => ?_))))
  have N5 := Fr.snoc X5 N0 (own_ong nb0_24 nb0_23 3 rfl)
  have KK5 := Kp0.wr W5 (Or.inl (List.mem_of_getElem? (i := 1) rfl))
  have xb6 := own_XF_wr pre_own_XF W5 (own_on nb0_24 0 3 rfl rfl)
  refine g_ag X5 K e5 16 rfl xb6.2.2.2.1 d19_29 d19_30 rfl fun T7 X7 e7 => g_iloadN X7 K d19_33 rfl (g_iconst X7 K d19_34 (z := 1) rfl (g_iadd X7 K d19_35 (z := (1 : Int32)) rfl (g_lconst X7 K d19_36 (z := 0) rfl (g_lastore X7 K e7 V5 d19_37 (by decide) 1 ⟨rfl, Nat.le_of_ble_eq_true rfl⟩ (w := [(.long (rs0 + rs1)), (.long 0), (.long rs2), (.long rs3)]) rfl rfl fun T8 h8 X8 e8 W8 V8 => ?_))))
  have N8 := Fr.snoc X8 N5 (own_ong nb0_24 nb0_23 3 rfl)
  have KK8 := KK5.wr W8 (Or.inl (List.mem_of_getElem? (i := 1) rfl))
  refine g_iinc X8 K d19_38 rfl (L' := #[rv x0, iv 2]) rfl (g_goto X8 K 2 d19_41 (by decide) (g_iloadN X8 K d19_2 rfl (g_iconst X8 K d19_3 (z := 2) rfl ?_)))
  have xb9 := own_XF_wr xb6 W8 (own_on nb0_24 0 3 rfl rfl)
  refine g_ag X8 K e8 91 rfl xb9.2.2.2.2.2.2.2.2.2.2.2.2.2.2.2.2.1 d19_4 d19_5 rfl fun T10 X10 e10 => g_imul X10 K d19_8 (z := (4 : Int32)) rfl (g_icN X10 K d19_9 (tlt (by decide)).2.1 (g_ag X10 K e10 16 rfl xb9.2.2.2.1 d19_12 d19_13 rfl fun T12 X12 e12 => g_iloadN X12 K d19_16 rfl (g_dup2 X12 K d19_17 rfl rfl (g_laload X12 K e12 V8 d19_18 (by decide) (v := (.long rs2)) rfl (g_ag X12 K e12 16 rfl xb9.2.2.2.1 d19_19 d19_20 rfl fun T13 X13 e13 => g_iloadN X13 K d19_23 rfl (g_iconst X13 K d19_24 (z := 1) rfl (g_iadd X13 K d19_25 (z := (3 : Int32)) rfl (g_laload X13 K e13 V8 d19_26 (by decide) (v := (.long rs3)) rfl (g_ladd X13 K d19_27 rfl ?_)))))))))
  refine g_lastore X13 K e13 V8 d19_28 (by decide) 2 ⟨rfl, Nat.le_of_ble_eq_true rfl⟩ (w := [(.long (rs0 + rs1)), (.long 0), (.long (rs2 + rs3)), (.long rs3)]) rfl rfl fun T14 h14 X14 e14 W14 V14 => ?_
  have N14 := Fr.snoc X14 N8 (own_ong nb0_24 nb0_23 3 rfl)
  have KK14 := KK8.wr W14 (Or.inl (List.mem_of_getElem? (i := 1) rfl))
  have xb15 := own_XF_wr xb9 W14 (own_on nb0_24 0 3 rfl rfl)
  refine g_ag X14 K e14 16 rfl xb15.2.2.2.1 d19_29 d19_30 rfl fun T16 X16 e16 => g_iloadN X16 K d19_33 rfl (g_iconst X16 K d19_34 (z := 1) rfl (g_iadd X16 K d19_35 (z := (3 : Int32)) rfl (g_lconst X16 K d19_36 (z := 0) rfl (g_lastore X16 K e16 V14 d19_37 (by decide) 3 ⟨rfl, Nat.le_of_ble_eq_true rfl⟩ (w := [(.long (rs0 + rs1)), (.long 0), (.long (rs2 + rs3)), (.long 0)]) rfl rfl fun T17 h17 X17 e17 W17 V17 => ?_))))
  have N17 := Fr.snoc X17 N14 (own_ong nb0_24 nb0_23 3 rfl)
  have KK17 := KK14.wr W17 (Or.inl (List.mem_of_getElem? (i := 1) rfl))
  refine g_iinc X17 K d19_38 rfl (L' := #[rv x0, iv 4]) rfl (g_goto X17 K 2 d19_41 (by decide) (g_iloadN X17 K d19_2 rfl (g_iconst X17 K d19_3 (z := 2) rfl ?_)))
  have xb18 := own_XF_wr xb15 W17 (own_on nb0_24 0 3 rfl rfl)
  refine g_ag X17 K e17 91 rfl xb18.2.2.2.2.2.2.2.2.2.2.2.2.2.2.2.2.1 d19_4 d19_5 rfl fun T19 X19 e19 => g_imul X19 K d19_8 (z := (4 : Int32)) rfl (g_icY X19 K 44 d19_9 (by decide) (flt (by decide)).2.1 (g_aloadN X19 K d19_44 rfl rfl (g_lconst X19 K d19_45 (z := 0) rfl (g_putF X19 K e19 134 rfl xb18.2.2.2.2.2.2.2.2.2.2.2.2.2.2.2.2.2.2.1 xb18.1 (Or.inl (hw _ (im 135 rfl))) (hw _ (im 3 rfl)) (ty := .long) (by decide) rfl rfl d19_46 fun T21 h21 X21 e21 W21 Fw21 => ?_))))
  have N21 := Fr.snoc X21 N17 nb0_23
  have KK21 := KK17.wr W21 (Or.inl (List.mem_of_getElem? (i := 0) rfl))
  refine g_aloadN X21 K d19_49 rfl rfl (g_iconst X21 K d19_50 (z := 0) rfl ?_)
  have xb22 := own_XF_p_flowCost hw xb18 W21 Fw21
  obtain ⟨T23, h23, X23, e23, W23, st23⟩ := putFN X21 hx hZ hown (hw _ (im 97 rfl)) Via.refl e21 xb22.2.2.2.2.2.2.2.2.2.2.2.2.2.2.2.2.2.2.2.1 xb22.1 (Or.inl (hw _ (im 98 rfl))) (hw _ (im 3 rfl)) (ty := .boolean) (v' := (.int 0)) (by decide) rfl (by first | exact fits_nar_bool _ | decide | rfl) (g := (mkF m 51 #[rv x0, iv 4] [(.int 0), (.ref x0)])) rfl rfl (hb hby d19_51)
  have Fw23 := xb22.2.2.2.2.2.2.2.2.2.2.2.2.2.2.2.2.2.2.2.1.same W23
  have N23 := Fr.snoc X23 N21 nb0_23
  have KK23 := KK21.wr W23 (Or.inl (List.mem_of_getElem? (i := 0) rfl))
  refine gB (S' := T23.setTop (mkF m 54 #[rv x0, iv 4] [])) ?_ st23
  have xb24 := own_XF_p_valid hw xb22 W23 Fw23
  have q25 := ((V17.other W21 (own_on nb0_24 3 0 rfl rfl)).other W23 (own_on nb0_24 3 0 rfl rfl))
  exact g_lv0 X23 K hlk hrt hR d19_54 (by decide) (by rw [e23]; exact ⟨rfl, N23, KK23, xb24, q25⟩)
def Q22 (Z : State) (x0 : Addr) (po : Addr) (kpo : ClassId) (po0 : Int64) (po1 : Int64) (h0 : Heap) (n0 : Nat) (v : Option Value) (h : Heap) (L : List Loc) : Prop := v = some (.int 10) ∧ Fr n0 L ∧ h = h0
theorem ef_22 (m : MethodId) (x0 : Addr) : entryFrame m #[(.ref x0)] 1 = mkF m 0 #[rv x0] [] := by first | (simp [entryFrame, mkF, argsToLocals, Value.category]; done) | rfl
set_option maxRecDepth 65536 in
set_option maxHeartbeats 40000000 in
theorem rm22 (l : Launch) (Z : State) (a0 : Array Value) (hw : ∀ d ∈ tables_1, d.before a0 Z = true) (x0 : Addr) {po : Addr} {kpo : ClassId} {po0 : Int64} {po1 : Int64} (h0 : Heap) (n0 : Nat) (Z0 : n0 ≤ h0.size) (pre_F_x0_arcs : Fld Z h0 x0 "com/example/violarc/violarc/graph/FlowNetwork" "arcs" "I" (.int 2)) (pre_F_x0_potentials : Fld Z h0 x0 "com/example/violarc/violarc/graph/FlowNetwork" "potentials" "[J" (.ref po)) (pre_A_po : Arv Z h0 po kpo .long (2 : Int32) [(.long po0), (.long po1)] (.long 0)) :
    own_M l (⟨"com/example/violarc/violarc/graph/FlowNetwork", "stateSize", "()I"⟩ : MethodName) c22 1 (some .int) ({ frames := 0, cells := 0, slots := 0, locals := 0 } : Room) #[(.ref x0)] Z h0 (Q22 Z x0 po kpo po0 po1 h0 n0) := by
  refine MetFree.of_bodySF (plainFor_of_name pn_22) hisR ?_
  intro p e s m args below meth c s₁ Bd hml0 hP hK
  obtain ⟨rfl, hZ, hh⟩ := hP
  have hx := Bd.exec
  have hby := Bd.bytes
  have hml : c.maxLocals = 1 := hml0
  have hown : s.vm.findClass "com/example/violarc/violarc/graph/FlowNetwork" = some m.cls := findClass_of_methodNamed Bd.named
  have hnm := (name_of_methodNamed Bd.named Bd.method).1
  have X0 : Stand p l e ({ frames := 0, cells := 0, slots := 0, locals := 0 } : Room) s m #[(.ref x0)] below meth c s₁ [] 0 0 := Stand.of_body Bd
  have e0 : s₁.heap = h0 := by rw [← hh, Bd.state]; rfl
  have N0 := Fr.nil n0
  have Kp0 := Keep.refl h0 []
  have hlk := BodyLoose.notSynchronized Bd
  have hrt := Bd.returns
  have K : own_K p c c22 Z s "com/example/violarc/violarc/graph/FlowNetwork" m a0 := ⟨hx, hby, hZ, hown, hw⟩
  refine gStart (S' := s₁.setTop (mkF m 0 #[rv x0] [])) (congrArg (fun f => s₁.setTop f) (ef_22 m x0)) fun Rp hR => ?_
  refine g_iconst X0 K d22_0 (z := 4) rfl (g_iconst X0 K d22_1 (z := 2) rfl (g_ag X0 K e0 91 rfl pre_F_x0_arcs d22_2 d22_3 rfl fun T1 X1 e1 => g_imul X1 K d22_6 (z := (4 : Int32)) rfl (g_iadd X1 K d22_7 (z := (8 : Int32)) rfl (g_ag X1 K e1 26 rfl pre_F_x0_potentials d22_8 d22_9 rfl fun T2 X2 e2 => g_len X2 K e2 pre_A_po d22_12 (g_iadd X2 K d22_13 (z := (10 : Int32)) rfl ?_)))))
  exact g_lvI X2 K hlk hrt hR d22_14 (by decide) (by rw [e2]; exact ⟨rfl, N0, rfl⟩)
def Q21 (Z : State) (x0 : Addr) (x1 : Addr) (po : Addr) (kpo : ClassId) (po0 : Int64) (po1 : Int64) (ks : ClassId) (s0 : Int64) (s1 : Int64) (s2 : Int64) (s3 : Int64) (s4 : Int64) (s5 : Int64) (s6 : Int64) (s7 : Int64) (s8 : Int64) (s9 : Int64) (h0 : Heap) (n0 : Nat) (v : Option Value) (h : Heap) (L : List Loc) : Prop := v = none ∧ Fr n0 L ∧ h = h0
theorem ef_21 (m : MethodId) (x0 : Addr) (x1 : Addr) : entryFrame m #[(.ref x0), (.ref x1)] 2 = mkF m 0 #[rv x0, rv x1] [] := by first | (simp [entryFrame, mkF, argsToLocals, Value.category]; done) | rfl
set_option maxRecDepth 65536 in
set_option maxHeartbeats 40000000 in
theorem rm21 (l : Launch) (Z : State) (a0 : Array Value) (hw : ∀ d ∈ tables_1, d.before a0 Z = true) (x0 : Addr) {x1 : Addr} {po : Addr} {kpo : ClassId} {po0 : Int64} {po1 : Int64} {ks : ClassId} {s0 : Int64} {s1 : Int64} {s2 : Int64} {s3 : Int64} {s4 : Int64} {s5 : Int64} {s6 : Int64} {s7 : Int64} {s8 : Int64} {s9 : Int64} (h0 : Heap) (n0 : Nat) (Z0 : n0 ≤ h0.size) (pre_E_x0 : Exa Z h0 x0 "com/example/violarc/violarc/graph/FlowNetwork") (pre_F_x0_arcs : Fld Z h0 x0 "com/example/violarc/violarc/graph/FlowNetwork" "arcs" "I" (.int 2)) (pre_F_x0_potentials : Fld Z h0 x0 "com/example/violarc/violarc/graph/FlowNetwork" "potentials" "[J" (.ref po)) (pre_A_po : Arv Z h0 po kpo .long (2 : Int32) [(.long po0), (.long po1)] (.long 0)) (pre_A_x1 : Arv Z h0 x1 ks .long (10 : Int32) [(.long s0), (.long s1), (.long s2), (.long s3), (.long s4), (.long s5), (.long s6), (.long s7), (.long s8), (.long s9)] (.long 0)) :
    own_M l (⟨"com/example/violarc/violarc/graph/FlowNetwork", "checkState", "([J)V"⟩ : MethodName) c21 2 none ({ frames := 1, cells := 0, slots := 0, locals := 13 } : Room) #[(.ref x0), (.ref x1)] Z h0 (Q21 Z x0 x1 po kpo po0 po1 ks s0 s1 s2 s3 s4 s5 s6 s7 s8 s9 h0 n0) := by
  refine MetFree.of_bodySF (plainFor_of_name pn_21) hisR ?_
  intro p e s m args below meth c s₁ Bd hml0 hP hK
  obtain ⟨rfl, hZ, hh⟩ := hP
  have hx := Bd.exec
  have hby := Bd.bytes
  have hml : c.maxLocals = 2 := hml0
  have hown : s.vm.findClass "com/example/violarc/violarc/graph/FlowNetwork" = some m.cls := findClass_of_methodNamed Bd.named
  have hnm := (name_of_methodNamed Bd.named Bd.method).1
  have X0 : Stand p l e ({ frames := 1, cells := 0, slots := 0, locals := 13 } : Room) s m #[(.ref x0), (.ref x1)] below meth c s₁ [] 0 0 := Stand.of_body Bd
  have e0 : s₁.heap = h0 := by rw [← hh, Bd.state]; rfl
  have N0 := Fr.nil n0
  have Kp0 := Keep.refl h0 []
  have hlk := BodyLoose.notSynchronized Bd
  have hrt := Bd.returns
  have K : own_K p c c21 Z s "com/example/violarc/violarc/graph/FlowNetwork" m a0 := ⟨hx, hby, hZ, hown, hw⟩
  refine gStart (S' := s₁.setTop (mkF m 0 #[rv x0, rv x1] [])) (congrArg (fun f => s₁.setTop f) (ef_21 m x0 x1)) fun Rp hR => ?_
  refine g_aloadN X0 K d21_0 rfl rfl (g_len X0 K e0 pre_A_x1 d21_1 (g_aloadN X0 K d21_2 rfl rfl (g_callV X0 K e0 145 147 4 149 146 148 rfl rfl rfl rfl rfl rfl (by decide) (rm22 l Z a0 hw x0 h0 n0 Z0 pre_F_x0_arcs pre_F_x0_potentials pre_A_po) pre_E_x0 d21_3 hml.symm (argsL := []) (lenOf pd_11 rfl) rfl 1 (Nat.le_of_ble_eq_true rfl) (by decide) fun v1 T1 Lc1 hQ1 X1 => ?_)))
  obtain ⟨rfl, N1q, e1⟩ := hQ1
  have N1 := Fr.app N0 N1q
  dsimp only [Option.toList, List.cons_append, List.nil_append]
  refine g_icY X1 K 28 d21_6 (by decide) (teq (by decide)).1 ?_
  exact g_lv0 X1 K hlk hrt hR d21_28 (by decide) (by rw [e1]; exact ⟨rfl, N1, rfl⟩)
def Q20 (Z : State) (x0 : Addr) (x1 : Addr) (nx : Addr) (tg : Addr) (rs : Addr) (co : Addr) (fi : Addr) (po : Addr) (di : Addr) (pa : Addr) (hp : Addr) (hn : Addr) (hq : Addr) (qu : Addr) (qd : Addr) (lw : Addr) (sk : Addr) (cu : Addr) (vi : Addr) (ac : Int64) (fc : Int64) (vt : Int64) (krs : ClassId) (kpo : ClassId) (rs0 : Int64) (rs1 : Int64) (rs2 : Int64) (rs3 : Int64) (po0 : Int64) (po1 : Int64) (ks : ClassId) (s0 : Int64) (s1 : Int64) (s2 : Int64) (s3 : Int64) (s4 : Int64) (s5 : Int64) (s6 : Int64) (s7 : Int64) (s8 : Int64) (s9 : Int64) (h0 : Heap) (n0 : Nat) (v : Option Value) (h : Heap) (L : List Loc) : Prop := v = none ∧ Fr n0 L ∧ Keep h0 h [x1] ∧ Arv Z h x1 ks .long (10 : Int32) [(.long fc), (.long 0), (.long 0), (.long 1), (.long rs0), (.long rs1), (.long rs2), (.long rs3), (.long po0), (.long po1)] (.long 0)
theorem ef_20 (m : MethodId) (x0 : Addr) (x1 : Addr) : entryFrame m #[(.ref x0), (.ref x1)] 2 = mkF m 0 #[rv x0, rv x1] [] := by first | (simp [entryFrame, mkF, argsToLocals, Value.category]; done) | rfl
set_option maxRecDepth 65536 in
set_option maxHeartbeats 40000000 in
theorem rm20 (l : Launch) (Z : State) (a0 : Array Value) (hw : ∀ d ∈ tables_1, d.before a0 Z = true) (x0 : Addr) {x1 : Addr} {nx : Addr} {tg : Addr} {rs : Addr} {co : Addr} {fi : Addr} {po : Addr} {di : Addr} {pa : Addr} {hp : Addr} (hn : Addr) (hq : Addr) {qu : Addr} {qd : Addr} {lw : Addr} {sk : Addr} {cu : Addr} {vi : Addr} {ac : Int64} {fc : Int64} {vt : Int64} {krs : ClassId} {kpo : ClassId} {rs0 : Int64} {rs1 : Int64} {rs2 : Int64} {rs3 : Int64} {po0 : Int64} {po1 : Int64} {ks : ClassId} {s0 : Int64} {s1 : Int64} {s2 : Int64} {s3 : Int64} {s4 : Int64} {s5 : Int64} {s6 : Int64} {s7 : Int64} {s8 : Int64} {s9 : Int64} (h0 : Heap) (n0 : Nat) (Z0 : n0 ≤ h0.size) (pre_own_XF : own_XF Z h0 n0 x0 nx tg rs co fi po di pa hp hn hq qu qd lw sk cu vi (2 : Int32) ac fc (0 : Int32) (0 : Int32) (1 : Int32) vt) (pre_A_rs : Arv Z h0 rs krs .long (16 : Int32) [(.long rs0), (.long rs1), (.long rs2), (.long rs3)] (.long 0)) (pre_A_po : Arv Z h0 po kpo .long (2 : Int32) [(.long po0), (.long po1)] (.long 0)) (pre_A_x1 : Arv Z h0 x1 ks .long (10 : Int32) [(.long s0), (.long s1), (.long s2), (.long s3), (.long s4), (.long s5), (.long s6), (.long s7), (.long s8), (.long s9)] (.long 0)) (g_x1 : n0 ≤ x1) (ne_x0_x1 : x0 ≠ x1) (ne_rs_x1 : rs ≠ x1) (ne_po_x1 : po ≠ x1) :
    own_M l (⟨"com/example/violarc/violarc/graph/FlowNetwork", "saveState", "([J)V"⟩ : MethodName) c20 2 none ({ frames := 2, cells := 0, slots := 0, locals := 64 } : Room) #[(.ref x0), (.ref x1)] Z h0 (Q20 Z x0 x1 nx tg rs co fi po di pa hp hn hq qu qd lw sk cu vi ac fc vt krs kpo rs0 rs1 rs2 rs3 po0 po1 ks s0 s1 s2 s3 s4 s5 s6 s7 s8 s9 h0 n0) := by
  refine MetFree.of_bodySF (plainFor_of_name pn_20) hisR ?_
  intro p e s m args below meth c s₁ Bd hml0 hP hK
  obtain ⟨rfl, hZ, hh⟩ := hP
  have hx := Bd.exec
  have hby := Bd.bytes
  have hml : c.maxLocals = 2 := hml0
  have hown : s.vm.findClass "com/example/violarc/violarc/graph/FlowNetwork" = some m.cls := findClass_of_methodNamed Bd.named
  have hnm := (name_of_methodNamed Bd.named Bd.method).1
  have X0 : Stand p l e ({ frames := 2, cells := 0, slots := 0, locals := 64 } : Room) s m #[(.ref x0), (.ref x1)] below meth c s₁ [] 0 0 := Stand.of_body Bd
  have e0 : s₁.heap = h0 := by rw [← hh, Bd.state]; rfl
  have N0 := Fr.nil n0
  have Kp0 := Keep.refl h0 [x1]
  have hlk := BodyLoose.notSynchronized Bd
  have hrt := Bd.returns
  have K : own_K p c c20 Z s "com/example/violarc/violarc/graph/FlowNetwork" m a0 := ⟨hx, hby, hZ, hown, hw⟩
  refine gStart (S' := s₁.setTop (mkF m 0 #[rv x0, rv x1] [])) (congrArg (fun f => s₁.setTop f) (ef_20 m x0 x1)) fun Rp hR => ?_
  obtain ⟨nb0_0, nb0_1, nb0_2, nb0_3, nb0_4, nb0_5, nb0_6, nb0_7, nb0_8, nb0_9, nb0_10, nb0_11, nb0_12, nb0_13, nb0_14, nb0_15, nb0_16, nb0_17, nb0_18, nb0_19, nb0_20, nb0_21, nb0_22, nb0_23, nb0_24⟩ := id pre_own_XF
  refine g_aloadN X0 K d20_0 rfl rfl (g_aloadN X0 K d20_1 rfl rfl (g_callP X0 K e0 141 142 4 144 143 3 rfl rfl rfl rfl rfl rfl (by decide) (rm21 l Z a0 hw x0 h0 n0 Z0 pre_own_XF.1 pre_own_XF.2.2.2.2.2.2.2.2.2.2.2.2.2.2.2.2.1 pre_own_XF.2.2.2.2.2.2.1 pre_A_po pre_A_x1) pre_own_XF.1 d20_2 hml.symm (argsL := [(.ref x1)]) (lenOf pd_1 rfl) rfl 0 (Nat.le_of_ble_eq_true rfl) (by decide) fun v1 T1 Lc1 hQ1 X1 => ?_))
  obtain ⟨rfl, N1q, e1⟩ := hQ1
  have N1 := Fr.app N0 N1q
  dsimp only [Option.toList, List.cons_append, List.nil_append]
  refine g_aloadN X1 K d20_5 rfl rfl (g_iconst X1 K d20_6 (z := 0) rfl (g_ag X1 K e1 134 rfl pre_own_XF.2.2.2.2.2.2.2.2.2.2.2.2.2.2.2.2.2.2.1 d20_7 d20_8 rfl fun T2 X2 e2 => g_lastore X2 K e2 pre_A_x1 d20_11 (by decide) 0 ⟨rfl, Nat.le_of_ble_eq_true rfl⟩ (w := [(.long fc), (.long s1), (.long s2), (.long s3), (.long s4), (.long s5), (.long s6), (.long s7), (.long s8), (.long s9)]) rfl rfl fun T3 h3 X3 e3 W3 V3 => ?_))
  have N3 := Fr.snoc X3 N1 g_x1
  have KK3 := Kp0.wr W3 (Or.inl (List.mem_of_getElem? (i := 0) rfl))
  refine g_aloadN X3 K d20_12 rfl rfl (g_iconst X3 K d20_13 (z := 1) rfl ?_)
  have xb4 := own_XF_wr pre_own_XF W3 ne_x0_x1
  refine g_ag X3 K e3 97 rfl xb4.2.2.2.2.2.2.2.2.2.2.2.2.2.2.2.2.2.2.2.1 d20_14 d20_15 rfl fun T5 X5 e5 => g_ifY X5 K 25 d20_18 (by decide) ((if0 _ _).trans (teq (by decide)).1) (g_lconst X5 K d20_25 (z := 0) rfl (g_lastore X5 K e5 V3 d20_26 (by decide) 1 ⟨rfl, Nat.le_of_ble_eq_true rfl⟩ (w := [(.long fc), (.long 0), (.long s2), (.long s3), (.long s4), (.long s5), (.long s6), (.long s7), (.long s8), (.long s9)]) rfl rfl fun T7 h7 X7 e7 W7 V7 => ?_))
  have N7 := Fr.snoc X7 N3 g_x1
  have KK7 := KK3.wr W7 (Or.inl (List.mem_of_getElem? (i := 0) rfl))
  refine g_aloadN X7 K d20_27 rfl rfl (g_iconst X7 K d20_28 (z := 2) rfl ?_)
  have xb8 := own_XF_wr xb4 W7 ne_x0_x1
  refine g_ag X7 K e7 20 rfl xb8.2.2.2.2.2.2.2.2.2.2.2.2.2.2.2.2.2.2.2.2.1 d20_29 d20_30 rfl fun T9 X9 e9 => g_i2l X9 K d20_33 (z := (0 : Int64)) rfl (g_lastore X9 K e9 V7 d20_34 (by decide) 2 ⟨rfl, Nat.le_of_ble_eq_true rfl⟩ (w := [(.long fc), (.long 0), (.long 0), (.long s3), (.long s4), (.long s5), (.long s6), (.long s7), (.long s8), (.long s9)]) rfl rfl fun T10 h10 X10 e10 W10 V10 => ?_)
  have N10 := Fr.snoc X10 N7 g_x1
  have KK10 := KK7.wr W10 (Or.inl (List.mem_of_getElem? (i := 0) rfl))
  refine g_aloadN X10 K d20_35 rfl rfl (g_iconst X10 K d20_36 (z := 3) rfl ?_)
  have xb11 := own_XF_wr xb8 W10 ne_x0_x1
  refine g_ag X10 K e10 22 rfl xb11.2.2.2.2.2.2.2.2.2.2.2.2.2.2.2.2.2.2.2.2.2.1 d20_37 d20_38 rfl fun T12 X12 e12 => g_i2l X12 K d20_41 (z := (1 : Int64)) rfl (g_lastore X12 K e12 V10 d20_42 (by decide) 3 ⟨rfl, Nat.le_of_ble_eq_true rfl⟩ (w := [(.long fc), (.long 0), (.long 0), (.long 1), (.long s4), (.long s5), (.long s6), (.long s7), (.long s8), (.long s9)]) rfl rfl fun T13 h13 X13 e13 W13 V13 => ?_)
  have N13 := Fr.snoc X13 N10 g_x1
  have KK13 := KK10.wr W13 (Or.inl (List.mem_of_getElem? (i := 0) rfl))
  have xb14 := own_XF_wr xb11 W13 ne_x0_x1
  refine g_ag X13 K e13 16 rfl xb14.2.2.2.1 d20_43 d20_44 rfl fun T15 X15 e15 => g_iconst X15 K d20_47 (z := 0) rfl (g_aloadN X15 K d20_48 rfl rfl (g_iconst X15 K d20_49 (z := 4) rfl (g_iconst X15 K d20_50 (z := 2) rfl (g_ag X15 K e15 91 rfl xb14.2.2.2.2.2.2.2.2.2.2.2.2.2.2.2.2.1 d20_51 d20_52 rfl fun T16 X16 e16 => g_imul X16 K d20_55 (z := (4 : Int32)) rfl ?_))))
  have q17 := ((((pre_A_rs.other W3 ne_rs_x1).other W7 ne_rs_x1).other W10 ne_rs_x1).other W13 ne_rs_x1)
  obtain ⟨T18, h18, L18, X18, e18, N18, K18, V18, st18⟩ := cpA X16 hx hZ hown (hw _ (im 150 rfl)) (hw _ (im 153 rfl)) (hw _ (im 151 rfl)) (hw _ (im 152 rfl)) e16 q17 V13 (sp := (0 : Int32)) (dp := (4 : Int32)) (nn := (4 : Int32)) (Or.inl ⟨rfl, rfl⟩) (by first | decide | exact Nat.le_of_ble_eq_true rfl) (by first | decide | exact Nat.le_of_ble_eq_true rfl) (by first | decide | exact Nat.le_of_ble_eq_true rfl) (by first | decide | exact Nat.le_of_ble_eq_true rfl) (by first | decide | exact Nat.le_of_ble_eq_true rfl) rfl (by first | decide | exact Nat.le_of_ble_eq_true rfl) N13 g_x1 (g := (mkF m 56 #[rv x0, rv x1] [(.int 4), (.int 4), (.ref x1), (.int 0), (.ref rs)])) rfl (by rw [hml]; rfl) rfl (hb hby d20_56) (by decide) (W := 0) (by show 2 * 0 + _ ≤ _; exact Nat.le_of_eq rfl) (by decide)
  have KK18 := KK13.trans K18 (allS (Or.inl (List.mem_of_getElem? (i := 0) rfl)) all0)
  replace V18 : Arv Z h18 x1 ks .long (10 : Int32) [(.long fc), (.long 0), (.long 0), (.long 1), (.long rs0), (.long rs1), (.long rs2), (.long rs3), (.long s8), (.long s9)] (.long 0) := V18
  refine gB (S' := T18.setTop (mkF m 59 #[rv x0, rv x1] [])) ?_ st18
  have ni20 := (ninS ne_x0_x1 nin0)
  have xb19 := own_XF_keep xb14 K18 ni20
  refine g_ag X18 K e18 26 rfl xb19.2.2.2.2.2.2.1 d20_59 d20_60 rfl fun T21 X21 e21 => g_iconst X21 K d20_63 (z := 0) rfl (g_aloadN X21 K d20_64 rfl rfl (g_iconst X21 K d20_65 (z := 4) rfl (g_iconst X21 K d20_66 (z := 2) rfl (g_ag X21 K e21 91 rfl xb19.2.2.2.2.2.2.2.2.2.2.2.2.2.2.2.2.1 d20_67 d20_68 rfl fun T22 X22 e22 => g_imul X22 K d20_71 (z := (4 : Int32)) rfl (g_iadd X22 K d20_72 (z := (8 : Int32)) rfl (g_ag X22 K e22 26 rfl xb19.2.2.2.2.2.2.1 d20_73 d20_74 rfl fun T23 X23 e23 => ?_))))))
  have ks24 := (Keep.refl h13 [x1]).trans K18 (allS (Or.inl (List.mem_of_getElem? (i := 0) rfl)) all0)
  have ks25 := ((Keep.refl h10 [x1]).wr W13 (Or.inl (List.mem_of_getElem? (i := 0) rfl))).trans ks24 (own_aw _)
  have ks26 := ((Keep.refl h7 [x1]).wr W10 (Or.inl (List.mem_of_getElem? (i := 0) rfl))).trans ks25 (own_aw _)
  have ks27 := ((Keep.refl h3 [x1]).wr W7 (Or.inl (List.mem_of_getElem? (i := 0) rfl))).trans ks26 (own_aw _)
  have ks28 := ((Keep.refl h0 [x1]).wr W3 (Or.inl (List.mem_of_getElem? (i := 0) rfl))).trans ks27 (own_aw _)
  have ni29 := (ninS ne_po_x1 nin0)
  refine g_len X23 K e23 (pre_A_po.keep ks28 ni29) d20_77 ?_
  obtain ⟨T30, h30, L30, X30, e30, N30, K30, V30, st30⟩ := cpA X23 hx hZ hown (hw _ (im 150 rfl)) (hw _ (im 153 rfl)) (hw _ (im 151 rfl)) (hw _ (im 152 rfl)) e23 (pre_A_po.keep ks28 ni29) V18 (sp := (0 : Int32)) (dp := (8 : Int32)) (nn := (2 : Int32)) (Or.inl ⟨rfl, rfl⟩) (by first | decide | exact Nat.le_of_ble_eq_true rfl) (by first | decide | exact Nat.le_of_ble_eq_true rfl) (by first | decide | exact Nat.le_of_ble_eq_true rfl) (by first | decide | exact Nat.le_of_ble_eq_true rfl) (by first | decide | exact Nat.le_of_ble_eq_true rfl) rfl (by first | decide | exact Nat.le_of_ble_eq_true rfl) N18 g_x1 (g := (mkF m 78 #[rv x0, rv x1] [(.int 2), (.int 8), (.ref x1), (.int 0), (.ref po)])) rfl (by rw [hml]; rfl) rfl (hb hby d20_78) (by decide) (W := 0) (by show 2 * 0 + _ ≤ _; exact Nat.le_of_eq rfl) (by decide)
  have KK30 := KK18.trans K30 (allS (Or.inl (List.mem_of_getElem? (i := 0) rfl)) all0)
  replace V30 : Arv Z h30 x1 ks .long (10 : Int32) [(.long fc), (.long 0), (.long 0), (.long 1), (.long rs0), (.long rs1), (.long rs2), (.long rs3), (.long po0), (.long po1)] (.long 0) := V30
  refine gB (S' := T30.setTop (mkF m 81 #[rv x0, rv x1] [])) ?_ st30
  exact g_lv0 X30 K hlk hrt hR d20_81 (by decide) (by rw [e30]; exact ⟨rfl, N30, KK30, V30⟩)
def Q23 (Z : State) (x0 : Addr) (fc : Int64) (h0 : Heap) (n0 : Nat) (v : Option Value) (h : Heap) (L : List Loc) : Prop := v = some (.long fc) ∧ Fr n0 L ∧ h = h0
theorem ef_23 (m : MethodId) (x0 : Addr) : entryFrame m #[(.ref x0)] 1 = mkF m 0 #[rv x0] [] := by first | (simp [entryFrame, mkF, argsToLocals, Value.category]; done) | rfl
set_option maxRecDepth 65536 in
set_option maxHeartbeats 40000000 in
theorem rm23 (l : Launch) (Z : State) (a0 : Array Value) (hw : ∀ d ∈ tables_1, d.before a0 Z = true) (x0 : Addr) {fc : Int64} (h0 : Heap) (n0 : Nat) (Z0 : n0 ≤ h0.size) (pre_F_x0_flowCost : Fld Z h0 x0 "com/example/violarc/violarc/graph/FlowNetwork" "flowCost" "J" (.long fc)) :
    own_M l (⟨"com/example/violarc/violarc/graph/FlowNetwork", "cost", "()J"⟩ : MethodName) c23 1 (some .long) ({ frames := 0, cells := 0, slots := 0, locals := 0 } : Room) #[(.ref x0)] Z h0 (Q23 Z x0 fc h0 n0) := by
  refine MetFree.of_bodySF (plainFor_of_name pn_23) hisR ?_
  intro p e s m args below meth c s₁ Bd hml0 hP hK
  obtain ⟨rfl, hZ, hh⟩ := hP
  have hx := Bd.exec
  have hby := Bd.bytes
  have hml : c.maxLocals = 1 := hml0
  have hown : s.vm.findClass "com/example/violarc/violarc/graph/FlowNetwork" = some m.cls := findClass_of_methodNamed Bd.named
  have hnm := (name_of_methodNamed Bd.named Bd.method).1
  have X0 : Stand p l e ({ frames := 0, cells := 0, slots := 0, locals := 0 } : Room) s m #[(.ref x0)] below meth c s₁ [] 0 0 := Stand.of_body Bd
  have e0 : s₁.heap = h0 := by rw [← hh, Bd.state]; rfl
  have N0 := Fr.nil n0
  have Kp0 := Keep.refl h0 []
  have hlk := BodyLoose.notSynchronized Bd
  have hrt := Bd.returns
  have K : own_K p c c23 Z s "com/example/violarc/violarc/graph/FlowNetwork" m a0 := ⟨hx, hby, hZ, hown, hw⟩
  refine gStart (S' := s₁.setTop (mkF m 0 #[rv x0] [])) (congrArg (fun f => s₁.setTop f) (ef_23 m x0)) fun Rp hR => ?_
  refine g_ag X0 K e0 134 rfl pre_F_x0_flowCost d23_0 d23_1 rfl fun T1 X1 e1 => ?_
  exact g_lvJ X1 K hlk hrt hR d23_4 (by decide) (by rw [e1]; exact ⟨rfl, N0, rfl⟩)
def Q12 (Z : State) (x0 : Addr) (x3 : Int64) (nx : Addr) (tg : Addr) (rs : Addr) (co : Addr) (fi : Addr) (po : Addr) (di : Addr) (pa : Addr) (hp : Addr) (hn : Addr) (hq : Addr) (qu : Addr) (qd : Addr) (lw : Addr) (sk : Addr) (cu : Addr) (vi : Addr) (ar : Int32) (ac : Int64) (k0 : Int64) (k1 : Int64) (kfi : ClassId) (knx : ClassId) (ktg : ClassId) (kco : ClassId) (kpo : ClassId) (klw : ClassId) (kqu : ClassId) (kqd : ClassId) (kdi : ClassId) (kpa : ClassId) (khn : ClassId) (ksk : ClassId) (kcu : ClassId) (po0 : Int64) (po1 : Int64) (lw0 : Int32) (lw1 : Int32) (qu0 : Int32) (qu1 : Int32) (qd0 : Int32) (qd1 : Int32) (di0 : Int64) (di1 : Int64) (pa0 : Int32) (pa1 : Int32) (hn0 : Int32) (hn1 : Int32) (sk0 : Int32) (sk1 : Int32) (cu0 : Int32) (cu1 : Int32) (krs : ClassId) (khq : ClassId) (kvi : ClassId) (c0 : Int64) (c1 : Int64) (h0 : Heap) (n0 : Nat) (v : Option Value) (h : Heap) (L : List Loc) : Prop := ∃ (efc : Int64), ∃ (evt : Int64), ∃ (r0 : Int64), ∃ (r1 : Int64), ∃ (r2 : Int64), ∃ (r3 : Int64), ∃ (q0 : Int64), ∃ (q1 : Int64), ∃ (ert : Int64), v = some (.long ert) ∧ Fr n0 L ∧ Keep h0 h [x0, rs, po, lw, qu, qd, di, pa, hp, hn, hq, sk, cu, vi] ∧ own_XF Z h n0 x0 nx tg rs co fi po di pa hp hn hq qu qd lw sk cu vi ar ac efc (1 : Int32) (0 : Int32) (1 : Int32) evt ∧ Arv Z h rs krs .long (16 : Int32) [(.long r0), (.long r1), (.long r2), (.long r3)] (.long 0) ∧ Arv Z h po kpo .long (2 : Int32) [(.long q0), (.long q1)] (.long 0) ∧ (r0 + r1) = c0
theorem ef_12 (m : MethodId) (x0 : Addr) (x3 : Int64) : entryFrame m #[(.ref x0), (.int 0), (.int 1), (.long x3)] 12 = mkF m 0 #[rv x0, iv 0, iv 1, lv x3, .second, .unset, .unset, .unset, .unset, .unset, .unset, .unset] [] := by first | (simp [entryFrame, mkF, argsToLocals, Value.category]; done) | rfl
set_option maxRecDepth 65536 in
set_option maxHeartbeats 40000000 in
theorem rm12 (l : Launch) (Z : State) (a0 : Array Value) (hw : ∀ d ∈ tables_1, d.before a0 Z = true) (x0 : Addr) (x3 : Int64) {nx : Addr} {tg : Addr} {rs : Addr} {co : Addr} {fi : Addr} {po : Addr} {di : Addr} {pa : Addr} {hp : Addr} {hn : Addr} {hq : Addr} {qu : Addr} {qd : Addr} {lw : Addr} {sk : Addr} {cu : Addr} {vi : Addr} {ar : Int32} {ac : Int64} {k0 : Int64} {k1 : Int64} {kfi : ClassId} {knx : ClassId} {ktg : ClassId} {kco : ClassId} {kpo : ClassId} {klw : ClassId} {kqu : ClassId} {kqd : ClassId} {kdi : ClassId} {kpa : ClassId} {khn : ClassId} {ksk : ClassId} {kcu : ClassId} {po0 : Int64} {po1 : Int64} {lw0 : Int32} {lw1 : Int32} {qu0 : Int32} {qu1 : Int32} {qd0 : Int32} {qd1 : Int32} {di0 : Int64} {di1 : Int64} {pa0 : Int32} {pa1 : Int32} {hn0 : Int32} {hn1 : Int32} {sk0 : Int32} {sk1 : Int32} {cu0 : Int32} {cu1 : Int32} {krs : ClassId} {khq : ClassId} {kvi : ClassId} {c0 : Int64} {c1 : Int64} (h0 : Heap) (n0 : Nat) (Z0 : n0 ≤ h0.size) (pre_own_XF : own_XF Z h0 n0 x0 nx tg rs co fi po di pa hp hn hq qu qd lw sk cu vi ar ac (0 : Int64) (0 : Int32) (-1 : Int32) (-1 : Int32) (0 : Int64)) (pre_A_fi : Arv Z h0 fi kfi .int (2 : Int32) [(.int 2), (.int 3)] (.int 0)) (pre_A_nx : Arv Z h0 nx knx .int (16 : Int32) [(.int (-1)), (.int (-1)), (.int 0), (.int 1)] (.int 0)) (pre_A_tg : Arv Z h0 tg ktg .int (16 : Int32) [(.int 1), (.int 0), (.int 1), (.int 0)] (.int 0)) (pre_A_co : Arv Z h0 co kco .long (16 : Int32) [(.long k0), (.long (-k0)), (.long k1), (.long (-k1))] (.long 0)) (pre_A_rs : Arv Z h0 rs krs .long (16 : Int32) [(.long c0), (.long 0), (.long c1), (.long 0)] (.long 0)) (pre_A_po : Arv Z h0 po kpo .long (2 : Int32) [(.long po0), (.long po1)] (.long 0)) (pre_A_lw : Arv Z h0 lw klw .int (2 : Int32) [(.int lw0), (.int lw1)] (.int 0)) (pre_A_qu : Arv Z h0 qu kqu .int (2 : Int32) [(.int qu0), (.int qu1)] (.int 0)) (pre_A_qd : Arv Z h0 qd kqd .boolean (2 : Int32) [(.int qd0), (.int qd1)] (.int 0)) (pre_A_di : Arv Z h0 di kdi .long (2 : Int32) [(.long di0), (.long di1)] (.long 0)) (pre_A_pa : Arv Z h0 pa kpa .int (2 : Int32) [(.int pa0), (.int pa1)] (.int 0)) (pre_A_hn : Arv Z h0 hn khn .int (2 : Int32) [(.int hn0), (.int hn1)] (.int 0)) (pre_A_sk : Arv Z h0 sk ksk .int (2 : Int32) [(.int sk0), (.int sk1)] (.int 0)) (pre_A_cu : Arv Z h0 cu kcu .int (2 : Int32) [(.int cu0), (.int cu1)] (.int 0)) (pre_own_HP : own_HP Z h0 n0 hp di hn hq (0 : Int32)) (pre_A_hq : Arv Z h0 hq khq .int (2 : Int32) [(.int (-1)), (.int (-1))] (.int 0)) (pre_A_vi : Arv Z h0 vi kvi .long (2 : Int32) [(.long 0), (.long 0)] (.long 0)) (hA : 0 ≤ x3.toInt ∧ x3.toInt ≤ 2147483647) (hb0 : 0 ≤ c0.toInt ∧ c0.toInt ≤ 2147483647) (hb1 : 0 ≤ c1.toInt ∧ c1.toInt ≤ 2147483647) (hk0 : -2147483648 ≤ k0.toInt ∧ k0.toInt ≤ 2147483647) (hk1 : -2147483648 ≤ k1.toInt ∧ k1.toInt ≤ 2147483647) :
    own_M l (⟨"com/example/violarc/violarc/graph/FlowNetwork", "send", "(IIJ)J"⟩ : MethodName) c12 12 (some .long) ({ frames := 4, cells := 0, slots := 0, locals := 65 } : Room) #[(.ref x0), (.int 0), (.int 1), (.long x3)] Z h0 (Q12 Z x0 x3 nx tg rs co fi po di pa hp hn hq qu qd lw sk cu vi ar ac k0 k1 kfi knx ktg kco kpo klw kqu kqd kdi kpa khn ksk kcu po0 po1 lw0 lw1 qu0 qu1 qd0 qd1 di0 di1 pa0 pa1 hn0 hn1 sk0 sk1 cu0 cu1 krs khq kvi c0 c1 h0 n0) := by
  refine MetFree.of_bodySF (plainFor_of_name pn_12) hisR ?_
  intro p e s m args below meth c s₁ Bd hml0 hP hK
  obtain ⟨rfl, hZ, hh⟩ := hP
  have hx := Bd.exec
  have hby := Bd.bytes
  have hml : c.maxLocals = 12 := hml0
  have hown : s.vm.findClass "com/example/violarc/violarc/graph/FlowNetwork" = some m.cls := findClass_of_methodNamed Bd.named
  have hnm := (name_of_methodNamed Bd.named Bd.method).1
  have X0 : Stand p l e ({ frames := 4, cells := 0, slots := 0, locals := 65 } : Room) s m #[(.ref x0), (.int 0), (.int 1), (.long x3)] below meth c s₁ [] 0 0 := Stand.of_body Bd
  have e0 : s₁.heap = h0 := by rw [← hh, Bd.state]; rfl
  have N0 := Fr.nil n0
  have Kp0 := Keep.refl h0 [x0, rs, po, lw, qu, qd, di, pa, hp, hn, hq, sk, cu, vi]
  have hlk := BodyLoose.notSynchronized Bd
  have hrt := Bd.returns
  have K : own_K p c c12 Z s "com/example/violarc/violarc/graph/FlowNetwork" m a0 := ⟨hx, hby, hZ, hown, hw⟩
  refine gStart (S' := s₁.setTop (mkF m 0 #[rv x0, iv 0, iv 1, lv x3, .second, uu, uu, uu, uu, uu, uu, uu] [])) (congrArg (fun f => s₁.setTop f) (ef_12 m x0 x3)) fun Rp hR => ?_
  obtain ⟨nb0_0, nb0_1, nb0_2, nb0_3, nb0_4, nb0_5, nb0_6, nb0_7, nb0_8, nb0_9, nb0_10, nb0_11, nb0_12, nb0_13, nb0_14, nb0_15, nb0_16, nb0_17, nb0_18, nb0_19, nb0_20, nb0_21, nb0_22, nb0_23, nb0_24⟩ := id pre_own_XF
  obtain ⟨nb1_0, nb1_1, nb1_2, nb1_3, nb1_4⟩ := id pre_own_HP
  have na0 : fi ∉ [x0, po, lw, qu, qd] := own_nin nb0_24 5 rfl [0, 6, 14, 12, 13] _ rfl (by decide)
  have na1 : nx ∉ [x0, po, lw, qu, qd] := own_nin nb0_24 1 rfl [0, 6, 14, 12, 13] _ rfl (by decide)
  have na2 : tg ∉ [x0, po, lw, qu, qd] := own_nin nb0_24 2 rfl [0, 6, 14, 12, 13] _ rfl (by decide)
  have na3 : co ∉ [x0, po, lw, qu, qd] := own_nin nb0_24 4 rfl [0, 6, 14, 12, 13] _ rfl (by decide)
  have na4 : rs ∉ [x0, po, lw, qu, qd] := own_nin nb0_24 3 rfl [0, 6, 14, 12, 13] _ rfl (by decide)
  have na5 : hp ∉ [x0, po, lw, qu, qd] := own_nin nb0_24 9 rfl [0, 6, 14, 12, 13] _ rfl (by decide)
  have na6 : hn ∉ [x0, po, lw, qu, qd] := own_nin nb0_24 10 rfl [0, 6, 14, 12, 13] _ rfl (by decide)
  have na7 : hq ∉ [x0, po, lw, qu, qd] := own_nin nb0_24 11 rfl [0, 6, 14, 12, 13] _ rfl (by decide)
  have na8 : di ∉ [x0, po, lw, qu, qd] := own_nin nb0_24 7 rfl [0, 6, 14, 12, 13] _ rfl (by decide)
  have na9 : pa ∉ [x0, po, lw, qu, qd] := own_nin nb0_24 8 rfl [0, 6, 14, 12, 13] _ rfl (by decide)
  have na10 : x0 ∉ [di, pa, hp, hn, hq] := own_nin nb0_24 0 rfl [7, 8, 9, 10, 11] _ rfl (by decide)
  have na11 : rs ∉ [di, pa, hp, hn, hq] := own_nin nb0_24 3 rfl [7, 8, 9, 10, 11] _ rfl (by decide)
  have na12 : po ∉ [di, pa, hp, hn, hq] := own_nin nb0_24 6 rfl [7, 8, 9, 10, 11] _ rfl (by decide)
  have na13 : x0 ∉ [po] := own_nin nb0_24 0 rfl [6] _ rfl (by decide)
  have na14 : fi ∉ [di, pa, hp, hn, hq] := own_nin nb0_24 5 rfl [7, 8, 9, 10, 11] _ rfl (by decide)
  have na15 : fi ∉ [po] := own_nin nb0_24 5 rfl [6] _ rfl (by decide)
  have na16 : nx ∉ [di, pa, hp, hn, hq] := own_nin nb0_24 1 rfl [7, 8, 9, 10, 11] _ rfl (by decide)
  have na17 : nx ∉ [po] := own_nin nb0_24 1 rfl [6] _ rfl (by decide)
  have na18 : tg ∉ [di, pa, hp, hn, hq] := own_nin nb0_24 2 rfl [7, 8, 9, 10, 11] _ rfl (by decide)
  have na19 : tg ∉ [po] := own_nin nb0_24 2 rfl [6] _ rfl (by decide)
  have na20 : co ∉ [di, pa, hp, hn, hq] := own_nin nb0_24 4 rfl [7, 8, 9, 10, 11] _ rfl (by decide)
  have na21 : co ∉ [po] := own_nin nb0_24 4 rfl [6] _ rfl (by decide)
  have na22 : rs ∉ [po] := own_nin nb0_24 3 rfl [6] _ rfl (by decide)
  have na23 : sk ∉ [x0, po, lw, qu, qd] := own_nin nb0_24 15 rfl [0, 6, 14, 12, 13] _ rfl (by decide)
  have na24 : sk ∉ [di, pa, hp, hn, hq] := own_nin nb0_24 15 rfl [7, 8, 9, 10, 11] _ rfl (by decide)
  have na25 : sk ∉ [po] := own_nin nb0_24 15 rfl [6] _ rfl (by decide)
  have na26 : vi ∉ [x0, po, lw, qu, qd] := own_nin nb0_24 17 rfl [0, 6, 14, 12, 13] _ rfl (by decide)
  have na27 : vi ∉ [di, pa, hp, hn, hq] := own_nin nb0_24 17 rfl [7, 8, 9, 10, 11] _ rfl (by decide)
  have na28 : vi ∉ [po] := own_nin nb0_24 17 rfl [6] _ rfl (by decide)
  have na29 : cu ∉ [x0, po, lw, qu, qd] := own_nin nb0_24 16 rfl [0, 6, 14, 12, 13] _ rfl (by decide)
  have na30 : cu ∉ [di, pa, hp, hn, hq] := own_nin nb0_24 16 rfl [7, 8, 9, 10, 11] _ rfl (by decide)
  have na31 : cu ∉ [po] := own_nin nb0_24 16 rfl [6] _ rfl (by decide)
  have na32 : pa ∉ [po] := own_nin nb0_24 8 rfl [6] _ rfl (by decide)
  have na33 : rs ∉ [x0, sk, vi, cu, pa] := own_nin nb0_24 3 rfl [0, 15, 17, 16, 8] _ rfl (by decide)
  have na34 : tg ∉ [x0, sk, vi, cu, pa] := own_nin nb0_24 2 rfl [0, 15, 17, 16, 8] _ rfl (by decide)
  have na35 : co ∉ [x0, sk, vi, cu, pa] := own_nin nb0_24 4 rfl [0, 15, 17, 16, 8] _ rfl (by decide)
  have na36 : pa ∉ [x0, rs] := own_nin nb0_24 8 rfl [0, 3] _ rfl (by decide)
  have na37 : tg ∉ [x0, rs] := own_nin nb0_24 2 rfl [0, 3] _ rfl (by decide)
  have na38 : fi ∉ [x0, sk, vi, cu, pa] := own_nin nb0_24 5 rfl [0, 15, 17, 16, 8] _ rfl (by decide)
  have na39 : fi ∉ [x0, rs] := own_nin nb0_24 5 rfl [0, 3] _ rfl (by decide)
  have na40 : nx ∉ [x0, sk, vi, cu, pa] := own_nin nb0_24 1 rfl [0, 15, 17, 16, 8] _ rfl (by decide)
  have na41 : nx ∉ [x0, rs] := own_nin nb0_24 1 rfl [0, 3] _ rfl (by decide)
  have na42 : co ∉ [x0, rs] := own_nin nb0_24 4 rfl [0, 3] _ rfl (by decide)
  have na43 : po ∉ [x0, sk, vi, cu, pa] := own_nin nb0_24 6 rfl [0, 15, 17, 16, 8] _ rfl (by decide)
  have na44 : po ∉ [x0, rs] := own_nin nb0_24 6 rfl [0, 3] _ rfl (by decide)
  have na45 : sk ∉ [x0, rs] := own_nin nb0_24 15 rfl [0, 3] _ rfl (by decide)
  have na46 : vi ∉ [x0, rs] := own_nin nb0_24 17 rfl [0, 3] _ rfl (by decide)
  have na47 : cu ∉ [x0, rs] := own_nin nb0_24 16 rfl [0, 3] _ rfl (by decide)
  have na48 : hp ∉ [po] := own_nin nb0_24 9 rfl [6] _ rfl (by decide)
  have na49 : hp ∉ [x0, sk, vi, cu, pa] := own_nin nb0_24 9 rfl [0, 15, 17, 16, 8] _ rfl (by decide)
  have na50 : hp ∉ [x0, rs] := own_nin nb0_24 9 rfl [0, 3] _ rfl (by decide)
  have na51 : hn ∉ [po] := own_nin nb0_24 10 rfl [6] _ rfl (by decide)
  have na52 : hn ∉ [x0, sk, vi, cu, pa] := own_nin nb0_24 10 rfl [0, 15, 17, 16, 8] _ rfl (by decide)
  have na53 : hn ∉ [x0, rs] := own_nin nb0_24 10 rfl [0, 3] _ rfl (by decide)
  have na54 : hq ∉ [po] := own_nin nb0_24 11 rfl [6] _ rfl (by decide)
  have na55 : hq ∉ [x0, sk, vi, cu, pa] := own_nin nb0_24 11 rfl [0, 15, 17, 16, 8] _ rfl (by decide)
  have na56 : hq ∉ [x0, rs] := own_nin nb0_24 11 rfl [0, 3] _ rfl (by decide)
  have na57 : di ∉ [po] := own_nin nb0_24 7 rfl [6] _ rfl (by decide)
  have na58 : di ∉ [x0, sk, vi, cu, pa] := own_nin nb0_24 7 rfl [0, 15, 17, 16, 8] _ rfl (by decide)
  have na59 : di ∉ [x0, rs] := own_nin nb0_24 7 rfl [0, 3] _ rfl (by decide)
  refine g_aloadN X0 K d12_0 rfl rfl (g_iloadN X0 K d12_1 rfl (g_callP X0 K e0 70 71 4 73 72 3 rfl rfl rfl rfl rfl rfl (by decide) (rmckn0 l Z a0 hw x0 h0 n0 Z0 pre_own_XF.2.2.2.2.2.1 pre_A_fi) pre_own_XF.1 d12_2 hml.symm (argsL := [(.int 0)]) (lenOf pd_3 rfl) rfl 0 (Nat.le_of_ble_eq_true rfl) (by decide) fun v1 T1 Lc1 hQ1 X1 => ?_))
  obtain ⟨rfl, N1q, e1⟩ := hQ1
  have N1 := Fr.app N0 N1q
  dsimp only [Option.toList, List.cons_append, List.nil_append]
  refine g_aloadN X1 K d12_5 rfl rfl (g_iloadN X1 K d12_6 rfl (g_callP X1 K e1 70 71 4 73 72 3 rfl rfl rfl rfl rfl rfl (by decide) (rmckn1 l Z a0 hw x0 h0 n0 Z0 pre_own_XF.2.2.2.2.2.1 pre_A_fi) pre_own_XF.1 d12_7 hml.symm (argsL := [(.int 1)]) (lenOf pd_3 rfl) rfl 0 (Nat.le_of_ble_eq_true rfl) (by decide) fun v2 T2 Lc2 hQ2 X2 => ?_))
  obtain ⟨rfl, N2q, e2⟩ := hQ2
  have N2 := Fr.app N1 N2q
  dsimp only [Option.toList, List.cons_append, List.nil_append]
  refine g_iloadN X2 K d12_10 rfl (g_iloadN X2 K d12_11 rfl (g_icN X2 K d12_12 (feq (by decide)).1 (g_lloadN X2 K d12_15 rfl (g_lconst X2 K d12_16 (z := 0) rfl (g_lcmp X2 K d12_17 rfl ?_)))))
  have hc18_4 : ¬ (x3 < (0 : Int64)) := own_nneg hA
  refine g_ifY X2 K 29 d12_18 (by decide) ((if0 _ _).trans (flt (fun q => hc18_4 ((lw_lt x3 (0 : Int64)).mp q))).2.1) (g_iloadN X2 K d12_29 rfl (g_ag X2 K e2 20 rfl pre_own_XF.2.2.2.2.2.2.2.2.2.2.2.2.2.2.2.2.2.2.2.2.1 d12_30 d12_31 rfl fun T5 X5 e5 => g_icY X5 K 45 d12_34 (by decide) (feq (by decide)).2 (g_aloadN X5 K d12_45 rfl rfl (g_iconst X5 K d12_46 (z := 0) rfl ?_))))
  obtain ⟨T7, h7, X7, e7, W7, st7⟩ := putFN X5 hx hZ hown (hw _ (im 97 rfl)) Via.refl e5 pre_own_XF.2.2.2.2.2.2.2.2.2.2.2.2.2.2.2.2.2.2.2.1 pre_own_XF.1 (Or.inl (hw _ (im 98 rfl))) (hw _ (im 3 rfl)) (ty := .boolean) (v' := (.int 0)) (by decide) rfl (by first | exact fits_nar_bool _ | decide | rfl) (g := (mkF m 47 #[rv x0, iv 0, iv 1, lv x3, .second, uu, uu, uu, uu, uu, uu, uu] [(.int 0), (.ref x0)])) rfl rfl (hb hby d12_47)
  have Fw7 := pre_own_XF.2.2.2.2.2.2.2.2.2.2.2.2.2.2.2.2.2.2.2.1.same W7
  have N7 := Fr.snoc X7 N2 nb0_23
  have KK7 := Kp0.wr W7 (Or.inl (List.mem_of_getElem? (i := 0) rfl))
  refine gB (S' := T7.setTop (mkF m 50 #[rv x0, iv 0, iv 1, lv x3, .second, uu, uu, uu, uu, uu, uu, uu] [])) ?_ st7
  refine g_aloadN X7 K d12_50 rfl rfl (g_iloadN X7 K d12_51 rfl ?_)
  have xb8 := own_XF_p_valid hw pre_own_XF W7 Fw7
  refine g_putF X7 K e7 20 rfl xb8.2.2.2.2.2.2.2.2.2.2.2.2.2.2.2.2.2.2.2.2.1 xb8.1 (Or.inl (hw _ (im 21 rfl))) (hw _ (im 3 rfl)) (ty := .int) (by decide) rfl rfl d12_52 fun T9 h9 X9 e9 W9 Fw9 => ?_
  have N9 := Fr.snoc X9 N7 nb0_23
  have KK9 := KK7.wr W9 (Or.inl (List.mem_of_getElem? (i := 0) rfl))
  refine g_aloadN X9 K d12_55 rfl rfl (g_iloadN X9 K d12_56 rfl ?_)
  have xb10 := own_XF_p_source hw xb8 W9 Fw9
  refine g_putF X9 K e9 22 rfl xb10.2.2.2.2.2.2.2.2.2.2.2.2.2.2.2.2.2.2.2.2.2.1 xb10.1 (Or.inl (hw _ (im 23 rfl))) (hw _ (im 3 rfl)) (ty := .int) (by decide) rfl rfl d12_57 fun T11 h11 X11 e11 W11 Fw11 => ?_
  have N11 := Fr.snoc X11 N9 nb0_23
  have KK11 := KK9.wr W11 (Or.inl (List.mem_of_getElem? (i := 0) rfl))
  refine g_aloadN X11 K d12_60 rfl rfl ?_
  have xb12 := own_XF_p_sink hw xb10 W11 Fw11
  have q13 := (((pre_A_fi.other W7 (own_on nb0_24 5 0 rfl rfl)).other W9 (own_on nb0_24 5 0 rfl rfl)).other W11 (own_on nb0_24 5 0 rfl rfl))
  have q14 := (((pre_A_nx.other W7 (own_on nb0_24 1 0 rfl rfl)).other W9 (own_on nb0_24 1 0 rfl rfl)).other W11 (own_on nb0_24 1 0 rfl rfl))
  have q15 := (((pre_A_tg.other W7 (own_on nb0_24 2 0 rfl rfl)).other W9 (own_on nb0_24 2 0 rfl rfl)).other W11 (own_on nb0_24 2 0 rfl rfl))
  have q16 := (((pre_A_co.other W7 (own_on nb0_24 4 0 rfl rfl)).other W9 (own_on nb0_24 4 0 rfl rfl)).other W11 (own_on nb0_24 4 0 rfl rfl))
  have q17 := (((pre_A_rs.other W7 (own_on nb0_24 3 0 rfl rfl)).other W9 (own_on nb0_24 3 0 rfl rfl)).other W11 (own_on nb0_24 3 0 rfl rfl))
  have q18 := (((pre_A_po.other W7 (own_on nb0_24 6 0 rfl rfl)).other W9 (own_on nb0_24 6 0 rfl rfl)).other W11 (own_on nb0_24 6 0 rfl rfl))
  have q19 := (((pre_A_lw.other W7 (own_on nb0_24 14 0 rfl rfl)).other W9 (own_on nb0_24 14 0 rfl rfl)).other W11 (own_on nb0_24 14 0 rfl rfl))
  have q20 := (((pre_A_qu.other W7 (own_on nb0_24 12 0 rfl rfl)).other W9 (own_on nb0_24 12 0 rfl rfl)).other W11 (own_on nb0_24 12 0 rfl rfl))
  have q21 := (((pre_A_qd.other W7 (own_on nb0_24 13 0 rfl rfl)).other W9 (own_on nb0_24 13 0 rfl rfl)).other W11 (own_on nb0_24 13 0 rfl rfl))
  refine g_callP X11 K e11 104 105 4 107 106 3 rfl rfl rfl rfl rfl rfl (by decide) (rm13 l Z a0 hw x0 hn hq h11 n0 (Nat.le_trans Z0 KK11.1) xb12 q13 q14 q15 q16 q17 q18 q19 q20 q21 (hk0) (hk1)) xb12.1 d12_61 hml.symm (argsL := []) (lenOf pd_9 rfl) rfl 0 (Nat.le_of_ble_eq_true rfl) (by decide) fun v22 T22 Lc22 hQ22 X22 => ?_
  obtain ⟨pp_22, rfl, N22q, K22, rb22, r22_1, r22_2⟩ := hQ22
  have N22 := Fr.app N11 N22q
  have KK22 := KK11.trans K22 (own_al [0, 2, 3, 4, 5] rfl)
  dsimp only [Option.toList, List.cons_append, List.nil_append]
  refine g_lconst X22 K d12_64 (z := 0) rfl (g_lstore X22 K d12_65 (L' := #[rv x0, iv 0, iv 1, lv x3, .second, lv 0, .second, uu, uu, uu, uu, uu]) rfl ?_)
  by_cases hA1 : (0 : Int64) < x3
  ·
   by_cases z2 : c1 = (0 : Int64)
   ·
    by_cases z0 : c0 = (0 : Int64)
    ·
     refine g_lload X22 K d12_67 rfl (g_lloadN X22 K d12_69 rfl (g_lcmp X22 K d12_70 rfl ?_))
     have hc71_23 : (0 : Int64) < x3 := hA1
     refine g_ifN X22 K d12_71 ((if0 _ _).trans (tlt ((lw_lt (0 : Int64) x3).mpr hc71_23)).2.1) (g_aloadN X22 K d12_74 rfl rfl (g_iloadN X22 K d12_75 rfl (g_iconst X22 K d12_76 (z := 1) rfl ?_)))
     have q24 := (q13.keep K22 na0)
     have q25 := (q14.keep K22 na1)
     have q26 := (q15.keep K22 na2)
     have q27 := (q16.keep K22 na3)
     have q28 := (q17.keep K22 na4)
     have q29 := ((((nb1_0.wr W7).wr W9).wr W11).keep K22)
     have q30 := ((((nb1_1.other W7 (Or.inl (own_on nb0_24 9 0 rfl rfl))).other W9 (Or.inl (own_on nb0_24 9 0 rfl rfl))).other W11 (Or.inl (own_on nb0_24 9 0 rfl rfl))).keep K22 na5)
     have q31 := ((((nb1_2.other W7 (Or.inl (own_on nb0_24 9 0 rfl rfl))).other W9 (Or.inl (own_on nb0_24 9 0 rfl rfl))).other W11 (Or.inl (own_on nb0_24 9 0 rfl rfl))).keep K22 na5)
     have q32 := ((((nb1_3.other W7 (Or.inl (own_on nb0_24 9 0 rfl rfl))).other W9 (Or.inl (own_on nb0_24 9 0 rfl rfl))).other W11 (Or.inl (own_on nb0_24 9 0 rfl rfl))).keep K22 na5)
     have q33 := ((((nb1_4.other W7 (Or.inl (own_on nb0_24 9 0 rfl rfl))).other W9 (Or.inl (own_on nb0_24 9 0 rfl rfl))).other W11 (Or.inl (own_on nb0_24 9 0 rfl rfl))).keep K22 na5)
     have q34 := ((((pre_A_hn.other W7 (own_on nb0_24 10 0 rfl rfl)).other W9 (own_on nb0_24 10 0 rfl rfl)).other W11 (own_on nb0_24 10 0 rfl rfl)).keep K22 na6)
     have q35 := ((((pre_A_hq.other W7 (own_on nb0_24 11 0 rfl rfl)).other W9 (own_on nb0_24 11 0 rfl rfl)).other W11 (own_on nb0_24 11 0 rfl rfl)).keep K22 na7)
     have q36 := ((((pre_A_di.other W7 (own_on nb0_24 7 0 rfl rfl)).other W9 (own_on nb0_24 7 0 rfl rfl)).other W11 (own_on nb0_24 7 0 rfl rfl)).keep K22 na8)
     have q37 := ((((pre_A_pa.other W7 (own_on nb0_24 8 0 rfl rfl)).other W9 (own_on nb0_24 8 0 rfl rfl)).other W11 (own_on nb0_24 8 0 rfl rfl)).keep K22 na9)
     refine g_callP X22 K rfl 159 160 4 162 161 3 rfl rfl rfl rfl rfl rfl (by decide) (rmsrM l Z a0 hw x0 T22.heap n0 (Nat.le_trans Z0 KK22.1) rb22 q24 q25 q26 q27 q28 r22_1 ⟨q29, q30, q31, q32, q33⟩ q34 q35 q36 q37 (z2) (z0)) rb22.1 d12_77 hml.symm (argsL := [(.int 0), (.int 1)]) (lenOf pd_12 rfl) rfl 0 (Nat.le_of_ble_eq_true rfl) (by decide) fun v38 T38 Lc38 hQ38 X38 => ?_
     obtain ⟨e0_38, e1_38, e2_38, e3_38, rfl, N38q, K38, r38_0, r38_1, ⟨r38_2_0, r38_2_1, r38_2_2, r38_2_3, r38_2_4⟩, r38_3, r38_4⟩ := hQ38
     have N38 := Fr.app N22 N38q
     have KK38 := KK22.trans K38 (own_al [6, 7, 8, 9, 10] rfl)
     dsimp only [Option.toList, List.cons_append, List.nil_append]
     have xb39 := own_XF_keep rb22 K38 na10
     refine g_ag X38 K rfl 28 rfl xb39.2.2.2.2.2.2.2.1 d12_80 d12_81 rfl fun T40 X40 e40 => g_iloadN X40 K d12_84 rfl (g_laload X40 K e40 r38_0 d12_85 (by decide) (v := (.long 9223372036854775807)) rfl (g_lstore X40 K d12_86 (L' := #[rv x0, iv 0, iv 1, lv x3, .second, lv 0, .second, lv 9223372036854775807, .second, uu, uu, uu]) rfl (g_lload X40 K d12_88 rfl (g_ldc2 X40 K 163 rfl d12_90 (z := (9223372036854775807 : Int64)) rfl (g_lcmp X40 K d12_93 (z := (0 : Int32)) rfl (g_ifN X40 K d12_94 ((if0 _ _).trans (teq (by decide)).2) (g_goto X40 K 223 d12_97 (by decide) (g_lload X40 K d12_223 rfl ?_))))))))
     have q42 := (q28.keep K38 na11)
     have q43 := (r22_1.keep K38 na12)
     exact g_lvJ X40 K hlk hrt hR d12_225 (by decide) (by rw [e40]; exact ⟨(0 : Int64), (0 : Int64), c0, (0 : Int64), c1, (0 : Int64), (0 : Int64), pp_22, (0 : Int64), rfl, N38, KK38, xb39, q42, q43, (own_p0 c0)⟩)
    ·
     have p0 := own_pos hb0 z0
     refine g_lload X22 K d12_67 rfl (g_lloadN X22 K d12_69 rfl (g_lcmp X22 K d12_70 rfl ?_))
     have hc71_44 : (0 : Int64) < x3 := hA1
     refine g_ifN X22 K d12_71 ((if0 _ _).trans (tlt ((lw_lt (0 : Int64) x3).mpr hc71_44)).2.1) (g_aloadN X22 K d12_74 rfl rfl (g_iloadN X22 K d12_75 rfl (g_iconst X22 K d12_76 (z := 1) rfl ?_)))
     have q45 := (q13.keep K22 na0)
     have q46 := (q14.keep K22 na1)
     have q47 := (q15.keep K22 na2)
     have q48 := (q16.keep K22 na3)
     have q49 := (q17.keep K22 na4)
     have q50 := ((((nb1_0.wr W7).wr W9).wr W11).keep K22)
     have q51 := ((((nb1_1.other W7 (Or.inl (own_on nb0_24 9 0 rfl rfl))).other W9 (Or.inl (own_on nb0_24 9 0 rfl rfl))).other W11 (Or.inl (own_on nb0_24 9 0 rfl rfl))).keep K22 na5)
     have q52 := ((((nb1_2.other W7 (Or.inl (own_on nb0_24 9 0 rfl rfl))).other W9 (Or.inl (own_on nb0_24 9 0 rfl rfl))).other W11 (Or.inl (own_on nb0_24 9 0 rfl rfl))).keep K22 na5)
     have q53 := ((((nb1_3.other W7 (Or.inl (own_on nb0_24 9 0 rfl rfl))).other W9 (Or.inl (own_on nb0_24 9 0 rfl rfl))).other W11 (Or.inl (own_on nb0_24 9 0 rfl rfl))).keep K22 na5)
     have q54 := ((((nb1_4.other W7 (Or.inl (own_on nb0_24 9 0 rfl rfl))).other W9 (Or.inl (own_on nb0_24 9 0 rfl rfl))).other W11 (Or.inl (own_on nb0_24 9 0 rfl rfl))).keep K22 na5)
     have q55 := ((((pre_A_hn.other W7 (own_on nb0_24 10 0 rfl rfl)).other W9 (own_on nb0_24 10 0 rfl rfl)).other W11 (own_on nb0_24 10 0 rfl rfl)).keep K22 na6)
     have q56 := ((((pre_A_hq.other W7 (own_on nb0_24 11 0 rfl rfl)).other W9 (own_on nb0_24 11 0 rfl rfl)).other W11 (own_on nb0_24 11 0 rfl rfl)).keep K22 na7)
     have q57 := ((((pre_A_di.other W7 (own_on nb0_24 7 0 rfl rfl)).other W9 (own_on nb0_24 7 0 rfl rfl)).other W11 (own_on nb0_24 7 0 rfl rfl)).keep K22 na8)
     have q58 := ((((pre_A_pa.other W7 (own_on nb0_24 8 0 rfl rfl)).other W9 (own_on nb0_24 8 0 rfl rfl)).other W11 (own_on nb0_24 8 0 rfl rfl)).keep K22 na9)
     refine g_callP X22 K rfl 159 160 4 162 161 3 rfl rfl rfl rfl rfl rfl (by decide) (rmsr0 l Z a0 hw x0 T22.heap n0 (Nat.le_trans Z0 KK22.1) rb22 q45 q46 q47 q48 q49 r22_1 ⟨q50, q51, q52, q53, q54⟩ q55 q56 q57 q58 (z2) (own_ne0 p0) (own_yb hk0 r22_2.1) (fun q => absurd rfl q) (fun q => absurd rfl q)) rb22.1 d12_77 hml.symm (argsL := [(.int 0), (.int 1)]) (lenOf pd_12 rfl) rfl 0 (Nat.le_of_ble_eq_true rfl) (by decide) fun v59 T59 Lc59 hQ59 X59 => ?_
     obtain ⟨e0_59, e1_59, e2_59, e3_59, rfl, N59q, K59, r59_0, r59_1, ⟨r59_2_0, r59_2_1, r59_2_2, r59_2_3, r59_2_4⟩, r59_3, r59_4⟩ := hQ59
     have N59 := Fr.app N22 N59q
     have KK59 := KK22.trans K59 (own_al [6, 7, 8, 9, 10] rfl)
     dsimp only [Option.toList, List.cons_append, List.nil_append]
     have xb60 := own_XF_keep rb22 K59 na10
     refine g_ag X59 K rfl 28 rfl xb60.2.2.2.2.2.2.2.1 d12_80 d12_81 rfl fun T61 X61 e61 => g_iloadN X61 K d12_84 rfl (g_laload X61 K e61 r59_0 d12_85 (by decide) (v := (.long ((0 : Int64) + ((k0 + (0 : Int64)) - pp_22)))) rfl (g_lstore X61 K d12_86 (L' := #[rv x0, iv 0, iv 1, lv x3, .second, lv 0, .second, lv ((0 : Int64) + ((k0 + (0 : Int64)) - pp_22)), .second, uu, uu, uu]) rfl (g_lload X61 K d12_88 rfl (g_ldc2 X61 K 163 rfl d12_90 (z := (9223372036854775807 : Int64)) rfl (g_lcmp X61 K d12_93 rfl ?_)))))
     have hc94_62 : ¬ (((0 : Int64) + ((k0 + (0 : Int64)) - pp_22)) = (9223372036854775807 : Int64)) := own_neM (own_yb hk0 r22_2.1)
     refine g_ifY X61 K 100 d12_94 (by decide) ((if0 _ _).trans (feq (fun q => hc94_62 ((lw_eq ((0 : Int64) + ((k0 + (0 : Int64)) - pp_22)) (9223372036854775807 : Int64)).mp q))).2) (g_aloadN X61 K d12_100 rfl rfl (g_lload X61 K d12_101 rfl ?_))
     have q63 := (r22_1.keep K59 na12)
     refine g_callP X61 K e61 194 195 4 197 196 3 rfl rfl rfl rfl rfl rfl (by decide) (rm31 l Z a0 hw x0 hn hq k0 T59.heap n0 (Nat.le_trans Z0 KK59.1) xb60 q63 r59_0 (own_hD hk0 r22_2.1 (r22_2.2.2 p0)) (own_hnp _ _) (own_hmax hk0)) xb60.1 d12_103 hml.symm (argsL := [(.long ((0 : Int64) + ((k0 + (0 : Int64)) - pp_22)))]) (lenOf pd_4 rfl) rfl 0 (Nat.le_of_ble_eq_true rfl) (by decide) fun v64 T64 Lc64 hQ64 X64 => ?_
     obtain ⟨rfl, N64q, K64, r64_0⟩ := hQ64
     have N64 := Fr.app N59 N64q
     have KK64 := KK59.trans K64 (own_al [2] rfl)
     dsimp only [Option.toList, List.cons_append, List.nil_append]
     refine g_lload X64 K d12_106 rfl (g_lloadN X64 K d12_108 rfl (g_lcmp X64 K d12_109 rfl ?_))
     have hc110_65 : (0 : Int64) < x3 := hA1
     refine g_ifN X64 K d12_110 ((if0 _ _).trans (tlt ((lw_lt (0 : Int64) x3).mpr hc110_65)).2.1) (g_aloadN X64 K d12_113 rfl rfl (g_iloadN X64 K d12_114 rfl (g_iloadN X64 K d12_115 rfl ?_)))
     have xb66 := own_XF_keep xb60 K64 na13
     have q67 := ((q45.keep K59 na14).keep K64 na15)
     have q68 := ((q46.keep K59 na16).keep K64 na17)
     have q69 := ((q47.keep K59 na18).keep K64 na19)
     have q70 := ((q48.keep K59 na20).keep K64 na21)
     have q71 := ((q49.keep K59 na11).keep K64 na22)
     have q72 := ((((((pre_A_sk.other W7 (own_on nb0_24 15 0 rfl rfl)).other W9 (own_on nb0_24 15 0 rfl rfl)).other W11 (own_on nb0_24 15 0 rfl rfl)).keep K22 na23).keep K59 na24).keep K64 na25)
     have q73 := ((((((pre_A_vi.other W7 (own_on nb0_24 17 0 rfl rfl)).other W9 (own_on nb0_24 17 0 rfl rfl)).other W11 (own_on nb0_24 17 0 rfl rfl)).keep K22 na26).keep K59 na27).keep K64 na28)
     have q74 := ((((((pre_A_cu.other W7 (own_on nb0_24 16 0 rfl rfl)).other W9 (own_on nb0_24 16 0 rfl rfl)).other W11 (own_on nb0_24 16 0 rfl rfl)).keep K22 na29).keep K59 na30).keep K64 na31)
     have q75 := (r59_1.keep K64 na32)
     refine g_callP X64 K rfl 201 202 4 204 203 3 rfl rfl rfl rfl rfl rfl (by decide) (rmwk0 l Z a0 hw x0 hn hq T64.heap n0 (Nat.le_trans Z0 KK64.1) xb66 q67 q68 q69 q70 q71 r64_0 q72 q73 q74 q75 (by decide) (fun q => absurd q (own_nlt z2)) (p0) (own_rc k0)) xb66.1 d12_116 hml.symm (argsL := [(.int 0), (.int 1)]) (lenOf pd_13 rfl) rfl 0 (Nat.le_of_ble_eq_true rfl) (by decide) fun v76 T76 Lc76 hQ76 X76 => ?_
     obtain ⟨e0_76, e1_76, e2_76, e3_76, rfl, N76q, K76, rb76, r76_1, r76_2, r76_3, r76_4⟩ := hQ76
     have N76 := Fr.app N64 N76q
     have KK76 := KK64.trans K76 (own_al [0, 11, 13, 12, 7] rfl)
     dsimp only [Option.toList, List.cons_append, List.nil_append]
     refine g_ifN X76 K d12_119 ((if0 _ _).trans (feq (by decide)).1) (g_lloadN X76 K d12_122 rfl (g_lload X76 K d12_123 rfl (g_lsub X76 K d12_125 rfl (g_lstore X76 K d12_126 (L' := #[rv x0, iv 0, iv 1, lv x3, .second, lv 0, .second, lv ((0 : Int64) + ((k0 + (0 : Int64)) - pp_22)), .second, lv (x3 - (0 : Int64)), .second, uu]) rfl (g_iloadN X76 K d12_128 rfl (g_istore X76 K d12_129 (L' := #[rv x0, iv 0, iv 1, lv x3, .second, lv 0, .second, lv ((0 : Int64) + ((k0 + (0 : Int64)) - pp_22)), .second, lv (x3 - (0 : Int64)), .second, iv 1]) rfl (g_iload X76 K d12_131 rfl (g_iloadN X76 K d12_133 rfl (g_icN X76 K d12_134 (feq (by decide)).1 (g_lload X76 K d12_137 rfl (g_ag X76 K rfl 16 rfl rb76.2.2.2.1 d12_139 d12_140 rfl fun T79 X79 e79 => g_ag X79 K e79 30 rfl rb76.2.2.2.2.2.2.2.2.1 d12_143 d12_144 rfl fun T80 X80 e80 => ?_)))))))))))
     refine g_iload X80 K d12_147 rfl (g_iaload X80 K e80 r76_4 d12_149 (by decide) (v := (.int 0)) rfl ?_)
     have q81 := (q71.keep K76 na33)
     refine g_laload X80 K e80 q81 d12_150 (by decide) (v := (.long c0)) rfl (g_callS X80 K e80 198 199 81 200 rfl rfl rfl rfl (by decide) (rm32 l Z a0 hw (x3 - (0 : Int64)) c0 T76.heap n0 (Nat.le_trans Z0 KK76.1) ) d12_151 hml.symm (argsL := [(.long (x3 - (0 : Int64))), (.long c0)]) (lenOf pd_5 rfl) rfl 0 (Nat.le_of_ble_eq_true rfl) (by decide) fun v82 T82 Lc82 hQ82 X82 => ?_)
     obtain ⟨rfl, N82q, e82⟩ := hQ82
     have N82 := Fr.app N76 N82q
     dsimp only [Option.toList, List.cons_append, List.nil_append]
     obtain ⟨f83, hf83⟩ : ∃ z : Int64, z = (if c0 < (x3 - (0 : Int64)) then c0 else (x3 - (0 : Int64))) := ⟨_, rfl⟩
     refine gB (S' := T82.setTop (mkF m 154 #[rv x0, iv 0, iv 1, lv x3, .second, lv 0, .second, lv ((0 : Int64) + ((k0 + (0 : Int64)) - pp_22)), .second, lv (x3 - (0 : Int64)), .second, iv 1] [(.long f83)])) ?_ (by
       intro t k
       rw [← hf83]
       exact k)
     have bf83 := own_f hA own_s0 hb0 hA1 hf83
     refine g_lstore X82 K d12_154 (L' := #[rv x0, iv 0, iv 1, lv x3, .second, lv 0, .second, lv ((0 : Int64) + ((k0 + (0 : Int64)) - pp_22)), .second, lv f83, .second, iv 1]) rfl (g_aloadN X82 K d12_156 rfl rfl (g_ag X82 K e82 30 rfl rb76.2.2.2.2.2.2.2.2.1 d12_157 d12_158 rfl fun T84 X84 e84 => g_iload X84 K d12_161 rfl (g_iaload X84 K e84 r76_4 d12_163 (by decide) (v := (.int 0)) rfl ?_)))
     have q85 := (q69.keep K76 na34)
     refine g_callP X84 K e84 207 208 4 210 209 3 rfl rfl rfl rfl rfl rfl (by decide) (rmtl0 l Z a0 hw x0 T76.heap n0 (Nat.le_trans Z0 KK76.1) rb76.2.2.1 q85) rb76.1 d12_164 hml.symm (argsL := [(.int 0)]) (lenOf pd_14 rfl) rfl 0 (Nat.le_of_ble_eq_true rfl) (by decide) fun v86 T86 Lc86 hQ86 X86 => ?_
     obtain ⟨rfl, N86q, e86⟩ := hQ86
     have N86 := Fr.app N82 N86q
     dsimp only [Option.toList, List.cons_append, List.nil_append]
     refine g_istore X86 K d12_167 (L' := #[rv x0, iv 0, iv 1, lv x3, .second, lv 0, .second, lv ((0 : Int64) + ((k0 + (0 : Int64)) - pp_22)), .second, lv f83, .second, iv 0]) rfl (g_goto X86 K 131 d12_169 (by decide) (g_iload X86 K d12_131 rfl (g_iloadN X86 K d12_133 rfl (g_icY X86 K 172 d12_134 (by decide) (teq (by decide)).1 (g_iloadN X86 K d12_172 rfl (g_istore X86 K d12_173 (L' := #[rv x0, iv 0, iv 1, lv x3, .second, lv 0, .second, lv ((0 : Int64) + ((k0 + (0 : Int64)) - pp_22)), .second, lv f83, .second, iv 1]) rfl (g_iload X86 K d12_175 rfl (g_iloadN X86 K d12_177 rfl (g_icN X86 K d12_178 (feq (by decide)).1 (g_aloadN X86 K d12_181 rfl rfl (g_ag X86 K e86 30 rfl rb76.2.2.2.2.2.2.2.2.1 d12_182 d12_183 rfl fun T89 X89 e89 => g_iload X89 K d12_186 rfl ?_)))))))))))
     refine g_iaload X89 K e89 r76_4 d12_188 (by decide) (v := (.int 0)) rfl (g_lload X89 K d12_189 rfl ?_)
     have q90 := (q70.keep K76 na35)
     refine g_callP X89 K e89 211 212 4 214 213 3 rfl rfl rfl rfl rfl rfl (by decide) (rmps0 l Z a0 hw x0 f83 hn hq T76.heap n0 (Nat.le_trans Z0 KK76.1) rb76 q90 q81 (own_hmin bf83) (own_hdiv bf83 hk0) (own_hadd own_bf0 bf83 hk0)) rb76.1 d12_191 hml.symm (argsL := [(.int 0), (.long f83)]) (lenOf pd_15 rfl) rfl 0 (Nat.le_of_ble_eq_true rfl) (by decide) fun v91 T91 Lc91 hQ91 X91 => ?_
     obtain ⟨rfl, N91q, K91, rb91, r91_1⟩ := hQ91
     have N91 := Fr.app N86 N91q
     have KK91 := KK76.trans K91 (own_al [0, 1] rfl)
     dsimp only [Option.toList, List.cons_append, List.nil_append]
     refine g_aloadN X91 K d12_194 rfl rfl (g_ag X91 K rfl 30 rfl rb91.2.2.2.2.2.2.2.2.1 d12_195 d12_196 rfl fun T92 X92 e92 => g_iload X92 K d12_199 rfl ?_)
     have q93 := (r76_4.keep K91 na36)
     refine g_iaload X92 K e92 q93 d12_201 (by decide) (v := (.int 0)) rfl ?_
     have q94 := (q85.keep K91 na37)
     refine g_callP X92 K e92 207 208 4 210 209 3 rfl rfl rfl rfl rfl rfl (by decide) (rmtl0 l Z a0 hw x0 T91.heap n0 (Nat.le_trans Z0 KK91.1) rb91.2.2.1 q94) rb91.1 d12_202 hml.symm (argsL := [(.int 0)]) (lenOf pd_14 rfl) rfl 0 (Nat.le_of_ble_eq_true rfl) (by decide) fun v95 T95 Lc95 hQ95 X95 => ?_
     obtain ⟨rfl, N95q, e95⟩ := hQ95
     have N95 := Fr.app N91 N95q
     dsimp only [Option.toList, List.cons_append, List.nil_append]
     refine g_istore X95 K d12_205 (L' := #[rv x0, iv 0, iv 1, lv x3, .second, lv 0, .second, lv ((0 : Int64) + ((k0 + (0 : Int64)) - pp_22)), .second, lv f83, .second, iv 0]) rfl (g_goto X95 K 175 d12_207 (by decide) (g_iload X95 K d12_175 rfl (g_iloadN X95 K d12_177 rfl (g_icY X95 K 210 d12_178 (by decide) (teq (by decide)).1 (g_lload X95 K d12_210 rfl (g_lload X95 K d12_212 rfl (g_ladd X95 K d12_214 rfl (g_lstore X95 K d12_215 (L' := #[rv x0, iv 0, iv 1, lv x3, .second, lv ((0 : Int64) + f83), .second, lv ((0 : Int64) + ((k0 + (0 : Int64)) - pp_22)), .second, lv f83, .second, iv 0]) rfl (g_goto X95 K 106 d12_217 (by decide) (g_lload X95 K d12_106 rfl (g_lloadN X95 K d12_108 rfl (g_lcmp X95 K d12_109 rfl ?_))))))))))))
     by_cases hc110_97 : ((0 : Int64) + f83) < x3
     refine g_ifN X95 K d12_110 ((if0 _ _).trans (tlt ((lw_lt ((0 : Int64) + f83) x3).mpr hc110_97)).2.1) ?_
     ·
      have xh98 := own_fx hA own_s0 hb0 hf83 hc110_97
      refine g_aloadN X95 K d12_113 rfl rfl (g_iloadN X95 K d12_114 rfl (g_iloadN X95 K d12_115 rfl ?_))
      have q99 := ((q67.keep K76 na38).keep K91 na39)
      have q100 := ((q68.keep K76 na40).keep K91 na41)
      have q101 := (q90.keep K91 na42)
      have q102 := ((r64_0.keep K76 na43).keep K91 na44)
      have q103 := (r76_1.keep K91 na45)
      have q104 := (r76_3.keep K91 na46)
      have q105 := (r76_2.keep K91 na47)
      refine g_callP X95 K e95 201 202 4 204 203 3 rfl rfl rfl rfl rfl rfl (by decide) (rmwkF l Z a0 hw x0 hn hq T91.heap n0 (Nat.le_trans Z0 KK91.1) rb91 q99 q100 q94 q101 r91_1 q102 q103 q104 q105 q93 (by decide) (fun q => absurd q (own_nlt z2)) (fun q => absurd q (own_nlt xh98))) rb91.1 d12_116 hml.symm (argsL := [(.int 0), (.int 1)]) (lenOf pd_13 rfl) rfl 0 (Nat.le_of_ble_eq_true rfl) (by decide) fun v106 T106 Lc106 hQ106 X106 => ?_
      obtain ⟨e0_106, e1_106, e2_106, e3_106, rfl, N106q, K106, rb106, r106_1, r106_2, r106_3, r106_4⟩ := hQ106
      have N106 := Fr.app N95 N106q
      have KK106 := KK91.trans K106 (own_al [0, 11, 13, 12, 7] rfl)
      dsimp only [Option.toList, List.cons_append, List.nil_append]
      refine g_ifY X106 K 220 d12_119 (by decide) ((if0 _ _).trans (teq (by decide)).1) (g_goto X106 K 67 d12_220 (by decide) (g_lload X106 K d12_67 rfl (g_lloadN X106 K d12_69 rfl (g_lcmp X106 K d12_70 rfl ?_))))
      have hc71_108 : ((0 : Int64) + f83) < x3 := hc110_97
      refine g_ifN X106 K d12_71 ((if0 _ _).trans (tlt ((lw_lt ((0 : Int64) + f83) x3).mpr hc71_108)).2.1) (g_aloadN X106 K d12_74 rfl rfl (g_iloadN X106 K d12_75 rfl (g_iconst X106 K d12_76 (z := 1) rfl ?_)))
      have q109 := (q99.keep K106 na38)
      have q110 := (q100.keep K106 na40)
      have q111 := (q94.keep K106 na34)
      have q112 := (q101.keep K106 na35)
      have q113 := (r91_1.keep K106 na33)
      have q114 := (q102.keep K106 na43)
      have q115 := ((((r59_2_0.keep K64).keep K76).keep K91).keep K106)
      have q116 := ((((r59_2_1.keep K64 na48).keep K76 na49).keep K91 na50).keep K106 na49)
      have q117 := ((((r59_2_2.keep K64 na48).keep K76 na49).keep K91 na50).keep K106 na49)
      have q118 := ((((r59_2_3.keep K64 na48).keep K76 na49).keep K91 na50).keep K106 na49)
      have q119 := ((((r59_2_4.keep K64 na48).keep K76 na49).keep K91 na50).keep K106 na49)
      have q120 := ((((r59_3.keep K64 na51).keep K76 na52).keep K91 na53).keep K106 na52)
      have q121 := ((((r59_4.keep K64 na54).keep K76 na55).keep K91 na56).keep K106 na55)
      have q122 := ((((r59_0.keep K64 na57).keep K76 na58).keep K91 na59).keep K106 na58)
      refine g_callP X106 K rfl 159 160 4 162 161 3 rfl rfl rfl rfl rfl rfl (by decide) (rmsrM l Z a0 hw x0 T106.heap n0 (Nat.le_trans Z0 KK106.1) rb106 q109 q110 q111 q112 q113 q114 ⟨q115, q116, q117, q118, q119⟩ q120 q121 q122 r106_4 (z2) (xh98)) rb106.1 d12_77 hml.symm (argsL := [(.int 0), (.int 1)]) (lenOf pd_12 rfl) rfl 0 (Nat.le_of_ble_eq_true rfl) (by decide) fun v123 T123 Lc123 hQ123 X123 => ?_
      obtain ⟨e0_123, e1_123, e2_123, e3_123, rfl, N123q, K123, r123_0, r123_1, ⟨r123_2_0, r123_2_1, r123_2_2, r123_2_3, r123_2_4⟩, r123_3, r123_4⟩ := hQ123
      have N123 := Fr.app N106 N123q
      have KK123 := KK106.trans K123 (own_al [6, 7, 8, 9, 10] rfl)
      dsimp only [Option.toList, List.cons_append, List.nil_append]
      have xb124 := own_XF_keep rb106 K123 na10
      refine g_ag X123 K rfl 28 rfl xb124.2.2.2.2.2.2.2.1 d12_80 d12_81 rfl fun T125 X125 e125 => g_iloadN X125 K d12_84 rfl (g_laload X125 K e125 r123_0 d12_85 (by decide) (v := (.long 9223372036854775807)) rfl (g_lstore X125 K d12_86 (L' := #[rv x0, iv 0, iv 1, lv x3, .second, lv ((0 : Int64) + f83), .second, lv 9223372036854775807, .second, lv f83, .second, iv 0]) rfl (g_lload X125 K d12_88 rfl (g_ldc2 X125 K 163 rfl d12_90 (z := (9223372036854775807 : Int64)) rfl (g_lcmp X125 K d12_93 (z := (0 : Int32)) rfl (g_ifN X125 K d12_94 ((if0 _ _).trans (teq (by decide)).2) (g_goto X125 K 223 d12_97 (by decide) (g_lload X125 K d12_223 rfl ?_))))))))
      have q127 := (q113.keep K123 na11)
      have q128 := (q114.keep K123 na12)
      exact g_lvJ X125 K hlk hrt hR d12_225 (by decide) (by rw [e125]; exact ⟨((0 : Int64) + (f83 * k0)), (((0 : Int64) + (1 : Int64)) + (1 : Int64)), (c0 - f83), ((0 : Int64) + f83), c1, (0 : Int64), (0 : Int64), k0, ((0 : Int64) + f83), rfl, N123, KK123, xb124, q127, q128, (own_p1 c0 _)⟩)
     refine g_ifY X95 K 220 d12_110 (by decide) ((if0 _ _).trans (flt (fun q => hc110_97 ((lw_lt ((0 : Int64) + f83) x3).mp q))).2.1) ?_
     ·
      refine g_goto X95 K 67 d12_220 (by decide) (g_lload X95 K d12_67 rfl (g_lloadN X95 K d12_69 rfl (g_lcmp X95 K d12_70 rfl ?_)))
      have hc71_129 : ¬ (((0 : Int64) + f83) < x3) := hc110_97
      refine g_ifY X95 K 223 d12_71 (by decide) ((if0 _ _).trans (flt (fun q => hc71_129 ((lw_lt ((0 : Int64) + f83) x3).mp q))).2.1) (g_lload X95 K d12_223 rfl ?_)
      have q130 := ((r64_0.keep K76 na43).keep K91 na44)
      exact g_lvJ X95 K hlk hrt hR d12_225 (by decide) (by rw [e95]; exact ⟨((0 : Int64) + (f83 * k0)), ((0 : Int64) + (1 : Int64)), (c0 - f83), ((0 : Int64) + f83), c1, (0 : Int64), (0 : Int64), k0, ((0 : Int64) + f83), rfl, N95, KK91, rb91, r91_1, q130, (own_p1 c0 _)⟩)
   ·
    have p2 := own_pos hb1 z2
    by_cases z0 : c0 = (0 : Int64)
    ·
     refine g_lload X22 K d12_67 rfl (g_lloadN X22 K d12_69 rfl (g_lcmp X22 K d12_70 rfl ?_))
     have hc71_131 : (0 : Int64) < x3 := hA1
     refine g_ifN X22 K d12_71 ((if0 _ _).trans (tlt ((lw_lt (0 : Int64) x3).mpr hc71_131)).2.1) (g_aloadN X22 K d12_74 rfl rfl (g_iloadN X22 K d12_75 rfl (g_iconst X22 K d12_76 (z := 1) rfl ?_)))
     have q132 := (q13.keep K22 na0)
     have q133 := (q14.keep K22 na1)
     have q134 := (q15.keep K22 na2)
     have q135 := (q16.keep K22 na3)
     have q136 := (q17.keep K22 na4)
     have q137 := ((((nb1_0.wr W7).wr W9).wr W11).keep K22)
     have q138 := ((((nb1_1.other W7 (Or.inl (own_on nb0_24 9 0 rfl rfl))).other W9 (Or.inl (own_on nb0_24 9 0 rfl rfl))).other W11 (Or.inl (own_on nb0_24 9 0 rfl rfl))).keep K22 na5)
     have q139 := ((((nb1_2.other W7 (Or.inl (own_on nb0_24 9 0 rfl rfl))).other W9 (Or.inl (own_on nb0_24 9 0 rfl rfl))).other W11 (Or.inl (own_on nb0_24 9 0 rfl rfl))).keep K22 na5)
     have q140 := ((((nb1_3.other W7 (Or.inl (own_on nb0_24 9 0 rfl rfl))).other W9 (Or.inl (own_on nb0_24 9 0 rfl rfl))).other W11 (Or.inl (own_on nb0_24 9 0 rfl rfl))).keep K22 na5)
     have q141 := ((((nb1_4.other W7 (Or.inl (own_on nb0_24 9 0 rfl rfl))).other W9 (Or.inl (own_on nb0_24 9 0 rfl rfl))).other W11 (Or.inl (own_on nb0_24 9 0 rfl rfl))).keep K22 na5)
     have q142 := ((((pre_A_hn.other W7 (own_on nb0_24 10 0 rfl rfl)).other W9 (own_on nb0_24 10 0 rfl rfl)).other W11 (own_on nb0_24 10 0 rfl rfl)).keep K22 na6)
     have q143 := ((((pre_A_hq.other W7 (own_on nb0_24 11 0 rfl rfl)).other W9 (own_on nb0_24 11 0 rfl rfl)).other W11 (own_on nb0_24 11 0 rfl rfl)).keep K22 na7)
     have q144 := ((((pre_A_di.other W7 (own_on nb0_24 7 0 rfl rfl)).other W9 (own_on nb0_24 7 0 rfl rfl)).other W11 (own_on nb0_24 7 0 rfl rfl)).keep K22 na8)
     have q145 := ((((pre_A_pa.other W7 (own_on nb0_24 8 0 rfl rfl)).other W9 (own_on nb0_24 8 0 rfl rfl)).other W11 (own_on nb0_24 8 0 rfl rfl)).keep K22 na9)
     refine g_callP X22 K rfl 159 160 4 162 161 3 rfl rfl rfl rfl rfl rfl (by decide) (rmsr2 l Z a0 hw x0 T22.heap n0 (Nat.le_trans Z0 KK22.1) rb22 q132 q133 q134 q135 q136 r22_1 ⟨q137, q138, q139, q140, q141⟩ q142 q143 q144 q145 (own_ne0 p2) (z0) (own_yb hk1 r22_2.1) (fun q => absurd rfl q) (fun q => absurd rfl q)) rb22.1 d12_77 hml.symm (argsL := [(.int 0), (.int 1)]) (lenOf pd_12 rfl) rfl 0 (Nat.le_of_ble_eq_true rfl) (by decide) fun v146 T146 Lc146 hQ146 X146 => ?_
     obtain ⟨e0_146, e1_146, e2_146, e3_146, rfl, N146q, K146, r146_0, r146_1, ⟨r146_2_0, r146_2_1, r146_2_2, r146_2_3, r146_2_4⟩, r146_3, r146_4⟩ := hQ146
     have N146 := Fr.app N22 N146q
     have KK146 := KK22.trans K146 (own_al [6, 7, 8, 9, 10] rfl)
     dsimp only [Option.toList, List.cons_append, List.nil_append]
     have xb147 := own_XF_keep rb22 K146 na10
     refine g_ag X146 K rfl 28 rfl xb147.2.2.2.2.2.2.2.1 d12_80 d12_81 rfl fun T148 X148 e148 => g_iloadN X148 K d12_84 rfl (g_laload X148 K e148 r146_0 d12_85 (by decide) (v := (.long ((0 : Int64) + ((k1 + (0 : Int64)) - pp_22)))) rfl (g_lstore X148 K d12_86 (L' := #[rv x0, iv 0, iv 1, lv x3, .second, lv 0, .second, lv ((0 : Int64) + ((k1 + (0 : Int64)) - pp_22)), .second, uu, uu, uu]) rfl (g_lload X148 K d12_88 rfl (g_ldc2 X148 K 163 rfl d12_90 (z := (9223372036854775807 : Int64)) rfl (g_lcmp X148 K d12_93 rfl ?_)))))
     have hc94_149 : ¬ (((0 : Int64) + ((k1 + (0 : Int64)) - pp_22)) = (9223372036854775807 : Int64)) := own_neM (own_yb hk1 r22_2.1)
     refine g_ifY X148 K 100 d12_94 (by decide) ((if0 _ _).trans (feq (fun q => hc94_149 ((lw_eq ((0 : Int64) + ((k1 + (0 : Int64)) - pp_22)) (9223372036854775807 : Int64)).mp q))).2) (g_aloadN X148 K d12_100 rfl rfl (g_lload X148 K d12_101 rfl ?_))
     have q150 := (r22_1.keep K146 na12)
     refine g_callP X148 K e148 194 195 4 197 196 3 rfl rfl rfl rfl rfl rfl (by decide) (rm31 l Z a0 hw x0 hn hq k1 T146.heap n0 (Nat.le_trans Z0 KK146.1) xb147 q150 r146_0 (own_hD hk1 r22_2.1 (r22_2.2.1 p2)) (own_hnp _ _) (own_hmax hk1)) xb147.1 d12_103 hml.symm (argsL := [(.long ((0 : Int64) + ((k1 + (0 : Int64)) - pp_22)))]) (lenOf pd_4 rfl) rfl 0 (Nat.le_of_ble_eq_true rfl) (by decide) fun v151 T151 Lc151 hQ151 X151 => ?_
     obtain ⟨rfl, N151q, K151, r151_0⟩ := hQ151
     have N151 := Fr.app N146 N151q
     have KK151 := KK146.trans K151 (own_al [2] rfl)
     dsimp only [Option.toList, List.cons_append, List.nil_append]
     refine g_lload X151 K d12_106 rfl (g_lloadN X151 K d12_108 rfl (g_lcmp X151 K d12_109 rfl ?_))
     have hc110_152 : (0 : Int64) < x3 := hA1
     refine g_ifN X151 K d12_110 ((if0 _ _).trans (tlt ((lw_lt (0 : Int64) x3).mpr hc110_152)).2.1) (g_aloadN X151 K d12_113 rfl rfl (g_iloadN X151 K d12_114 rfl (g_iloadN X151 K d12_115 rfl ?_)))
     have xb153 := own_XF_keep xb147 K151 na13
     have q154 := ((q132.keep K146 na14).keep K151 na15)
     have q155 := ((q133.keep K146 na16).keep K151 na17)
     have q156 := ((q134.keep K146 na18).keep K151 na19)
     have q157 := ((q135.keep K146 na20).keep K151 na21)
     have q158 := ((q136.keep K146 na11).keep K151 na22)
     have q159 := ((((((pre_A_sk.other W7 (own_on nb0_24 15 0 rfl rfl)).other W9 (own_on nb0_24 15 0 rfl rfl)).other W11 (own_on nb0_24 15 0 rfl rfl)).keep K22 na23).keep K146 na24).keep K151 na25)
     have q160 := ((((((pre_A_vi.other W7 (own_on nb0_24 17 0 rfl rfl)).other W9 (own_on nb0_24 17 0 rfl rfl)).other W11 (own_on nb0_24 17 0 rfl rfl)).keep K22 na26).keep K146 na27).keep K151 na28)
     have q161 := ((((((pre_A_cu.other W7 (own_on nb0_24 16 0 rfl rfl)).other W9 (own_on nb0_24 16 0 rfl rfl)).other W11 (own_on nb0_24 16 0 rfl rfl)).keep K22 na29).keep K146 na30).keep K151 na31)
     have q162 := (r146_1.keep K151 na32)
     refine g_callP X151 K rfl 201 202 4 204 203 3 rfl rfl rfl rfl rfl rfl (by decide) (rmwk2 l Z a0 hw x0 hn hq T151.heap n0 (Nat.le_trans Z0 KK151.1) xb153 q154 q155 q156 q157 q158 r151_0 q159 q160 q161 q162 (by decide) (p2) (own_rc k1)) xb153.1 d12_116 hml.symm (argsL := [(.int 0), (.int 1)]) (lenOf pd_13 rfl) rfl 0 (Nat.le_of_ble_eq_true rfl) (by decide) fun v163 T163 Lc163 hQ163 X163 => ?_
     obtain ⟨e0_163, e1_163, e2_163, e3_163, rfl, N163q, K163, rb163, r163_1, r163_2, r163_3, r163_4⟩ := hQ163
     have N163 := Fr.app N151 N163q
     have KK163 := KK151.trans K163 (own_al [0, 11, 13, 12, 7] rfl)
     dsimp only [Option.toList, List.cons_append, List.nil_append]
     refine g_ifN X163 K d12_119 ((if0 _ _).trans (feq (by decide)).1) (g_lloadN X163 K d12_122 rfl (g_lload X163 K d12_123 rfl (g_lsub X163 K d12_125 rfl (g_lstore X163 K d12_126 (L' := #[rv x0, iv 0, iv 1, lv x3, .second, lv 0, .second, lv ((0 : Int64) + ((k1 + (0 : Int64)) - pp_22)), .second, lv (x3 - (0 : Int64)), .second, uu]) rfl (g_iloadN X163 K d12_128 rfl (g_istore X163 K d12_129 (L' := #[rv x0, iv 0, iv 1, lv x3, .second, lv 0, .second, lv ((0 : Int64) + ((k1 + (0 : Int64)) - pp_22)), .second, lv (x3 - (0 : Int64)), .second, iv 1]) rfl (g_iload X163 K d12_131 rfl (g_iloadN X163 K d12_133 rfl (g_icN X163 K d12_134 (feq (by decide)).1 (g_lload X163 K d12_137 rfl (g_ag X163 K rfl 16 rfl rb163.2.2.2.1 d12_139 d12_140 rfl fun T166 X166 e166 => g_ag X166 K e166 30 rfl rb163.2.2.2.2.2.2.2.2.1 d12_143 d12_144 rfl fun T167 X167 e167 => ?_)))))))))))
     refine g_iload X167 K d12_147 rfl (g_iaload X167 K e167 r163_4 d12_149 (by decide) (v := (.int 2)) rfl ?_)
     have q168 := (q158.keep K163 na33)
     refine g_laload X167 K e167 q168 d12_150 (by decide) (v := (.long c1)) rfl (g_callS X167 K e167 198 199 81 200 rfl rfl rfl rfl (by decide) (rm32 l Z a0 hw (x3 - (0 : Int64)) c1 T163.heap n0 (Nat.le_trans Z0 KK163.1) ) d12_151 hml.symm (argsL := [(.long (x3 - (0 : Int64))), (.long c1)]) (lenOf pd_5 rfl) rfl 0 (Nat.le_of_ble_eq_true rfl) (by decide) fun v169 T169 Lc169 hQ169 X169 => ?_)
     obtain ⟨rfl, N169q, e169⟩ := hQ169
     have N169 := Fr.app N163 N169q
     dsimp only [Option.toList, List.cons_append, List.nil_append]
     obtain ⟨f170, hf170⟩ : ∃ z : Int64, z = (if c1 < (x3 - (0 : Int64)) then c1 else (x3 - (0 : Int64))) := ⟨_, rfl⟩
     refine gB (S' := T169.setTop (mkF m 154 #[rv x0, iv 0, iv 1, lv x3, .second, lv 0, .second, lv ((0 : Int64) + ((k1 + (0 : Int64)) - pp_22)), .second, lv (x3 - (0 : Int64)), .second, iv 1] [(.long f170)])) ?_ (by
       intro t k
       rw [← hf170]
       exact k)
     have bf170 := own_f hA own_s0 hb1 hA1 hf170
     refine g_lstore X169 K d12_154 (L' := #[rv x0, iv 0, iv 1, lv x3, .second, lv 0, .second, lv ((0 : Int64) + ((k1 + (0 : Int64)) - pp_22)), .second, lv f170, .second, iv 1]) rfl (g_aloadN X169 K d12_156 rfl rfl (g_ag X169 K e169 30 rfl rb163.2.2.2.2.2.2.2.2.1 d12_157 d12_158 rfl fun T171 X171 e171 => g_iload X171 K d12_161 rfl (g_iaload X171 K e171 r163_4 d12_163 (by decide) (v := (.int 2)) rfl ?_)))
     have q172 := (q156.keep K163 na34)
     refine g_callP X171 K e171 207 208 4 210 209 3 rfl rfl rfl rfl rfl rfl (by decide) (rmtl2 l Z a0 hw x0 T163.heap n0 (Nat.le_trans Z0 KK163.1) rb163.2.2.1 q172) rb163.1 d12_164 hml.symm (argsL := [(.int 2)]) (lenOf pd_14 rfl) rfl 0 (Nat.le_of_ble_eq_true rfl) (by decide) fun v173 T173 Lc173 hQ173 X173 => ?_
     obtain ⟨rfl, N173q, e173⟩ := hQ173
     have N173 := Fr.app N169 N173q
     dsimp only [Option.toList, List.cons_append, List.nil_append]
     refine g_istore X173 K d12_167 (L' := #[rv x0, iv 0, iv 1, lv x3, .second, lv 0, .second, lv ((0 : Int64) + ((k1 + (0 : Int64)) - pp_22)), .second, lv f170, .second, iv 0]) rfl (g_goto X173 K 131 d12_169 (by decide) (g_iload X173 K d12_131 rfl (g_iloadN X173 K d12_133 rfl (g_icY X173 K 172 d12_134 (by decide) (teq (by decide)).1 (g_iloadN X173 K d12_172 rfl (g_istore X173 K d12_173 (L' := #[rv x0, iv 0, iv 1, lv x3, .second, lv 0, .second, lv ((0 : Int64) + ((k1 + (0 : Int64)) - pp_22)), .second, lv f170, .second, iv 1]) rfl (g_iload X173 K d12_175 rfl (g_iloadN X173 K d12_177 rfl (g_icN X173 K d12_178 (feq (by decide)).1 (g_aloadN X173 K d12_181 rfl rfl (g_ag X173 K e173 30 rfl rb163.2.2.2.2.2.2.2.2.1 d12_182 d12_183 rfl fun T176 X176 e176 => g_iload X176 K d12_186 rfl ?_)))))))))))
     refine g_iaload X176 K e176 r163_4 d12_188 (by decide) (v := (.int 2)) rfl (g_lload X176 K d12_189 rfl ?_)
     have q177 := (q157.keep K163 na35)
     refine g_callP X176 K e176 211 212 4 214 213 3 rfl rfl rfl rfl rfl rfl (by decide) (rmps2 l Z a0 hw x0 f170 hn hq T163.heap n0 (Nat.le_trans Z0 KK163.1) rb163 q177 q168 (own_hmin bf170) (own_hdiv bf170 hk1) (own_hadd own_bf0 bf170 hk1)) rb163.1 d12_191 hml.symm (argsL := [(.int 2), (.long f170)]) (lenOf pd_15 rfl) rfl 0 (Nat.le_of_ble_eq_true rfl) (by decide) fun v178 T178 Lc178 hQ178 X178 => ?_
     obtain ⟨rfl, N178q, K178, rb178, r178_1⟩ := hQ178
     have N178 := Fr.app N173 N178q
     have KK178 := KK163.trans K178 (own_al [0, 1] rfl)
     dsimp only [Option.toList, List.cons_append, List.nil_append]
     refine g_aloadN X178 K d12_194 rfl rfl (g_ag X178 K rfl 30 rfl rb178.2.2.2.2.2.2.2.2.1 d12_195 d12_196 rfl fun T179 X179 e179 => g_iload X179 K d12_199 rfl ?_)
     have q180 := (r163_4.keep K178 na36)
     refine g_iaload X179 K e179 q180 d12_201 (by decide) (v := (.int 2)) rfl ?_
     have q181 := (q172.keep K178 na37)
     refine g_callP X179 K e179 207 208 4 210 209 3 rfl rfl rfl rfl rfl rfl (by decide) (rmtl2 l Z a0 hw x0 T178.heap n0 (Nat.le_trans Z0 KK178.1) rb178.2.2.1 q181) rb178.1 d12_202 hml.symm (argsL := [(.int 2)]) (lenOf pd_14 rfl) rfl 0 (Nat.le_of_ble_eq_true rfl) (by decide) fun v182 T182 Lc182 hQ182 X182 => ?_
     obtain ⟨rfl, N182q, e182⟩ := hQ182
     have N182 := Fr.app N178 N182q
     dsimp only [Option.toList, List.cons_append, List.nil_append]
     refine g_istore X182 K d12_205 (L' := #[rv x0, iv 0, iv 1, lv x3, .second, lv 0, .second, lv ((0 : Int64) + ((k1 + (0 : Int64)) - pp_22)), .second, lv f170, .second, iv 0]) rfl (g_goto X182 K 175 d12_207 (by decide) (g_iload X182 K d12_175 rfl (g_iloadN X182 K d12_177 rfl (g_icY X182 K 210 d12_178 (by decide) (teq (by decide)).1 (g_lload X182 K d12_210 rfl (g_lload X182 K d12_212 rfl (g_ladd X182 K d12_214 rfl (g_lstore X182 K d12_215 (L' := #[rv x0, iv 0, iv 1, lv x3, .second, lv ((0 : Int64) + f170), .second, lv ((0 : Int64) + ((k1 + (0 : Int64)) - pp_22)), .second, lv f170, .second, iv 0]) rfl (g_goto X182 K 106 d12_217 (by decide) (g_lload X182 K d12_106 rfl (g_lloadN X182 K d12_108 rfl (g_lcmp X182 K d12_109 rfl ?_))))))))))))
     by_cases hc110_184 : ((0 : Int64) + f170) < x3
     refine g_ifN X182 K d12_110 ((if0 _ _).trans (tlt ((lw_lt ((0 : Int64) + f170) x3).mpr hc110_184)).2.1) ?_
     ·
      have xh185 := own_fx hA own_s0 hb1 hf170 hc110_184
      refine g_aloadN X182 K d12_113 rfl rfl (g_iloadN X182 K d12_114 rfl (g_iloadN X182 K d12_115 rfl ?_))
      have q186 := ((q154.keep K163 na38).keep K178 na39)
      have q187 := ((q155.keep K163 na40).keep K178 na41)
      have q188 := (q177.keep K178 na42)
      have q189 := ((r151_0.keep K163 na43).keep K178 na44)
      have q190 := (r163_1.keep K178 na45)
      have q191 := (r163_3.keep K178 na46)
      have q192 := (r163_2.keep K178 na47)
      refine g_callP X182 K e182 201 202 4 204 203 3 rfl rfl rfl rfl rfl rfl (by decide) (rmwkF l Z a0 hw x0 hn hq T178.heap n0 (Nat.le_trans Z0 KK178.1) rb178 q186 q187 q181 q188 r178_1 q189 q190 q191 q192 q180 (by decide) (fun q => absurd q (own_nlt xh185)) (fun q => absurd q (own_nlt z0))) rb178.1 d12_116 hml.symm (argsL := [(.int 0), (.int 1)]) (lenOf pd_13 rfl) rfl 0 (Nat.le_of_ble_eq_true rfl) (by decide) fun v193 T193 Lc193 hQ193 X193 => ?_
      obtain ⟨e0_193, e1_193, e2_193, e3_193, rfl, N193q, K193, rb193, r193_1, r193_2, r193_3, r193_4⟩ := hQ193
      have N193 := Fr.app N182 N193q
      have KK193 := KK178.trans K193 (own_al [0, 11, 13, 12, 7] rfl)
      dsimp only [Option.toList, List.cons_append, List.nil_append]
      refine g_ifY X193 K 220 d12_119 (by decide) ((if0 _ _).trans (teq (by decide)).1) (g_goto X193 K 67 d12_220 (by decide) (g_lload X193 K d12_67 rfl (g_lloadN X193 K d12_69 rfl (g_lcmp X193 K d12_70 rfl ?_))))
      have hc71_195 : ((0 : Int64) + f170) < x3 := hc110_184
      refine g_ifN X193 K d12_71 ((if0 _ _).trans (tlt ((lw_lt ((0 : Int64) + f170) x3).mpr hc71_195)).2.1) (g_aloadN X193 K d12_74 rfl rfl (g_iloadN X193 K d12_75 rfl (g_iconst X193 K d12_76 (z := 1) rfl ?_)))
      have q196 := (q186.keep K193 na38)
      have q197 := (q187.keep K193 na40)
      have q198 := (q181.keep K193 na34)
      have q199 := (q188.keep K193 na35)
      have q200 := (r178_1.keep K193 na33)
      have q201 := (q189.keep K193 na43)
      have q202 := ((((r146_2_0.keep K151).keep K163).keep K178).keep K193)
      have q203 := ((((r146_2_1.keep K151 na48).keep K163 na49).keep K178 na50).keep K193 na49)
      have q204 := ((((r146_2_2.keep K151 na48).keep K163 na49).keep K178 na50).keep K193 na49)
      have q205 := ((((r146_2_3.keep K151 na48).keep K163 na49).keep K178 na50).keep K193 na49)
      have q206 := ((((r146_2_4.keep K151 na48).keep K163 na49).keep K178 na50).keep K193 na49)
      have q207 := ((((r146_3.keep K151 na51).keep K163 na52).keep K178 na53).keep K193 na52)
      have q208 := ((((r146_4.keep K151 na54).keep K163 na55).keep K178 na56).keep K193 na55)
      have q209 := ((((r146_0.keep K151 na57).keep K163 na58).keep K178 na59).keep K193 na58)
      refine g_callP X193 K rfl 159 160 4 162 161 3 rfl rfl rfl rfl rfl rfl (by decide) (rmsrM l Z a0 hw x0 T193.heap n0 (Nat.le_trans Z0 KK193.1) rb193 q196 q197 q198 q199 q200 q201 ⟨q202, q203, q204, q205, q206⟩ q207 q208 q209 r193_4 (xh185) (z0)) rb193.1 d12_77 hml.symm (argsL := [(.int 0), (.int 1)]) (lenOf pd_12 rfl) rfl 0 (Nat.le_of_ble_eq_true rfl) (by decide) fun v210 T210 Lc210 hQ210 X210 => ?_
      obtain ⟨e0_210, e1_210, e2_210, e3_210, rfl, N210q, K210, r210_0, r210_1, ⟨r210_2_0, r210_2_1, r210_2_2, r210_2_3, r210_2_4⟩, r210_3, r210_4⟩ := hQ210
      have N210 := Fr.app N193 N210q
      have KK210 := KK193.trans K210 (own_al [6, 7, 8, 9, 10] rfl)
      dsimp only [Option.toList, List.cons_append, List.nil_append]
      have xb211 := own_XF_keep rb193 K210 na10
      refine g_ag X210 K rfl 28 rfl xb211.2.2.2.2.2.2.2.1 d12_80 d12_81 rfl fun T212 X212 e212 => g_iloadN X212 K d12_84 rfl (g_laload X212 K e212 r210_0 d12_85 (by decide) (v := (.long 9223372036854775807)) rfl (g_lstore X212 K d12_86 (L' := #[rv x0, iv 0, iv 1, lv x3, .second, lv ((0 : Int64) + f170), .second, lv 9223372036854775807, .second, lv f170, .second, iv 0]) rfl (g_lload X212 K d12_88 rfl (g_ldc2 X212 K 163 rfl d12_90 (z := (9223372036854775807 : Int64)) rfl (g_lcmp X212 K d12_93 (z := (0 : Int32)) rfl (g_ifN X212 K d12_94 ((if0 _ _).trans (teq (by decide)).2) (g_goto X212 K 223 d12_97 (by decide) (g_lload X212 K d12_223 rfl ?_))))))))
      have q214 := (q200.keep K210 na11)
      have q215 := (q201.keep K210 na12)
      exact g_lvJ X212 K hlk hrt hR d12_225 (by decide) (by rw [e212]; exact ⟨((0 : Int64) + (f170 * k1)), (((0 : Int64) + (1 : Int64)) + (1 : Int64)), c0, (0 : Int64), (c1 - f170), ((0 : Int64) + f170), (0 : Int64), k1, ((0 : Int64) + f170), rfl, N210, KK210, xb211, q214, q215, (own_p0 c0)⟩)
     refine g_ifY X182 K 220 d12_110 (by decide) ((if0 _ _).trans (flt (fun q => hc110_184 ((lw_lt ((0 : Int64) + f170) x3).mp q))).2.1) ?_
     ·
      refine g_goto X182 K 67 d12_220 (by decide) (g_lload X182 K d12_67 rfl (g_lloadN X182 K d12_69 rfl (g_lcmp X182 K d12_70 rfl ?_)))
      have hc71_216 : ¬ (((0 : Int64) + f170) < x3) := hc110_184
      refine g_ifY X182 K 223 d12_71 (by decide) ((if0 _ _).trans (flt (fun q => hc71_216 ((lw_lt ((0 : Int64) + f170) x3).mp q))).2.1) (g_lload X182 K d12_223 rfl ?_)
      have q217 := ((r151_0.keep K163 na43).keep K178 na44)
      exact g_lvJ X182 K hlk hrt hR d12_225 (by decide) (by rw [e182]; exact ⟨((0 : Int64) + (f170 * k1)), ((0 : Int64) + (1 : Int64)), c0, (0 : Int64), (c1 - f170), ((0 : Int64) + f170), (0 : Int64), k1, ((0 : Int64) + f170), rfl, N182, KK178, rb178, r178_1, q217, (own_p0 c0)⟩)
    ·
     have p0 := own_pos hb0 z0
     by_cases kk : k0.toInt < k1.toInt
     ·
      refine g_lload X22 K d12_67 rfl (g_lloadN X22 K d12_69 rfl (g_lcmp X22 K d12_70 rfl ?_))
      have hc71_218 : (0 : Int64) < x3 := hA1
      refine g_ifN X22 K d12_71 ((if0 _ _).trans (tlt ((lw_lt (0 : Int64) x3).mpr hc71_218)).2.1) (g_aloadN X22 K d12_74 rfl rfl (g_iloadN X22 K d12_75 rfl (g_iconst X22 K d12_76 (z := 1) rfl ?_)))
      have q219 := (q13.keep K22 na0)
      have q220 := (q14.keep K22 na1)
      have q221 := (q15.keep K22 na2)
      have q222 := (q16.keep K22 na3)
      have q223 := (q17.keep K22 na4)
      have q224 := ((((nb1_0.wr W7).wr W9).wr W11).keep K22)
      have q225 := ((((nb1_1.other W7 (Or.inl (own_on nb0_24 9 0 rfl rfl))).other W9 (Or.inl (own_on nb0_24 9 0 rfl rfl))).other W11 (Or.inl (own_on nb0_24 9 0 rfl rfl))).keep K22 na5)
      have q226 := ((((nb1_2.other W7 (Or.inl (own_on nb0_24 9 0 rfl rfl))).other W9 (Or.inl (own_on nb0_24 9 0 rfl rfl))).other W11 (Or.inl (own_on nb0_24 9 0 rfl rfl))).keep K22 na5)
      have q227 := ((((nb1_3.other W7 (Or.inl (own_on nb0_24 9 0 rfl rfl))).other W9 (Or.inl (own_on nb0_24 9 0 rfl rfl))).other W11 (Or.inl (own_on nb0_24 9 0 rfl rfl))).keep K22 na5)
      have q228 := ((((nb1_4.other W7 (Or.inl (own_on nb0_24 9 0 rfl rfl))).other W9 (Or.inl (own_on nb0_24 9 0 rfl rfl))).other W11 (Or.inl (own_on nb0_24 9 0 rfl rfl))).keep K22 na5)
      have q229 := ((((pre_A_hn.other W7 (own_on nb0_24 10 0 rfl rfl)).other W9 (own_on nb0_24 10 0 rfl rfl)).other W11 (own_on nb0_24 10 0 rfl rfl)).keep K22 na6)
      have q230 := ((((pre_A_hq.other W7 (own_on nb0_24 11 0 rfl rfl)).other W9 (own_on nb0_24 11 0 rfl rfl)).other W11 (own_on nb0_24 11 0 rfl rfl)).keep K22 na7)
      have q231 := ((((pre_A_di.other W7 (own_on nb0_24 7 0 rfl rfl)).other W9 (own_on nb0_24 7 0 rfl rfl)).other W11 (own_on nb0_24 7 0 rfl rfl)).keep K22 na8)
      have q232 := ((((pre_A_pa.other W7 (own_on nb0_24 8 0 rfl rfl)).other W9 (own_on nb0_24 8 0 rfl rfl)).other W11 (own_on nb0_24 8 0 rfl rfl)).keep K22 na9)
      refine g_callP X22 K rfl 159 160 4 162 161 3 rfl rfl rfl rfl rfl rfl (by decide) (rmsrB0 l Z a0 hw x0 T22.heap n0 (Nat.le_trans Z0 KK22.1) rb22 q219 q220 q221 q222 q223 r22_1 ⟨q224, q225, q226, q227, q228⟩ q229 q230 q231 q232 (own_ne0 p2) (own_ne0 p0) (own_yb hk1 r22_2.1) ((own_dlt hk0 hk1 r22_2.1).mpr kk) (fun q => absurd rfl q) (fun q => absurd rfl q)) rb22.1 d12_77 hml.symm (argsL := [(.int 0), (.int 1)]) (lenOf pd_12 rfl) rfl 0 (Nat.le_of_ble_eq_true rfl) (by decide) fun v233 T233 Lc233 hQ233 X233 => ?_
      obtain ⟨e0_233, e1_233, e2_233, e3_233, rfl, N233q, K233, r233_0, r233_1, ⟨r233_2_0, r233_2_1, r233_2_2, r233_2_3, r233_2_4⟩, r233_3, r233_4⟩ := hQ233
      have N233 := Fr.app N22 N233q
      have KK233 := KK22.trans K233 (own_al [6, 7, 8, 9, 10] rfl)
      dsimp only [Option.toList, List.cons_append, List.nil_append]
      have xb234 := own_XF_keep rb22 K233 na10
      refine g_ag X233 K rfl 28 rfl xb234.2.2.2.2.2.2.2.1 d12_80 d12_81 rfl fun T235 X235 e235 => g_iloadN X235 K d12_84 rfl (g_laload X235 K e235 r233_0 d12_85 (by decide) (v := (.long ((0 : Int64) + ((k0 + (0 : Int64)) - pp_22)))) rfl (g_lstore X235 K d12_86 (L' := #[rv x0, iv 0, iv 1, lv x3, .second, lv 0, .second, lv ((0 : Int64) + ((k0 + (0 : Int64)) - pp_22)), .second, uu, uu, uu]) rfl (g_lload X235 K d12_88 rfl (g_ldc2 X235 K 163 rfl d12_90 (z := (9223372036854775807 : Int64)) rfl (g_lcmp X235 K d12_93 rfl ?_)))))
      have hc94_236 : ¬ (((0 : Int64) + ((k0 + (0 : Int64)) - pp_22)) = (9223372036854775807 : Int64)) := own_neM (own_yb hk0 r22_2.1)
      refine g_ifY X235 K 100 d12_94 (by decide) ((if0 _ _).trans (feq (fun q => hc94_236 ((lw_eq ((0 : Int64) + ((k0 + (0 : Int64)) - pp_22)) (9223372036854775807 : Int64)).mp q))).2) (g_aloadN X235 K d12_100 rfl rfl (g_lload X235 K d12_101 rfl ?_))
      have q237 := (r22_1.keep K233 na12)
      refine g_callP X235 K e235 194 195 4 197 196 3 rfl rfl rfl rfl rfl rfl (by decide) (rm31 l Z a0 hw x0 hn hq k0 T233.heap n0 (Nat.le_trans Z0 KK233.1) xb234 q237 r233_0 (own_hD hk0 r22_2.1 (r22_2.2.2 p0)) (own_hnp _ _) (own_hmax hk0)) xb234.1 d12_103 hml.symm (argsL := [(.long ((0 : Int64) + ((k0 + (0 : Int64)) - pp_22)))]) (lenOf pd_4 rfl) rfl 0 (Nat.le_of_ble_eq_true rfl) (by decide) fun v238 T238 Lc238 hQ238 X238 => ?_
      obtain ⟨rfl, N238q, K238, r238_0⟩ := hQ238
      have N238 := Fr.app N233 N238q
      have KK238 := KK233.trans K238 (own_al [2] rfl)
      dsimp only [Option.toList, List.cons_append, List.nil_append]
      refine g_lload X238 K d12_106 rfl (g_lloadN X238 K d12_108 rfl (g_lcmp X238 K d12_109 rfl ?_))
      have hc110_239 : (0 : Int64) < x3 := hA1
      refine g_ifN X238 K d12_110 ((if0 _ _).trans (tlt ((lw_lt (0 : Int64) x3).mpr hc110_239)).2.1) (g_aloadN X238 K d12_113 rfl rfl (g_iloadN X238 K d12_114 rfl (g_iloadN X238 K d12_115 rfl ?_)))
      have xb240 := own_XF_keep xb234 K238 na13
      have q241 := ((q219.keep K233 na14).keep K238 na15)
      have q242 := ((q220.keep K233 na16).keep K238 na17)
      have q243 := ((q221.keep K233 na18).keep K238 na19)
      have q244 := ((q222.keep K233 na20).keep K238 na21)
      have q245 := ((q223.keep K233 na11).keep K238 na22)
      have q246 := ((((((pre_A_sk.other W7 (own_on nb0_24 15 0 rfl rfl)).other W9 (own_on nb0_24 15 0 rfl rfl)).other W11 (own_on nb0_24 15 0 rfl rfl)).keep K22 na23).keep K233 na24).keep K238 na25)
      have q247 := ((((((pre_A_vi.other W7 (own_on nb0_24 17 0 rfl rfl)).other W9 (own_on nb0_24 17 0 rfl rfl)).other W11 (own_on nb0_24 17 0 rfl rfl)).keep K22 na26).keep K233 na27).keep K238 na28)
      have q248 := ((((((pre_A_cu.other W7 (own_on nb0_24 16 0 rfl rfl)).other W9 (own_on nb0_24 16 0 rfl rfl)).other W11 (own_on nb0_24 16 0 rfl rfl)).keep K22 na29).keep K233 na30).keep K238 na31)
      have q249 := (r233_1.keep K238 na32)
      refine g_callP X238 K rfl 201 202 4 204 203 3 rfl rfl rfl rfl rfl rfl (by decide) (rmwk0 l Z a0 hw x0 hn hq T238.heap n0 (Nat.le_trans Z0 KK238.1) xb240 q241 q242 q243 q244 q245 r238_0 q246 q247 q248 q249 (by decide) (fun _ => own_rcne hk1 hk0 (Int.ne_of_gt kk)) (p0) (own_rc k0)) xb240.1 d12_116 hml.symm (argsL := [(.int 0), (.int 1)]) (lenOf pd_13 rfl) rfl 0 (Nat.le_of_ble_eq_true rfl) (by decide) fun v250 T250 Lc250 hQ250 X250 => ?_
      obtain ⟨e0_250, e1_250, e2_250, e3_250, rfl, N250q, K250, rb250, r250_1, r250_2, r250_3, r250_4⟩ := hQ250
      have N250 := Fr.app N238 N250q
      have KK250 := KK238.trans K250 (own_al [0, 11, 13, 12, 7] rfl)
      dsimp only [Option.toList, List.cons_append, List.nil_append]
      refine g_ifN X250 K d12_119 ((if0 _ _).trans (feq (by decide)).1) (g_lloadN X250 K d12_122 rfl (g_lload X250 K d12_123 rfl (g_lsub X250 K d12_125 rfl (g_lstore X250 K d12_126 (L' := #[rv x0, iv 0, iv 1, lv x3, .second, lv 0, .second, lv ((0 : Int64) + ((k0 + (0 : Int64)) - pp_22)), .second, lv (x3 - (0 : Int64)), .second, uu]) rfl (g_iloadN X250 K d12_128 rfl (g_istore X250 K d12_129 (L' := #[rv x0, iv 0, iv 1, lv x3, .second, lv 0, .second, lv ((0 : Int64) + ((k0 + (0 : Int64)) - pp_22)), .second, lv (x3 - (0 : Int64)), .second, iv 1]) rfl (g_iload X250 K d12_131 rfl (g_iloadN X250 K d12_133 rfl (g_icN X250 K d12_134 (feq (by decide)).1 (g_lload X250 K d12_137 rfl (g_ag X250 K rfl 16 rfl rb250.2.2.2.1 d12_139 d12_140 rfl fun T253 X253 e253 => g_ag X253 K e253 30 rfl rb250.2.2.2.2.2.2.2.2.1 d12_143 d12_144 rfl fun T254 X254 e254 => ?_)))))))))))
      refine g_iload X254 K d12_147 rfl (g_iaload X254 K e254 r250_4 d12_149 (by decide) (v := (.int 0)) rfl ?_)
      have q255 := (q245.keep K250 na33)
      refine g_laload X254 K e254 q255 d12_150 (by decide) (v := (.long c0)) rfl (g_callS X254 K e254 198 199 81 200 rfl rfl rfl rfl (by decide) (rm32 l Z a0 hw (x3 - (0 : Int64)) c0 T250.heap n0 (Nat.le_trans Z0 KK250.1) ) d12_151 hml.symm (argsL := [(.long (x3 - (0 : Int64))), (.long c0)]) (lenOf pd_5 rfl) rfl 0 (Nat.le_of_ble_eq_true rfl) (by decide) fun v256 T256 Lc256 hQ256 X256 => ?_)
      obtain ⟨rfl, N256q, e256⟩ := hQ256
      have N256 := Fr.app N250 N256q
      dsimp only [Option.toList, List.cons_append, List.nil_append]
      obtain ⟨f257, hf257⟩ : ∃ z : Int64, z = (if c0 < (x3 - (0 : Int64)) then c0 else (x3 - (0 : Int64))) := ⟨_, rfl⟩
      refine gB (S' := T256.setTop (mkF m 154 #[rv x0, iv 0, iv 1, lv x3, .second, lv 0, .second, lv ((0 : Int64) + ((k0 + (0 : Int64)) - pp_22)), .second, lv (x3 - (0 : Int64)), .second, iv 1] [(.long f257)])) ?_ (by
        intro t k
        rw [← hf257]
        exact k)
      have bf257 := own_f hA own_s0 hb0 hA1 hf257
      refine g_lstore X256 K d12_154 (L' := #[rv x0, iv 0, iv 1, lv x3, .second, lv 0, .second, lv ((0 : Int64) + ((k0 + (0 : Int64)) - pp_22)), .second, lv f257, .second, iv 1]) rfl (g_aloadN X256 K d12_156 rfl rfl (g_ag X256 K e256 30 rfl rb250.2.2.2.2.2.2.2.2.1 d12_157 d12_158 rfl fun T258 X258 e258 => g_iload X258 K d12_161 rfl (g_iaload X258 K e258 r250_4 d12_163 (by decide) (v := (.int 0)) rfl ?_)))
      have q259 := (q243.keep K250 na34)
      refine g_callP X258 K e258 207 208 4 210 209 3 rfl rfl rfl rfl rfl rfl (by decide) (rmtl0 l Z a0 hw x0 T250.heap n0 (Nat.le_trans Z0 KK250.1) rb250.2.2.1 q259) rb250.1 d12_164 hml.symm (argsL := [(.int 0)]) (lenOf pd_14 rfl) rfl 0 (Nat.le_of_ble_eq_true rfl) (by decide) fun v260 T260 Lc260 hQ260 X260 => ?_
      obtain ⟨rfl, N260q, e260⟩ := hQ260
      have N260 := Fr.app N256 N260q
      dsimp only [Option.toList, List.cons_append, List.nil_append]
      refine g_istore X260 K d12_167 (L' := #[rv x0, iv 0, iv 1, lv x3, .second, lv 0, .second, lv ((0 : Int64) + ((k0 + (0 : Int64)) - pp_22)), .second, lv f257, .second, iv 0]) rfl (g_goto X260 K 131 d12_169 (by decide) (g_iload X260 K d12_131 rfl (g_iloadN X260 K d12_133 rfl (g_icY X260 K 172 d12_134 (by decide) (teq (by decide)).1 (g_iloadN X260 K d12_172 rfl (g_istore X260 K d12_173 (L' := #[rv x0, iv 0, iv 1, lv x3, .second, lv 0, .second, lv ((0 : Int64) + ((k0 + (0 : Int64)) - pp_22)), .second, lv f257, .second, iv 1]) rfl (g_iload X260 K d12_175 rfl (g_iloadN X260 K d12_177 rfl (g_icN X260 K d12_178 (feq (by decide)).1 (g_aloadN X260 K d12_181 rfl rfl (g_ag X260 K e260 30 rfl rb250.2.2.2.2.2.2.2.2.1 d12_182 d12_183 rfl fun T263 X263 e263 => g_iload X263 K d12_186 rfl ?_)))))))))))
      refine g_iaload X263 K e263 r250_4 d12_188 (by decide) (v := (.int 0)) rfl (g_lload X263 K d12_189 rfl ?_)
      have q264 := (q244.keep K250 na35)
      refine g_callP X263 K e263 211 212 4 214 213 3 rfl rfl rfl rfl rfl rfl (by decide) (rmps0 l Z a0 hw x0 f257 hn hq T250.heap n0 (Nat.le_trans Z0 KK250.1) rb250 q264 q255 (own_hmin bf257) (own_hdiv bf257 hk0) (own_hadd own_bf0 bf257 hk0)) rb250.1 d12_191 hml.symm (argsL := [(.int 0), (.long f257)]) (lenOf pd_15 rfl) rfl 0 (Nat.le_of_ble_eq_true rfl) (by decide) fun v265 T265 Lc265 hQ265 X265 => ?_
      obtain ⟨rfl, N265q, K265, rb265, r265_1⟩ := hQ265
      have N265 := Fr.app N260 N265q
      have KK265 := KK250.trans K265 (own_al [0, 1] rfl)
      dsimp only [Option.toList, List.cons_append, List.nil_append]
      refine g_aloadN X265 K d12_194 rfl rfl (g_ag X265 K rfl 30 rfl rb265.2.2.2.2.2.2.2.2.1 d12_195 d12_196 rfl fun T266 X266 e266 => g_iload X266 K d12_199 rfl ?_)
      have q267 := (r250_4.keep K265 na36)
      refine g_iaload X266 K e266 q267 d12_201 (by decide) (v := (.int 0)) rfl ?_
      have q268 := (q259.keep K265 na37)
      refine g_callP X266 K e266 207 208 4 210 209 3 rfl rfl rfl rfl rfl rfl (by decide) (rmtl0 l Z a0 hw x0 T265.heap n0 (Nat.le_trans Z0 KK265.1) rb265.2.2.1 q268) rb265.1 d12_202 hml.symm (argsL := [(.int 0)]) (lenOf pd_14 rfl) rfl 0 (Nat.le_of_ble_eq_true rfl) (by decide) fun v269 T269 Lc269 hQ269 X269 => ?_
      obtain ⟨rfl, N269q, e269⟩ := hQ269
      have N269 := Fr.app N265 N269q
      dsimp only [Option.toList, List.cons_append, List.nil_append]
      refine g_istore X269 K d12_205 (L' := #[rv x0, iv 0, iv 1, lv x3, .second, lv 0, .second, lv ((0 : Int64) + ((k0 + (0 : Int64)) - pp_22)), .second, lv f257, .second, iv 0]) rfl (g_goto X269 K 175 d12_207 (by decide) (g_iload X269 K d12_175 rfl (g_iloadN X269 K d12_177 rfl (g_icY X269 K 210 d12_178 (by decide) (teq (by decide)).1 (g_lload X269 K d12_210 rfl (g_lload X269 K d12_212 rfl (g_ladd X269 K d12_214 rfl (g_lstore X269 K d12_215 (L' := #[rv x0, iv 0, iv 1, lv x3, .second, lv ((0 : Int64) + f257), .second, lv ((0 : Int64) + ((k0 + (0 : Int64)) - pp_22)), .second, lv f257, .second, iv 0]) rfl (g_goto X269 K 106 d12_217 (by decide) (g_lload X269 K d12_106 rfl (g_lloadN X269 K d12_108 rfl (g_lcmp X269 K d12_109 rfl ?_))))))))))))
      by_cases hc110_271 : ((0 : Int64) + f257) < x3
      refine g_ifN X269 K d12_110 ((if0 _ _).trans (tlt ((lw_lt ((0 : Int64) + f257) x3).mpr hc110_271)).2.1) ?_
      ·
       have xh272 := own_fx hA own_s0 hb0 hf257 hc110_271
       refine g_aloadN X269 K d12_113 rfl rfl (g_iloadN X269 K d12_114 rfl (g_iloadN X269 K d12_115 rfl ?_))
       have q273 := ((q241.keep K250 na38).keep K265 na39)
       have q274 := ((q242.keep K250 na40).keep K265 na41)
       have q275 := (q264.keep K265 na42)
       have q276 := ((r238_0.keep K250 na43).keep K265 na44)
       have q277 := (r250_1.keep K265 na45)
       have q278 := (r250_3.keep K265 na46)
       have q279 := (r250_2.keep K265 na47)
       refine g_callP X269 K e269 201 202 4 204 203 3 rfl rfl rfl rfl rfl rfl (by decide) (rmwkF l Z a0 hw x0 hn hq T265.heap n0 (Nat.le_trans Z0 KK265.1) rb265 q273 q274 q268 q275 r265_1 q276 q277 q278 q279 q267 (by decide) (fun _ => own_rcne hk1 hk0 (Int.ne_of_gt kk)) (fun q => absurd q (own_nlt xh272))) rb265.1 d12_116 hml.symm (argsL := [(.int 0), (.int 1)]) (lenOf pd_13 rfl) rfl 0 (Nat.le_of_ble_eq_true rfl) (by decide) fun v280 T280 Lc280 hQ280 X280 => ?_
       obtain ⟨e0_280, e1_280, e2_280, e3_280, rfl, N280q, K280, rb280, r280_1, r280_2, r280_3, r280_4⟩ := hQ280
       have N280 := Fr.app N269 N280q
       have KK280 := KK265.trans K280 (own_al [0, 11, 13, 12, 7] rfl)
       dsimp only [Option.toList, List.cons_append, List.nil_append]
       refine g_ifY X280 K 220 d12_119 (by decide) ((if0 _ _).trans (teq (by decide)).1) (g_goto X280 K 67 d12_220 (by decide) (g_lload X280 K d12_67 rfl (g_lloadN X280 K d12_69 rfl (g_lcmp X280 K d12_70 rfl ?_))))
       have hc71_282 : ((0 : Int64) + f257) < x3 := hc110_271
       refine g_ifN X280 K d12_71 ((if0 _ _).trans (tlt ((lw_lt ((0 : Int64) + f257) x3).mpr hc71_282)).2.1) (g_aloadN X280 K d12_74 rfl rfl (g_iloadN X280 K d12_75 rfl (g_iconst X280 K d12_76 (z := 1) rfl ?_)))
       have q283 := (q273.keep K280 na38)
       have q284 := (q274.keep K280 na40)
       have q285 := (q268.keep K280 na34)
       have q286 := (q275.keep K280 na35)
       have q287 := (r265_1.keep K280 na33)
       have q288 := (q276.keep K280 na43)
       have q289 := ((((r233_2_0.keep K238).keep K250).keep K265).keep K280)
       have q290 := ((((r233_2_1.keep K238 na48).keep K250 na49).keep K265 na50).keep K280 na49)
       have q291 := ((((r233_2_2.keep K238 na48).keep K250 na49).keep K265 na50).keep K280 na49)
       have q292 := ((((r233_2_3.keep K238 na48).keep K250 na49).keep K265 na50).keep K280 na49)
       have q293 := ((((r233_2_4.keep K238 na48).keep K250 na49).keep K265 na50).keep K280 na49)
       have q294 := ((((r233_3.keep K238 na51).keep K250 na52).keep K265 na53).keep K280 na52)
       have q295 := ((((r233_4.keep K238 na54).keep K250 na55).keep K265 na56).keep K280 na55)
       have q296 := ((((r233_0.keep K238 na57).keep K250 na58).keep K265 na59).keep K280 na58)
       refine g_callP X280 K rfl 159 160 4 162 161 3 rfl rfl rfl rfl rfl rfl (by decide) (rmsr2 l Z a0 hw x0 T280.heap n0 (Nat.le_trans Z0 KK280.1) rb280 q283 q284 q285 q286 q287 q288 ⟨q289, q290, q291, q292, q293⟩ q294 q295 q296 r280_4 (own_ne0 p2) (xh272) (own_yb hk1 hk0) (fun q => absurd rfl q) (fun _ => own_rev hk1 hk0 (Int.le_of_lt kk))) rb280.1 d12_77 hml.symm (argsL := [(.int 0), (.int 1)]) (lenOf pd_12 rfl) rfl 0 (Nat.le_of_ble_eq_true rfl) (by decide) fun v297 T297 Lc297 hQ297 X297 => ?_
       obtain ⟨e0_297, e1_297, e2_297, e3_297, rfl, N297q, K297, r297_0, r297_1, ⟨r297_2_0, r297_2_1, r297_2_2, r297_2_3, r297_2_4⟩, r297_3, r297_4⟩ := hQ297
       have N297 := Fr.app N280 N297q
       have KK297 := KK280.trans K297 (own_al [6, 7, 8, 9, 10] rfl)
       dsimp only [Option.toList, List.cons_append, List.nil_append]
       have xb298 := own_XF_keep rb280 K297 na10
       refine g_ag X297 K rfl 28 rfl xb298.2.2.2.2.2.2.2.1 d12_80 d12_81 rfl fun T299 X299 e299 => g_iloadN X299 K d12_84 rfl (g_laload X299 K e299 r297_0 d12_85 (by decide) (v := (.long ((0 : Int64) + ((k1 + (0 : Int64)) - k0)))) rfl (g_lstore X299 K d12_86 (L' := #[rv x0, iv 0, iv 1, lv x3, .second, lv ((0 : Int64) + f257), .second, lv ((0 : Int64) + ((k1 + (0 : Int64)) - k0)), .second, lv f257, .second, iv 0]) rfl (g_lload X299 K d12_88 rfl (g_ldc2 X299 K 163 rfl d12_90 (z := (9223372036854775807 : Int64)) rfl (g_lcmp X299 K d12_93 rfl ?_)))))
       have hc94_300 : ¬ (((0 : Int64) + ((k1 + (0 : Int64)) - k0)) = (9223372036854775807 : Int64)) := own_neM (own_yb hk1 hk0)
       refine g_ifY X299 K 100 d12_94 (by decide) ((if0 _ _).trans (feq (fun q => hc94_300 ((lw_eq ((0 : Int64) + ((k1 + (0 : Int64)) - k0)) (9223372036854775807 : Int64)).mp q))).2) (g_aloadN X299 K d12_100 rfl rfl (g_lload X299 K d12_101 rfl ?_))
       have q301 := (q288.keep K297 na12)
       refine g_callP X299 K e299 194 195 4 197 196 3 rfl rfl rfl rfl rfl rfl (by decide) (rm31 l Z a0 hw x0 hn hq k1 T297.heap n0 (Nat.le_trans Z0 KK297.1) xb298 q301 r297_0 (own_hD hk1 hk0 (Int.le_of_lt kk)) (own_hnp _ _) (own_hmax hk1)) xb298.1 d12_103 hml.symm (argsL := [(.long ((0 : Int64) + ((k1 + (0 : Int64)) - k0)))]) (lenOf pd_4 rfl) rfl 0 (Nat.le_of_ble_eq_true rfl) (by decide) fun v302 T302 Lc302 hQ302 X302 => ?_
       obtain ⟨rfl, N302q, K302, r302_0⟩ := hQ302
       have N302 := Fr.app N297 N302q
       have KK302 := KK297.trans K302 (own_al [2] rfl)
       dsimp only [Option.toList, List.cons_append, List.nil_append]
       refine g_lload X302 K d12_106 rfl (g_lloadN X302 K d12_108 rfl (g_lcmp X302 K d12_109 rfl ?_))
       have hc110_303 : ((0 : Int64) + f257) < x3 := hc110_271
       refine g_ifN X302 K d12_110 ((if0 _ _).trans (tlt ((lw_lt ((0 : Int64) + f257) x3).mpr hc110_303)).2.1) (g_aloadN X302 K d12_113 rfl rfl (g_iloadN X302 K d12_114 rfl (g_iloadN X302 K d12_115 rfl ?_)))
       have xb304 := own_XF_keep xb298 K302 na13
       have q305 := ((q283.keep K297 na14).keep K302 na15)
       have q306 := ((q284.keep K297 na16).keep K302 na17)
       have q307 := ((q285.keep K297 na18).keep K302 na19)
       have q308 := ((q286.keep K297 na20).keep K302 na21)
       have q309 := ((q287.keep K297 na11).keep K302 na22)
       have q310 := ((r280_1.keep K297 na24).keep K302 na25)
       have q311 := ((r280_3.keep K297 na27).keep K302 na28)
       have q312 := ((r280_2.keep K297 na30).keep K302 na31)
       have q313 := (r297_1.keep K302 na32)
       refine g_callP X302 K rfl 201 202 4 204 203 3 rfl rfl rfl rfl rfl rfl (by decide) (rmwk2 l Z a0 hw x0 hn hq T302.heap n0 (Nat.le_trans Z0 KK302.1) xb304 q305 q306 q307 q308 q309 r302_0 q310 q311 q312 q313 (by decide) (p2) (own_rc k1)) xb304.1 d12_116 hml.symm (argsL := [(.int 0), (.int 1)]) (lenOf pd_13 rfl) rfl 0 (Nat.le_of_ble_eq_true rfl) (by decide) fun v314 T314 Lc314 hQ314 X314 => ?_
       obtain ⟨e0_314, e1_314, e2_314, e3_314, rfl, N314q, K314, rb314, r314_1, r314_2, r314_3, r314_4⟩ := hQ314
       have N314 := Fr.app N302 N314q
       have KK314 := KK302.trans K314 (own_al [0, 11, 13, 12, 7] rfl)
       dsimp only [Option.toList, List.cons_append, List.nil_append]
       refine g_ifN X314 K d12_119 ((if0 _ _).trans (feq (by decide)).1) (g_lloadN X314 K d12_122 rfl (g_lload X314 K d12_123 rfl (g_lsub X314 K d12_125 rfl (g_lstore X314 K d12_126 (L' := #[rv x0, iv 0, iv 1, lv x3, .second, lv ((0 : Int64) + f257), .second, lv ((0 : Int64) + ((k1 + (0 : Int64)) - k0)), .second, lv (x3 - ((0 : Int64) + f257)), .second, iv 0]) rfl (g_iloadN X314 K d12_128 rfl (g_istore X314 K d12_129 (L' := #[rv x0, iv 0, iv 1, lv x3, .second, lv ((0 : Int64) + f257), .second, lv ((0 : Int64) + ((k1 + (0 : Int64)) - k0)), .second, lv (x3 - ((0 : Int64) + f257)), .second, iv 1]) rfl (g_iload X314 K d12_131 rfl (g_iloadN X314 K d12_133 rfl (g_icN X314 K d12_134 (feq (by decide)).1 (g_lload X314 K d12_137 rfl (g_ag X314 K rfl 16 rfl rb314.2.2.2.1 d12_139 d12_140 rfl fun T317 X317 e317 => g_ag X317 K e317 30 rfl rb314.2.2.2.2.2.2.2.2.1 d12_143 d12_144 rfl fun T318 X318 e318 => ?_)))))))))))
       refine g_iload X318 K d12_147 rfl (g_iaload X318 K e318 r314_4 d12_149 (by decide) (v := (.int 2)) rfl ?_)
       have q319 := (q309.keep K314 na33)
       refine g_laload X318 K e318 q319 d12_150 (by decide) (v := (.long c1)) rfl (g_callS X318 K e318 198 199 81 200 rfl rfl rfl rfl (by decide) (rm32 l Z a0 hw (x3 - ((0 : Int64) + f257)) c1 T314.heap n0 (Nat.le_trans Z0 KK314.1) ) d12_151 hml.symm (argsL := [(.long (x3 - ((0 : Int64) + f257))), (.long c1)]) (lenOf pd_5 rfl) rfl 0 (Nat.le_of_ble_eq_true rfl) (by decide) fun v320 T320 Lc320 hQ320 X320 => ?_)
       obtain ⟨rfl, N320q, e320⟩ := hQ320
       have N320 := Fr.app N314 N320q
       dsimp only [Option.toList, List.cons_append, List.nil_append]
       obtain ⟨f321, hf321⟩ : ∃ z : Int64, z = (if c1 < (x3 - ((0 : Int64) + f257)) then c1 else (x3 - ((0 : Int64) + f257))) := ⟨_, rfl⟩
       refine gB (S' := T320.setTop (mkF m 154 #[rv x0, iv 0, iv 1, lv x3, .second, lv ((0 : Int64) + f257), .second, lv ((0 : Int64) + ((k1 + (0 : Int64)) - k0)), .second, lv (x3 - ((0 : Int64) + f257)), .second, iv 1] [(.long f321)])) ?_ (by
         intro t k
         rw [← hf321]
         exact k)
       have bf321 := own_f hA (own_s1 bf257) hb1 hc110_271 hf321
       refine g_lstore X320 K d12_154 (L' := #[rv x0, iv 0, iv 1, lv x3, .second, lv ((0 : Int64) + f257), .second, lv ((0 : Int64) + ((k1 + (0 : Int64)) - k0)), .second, lv f321, .second, iv 1]) rfl (g_aloadN X320 K d12_156 rfl rfl (g_ag X320 K e320 30 rfl rb314.2.2.2.2.2.2.2.2.1 d12_157 d12_158 rfl fun T322 X322 e322 => g_iload X322 K d12_161 rfl (g_iaload X322 K e322 r314_4 d12_163 (by decide) (v := (.int 2)) rfl ?_)))
       have q323 := (q307.keep K314 na34)
       refine g_callP X322 K e322 207 208 4 210 209 3 rfl rfl rfl rfl rfl rfl (by decide) (rmtl2 l Z a0 hw x0 T314.heap n0 (Nat.le_trans Z0 KK314.1) rb314.2.2.1 q323) rb314.1 d12_164 hml.symm (argsL := [(.int 2)]) (lenOf pd_14 rfl) rfl 0 (Nat.le_of_ble_eq_true rfl) (by decide) fun v324 T324 Lc324 hQ324 X324 => ?_
       obtain ⟨rfl, N324q, e324⟩ := hQ324
       have N324 := Fr.app N320 N324q
       dsimp only [Option.toList, List.cons_append, List.nil_append]
       refine g_istore X324 K d12_167 (L' := #[rv x0, iv 0, iv 1, lv x3, .second, lv ((0 : Int64) + f257), .second, lv ((0 : Int64) + ((k1 + (0 : Int64)) - k0)), .second, lv f321, .second, iv 0]) rfl (g_goto X324 K 131 d12_169 (by decide) (g_iload X324 K d12_131 rfl (g_iloadN X324 K d12_133 rfl (g_icY X324 K 172 d12_134 (by decide) (teq (by decide)).1 (g_iloadN X324 K d12_172 rfl (g_istore X324 K d12_173 (L' := #[rv x0, iv 0, iv 1, lv x3, .second, lv ((0 : Int64) + f257), .second, lv ((0 : Int64) + ((k1 + (0 : Int64)) - k0)), .second, lv f321, .second, iv 1]) rfl (g_iload X324 K d12_175 rfl (g_iloadN X324 K d12_177 rfl (g_icN X324 K d12_178 (feq (by decide)).1 (g_aloadN X324 K d12_181 rfl rfl (g_ag X324 K e324 30 rfl rb314.2.2.2.2.2.2.2.2.1 d12_182 d12_183 rfl fun T327 X327 e327 => g_iload X327 K d12_186 rfl ?_)))))))))))
       refine g_iaload X327 K e327 r314_4 d12_188 (by decide) (v := (.int 2)) rfl (g_lload X327 K d12_189 rfl ?_)
       have q328 := (q308.keep K314 na35)
       refine g_callP X327 K e327 211 212 4 214 213 3 rfl rfl rfl rfl rfl rfl (by decide) (rmps2 l Z a0 hw x0 f321 hn hq T314.heap n0 (Nat.le_trans Z0 KK314.1) rb314 q328 q319 (own_hmin bf321) (own_hdiv bf321 hk1) (own_hadd (own_bf1 bf257 hk0) bf321 hk1)) rb314.1 d12_191 hml.symm (argsL := [(.int 2), (.long f321)]) (lenOf pd_15 rfl) rfl 0 (Nat.le_of_ble_eq_true rfl) (by decide) fun v329 T329 Lc329 hQ329 X329 => ?_
       obtain ⟨rfl, N329q, K329, rb329, r329_1⟩ := hQ329
       have N329 := Fr.app N324 N329q
       have KK329 := KK314.trans K329 (own_al [0, 1] rfl)
       dsimp only [Option.toList, List.cons_append, List.nil_append]
       refine g_aloadN X329 K d12_194 rfl rfl (g_ag X329 K rfl 30 rfl rb329.2.2.2.2.2.2.2.2.1 d12_195 d12_196 rfl fun T330 X330 e330 => g_iload X330 K d12_199 rfl ?_)
       have q331 := (r314_4.keep K329 na36)
       refine g_iaload X330 K e330 q331 d12_201 (by decide) (v := (.int 2)) rfl ?_
       have q332 := (q323.keep K329 na37)
       refine g_callP X330 K e330 207 208 4 210 209 3 rfl rfl rfl rfl rfl rfl (by decide) (rmtl2 l Z a0 hw x0 T329.heap n0 (Nat.le_trans Z0 KK329.1) rb329.2.2.1 q332) rb329.1 d12_202 hml.symm (argsL := [(.int 2)]) (lenOf pd_14 rfl) rfl 0 (Nat.le_of_ble_eq_true rfl) (by decide) fun v333 T333 Lc333 hQ333 X333 => ?_
       obtain ⟨rfl, N333q, e333⟩ := hQ333
       have N333 := Fr.app N329 N333q
       dsimp only [Option.toList, List.cons_append, List.nil_append]
       refine g_istore X333 K d12_205 (L' := #[rv x0, iv 0, iv 1, lv x3, .second, lv ((0 : Int64) + f257), .second, lv ((0 : Int64) + ((k1 + (0 : Int64)) - k0)), .second, lv f321, .second, iv 0]) rfl (g_goto X333 K 175 d12_207 (by decide) (g_iload X333 K d12_175 rfl (g_iloadN X333 K d12_177 rfl (g_icY X333 K 210 d12_178 (by decide) (teq (by decide)).1 (g_lload X333 K d12_210 rfl (g_lload X333 K d12_212 rfl (g_ladd X333 K d12_214 rfl (g_lstore X333 K d12_215 (L' := #[rv x0, iv 0, iv 1, lv x3, .second, lv (((0 : Int64) + f257) + f321), .second, lv ((0 : Int64) + ((k1 + (0 : Int64)) - k0)), .second, lv f321, .second, iv 0]) rfl (g_goto X333 K 106 d12_217 (by decide) (g_lload X333 K d12_106 rfl (g_lloadN X333 K d12_108 rfl (g_lcmp X333 K d12_109 rfl ?_))))))))))))
       by_cases hc110_335 : (((0 : Int64) + f257) + f321) < x3
       refine g_ifN X333 K d12_110 ((if0 _ _).trans (tlt ((lw_lt (((0 : Int64) + f257) + f321) x3).mpr hc110_335)).2.1) ?_
       ·
        have xh336 := own_fx hA (own_s1 bf257) hb1 hf321 hc110_335
        refine g_aloadN X333 K d12_113 rfl rfl (g_iloadN X333 K d12_114 rfl (g_iloadN X333 K d12_115 rfl ?_))
        have q337 := ((q305.keep K314 na38).keep K329 na39)
        have q338 := ((q306.keep K314 na40).keep K329 na41)
        have q339 := (q328.keep K329 na42)
        have q340 := ((r302_0.keep K314 na43).keep K329 na44)
        have q341 := (r314_1.keep K329 na45)
        have q342 := (r314_3.keep K329 na46)
        have q343 := (r314_2.keep K329 na47)
        refine g_callP X333 K e333 201 202 4 204 203 3 rfl rfl rfl rfl rfl rfl (by decide) (rmwkF l Z a0 hw x0 hn hq T329.heap n0 (Nat.le_trans Z0 KK329.1) rb329 q337 q338 q332 q339 r329_1 q340 q341 q342 q343 q331 (by decide) (fun q => absurd q (own_nlt xh336)) (fun q => absurd q (own_nlt xh272))) rb329.1 d12_116 hml.symm (argsL := [(.int 0), (.int 1)]) (lenOf pd_13 rfl) rfl 0 (Nat.le_of_ble_eq_true rfl) (by decide) fun v344 T344 Lc344 hQ344 X344 => ?_
        obtain ⟨e0_344, e1_344, e2_344, e3_344, rfl, N344q, K344, rb344, r344_1, r344_2, r344_3, r344_4⟩ := hQ344
        have N344 := Fr.app N333 N344q
        have KK344 := KK329.trans K344 (own_al [0, 11, 13, 12, 7] rfl)
        dsimp only [Option.toList, List.cons_append, List.nil_append]
        refine g_ifY X344 K 220 d12_119 (by decide) ((if0 _ _).trans (teq (by decide)).1) (g_goto X344 K 67 d12_220 (by decide) (g_lload X344 K d12_67 rfl (g_lloadN X344 K d12_69 rfl (g_lcmp X344 K d12_70 rfl ?_))))
        have hc71_346 : (((0 : Int64) + f257) + f321) < x3 := hc110_335
        refine g_ifN X344 K d12_71 ((if0 _ _).trans (tlt ((lw_lt (((0 : Int64) + f257) + f321) x3).mpr hc71_346)).2.1) (g_aloadN X344 K d12_74 rfl rfl (g_iloadN X344 K d12_75 rfl (g_iconst X344 K d12_76 (z := 1) rfl ?_)))
        have q347 := (q337.keep K344 na38)
        have q348 := (q338.keep K344 na40)
        have q349 := (q332.keep K344 na34)
        have q350 := (q339.keep K344 na35)
        have q351 := (r329_1.keep K344 na33)
        have q352 := (q340.keep K344 na43)
        have q353 := ((((r297_2_0.keep K302).keep K314).keep K329).keep K344)
        have q354 := ((((r297_2_1.keep K302 na48).keep K314 na49).keep K329 na50).keep K344 na49)
        have q355 := ((((r297_2_2.keep K302 na48).keep K314 na49).keep K329 na50).keep K344 na49)
        have q356 := ((((r297_2_3.keep K302 na48).keep K314 na49).keep K329 na50).keep K344 na49)
        have q357 := ((((r297_2_4.keep K302 na48).keep K314 na49).keep K329 na50).keep K344 na49)
        have q358 := ((((r297_3.keep K302 na51).keep K314 na52).keep K329 na53).keep K344 na52)
        have q359 := ((((r297_4.keep K302 na54).keep K314 na55).keep K329 na56).keep K344 na55)
        have q360 := ((((r297_0.keep K302 na57).keep K314 na58).keep K329 na59).keep K344 na58)
        refine g_callP X344 K rfl 159 160 4 162 161 3 rfl rfl rfl rfl rfl rfl (by decide) (rmsrM l Z a0 hw x0 T344.heap n0 (Nat.le_trans Z0 KK344.1) rb344 q347 q348 q349 q350 q351 q352 ⟨q353, q354, q355, q356, q357⟩ q358 q359 q360 r344_4 (xh336) (xh272)) rb344.1 d12_77 hml.symm (argsL := [(.int 0), (.int 1)]) (lenOf pd_12 rfl) rfl 0 (Nat.le_of_ble_eq_true rfl) (by decide) fun v361 T361 Lc361 hQ361 X361 => ?_
        obtain ⟨e0_361, e1_361, e2_361, e3_361, rfl, N361q, K361, r361_0, r361_1, ⟨r361_2_0, r361_2_1, r361_2_2, r361_2_3, r361_2_4⟩, r361_3, r361_4⟩ := hQ361
        have N361 := Fr.app N344 N361q
        have KK361 := KK344.trans K361 (own_al [6, 7, 8, 9, 10] rfl)
        dsimp only [Option.toList, List.cons_append, List.nil_append]
        have xb362 := own_XF_keep rb344 K361 na10
        refine g_ag X361 K rfl 28 rfl xb362.2.2.2.2.2.2.2.1 d12_80 d12_81 rfl fun T363 X363 e363 => g_iloadN X363 K d12_84 rfl (g_laload X363 K e363 r361_0 d12_85 (by decide) (v := (.long 9223372036854775807)) rfl (g_lstore X363 K d12_86 (L' := #[rv x0, iv 0, iv 1, lv x3, .second, lv (((0 : Int64) + f257) + f321), .second, lv 9223372036854775807, .second, lv f321, .second, iv 0]) rfl (g_lload X363 K d12_88 rfl (g_ldc2 X363 K 163 rfl d12_90 (z := (9223372036854775807 : Int64)) rfl (g_lcmp X363 K d12_93 (z := (0 : Int32)) rfl (g_ifN X363 K d12_94 ((if0 _ _).trans (teq (by decide)).2) (g_goto X363 K 223 d12_97 (by decide) (g_lload X363 K d12_223 rfl ?_))))))))
        have q365 := (q351.keep K361 na11)
        have q366 := (q352.keep K361 na12)
        exact g_lvJ X363 K hlk hrt hR d12_225 (by decide) (by rw [e363]; exact ⟨(((0 : Int64) + (f257 * k0)) + (f321 * k1)), (((((0 : Int64) + (1 : Int64)) + (1 : Int64)) + (1 : Int64)) + (1 : Int64)), (c0 - f257), ((0 : Int64) + f257), (c1 - f321), ((0 : Int64) + f321), (0 : Int64), k1, (((0 : Int64) + f257) + f321), rfl, N361, KK361, xb362, q365, q366, (own_p1 c0 _)⟩)
       refine g_ifY X333 K 220 d12_110 (by decide) ((if0 _ _).trans (flt (fun q => hc110_335 ((lw_lt (((0 : Int64) + f257) + f321) x3).mp q))).2.1) ?_
       ·
        refine g_goto X333 K 67 d12_220 (by decide) (g_lload X333 K d12_67 rfl (g_lloadN X333 K d12_69 rfl (g_lcmp X333 K d12_70 rfl ?_)))
        have hc71_367 : ¬ ((((0 : Int64) + f257) + f321) < x3) := hc110_335
        refine g_ifY X333 K 223 d12_71 (by decide) ((if0 _ _).trans (flt (fun q => hc71_367 ((lw_lt (((0 : Int64) + f257) + f321) x3).mp q))).2.1) (g_lload X333 K d12_223 rfl ?_)
        have q368 := ((r302_0.keep K314 na43).keep K329 na44)
        exact g_lvJ X333 K hlk hrt hR d12_225 (by decide) (by rw [e333]; exact ⟨(((0 : Int64) + (f257 * k0)) + (f321 * k1)), ((((0 : Int64) + (1 : Int64)) + (1 : Int64)) + (1 : Int64)), (c0 - f257), ((0 : Int64) + f257), (c1 - f321), ((0 : Int64) + f321), (0 : Int64), k1, (((0 : Int64) + f257) + f321), rfl, N333, KK329, rb329, r329_1, q368, (own_p1 c0 _)⟩)
      refine g_ifY X269 K 220 d12_110 (by decide) ((if0 _ _).trans (flt (fun q => hc110_271 ((lw_lt ((0 : Int64) + f257) x3).mp q))).2.1) ?_
      ·
       refine g_goto X269 K 67 d12_220 (by decide) (g_lload X269 K d12_67 rfl (g_lloadN X269 K d12_69 rfl (g_lcmp X269 K d12_70 rfl ?_)))
       have hc71_369 : ¬ (((0 : Int64) + f257) < x3) := hc110_271
       refine g_ifY X269 K 223 d12_71 (by decide) ((if0 _ _).trans (flt (fun q => hc71_369 ((lw_lt ((0 : Int64) + f257) x3).mp q))).2.1) (g_lload X269 K d12_223 rfl ?_)
       have q370 := ((r238_0.keep K250 na43).keep K265 na44)
       exact g_lvJ X269 K hlk hrt hR d12_225 (by decide) (by rw [e269]; exact ⟨((0 : Int64) + (f257 * k0)), ((0 : Int64) + (1 : Int64)), (c0 - f257), ((0 : Int64) + f257), c1, (0 : Int64), (0 : Int64), k0, ((0 : Int64) + f257), rfl, N269, KK265, rb265, r265_1, q370, (own_p1 c0 _)⟩)
     ·
      have kk1 := kk
      by_cases kk : k1.toInt < k0.toInt
      ·
       refine g_lload X22 K d12_67 rfl (g_lloadN X22 K d12_69 rfl (g_lcmp X22 K d12_70 rfl ?_))
       have hc71_371 : (0 : Int64) < x3 := hA1
       refine g_ifN X22 K d12_71 ((if0 _ _).trans (tlt ((lw_lt (0 : Int64) x3).mpr hc71_371)).2.1) (g_aloadN X22 K d12_74 rfl rfl (g_iloadN X22 K d12_75 rfl (g_iconst X22 K d12_76 (z := 1) rfl ?_)))
       have q372 := (q13.keep K22 na0)
       have q373 := (q14.keep K22 na1)
       have q374 := (q15.keep K22 na2)
       have q375 := (q16.keep K22 na3)
       have q376 := (q17.keep K22 na4)
       have q377 := ((((nb1_0.wr W7).wr W9).wr W11).keep K22)
       have q378 := ((((nb1_1.other W7 (Or.inl (own_on nb0_24 9 0 rfl rfl))).other W9 (Or.inl (own_on nb0_24 9 0 rfl rfl))).other W11 (Or.inl (own_on nb0_24 9 0 rfl rfl))).keep K22 na5)
       have q379 := ((((nb1_2.other W7 (Or.inl (own_on nb0_24 9 0 rfl rfl))).other W9 (Or.inl (own_on nb0_24 9 0 rfl rfl))).other W11 (Or.inl (own_on nb0_24 9 0 rfl rfl))).keep K22 na5)
       have q380 := ((((nb1_3.other W7 (Or.inl (own_on nb0_24 9 0 rfl rfl))).other W9 (Or.inl (own_on nb0_24 9 0 rfl rfl))).other W11 (Or.inl (own_on nb0_24 9 0 rfl rfl))).keep K22 na5)
       have q381 := ((((nb1_4.other W7 (Or.inl (own_on nb0_24 9 0 rfl rfl))).other W9 (Or.inl (own_on nb0_24 9 0 rfl rfl))).other W11 (Or.inl (own_on nb0_24 9 0 rfl rfl))).keep K22 na5)
       have q382 := ((((pre_A_hn.other W7 (own_on nb0_24 10 0 rfl rfl)).other W9 (own_on nb0_24 10 0 rfl rfl)).other W11 (own_on nb0_24 10 0 rfl rfl)).keep K22 na6)
       have q383 := ((((pre_A_hq.other W7 (own_on nb0_24 11 0 rfl rfl)).other W9 (own_on nb0_24 11 0 rfl rfl)).other W11 (own_on nb0_24 11 0 rfl rfl)).keep K22 na7)
       have q384 := ((((pre_A_di.other W7 (own_on nb0_24 7 0 rfl rfl)).other W9 (own_on nb0_24 7 0 rfl rfl)).other W11 (own_on nb0_24 7 0 rfl rfl)).keep K22 na8)
       have q385 := ((((pre_A_pa.other W7 (own_on nb0_24 8 0 rfl rfl)).other W9 (own_on nb0_24 8 0 rfl rfl)).other W11 (own_on nb0_24 8 0 rfl rfl)).keep K22 na9)
       refine g_callP X22 K rfl 159 160 4 162 161 3 rfl rfl rfl rfl rfl rfl (by decide) (rmsrB2 l Z a0 hw x0 T22.heap n0 (Nat.le_trans Z0 KK22.1) rb22 q372 q373 q374 q375 q376 r22_1 ⟨q377, q378, q379, q380, q381⟩ q382 q383 q384 q385 (own_ne0 p2) (own_ne0 p0) (own_yb hk1 r22_2.1) (fun q => Int.lt_asymm ((own_dlt hk0 hk1 r22_2.1).mp q) kk) (fun q => absurd rfl q) (fun q => absurd rfl q)) rb22.1 d12_77 hml.symm (argsL := [(.int 0), (.int 1)]) (lenOf pd_12 rfl) rfl 0 (Nat.le_of_ble_eq_true rfl) (by decide) fun v386 T386 Lc386 hQ386 X386 => ?_
       obtain ⟨e0_386, e1_386, e2_386, e3_386, rfl, N386q, K386, r386_0, r386_1, ⟨r386_2_0, r386_2_1, r386_2_2, r386_2_3, r386_2_4⟩, r386_3, r386_4⟩ := hQ386
       have N386 := Fr.app N22 N386q
       have KK386 := KK22.trans K386 (own_al [6, 7, 8, 9, 10] rfl)
       dsimp only [Option.toList, List.cons_append, List.nil_append]
       have xb387 := own_XF_keep rb22 K386 na10
       refine g_ag X386 K rfl 28 rfl xb387.2.2.2.2.2.2.2.1 d12_80 d12_81 rfl fun T388 X388 e388 => g_iloadN X388 K d12_84 rfl (g_laload X388 K e388 r386_0 d12_85 (by decide) (v := (.long ((0 : Int64) + ((k1 + (0 : Int64)) - pp_22)))) rfl (g_lstore X388 K d12_86 (L' := #[rv x0, iv 0, iv 1, lv x3, .second, lv 0, .second, lv ((0 : Int64) + ((k1 + (0 : Int64)) - pp_22)), .second, uu, uu, uu]) rfl (g_lload X388 K d12_88 rfl (g_ldc2 X388 K 163 rfl d12_90 (z := (9223372036854775807 : Int64)) rfl (g_lcmp X388 K d12_93 rfl ?_)))))
       have hc94_389 : ¬ (((0 : Int64) + ((k1 + (0 : Int64)) - pp_22)) = (9223372036854775807 : Int64)) := own_neM (own_yb hk1 r22_2.1)
       refine g_ifY X388 K 100 d12_94 (by decide) ((if0 _ _).trans (feq (fun q => hc94_389 ((lw_eq ((0 : Int64) + ((k1 + (0 : Int64)) - pp_22)) (9223372036854775807 : Int64)).mp q))).2) (g_aloadN X388 K d12_100 rfl rfl (g_lload X388 K d12_101 rfl ?_))
       have q390 := (r22_1.keep K386 na12)
       refine g_callP X388 K e388 194 195 4 197 196 3 rfl rfl rfl rfl rfl rfl (by decide) (rm31 l Z a0 hw x0 hn hq k1 T386.heap n0 (Nat.le_trans Z0 KK386.1) xb387 q390 r386_0 (own_hD hk1 r22_2.1 (r22_2.2.1 p2)) (own_hnp _ _) (own_hmax hk1)) xb387.1 d12_103 hml.symm (argsL := [(.long ((0 : Int64) + ((k1 + (0 : Int64)) - pp_22)))]) (lenOf pd_4 rfl) rfl 0 (Nat.le_of_ble_eq_true rfl) (by decide) fun v391 T391 Lc391 hQ391 X391 => ?_
       obtain ⟨rfl, N391q, K391, r391_0⟩ := hQ391
       have N391 := Fr.app N386 N391q
       have KK391 := KK386.trans K391 (own_al [2] rfl)
       dsimp only [Option.toList, List.cons_append, List.nil_append]
       refine g_lload X391 K d12_106 rfl (g_lloadN X391 K d12_108 rfl (g_lcmp X391 K d12_109 rfl ?_))
       have hc110_392 : (0 : Int64) < x3 := hA1
       refine g_ifN X391 K d12_110 ((if0 _ _).trans (tlt ((lw_lt (0 : Int64) x3).mpr hc110_392)).2.1) (g_aloadN X391 K d12_113 rfl rfl (g_iloadN X391 K d12_114 rfl (g_iloadN X391 K d12_115 rfl ?_)))
       have xb393 := own_XF_keep xb387 K391 na13
       have q394 := ((q372.keep K386 na14).keep K391 na15)
       have q395 := ((q373.keep K386 na16).keep K391 na17)
       have q396 := ((q374.keep K386 na18).keep K391 na19)
       have q397 := ((q375.keep K386 na20).keep K391 na21)
       have q398 := ((q376.keep K386 na11).keep K391 na22)
       have q399 := ((((((pre_A_sk.other W7 (own_on nb0_24 15 0 rfl rfl)).other W9 (own_on nb0_24 15 0 rfl rfl)).other W11 (own_on nb0_24 15 0 rfl rfl)).keep K22 na23).keep K386 na24).keep K391 na25)
       have q400 := ((((((pre_A_vi.other W7 (own_on nb0_24 17 0 rfl rfl)).other W9 (own_on nb0_24 17 0 rfl rfl)).other W11 (own_on nb0_24 17 0 rfl rfl)).keep K22 na26).keep K386 na27).keep K391 na28)
       have q401 := ((((((pre_A_cu.other W7 (own_on nb0_24 16 0 rfl rfl)).other W9 (own_on nb0_24 16 0 rfl rfl)).other W11 (own_on nb0_24 16 0 rfl rfl)).keep K22 na29).keep K386 na30).keep K391 na31)
       have q402 := (r386_1.keep K391 na32)
       refine g_callP X391 K rfl 201 202 4 204 203 3 rfl rfl rfl rfl rfl rfl (by decide) (rmwk2 l Z a0 hw x0 hn hq T391.heap n0 (Nat.le_trans Z0 KK391.1) xb393 q394 q395 q396 q397 q398 r391_0 q399 q400 q401 q402 (by decide) (p2) (own_rc k1)) xb393.1 d12_116 hml.symm (argsL := [(.int 0), (.int 1)]) (lenOf pd_13 rfl) rfl 0 (Nat.le_of_ble_eq_true rfl) (by decide) fun v403 T403 Lc403 hQ403 X403 => ?_
       obtain ⟨e0_403, e1_403, e2_403, e3_403, rfl, N403q, K403, rb403, r403_1, r403_2, r403_3, r403_4⟩ := hQ403
       have N403 := Fr.app N391 N403q
       have KK403 := KK391.trans K403 (own_al [0, 11, 13, 12, 7] rfl)
       dsimp only [Option.toList, List.cons_append, List.nil_append]
       refine g_ifN X403 K d12_119 ((if0 _ _).trans (feq (by decide)).1) (g_lloadN X403 K d12_122 rfl (g_lload X403 K d12_123 rfl (g_lsub X403 K d12_125 rfl (g_lstore X403 K d12_126 (L' := #[rv x0, iv 0, iv 1, lv x3, .second, lv 0, .second, lv ((0 : Int64) + ((k1 + (0 : Int64)) - pp_22)), .second, lv (x3 - (0 : Int64)), .second, uu]) rfl (g_iloadN X403 K d12_128 rfl (g_istore X403 K d12_129 (L' := #[rv x0, iv 0, iv 1, lv x3, .second, lv 0, .second, lv ((0 : Int64) + ((k1 + (0 : Int64)) - pp_22)), .second, lv (x3 - (0 : Int64)), .second, iv 1]) rfl (g_iload X403 K d12_131 rfl (g_iloadN X403 K d12_133 rfl (g_icN X403 K d12_134 (feq (by decide)).1 (g_lload X403 K d12_137 rfl (g_ag X403 K rfl 16 rfl rb403.2.2.2.1 d12_139 d12_140 rfl fun T406 X406 e406 => g_ag X406 K e406 30 rfl rb403.2.2.2.2.2.2.2.2.1 d12_143 d12_144 rfl fun T407 X407 e407 => ?_)))))))))))
       refine g_iload X407 K d12_147 rfl (g_iaload X407 K e407 r403_4 d12_149 (by decide) (v := (.int 2)) rfl ?_)
       have q408 := (q398.keep K403 na33)
       refine g_laload X407 K e407 q408 d12_150 (by decide) (v := (.long c1)) rfl (g_callS X407 K e407 198 199 81 200 rfl rfl rfl rfl (by decide) (rm32 l Z a0 hw (x3 - (0 : Int64)) c1 T403.heap n0 (Nat.le_trans Z0 KK403.1) ) d12_151 hml.symm (argsL := [(.long (x3 - (0 : Int64))), (.long c1)]) (lenOf pd_5 rfl) rfl 0 (Nat.le_of_ble_eq_true rfl) (by decide) fun v409 T409 Lc409 hQ409 X409 => ?_)
       obtain ⟨rfl, N409q, e409⟩ := hQ409
       have N409 := Fr.app N403 N409q
       dsimp only [Option.toList, List.cons_append, List.nil_append]
       obtain ⟨f410, hf410⟩ : ∃ z : Int64, z = (if c1 < (x3 - (0 : Int64)) then c1 else (x3 - (0 : Int64))) := ⟨_, rfl⟩
       refine gB (S' := T409.setTop (mkF m 154 #[rv x0, iv 0, iv 1, lv x3, .second, lv 0, .second, lv ((0 : Int64) + ((k1 + (0 : Int64)) - pp_22)), .second, lv (x3 - (0 : Int64)), .second, iv 1] [(.long f410)])) ?_ (by
         intro t k
         rw [← hf410]
         exact k)
       have bf410 := own_f hA own_s0 hb1 hA1 hf410
       refine g_lstore X409 K d12_154 (L' := #[rv x0, iv 0, iv 1, lv x3, .second, lv 0, .second, lv ((0 : Int64) + ((k1 + (0 : Int64)) - pp_22)), .second, lv f410, .second, iv 1]) rfl (g_aloadN X409 K d12_156 rfl rfl (g_ag X409 K e409 30 rfl rb403.2.2.2.2.2.2.2.2.1 d12_157 d12_158 rfl fun T411 X411 e411 => g_iload X411 K d12_161 rfl (g_iaload X411 K e411 r403_4 d12_163 (by decide) (v := (.int 2)) rfl ?_)))
       have q412 := (q396.keep K403 na34)
       refine g_callP X411 K e411 207 208 4 210 209 3 rfl rfl rfl rfl rfl rfl (by decide) (rmtl2 l Z a0 hw x0 T403.heap n0 (Nat.le_trans Z0 KK403.1) rb403.2.2.1 q412) rb403.1 d12_164 hml.symm (argsL := [(.int 2)]) (lenOf pd_14 rfl) rfl 0 (Nat.le_of_ble_eq_true rfl) (by decide) fun v413 T413 Lc413 hQ413 X413 => ?_
       obtain ⟨rfl, N413q, e413⟩ := hQ413
       have N413 := Fr.app N409 N413q
       dsimp only [Option.toList, List.cons_append, List.nil_append]
       refine g_istore X413 K d12_167 (L' := #[rv x0, iv 0, iv 1, lv x3, .second, lv 0, .second, lv ((0 : Int64) + ((k1 + (0 : Int64)) - pp_22)), .second, lv f410, .second, iv 0]) rfl (g_goto X413 K 131 d12_169 (by decide) (g_iload X413 K d12_131 rfl (g_iloadN X413 K d12_133 rfl (g_icY X413 K 172 d12_134 (by decide) (teq (by decide)).1 (g_iloadN X413 K d12_172 rfl (g_istore X413 K d12_173 (L' := #[rv x0, iv 0, iv 1, lv x3, .second, lv 0, .second, lv ((0 : Int64) + ((k1 + (0 : Int64)) - pp_22)), .second, lv f410, .second, iv 1]) rfl (g_iload X413 K d12_175 rfl (g_iloadN X413 K d12_177 rfl (g_icN X413 K d12_178 (feq (by decide)).1 (g_aloadN X413 K d12_181 rfl rfl (g_ag X413 K e413 30 rfl rb403.2.2.2.2.2.2.2.2.1 d12_182 d12_183 rfl fun T416 X416 e416 => g_iload X416 K d12_186 rfl ?_)))))))))))
       refine g_iaload X416 K e416 r403_4 d12_188 (by decide) (v := (.int 2)) rfl (g_lload X416 K d12_189 rfl ?_)
       have q417 := (q397.keep K403 na35)
       refine g_callP X416 K e416 211 212 4 214 213 3 rfl rfl rfl rfl rfl rfl (by decide) (rmps2 l Z a0 hw x0 f410 hn hq T403.heap n0 (Nat.le_trans Z0 KK403.1) rb403 q417 q408 (own_hmin bf410) (own_hdiv bf410 hk1) (own_hadd own_bf0 bf410 hk1)) rb403.1 d12_191 hml.symm (argsL := [(.int 2), (.long f410)]) (lenOf pd_15 rfl) rfl 0 (Nat.le_of_ble_eq_true rfl) (by decide) fun v418 T418 Lc418 hQ418 X418 => ?_
       obtain ⟨rfl, N418q, K418, rb418, r418_1⟩ := hQ418
       have N418 := Fr.app N413 N418q
       have KK418 := KK403.trans K418 (own_al [0, 1] rfl)
       dsimp only [Option.toList, List.cons_append, List.nil_append]
       refine g_aloadN X418 K d12_194 rfl rfl (g_ag X418 K rfl 30 rfl rb418.2.2.2.2.2.2.2.2.1 d12_195 d12_196 rfl fun T419 X419 e419 => g_iload X419 K d12_199 rfl ?_)
       have q420 := (r403_4.keep K418 na36)
       refine g_iaload X419 K e419 q420 d12_201 (by decide) (v := (.int 2)) rfl ?_
       have q421 := (q412.keep K418 na37)
       refine g_callP X419 K e419 207 208 4 210 209 3 rfl rfl rfl rfl rfl rfl (by decide) (rmtl2 l Z a0 hw x0 T418.heap n0 (Nat.le_trans Z0 KK418.1) rb418.2.2.1 q421) rb418.1 d12_202 hml.symm (argsL := [(.int 2)]) (lenOf pd_14 rfl) rfl 0 (Nat.le_of_ble_eq_true rfl) (by decide) fun v422 T422 Lc422 hQ422 X422 => ?_
       obtain ⟨rfl, N422q, e422⟩ := hQ422
       have N422 := Fr.app N418 N422q
       dsimp only [Option.toList, List.cons_append, List.nil_append]
       refine g_istore X422 K d12_205 (L' := #[rv x0, iv 0, iv 1, lv x3, .second, lv 0, .second, lv ((0 : Int64) + ((k1 + (0 : Int64)) - pp_22)), .second, lv f410, .second, iv 0]) rfl (g_goto X422 K 175 d12_207 (by decide) (g_iload X422 K d12_175 rfl (g_iloadN X422 K d12_177 rfl (g_icY X422 K 210 d12_178 (by decide) (teq (by decide)).1 (g_lload X422 K d12_210 rfl (g_lload X422 K d12_212 rfl (g_ladd X422 K d12_214 rfl (g_lstore X422 K d12_215 (L' := #[rv x0, iv 0, iv 1, lv x3, .second, lv ((0 : Int64) + f410), .second, lv ((0 : Int64) + ((k1 + (0 : Int64)) - pp_22)), .second, lv f410, .second, iv 0]) rfl (g_goto X422 K 106 d12_217 (by decide) (g_lload X422 K d12_106 rfl (g_lloadN X422 K d12_108 rfl (g_lcmp X422 K d12_109 rfl ?_))))))))))))
       by_cases hc110_424 : ((0 : Int64) + f410) < x3
       refine g_ifN X422 K d12_110 ((if0 _ _).trans (tlt ((lw_lt ((0 : Int64) + f410) x3).mpr hc110_424)).2.1) ?_
       ·
        have xh425 := own_fx hA own_s0 hb1 hf410 hc110_424
        refine g_aloadN X422 K d12_113 rfl rfl (g_iloadN X422 K d12_114 rfl (g_iloadN X422 K d12_115 rfl ?_))
        have q426 := ((q394.keep K403 na38).keep K418 na39)
        have q427 := ((q395.keep K403 na40).keep K418 na41)
        have q428 := (q417.keep K418 na42)
        have q429 := ((r391_0.keep K403 na43).keep K418 na44)
        have q430 := (r403_1.keep K418 na45)
        have q431 := (r403_3.keep K418 na46)
        have q432 := (r403_2.keep K418 na47)
        refine g_callP X422 K e422 201 202 4 204 203 3 rfl rfl rfl rfl rfl rfl (by decide) (rmwkF l Z a0 hw x0 hn hq T418.heap n0 (Nat.le_trans Z0 KK418.1) rb418 q426 q427 q421 q428 r418_1 q429 q430 q431 q432 q420 (by decide) (fun q => absurd q (own_nlt xh425)) (fun _ => own_rcne hk0 hk1 (Int.ne_of_gt kk))) rb418.1 d12_116 hml.symm (argsL := [(.int 0), (.int 1)]) (lenOf pd_13 rfl) rfl 0 (Nat.le_of_ble_eq_true rfl) (by decide) fun v433 T433 Lc433 hQ433 X433 => ?_
        obtain ⟨e0_433, e1_433, e2_433, e3_433, rfl, N433q, K433, rb433, r433_1, r433_2, r433_3, r433_4⟩ := hQ433
        have N433 := Fr.app N422 N433q
        have KK433 := KK418.trans K433 (own_al [0, 11, 13, 12, 7] rfl)
        dsimp only [Option.toList, List.cons_append, List.nil_append]
        refine g_ifY X433 K 220 d12_119 (by decide) ((if0 _ _).trans (teq (by decide)).1) (g_goto X433 K 67 d12_220 (by decide) (g_lload X433 K d12_67 rfl (g_lloadN X433 K d12_69 rfl (g_lcmp X433 K d12_70 rfl ?_))))
        have hc71_435 : ((0 : Int64) + f410) < x3 := hc110_424
        refine g_ifN X433 K d12_71 ((if0 _ _).trans (tlt ((lw_lt ((0 : Int64) + f410) x3).mpr hc71_435)).2.1) (g_aloadN X433 K d12_74 rfl rfl (g_iloadN X433 K d12_75 rfl (g_iconst X433 K d12_76 (z := 1) rfl ?_)))
        have q436 := (q426.keep K433 na38)
        have q437 := (q427.keep K433 na40)
        have q438 := (q421.keep K433 na34)
        have q439 := (q428.keep K433 na35)
        have q440 := (r418_1.keep K433 na33)
        have q441 := (q429.keep K433 na43)
        have q442 := ((((r386_2_0.keep K391).keep K403).keep K418).keep K433)
        have q443 := ((((r386_2_1.keep K391 na48).keep K403 na49).keep K418 na50).keep K433 na49)
        have q444 := ((((r386_2_2.keep K391 na48).keep K403 na49).keep K418 na50).keep K433 na49)
        have q445 := ((((r386_2_3.keep K391 na48).keep K403 na49).keep K418 na50).keep K433 na49)
        have q446 := ((((r386_2_4.keep K391 na48).keep K403 na49).keep K418 na50).keep K433 na49)
        have q447 := ((((r386_3.keep K391 na51).keep K403 na52).keep K418 na53).keep K433 na52)
        have q448 := ((((r386_4.keep K391 na54).keep K403 na55).keep K418 na56).keep K433 na55)
        have q449 := ((((r386_0.keep K391 na57).keep K403 na58).keep K418 na59).keep K433 na58)
        refine g_callP X433 K rfl 159 160 4 162 161 3 rfl rfl rfl rfl rfl rfl (by decide) (rmsr0 l Z a0 hw x0 T433.heap n0 (Nat.le_trans Z0 KK433.1) rb433 q436 q437 q438 q439 q440 q441 ⟨q442, q443, q444, q445, q446⟩ q447 q448 q449 r433_4 (xh425) (own_ne0 p0) (own_yb hk0 hk1) (fun _ => own_rev hk0 hk1 (Int.le_of_lt kk)) (fun q => absurd rfl q)) rb433.1 d12_77 hml.symm (argsL := [(.int 0), (.int 1)]) (lenOf pd_12 rfl) rfl 0 (Nat.le_of_ble_eq_true rfl) (by decide) fun v450 T450 Lc450 hQ450 X450 => ?_
        obtain ⟨e0_450, e1_450, e2_450, e3_450, rfl, N450q, K450, r450_0, r450_1, ⟨r450_2_0, r450_2_1, r450_2_2, r450_2_3, r450_2_4⟩, r450_3, r450_4⟩ := hQ450
        have N450 := Fr.app N433 N450q
        have KK450 := KK433.trans K450 (own_al [6, 7, 8, 9, 10] rfl)
        dsimp only [Option.toList, List.cons_append, List.nil_append]
        have xb451 := own_XF_keep rb433 K450 na10
        refine g_ag X450 K rfl 28 rfl xb451.2.2.2.2.2.2.2.1 d12_80 d12_81 rfl fun T452 X452 e452 => g_iloadN X452 K d12_84 rfl (g_laload X452 K e452 r450_0 d12_85 (by decide) (v := (.long ((0 : Int64) + ((k0 + (0 : Int64)) - k1)))) rfl (g_lstore X452 K d12_86 (L' := #[rv x0, iv 0, iv 1, lv x3, .second, lv ((0 : Int64) + f410), .second, lv ((0 : Int64) + ((k0 + (0 : Int64)) - k1)), .second, lv f410, .second, iv 0]) rfl (g_lload X452 K d12_88 rfl (g_ldc2 X452 K 163 rfl d12_90 (z := (9223372036854775807 : Int64)) rfl (g_lcmp X452 K d12_93 rfl ?_)))))
        have hc94_453 : ¬ (((0 : Int64) + ((k0 + (0 : Int64)) - k1)) = (9223372036854775807 : Int64)) := own_neM (own_yb hk0 hk1)
        refine g_ifY X452 K 100 d12_94 (by decide) ((if0 _ _).trans (feq (fun q => hc94_453 ((lw_eq ((0 : Int64) + ((k0 + (0 : Int64)) - k1)) (9223372036854775807 : Int64)).mp q))).2) (g_aloadN X452 K d12_100 rfl rfl (g_lload X452 K d12_101 rfl ?_))
        have q454 := (q441.keep K450 na12)
        refine g_callP X452 K e452 194 195 4 197 196 3 rfl rfl rfl rfl rfl rfl (by decide) (rm31 l Z a0 hw x0 hn hq k0 T450.heap n0 (Nat.le_trans Z0 KK450.1) xb451 q454 r450_0 (own_hD hk0 hk1 (Int.le_of_lt kk)) (own_hnp _ _) (own_hmax hk0)) xb451.1 d12_103 hml.symm (argsL := [(.long ((0 : Int64) + ((k0 + (0 : Int64)) - k1)))]) (lenOf pd_4 rfl) rfl 0 (Nat.le_of_ble_eq_true rfl) (by decide) fun v455 T455 Lc455 hQ455 X455 => ?_
        obtain ⟨rfl, N455q, K455, r455_0⟩ := hQ455
        have N455 := Fr.app N450 N455q
        have KK455 := KK450.trans K455 (own_al [2] rfl)
        dsimp only [Option.toList, List.cons_append, List.nil_append]
        refine g_lload X455 K d12_106 rfl (g_lloadN X455 K d12_108 rfl (g_lcmp X455 K d12_109 rfl ?_))
        have hc110_456 : ((0 : Int64) + f410) < x3 := hc110_424
        refine g_ifN X455 K d12_110 ((if0 _ _).trans (tlt ((lw_lt ((0 : Int64) + f410) x3).mpr hc110_456)).2.1) (g_aloadN X455 K d12_113 rfl rfl (g_iloadN X455 K d12_114 rfl (g_iloadN X455 K d12_115 rfl ?_)))
        have xb457 := own_XF_keep xb451 K455 na13
        have q458 := ((q436.keep K450 na14).keep K455 na15)
        have q459 := ((q437.keep K450 na16).keep K455 na17)
        have q460 := ((q438.keep K450 na18).keep K455 na19)
        have q461 := ((q439.keep K450 na20).keep K455 na21)
        have q462 := ((q440.keep K450 na11).keep K455 na22)
        have q463 := ((r433_1.keep K450 na24).keep K455 na25)
        have q464 := ((r433_3.keep K450 na27).keep K455 na28)
        have q465 := ((r433_2.keep K450 na30).keep K455 na31)
        have q466 := (r450_1.keep K455 na32)
        refine g_callP X455 K rfl 201 202 4 204 203 3 rfl rfl rfl rfl rfl rfl (by decide) (rmwk0 l Z a0 hw x0 hn hq T455.heap n0 (Nat.le_trans Z0 KK455.1) xb457 q458 q459 q460 q461 q462 r455_0 q463 q464 q465 q466 (by decide) (fun q => absurd q (own_nlt xh425)) (p0) (own_rc k0)) xb457.1 d12_116 hml.symm (argsL := [(.int 0), (.int 1)]) (lenOf pd_13 rfl) rfl 0 (Nat.le_of_ble_eq_true rfl) (by decide) fun v467 T467 Lc467 hQ467 X467 => ?_
        obtain ⟨e0_467, e1_467, e2_467, e3_467, rfl, N467q, K467, rb467, r467_1, r467_2, r467_3, r467_4⟩ := hQ467
        have N467 := Fr.app N455 N467q
        have KK467 := KK455.trans K467 (own_al [0, 11, 13, 12, 7] rfl)
        dsimp only [Option.toList, List.cons_append, List.nil_append]
        refine g_ifN X467 K d12_119 ((if0 _ _).trans (feq (by decide)).1) (g_lloadN X467 K d12_122 rfl (g_lload X467 K d12_123 rfl (g_lsub X467 K d12_125 rfl (g_lstore X467 K d12_126 (L' := #[rv x0, iv 0, iv 1, lv x3, .second, lv ((0 : Int64) + f410), .second, lv ((0 : Int64) + ((k0 + (0 : Int64)) - k1)), .second, lv (x3 - ((0 : Int64) + f410)), .second, iv 0]) rfl (g_iloadN X467 K d12_128 rfl (g_istore X467 K d12_129 (L' := #[rv x0, iv 0, iv 1, lv x3, .second, lv ((0 : Int64) + f410), .second, lv ((0 : Int64) + ((k0 + (0 : Int64)) - k1)), .second, lv (x3 - ((0 : Int64) + f410)), .second, iv 1]) rfl (g_iload X467 K d12_131 rfl (g_iloadN X467 K d12_133 rfl (g_icN X467 K d12_134 (feq (by decide)).1 (g_lload X467 K d12_137 rfl (g_ag X467 K rfl 16 rfl rb467.2.2.2.1 d12_139 d12_140 rfl fun T470 X470 e470 => g_ag X470 K e470 30 rfl rb467.2.2.2.2.2.2.2.2.1 d12_143 d12_144 rfl fun T471 X471 e471 => ?_)))))))))))
        refine g_iload X471 K d12_147 rfl (g_iaload X471 K e471 r467_4 d12_149 (by decide) (v := (.int 0)) rfl ?_)
        have q472 := (q462.keep K467 na33)
        refine g_laload X471 K e471 q472 d12_150 (by decide) (v := (.long c0)) rfl (g_callS X471 K e471 198 199 81 200 rfl rfl rfl rfl (by decide) (rm32 l Z a0 hw (x3 - ((0 : Int64) + f410)) c0 T467.heap n0 (Nat.le_trans Z0 KK467.1) ) d12_151 hml.symm (argsL := [(.long (x3 - ((0 : Int64) + f410))), (.long c0)]) (lenOf pd_5 rfl) rfl 0 (Nat.le_of_ble_eq_true rfl) (by decide) fun v473 T473 Lc473 hQ473 X473 => ?_)
        obtain ⟨rfl, N473q, e473⟩ := hQ473
        have N473 := Fr.app N467 N473q
        dsimp only [Option.toList, List.cons_append, List.nil_append]
        obtain ⟨f474, hf474⟩ : ∃ z : Int64, z = (if c0 < (x3 - ((0 : Int64) + f410)) then c0 else (x3 - ((0 : Int64) + f410))) := ⟨_, rfl⟩
        refine gB (S' := T473.setTop (mkF m 154 #[rv x0, iv 0, iv 1, lv x3, .second, lv ((0 : Int64) + f410), .second, lv ((0 : Int64) + ((k0 + (0 : Int64)) - k1)), .second, lv (x3 - ((0 : Int64) + f410)), .second, iv 1] [(.long f474)])) ?_ (by
          intro t k
          rw [← hf474]
          exact k)
        have bf474 := own_f hA (own_s1 bf410) hb0 hc110_424 hf474
        refine g_lstore X473 K d12_154 (L' := #[rv x0, iv 0, iv 1, lv x3, .second, lv ((0 : Int64) + f410), .second, lv ((0 : Int64) + ((k0 + (0 : Int64)) - k1)), .second, lv f474, .second, iv 1]) rfl (g_aloadN X473 K d12_156 rfl rfl (g_ag X473 K e473 30 rfl rb467.2.2.2.2.2.2.2.2.1 d12_157 d12_158 rfl fun T475 X475 e475 => g_iload X475 K d12_161 rfl (g_iaload X475 K e475 r467_4 d12_163 (by decide) (v := (.int 0)) rfl ?_)))
        have q476 := (q460.keep K467 na34)
        refine g_callP X475 K e475 207 208 4 210 209 3 rfl rfl rfl rfl rfl rfl (by decide) (rmtl0 l Z a0 hw x0 T467.heap n0 (Nat.le_trans Z0 KK467.1) rb467.2.2.1 q476) rb467.1 d12_164 hml.symm (argsL := [(.int 0)]) (lenOf pd_14 rfl) rfl 0 (Nat.le_of_ble_eq_true rfl) (by decide) fun v477 T477 Lc477 hQ477 X477 => ?_
        obtain ⟨rfl, N477q, e477⟩ := hQ477
        have N477 := Fr.app N473 N477q
        dsimp only [Option.toList, List.cons_append, List.nil_append]
        refine g_istore X477 K d12_167 (L' := #[rv x0, iv 0, iv 1, lv x3, .second, lv ((0 : Int64) + f410), .second, lv ((0 : Int64) + ((k0 + (0 : Int64)) - k1)), .second, lv f474, .second, iv 0]) rfl (g_goto X477 K 131 d12_169 (by decide) (g_iload X477 K d12_131 rfl (g_iloadN X477 K d12_133 rfl (g_icY X477 K 172 d12_134 (by decide) (teq (by decide)).1 (g_iloadN X477 K d12_172 rfl (g_istore X477 K d12_173 (L' := #[rv x0, iv 0, iv 1, lv x3, .second, lv ((0 : Int64) + f410), .second, lv ((0 : Int64) + ((k0 + (0 : Int64)) - k1)), .second, lv f474, .second, iv 1]) rfl (g_iload X477 K d12_175 rfl (g_iloadN X477 K d12_177 rfl (g_icN X477 K d12_178 (feq (by decide)).1 (g_aloadN X477 K d12_181 rfl rfl (g_ag X477 K e477 30 rfl rb467.2.2.2.2.2.2.2.2.1 d12_182 d12_183 rfl fun T480 X480 e480 => g_iload X480 K d12_186 rfl ?_)))))))))))
        refine g_iaload X480 K e480 r467_4 d12_188 (by decide) (v := (.int 0)) rfl (g_lload X480 K d12_189 rfl ?_)
        have q481 := (q461.keep K467 na35)
        refine g_callP X480 K e480 211 212 4 214 213 3 rfl rfl rfl rfl rfl rfl (by decide) (rmps0 l Z a0 hw x0 f474 hn hq T467.heap n0 (Nat.le_trans Z0 KK467.1) rb467 q481 q472 (own_hmin bf474) (own_hdiv bf474 hk0) (own_hadd (own_bf1 bf410 hk1) bf474 hk0)) rb467.1 d12_191 hml.symm (argsL := [(.int 0), (.long f474)]) (lenOf pd_15 rfl) rfl 0 (Nat.le_of_ble_eq_true rfl) (by decide) fun v482 T482 Lc482 hQ482 X482 => ?_
        obtain ⟨rfl, N482q, K482, rb482, r482_1⟩ := hQ482
        have N482 := Fr.app N477 N482q
        have KK482 := KK467.trans K482 (own_al [0, 1] rfl)
        dsimp only [Option.toList, List.cons_append, List.nil_append]
        refine g_aloadN X482 K d12_194 rfl rfl (g_ag X482 K rfl 30 rfl rb482.2.2.2.2.2.2.2.2.1 d12_195 d12_196 rfl fun T483 X483 e483 => g_iload X483 K d12_199 rfl ?_)
        have q484 := (r467_4.keep K482 na36)
        refine g_iaload X483 K e483 q484 d12_201 (by decide) (v := (.int 0)) rfl ?_
        have q485 := (q476.keep K482 na37)
        refine g_callP X483 K e483 207 208 4 210 209 3 rfl rfl rfl rfl rfl rfl (by decide) (rmtl0 l Z a0 hw x0 T482.heap n0 (Nat.le_trans Z0 KK482.1) rb482.2.2.1 q485) rb482.1 d12_202 hml.symm (argsL := [(.int 0)]) (lenOf pd_14 rfl) rfl 0 (Nat.le_of_ble_eq_true rfl) (by decide) fun v486 T486 Lc486 hQ486 X486 => ?_
        obtain ⟨rfl, N486q, e486⟩ := hQ486
        have N486 := Fr.app N482 N486q
        dsimp only [Option.toList, List.cons_append, List.nil_append]
        refine g_istore X486 K d12_205 (L' := #[rv x0, iv 0, iv 1, lv x3, .second, lv ((0 : Int64) + f410), .second, lv ((0 : Int64) + ((k0 + (0 : Int64)) - k1)), .second, lv f474, .second, iv 0]) rfl (g_goto X486 K 175 d12_207 (by decide) (g_iload X486 K d12_175 rfl (g_iloadN X486 K d12_177 rfl (g_icY X486 K 210 d12_178 (by decide) (teq (by decide)).1 (g_lload X486 K d12_210 rfl (g_lload X486 K d12_212 rfl (g_ladd X486 K d12_214 rfl (g_lstore X486 K d12_215 (L' := #[rv x0, iv 0, iv 1, lv x3, .second, lv (((0 : Int64) + f410) + f474), .second, lv ((0 : Int64) + ((k0 + (0 : Int64)) - k1)), .second, lv f474, .second, iv 0]) rfl (g_goto X486 K 106 d12_217 (by decide) (g_lload X486 K d12_106 rfl (g_lloadN X486 K d12_108 rfl (g_lcmp X486 K d12_109 rfl ?_))))))))))))
        by_cases hc110_488 : (((0 : Int64) + f410) + f474) < x3
        refine g_ifN X486 K d12_110 ((if0 _ _).trans (tlt ((lw_lt (((0 : Int64) + f410) + f474) x3).mpr hc110_488)).2.1) ?_
        ·
         have xh489 := own_fx hA (own_s1 bf410) hb0 hf474 hc110_488
         refine g_aloadN X486 K d12_113 rfl rfl (g_iloadN X486 K d12_114 rfl (g_iloadN X486 K d12_115 rfl ?_))
         have q490 := ((q458.keep K467 na38).keep K482 na39)
         have q491 := ((q459.keep K467 na40).keep K482 na41)
         have q492 := (q481.keep K482 na42)
         have q493 := ((r455_0.keep K467 na43).keep K482 na44)
         have q494 := (r467_1.keep K482 na45)
         have q495 := (r467_3.keep K482 na46)
         have q496 := (r467_2.keep K482 na47)
         refine g_callP X486 K e486 201 202 4 204 203 3 rfl rfl rfl rfl rfl rfl (by decide) (rmwkF l Z a0 hw x0 hn hq T482.heap n0 (Nat.le_trans Z0 KK482.1) rb482 q490 q491 q485 q492 r482_1 q493 q494 q495 q496 q484 (by decide) (fun q => absurd q (own_nlt xh425)) (fun q => absurd q (own_nlt xh489))) rb482.1 d12_116 hml.symm (argsL := [(.int 0), (.int 1)]) (lenOf pd_13 rfl) rfl 0 (Nat.le_of_ble_eq_true rfl) (by decide) fun v497 T497 Lc497 hQ497 X497 => ?_
         obtain ⟨e0_497, e1_497, e2_497, e3_497, rfl, N497q, K497, rb497, r497_1, r497_2, r497_3, r497_4⟩ := hQ497
         have N497 := Fr.app N486 N497q
         have KK497 := KK482.trans K497 (own_al [0, 11, 13, 12, 7] rfl)
         dsimp only [Option.toList, List.cons_append, List.nil_append]
         refine g_ifY X497 K 220 d12_119 (by decide) ((if0 _ _).trans (teq (by decide)).1) (g_goto X497 K 67 d12_220 (by decide) (g_lload X497 K d12_67 rfl (g_lloadN X497 K d12_69 rfl (g_lcmp X497 K d12_70 rfl ?_))))
         have hc71_499 : (((0 : Int64) + f410) + f474) < x3 := hc110_488
         refine g_ifN X497 K d12_71 ((if0 _ _).trans (tlt ((lw_lt (((0 : Int64) + f410) + f474) x3).mpr hc71_499)).2.1) (g_aloadN X497 K d12_74 rfl rfl (g_iloadN X497 K d12_75 rfl (g_iconst X497 K d12_76 (z := 1) rfl ?_)))
         have q500 := (q490.keep K497 na38)
         have q501 := (q491.keep K497 na40)
         have q502 := (q485.keep K497 na34)
         have q503 := (q492.keep K497 na35)
         have q504 := (r482_1.keep K497 na33)
         have q505 := (q493.keep K497 na43)
         have q506 := ((((r450_2_0.keep K455).keep K467).keep K482).keep K497)
         have q507 := ((((r450_2_1.keep K455 na48).keep K467 na49).keep K482 na50).keep K497 na49)
         have q508 := ((((r450_2_2.keep K455 na48).keep K467 na49).keep K482 na50).keep K497 na49)
         have q509 := ((((r450_2_3.keep K455 na48).keep K467 na49).keep K482 na50).keep K497 na49)
         have q510 := ((((r450_2_4.keep K455 na48).keep K467 na49).keep K482 na50).keep K497 na49)
         have q511 := ((((r450_3.keep K455 na51).keep K467 na52).keep K482 na53).keep K497 na52)
         have q512 := ((((r450_4.keep K455 na54).keep K467 na55).keep K482 na56).keep K497 na55)
         have q513 := ((((r450_0.keep K455 na57).keep K467 na58).keep K482 na59).keep K497 na58)
         refine g_callP X497 K rfl 159 160 4 162 161 3 rfl rfl rfl rfl rfl rfl (by decide) (rmsrM l Z a0 hw x0 T497.heap n0 (Nat.le_trans Z0 KK497.1) rb497 q500 q501 q502 q503 q504 q505 ⟨q506, q507, q508, q509, q510⟩ q511 q512 q513 r497_4 (xh425) (xh489)) rb497.1 d12_77 hml.symm (argsL := [(.int 0), (.int 1)]) (lenOf pd_12 rfl) rfl 0 (Nat.le_of_ble_eq_true rfl) (by decide) fun v514 T514 Lc514 hQ514 X514 => ?_
         obtain ⟨e0_514, e1_514, e2_514, e3_514, rfl, N514q, K514, r514_0, r514_1, ⟨r514_2_0, r514_2_1, r514_2_2, r514_2_3, r514_2_4⟩, r514_3, r514_4⟩ := hQ514
         have N514 := Fr.app N497 N514q
         have KK514 := KK497.trans K514 (own_al [6, 7, 8, 9, 10] rfl)
         dsimp only [Option.toList, List.cons_append, List.nil_append]
         have xb515 := own_XF_keep rb497 K514 na10
         refine g_ag X514 K rfl 28 rfl xb515.2.2.2.2.2.2.2.1 d12_80 d12_81 rfl fun T516 X516 e516 => g_iloadN X516 K d12_84 rfl (g_laload X516 K e516 r514_0 d12_85 (by decide) (v := (.long 9223372036854775807)) rfl (g_lstore X516 K d12_86 (L' := #[rv x0, iv 0, iv 1, lv x3, .second, lv (((0 : Int64) + f410) + f474), .second, lv 9223372036854775807, .second, lv f474, .second, iv 0]) rfl (g_lload X516 K d12_88 rfl (g_ldc2 X516 K 163 rfl d12_90 (z := (9223372036854775807 : Int64)) rfl (g_lcmp X516 K d12_93 (z := (0 : Int32)) rfl (g_ifN X516 K d12_94 ((if0 _ _).trans (teq (by decide)).2) (g_goto X516 K 223 d12_97 (by decide) (g_lload X516 K d12_223 rfl ?_))))))))
         have q518 := (q504.keep K514 na11)
         have q519 := (q505.keep K514 na12)
         exact g_lvJ X516 K hlk hrt hR d12_225 (by decide) (by rw [e516]; exact ⟨(((0 : Int64) + (f410 * k1)) + (f474 * k0)), (((((0 : Int64) + (1 : Int64)) + (1 : Int64)) + (1 : Int64)) + (1 : Int64)), (c0 - f474), ((0 : Int64) + f474), (c1 - f410), ((0 : Int64) + f410), (0 : Int64), k0, (((0 : Int64) + f410) + f474), rfl, N514, KK514, xb515, q518, q519, (own_p1 c0 _)⟩)
        refine g_ifY X486 K 220 d12_110 (by decide) ((if0 _ _).trans (flt (fun q => hc110_488 ((lw_lt (((0 : Int64) + f410) + f474) x3).mp q))).2.1) ?_
        ·
         refine g_goto X486 K 67 d12_220 (by decide) (g_lload X486 K d12_67 rfl (g_lloadN X486 K d12_69 rfl (g_lcmp X486 K d12_70 rfl ?_)))
         have hc71_520 : ¬ ((((0 : Int64) + f410) + f474) < x3) := hc110_488
         refine g_ifY X486 K 223 d12_71 (by decide) ((if0 _ _).trans (flt (fun q => hc71_520 ((lw_lt (((0 : Int64) + f410) + f474) x3).mp q))).2.1) (g_lload X486 K d12_223 rfl ?_)
         have q521 := ((r455_0.keep K467 na43).keep K482 na44)
         exact g_lvJ X486 K hlk hrt hR d12_225 (by decide) (by rw [e486]; exact ⟨(((0 : Int64) + (f410 * k1)) + (f474 * k0)), ((((0 : Int64) + (1 : Int64)) + (1 : Int64)) + (1 : Int64)), (c0 - f474), ((0 : Int64) + f474), (c1 - f410), ((0 : Int64) + f410), (0 : Int64), k0, (((0 : Int64) + f410) + f474), rfl, N486, KK482, rb482, r482_1, q521, (own_p1 c0 _)⟩)
       refine g_ifY X422 K 220 d12_110 (by decide) ((if0 _ _).trans (flt (fun q => hc110_424 ((lw_lt ((0 : Int64) + f410) x3).mp q))).2.1) ?_
       ·
        refine g_goto X422 K 67 d12_220 (by decide) (g_lload X422 K d12_67 rfl (g_lloadN X422 K d12_69 rfl (g_lcmp X422 K d12_70 rfl ?_)))
        have hc71_522 : ¬ (((0 : Int64) + f410) < x3) := hc110_424
        refine g_ifY X422 K 223 d12_71 (by decide) ((if0 _ _).trans (flt (fun q => hc71_522 ((lw_lt ((0 : Int64) + f410) x3).mp q))).2.1) (g_lload X422 K d12_223 rfl ?_)
        have q523 := ((r391_0.keep K403 na43).keep K418 na44)
        exact g_lvJ X422 K hlk hrt hR d12_225 (by decide) (by rw [e422]; exact ⟨((0 : Int64) + (f410 * k1)), ((0 : Int64) + (1 : Int64)), c0, (0 : Int64), (c1 - f410), ((0 : Int64) + f410), (0 : Int64), k1, ((0 : Int64) + f410), rfl, N422, KK418, rb418, r418_1, q523, (own_p0 c0)⟩)
      ·
       replace kk : k0.toInt = k1.toInt := Int.le_antisymm (Int.not_lt.mp kk) (Int.not_lt.mp kk1)
       refine g_lload X22 K d12_67 rfl (g_lloadN X22 K d12_69 rfl (g_lcmp X22 K d12_70 rfl ?_))
       have hc71_524 : (0 : Int64) < x3 := hA1
       refine g_ifN X22 K d12_71 ((if0 _ _).trans (tlt ((lw_lt (0 : Int64) x3).mpr hc71_524)).2.1) (g_aloadN X22 K d12_74 rfl rfl (g_iloadN X22 K d12_75 rfl (g_iconst X22 K d12_76 (z := 1) rfl ?_)))
       have q525 := (q13.keep K22 na0)
       have q526 := (q14.keep K22 na1)
       have q527 := (q15.keep K22 na2)
       have q528 := (q16.keep K22 na3)
       have q529 := (q17.keep K22 na4)
       have q530 := ((((nb1_0.wr W7).wr W9).wr W11).keep K22)
       have q531 := ((((nb1_1.other W7 (Or.inl (own_on nb0_24 9 0 rfl rfl))).other W9 (Or.inl (own_on nb0_24 9 0 rfl rfl))).other W11 (Or.inl (own_on nb0_24 9 0 rfl rfl))).keep K22 na5)
       have q532 := ((((nb1_2.other W7 (Or.inl (own_on nb0_24 9 0 rfl rfl))).other W9 (Or.inl (own_on nb0_24 9 0 rfl rfl))).other W11 (Or.inl (own_on nb0_24 9 0 rfl rfl))).keep K22 na5)
       have q533 := ((((nb1_3.other W7 (Or.inl (own_on nb0_24 9 0 rfl rfl))).other W9 (Or.inl (own_on nb0_24 9 0 rfl rfl))).other W11 (Or.inl (own_on nb0_24 9 0 rfl rfl))).keep K22 na5)
       have q534 := ((((nb1_4.other W7 (Or.inl (own_on nb0_24 9 0 rfl rfl))).other W9 (Or.inl (own_on nb0_24 9 0 rfl rfl))).other W11 (Or.inl (own_on nb0_24 9 0 rfl rfl))).keep K22 na5)
       have q535 := ((((pre_A_hn.other W7 (own_on nb0_24 10 0 rfl rfl)).other W9 (own_on nb0_24 10 0 rfl rfl)).other W11 (own_on nb0_24 10 0 rfl rfl)).keep K22 na6)
       have q536 := ((((pre_A_hq.other W7 (own_on nb0_24 11 0 rfl rfl)).other W9 (own_on nb0_24 11 0 rfl rfl)).other W11 (own_on nb0_24 11 0 rfl rfl)).keep K22 na7)
       have q537 := ((((pre_A_di.other W7 (own_on nb0_24 7 0 rfl rfl)).other W9 (own_on nb0_24 7 0 rfl rfl)).other W11 (own_on nb0_24 7 0 rfl rfl)).keep K22 na8)
       have q538 := ((((pre_A_pa.other W7 (own_on nb0_24 8 0 rfl rfl)).other W9 (own_on nb0_24 8 0 rfl rfl)).other W11 (own_on nb0_24 8 0 rfl rfl)).keep K22 na9)
       refine g_callP X22 K rfl 159 160 4 162 161 3 rfl rfl rfl rfl rfl rfl (by decide) (rmsrB2 l Z a0 hw x0 T22.heap n0 (Nat.le_trans Z0 KK22.1) rb22 q525 q526 q527 q528 q529 r22_1 ⟨q530, q531, q532, q533, q534⟩ q535 q536 q537 q538 (own_ne0 p2) (own_ne0 p0) (own_yb hk1 r22_2.1) (fun q => (Int.ne_of_lt ((own_dlt hk0 hk1 r22_2.1).mp q)) kk) (fun q => absurd rfl q) (fun q => absurd rfl q)) rb22.1 d12_77 hml.symm (argsL := [(.int 0), (.int 1)]) (lenOf pd_12 rfl) rfl 0 (Nat.le_of_ble_eq_true rfl) (by decide) fun v539 T539 Lc539 hQ539 X539 => ?_
       obtain ⟨e0_539, e1_539, e2_539, e3_539, rfl, N539q, K539, r539_0, r539_1, ⟨r539_2_0, r539_2_1, r539_2_2, r539_2_3, r539_2_4⟩, r539_3, r539_4⟩ := hQ539
       have N539 := Fr.app N22 N539q
       have KK539 := KK22.trans K539 (own_al [6, 7, 8, 9, 10] rfl)
       dsimp only [Option.toList, List.cons_append, List.nil_append]
       have xb540 := own_XF_keep rb22 K539 na10
       refine g_ag X539 K rfl 28 rfl xb540.2.2.2.2.2.2.2.1 d12_80 d12_81 rfl fun T541 X541 e541 => g_iloadN X541 K d12_84 rfl (g_laload X541 K e541 r539_0 d12_85 (by decide) (v := (.long ((0 : Int64) + ((k1 + (0 : Int64)) - pp_22)))) rfl (g_lstore X541 K d12_86 (L' := #[rv x0, iv 0, iv 1, lv x3, .second, lv 0, .second, lv ((0 : Int64) + ((k1 + (0 : Int64)) - pp_22)), .second, uu, uu, uu]) rfl (g_lload X541 K d12_88 rfl (g_ldc2 X541 K 163 rfl d12_90 (z := (9223372036854775807 : Int64)) rfl (g_lcmp X541 K d12_93 rfl ?_)))))
       have hc94_542 : ¬ (((0 : Int64) + ((k1 + (0 : Int64)) - pp_22)) = (9223372036854775807 : Int64)) := own_neM (own_yb hk1 r22_2.1)
       refine g_ifY X541 K 100 d12_94 (by decide) ((if0 _ _).trans (feq (fun q => hc94_542 ((lw_eq ((0 : Int64) + ((k1 + (0 : Int64)) - pp_22)) (9223372036854775807 : Int64)).mp q))).2) (g_aloadN X541 K d12_100 rfl rfl (g_lload X541 K d12_101 rfl ?_))
       have q543 := (r22_1.keep K539 na12)
       refine g_callP X541 K e541 194 195 4 197 196 3 rfl rfl rfl rfl rfl rfl (by decide) (rm31 l Z a0 hw x0 hn hq k1 T539.heap n0 (Nat.le_trans Z0 KK539.1) xb540 q543 r539_0 (own_hD hk1 r22_2.1 (r22_2.2.1 p2)) (own_hnp _ _) (own_hmax hk1)) xb540.1 d12_103 hml.symm (argsL := [(.long ((0 : Int64) + ((k1 + (0 : Int64)) - pp_22)))]) (lenOf pd_4 rfl) rfl 0 (Nat.le_of_ble_eq_true rfl) (by decide) fun v544 T544 Lc544 hQ544 X544 => ?_
       obtain ⟨rfl, N544q, K544, r544_0⟩ := hQ544
       have N544 := Fr.app N539 N544q
       have KK544 := KK539.trans K544 (own_al [2] rfl)
       dsimp only [Option.toList, List.cons_append, List.nil_append]
       refine g_lload X544 K d12_106 rfl (g_lloadN X544 K d12_108 rfl (g_lcmp X544 K d12_109 rfl ?_))
       have hc110_545 : (0 : Int64) < x3 := hA1
       refine g_ifN X544 K d12_110 ((if0 _ _).trans (tlt ((lw_lt (0 : Int64) x3).mpr hc110_545)).2.1) (g_aloadN X544 K d12_113 rfl rfl (g_iloadN X544 K d12_114 rfl (g_iloadN X544 K d12_115 rfl ?_)))
       have xb546 := own_XF_keep xb540 K544 na13
       have q547 := ((q525.keep K539 na14).keep K544 na15)
       have q548 := ((q526.keep K539 na16).keep K544 na17)
       have q549 := ((q527.keep K539 na18).keep K544 na19)
       have q550 := ((q528.keep K539 na20).keep K544 na21)
       have q551 := ((q529.keep K539 na11).keep K544 na22)
       have q552 := ((((((pre_A_sk.other W7 (own_on nb0_24 15 0 rfl rfl)).other W9 (own_on nb0_24 15 0 rfl rfl)).other W11 (own_on nb0_24 15 0 rfl rfl)).keep K22 na23).keep K539 na24).keep K544 na25)
       have q553 := ((((((pre_A_vi.other W7 (own_on nb0_24 17 0 rfl rfl)).other W9 (own_on nb0_24 17 0 rfl rfl)).other W11 (own_on nb0_24 17 0 rfl rfl)).keep K22 na26).keep K539 na27).keep K544 na28)
       have q554 := ((((((pre_A_cu.other W7 (own_on nb0_24 16 0 rfl rfl)).other W9 (own_on nb0_24 16 0 rfl rfl)).other W11 (own_on nb0_24 16 0 rfl rfl)).keep K22 na29).keep K539 na30).keep K544 na31)
       have q555 := (r539_1.keep K544 na32)
       refine g_callP X544 K rfl 201 202 4 204 203 3 rfl rfl rfl rfl rfl rfl (by decide) (rmwk2 l Z a0 hw x0 hn hq T544.heap n0 (Nat.le_trans Z0 KK544.1) xb546 q547 q548 q549 q550 q551 r544_0 q552 q553 q554 q555 (by decide) (p2) (own_rc k1)) xb546.1 d12_116 hml.symm (argsL := [(.int 0), (.int 1)]) (lenOf pd_13 rfl) rfl 0 (Nat.le_of_ble_eq_true rfl) (by decide) fun v556 T556 Lc556 hQ556 X556 => ?_
       obtain ⟨e0_556, e1_556, e2_556, e3_556, rfl, N556q, K556, rb556, r556_1, r556_2, r556_3, r556_4⟩ := hQ556
       have N556 := Fr.app N544 N556q
       have KK556 := KK544.trans K556 (own_al [0, 11, 13, 12, 7] rfl)
       dsimp only [Option.toList, List.cons_append, List.nil_append]
       refine g_ifN X556 K d12_119 ((if0 _ _).trans (feq (by decide)).1) (g_lloadN X556 K d12_122 rfl (g_lload X556 K d12_123 rfl (g_lsub X556 K d12_125 rfl (g_lstore X556 K d12_126 (L' := #[rv x0, iv 0, iv 1, lv x3, .second, lv 0, .second, lv ((0 : Int64) + ((k1 + (0 : Int64)) - pp_22)), .second, lv (x3 - (0 : Int64)), .second, uu]) rfl (g_iloadN X556 K d12_128 rfl (g_istore X556 K d12_129 (L' := #[rv x0, iv 0, iv 1, lv x3, .second, lv 0, .second, lv ((0 : Int64) + ((k1 + (0 : Int64)) - pp_22)), .second, lv (x3 - (0 : Int64)), .second, iv 1]) rfl (g_iload X556 K d12_131 rfl (g_iloadN X556 K d12_133 rfl (g_icN X556 K d12_134 (feq (by decide)).1 (g_lload X556 K d12_137 rfl (g_ag X556 K rfl 16 rfl rb556.2.2.2.1 d12_139 d12_140 rfl fun T559 X559 e559 => g_ag X559 K e559 30 rfl rb556.2.2.2.2.2.2.2.2.1 d12_143 d12_144 rfl fun T560 X560 e560 => ?_)))))))))))
       refine g_iload X560 K d12_147 rfl (g_iaload X560 K e560 r556_4 d12_149 (by decide) (v := (.int 2)) rfl ?_)
       have q561 := (q551.keep K556 na33)
       refine g_laload X560 K e560 q561 d12_150 (by decide) (v := (.long c1)) rfl (g_callS X560 K e560 198 199 81 200 rfl rfl rfl rfl (by decide) (rm32 l Z a0 hw (x3 - (0 : Int64)) c1 T556.heap n0 (Nat.le_trans Z0 KK556.1) ) d12_151 hml.symm (argsL := [(.long (x3 - (0 : Int64))), (.long c1)]) (lenOf pd_5 rfl) rfl 0 (Nat.le_of_ble_eq_true rfl) (by decide) fun v562 T562 Lc562 hQ562 X562 => ?_)
       obtain ⟨rfl, N562q, e562⟩ := hQ562
       have N562 := Fr.app N556 N562q
       dsimp only [Option.toList, List.cons_append, List.nil_append]
       obtain ⟨f563, hf563⟩ : ∃ z : Int64, z = (if c1 < (x3 - (0 : Int64)) then c1 else (x3 - (0 : Int64))) := ⟨_, rfl⟩
       refine gB (S' := T562.setTop (mkF m 154 #[rv x0, iv 0, iv 1, lv x3, .second, lv 0, .second, lv ((0 : Int64) + ((k1 + (0 : Int64)) - pp_22)), .second, lv (x3 - (0 : Int64)), .second, iv 1] [(.long f563)])) ?_ (by
         intro t k
         rw [← hf563]
         exact k)
       have bf563 := own_f hA own_s0 hb1 hA1 hf563
       refine g_lstore X562 K d12_154 (L' := #[rv x0, iv 0, iv 1, lv x3, .second, lv 0, .second, lv ((0 : Int64) + ((k1 + (0 : Int64)) - pp_22)), .second, lv f563, .second, iv 1]) rfl (g_aloadN X562 K d12_156 rfl rfl (g_ag X562 K e562 30 rfl rb556.2.2.2.2.2.2.2.2.1 d12_157 d12_158 rfl fun T564 X564 e564 => g_iload X564 K d12_161 rfl (g_iaload X564 K e564 r556_4 d12_163 (by decide) (v := (.int 2)) rfl ?_)))
       have q565 := (q549.keep K556 na34)
       refine g_callP X564 K e564 207 208 4 210 209 3 rfl rfl rfl rfl rfl rfl (by decide) (rmtl2 l Z a0 hw x0 T556.heap n0 (Nat.le_trans Z0 KK556.1) rb556.2.2.1 q565) rb556.1 d12_164 hml.symm (argsL := [(.int 2)]) (lenOf pd_14 rfl) rfl 0 (Nat.le_of_ble_eq_true rfl) (by decide) fun v566 T566 Lc566 hQ566 X566 => ?_
       obtain ⟨rfl, N566q, e566⟩ := hQ566
       have N566 := Fr.app N562 N566q
       dsimp only [Option.toList, List.cons_append, List.nil_append]
       refine g_istore X566 K d12_167 (L' := #[rv x0, iv 0, iv 1, lv x3, .second, lv 0, .second, lv ((0 : Int64) + ((k1 + (0 : Int64)) - pp_22)), .second, lv f563, .second, iv 0]) rfl (g_goto X566 K 131 d12_169 (by decide) (g_iload X566 K d12_131 rfl (g_iloadN X566 K d12_133 rfl (g_icY X566 K 172 d12_134 (by decide) (teq (by decide)).1 (g_iloadN X566 K d12_172 rfl (g_istore X566 K d12_173 (L' := #[rv x0, iv 0, iv 1, lv x3, .second, lv 0, .second, lv ((0 : Int64) + ((k1 + (0 : Int64)) - pp_22)), .second, lv f563, .second, iv 1]) rfl (g_iload X566 K d12_175 rfl (g_iloadN X566 K d12_177 rfl (g_icN X566 K d12_178 (feq (by decide)).1 (g_aloadN X566 K d12_181 rfl rfl (g_ag X566 K e566 30 rfl rb556.2.2.2.2.2.2.2.2.1 d12_182 d12_183 rfl fun T569 X569 e569 => g_iload X569 K d12_186 rfl ?_)))))))))))
       refine g_iaload X569 K e569 r556_4 d12_188 (by decide) (v := (.int 2)) rfl (g_lload X569 K d12_189 rfl ?_)
       have q570 := (q550.keep K556 na35)
       refine g_callP X569 K e569 211 212 4 214 213 3 rfl rfl rfl rfl rfl rfl (by decide) (rmps2 l Z a0 hw x0 f563 hn hq T556.heap n0 (Nat.le_trans Z0 KK556.1) rb556 q570 q561 (own_hmin bf563) (own_hdiv bf563 hk1) (own_hadd own_bf0 bf563 hk1)) rb556.1 d12_191 hml.symm (argsL := [(.int 2), (.long f563)]) (lenOf pd_15 rfl) rfl 0 (Nat.le_of_ble_eq_true rfl) (by decide) fun v571 T571 Lc571 hQ571 X571 => ?_
       obtain ⟨rfl, N571q, K571, rb571, r571_1⟩ := hQ571
       have N571 := Fr.app N566 N571q
       have KK571 := KK556.trans K571 (own_al [0, 1] rfl)
       dsimp only [Option.toList, List.cons_append, List.nil_append]
       refine g_aloadN X571 K d12_194 rfl rfl (g_ag X571 K rfl 30 rfl rb571.2.2.2.2.2.2.2.2.1 d12_195 d12_196 rfl fun T572 X572 e572 => g_iload X572 K d12_199 rfl ?_)
       have q573 := (r556_4.keep K571 na36)
       refine g_iaload X572 K e572 q573 d12_201 (by decide) (v := (.int 2)) rfl ?_
       have q574 := (q565.keep K571 na37)
       refine g_callP X572 K e572 207 208 4 210 209 3 rfl rfl rfl rfl rfl rfl (by decide) (rmtl2 l Z a0 hw x0 T571.heap n0 (Nat.le_trans Z0 KK571.1) rb571.2.2.1 q574) rb571.1 d12_202 hml.symm (argsL := [(.int 2)]) (lenOf pd_14 rfl) rfl 0 (Nat.le_of_ble_eq_true rfl) (by decide) fun v575 T575 Lc575 hQ575 X575 => ?_
       obtain ⟨rfl, N575q, e575⟩ := hQ575
       have N575 := Fr.app N571 N575q
       dsimp only [Option.toList, List.cons_append, List.nil_append]
       refine g_istore X575 K d12_205 (L' := #[rv x0, iv 0, iv 1, lv x3, .second, lv 0, .second, lv ((0 : Int64) + ((k1 + (0 : Int64)) - pp_22)), .second, lv f563, .second, iv 0]) rfl (g_goto X575 K 175 d12_207 (by decide) (g_iload X575 K d12_175 rfl (g_iloadN X575 K d12_177 rfl (g_icY X575 K 210 d12_178 (by decide) (teq (by decide)).1 (g_lload X575 K d12_210 rfl (g_lload X575 K d12_212 rfl (g_ladd X575 K d12_214 rfl (g_lstore X575 K d12_215 (L' := #[rv x0, iv 0, iv 1, lv x3, .second, lv ((0 : Int64) + f563), .second, lv ((0 : Int64) + ((k1 + (0 : Int64)) - pp_22)), .second, lv f563, .second, iv 0]) rfl (g_goto X575 K 106 d12_217 (by decide) (g_lload X575 K d12_106 rfl (g_lloadN X575 K d12_108 rfl (g_lcmp X575 K d12_109 rfl ?_))))))))))))
       by_cases hc110_577 : ((0 : Int64) + f563) < x3
       refine g_ifN X575 K d12_110 ((if0 _ _).trans (tlt ((lw_lt ((0 : Int64) + f563) x3).mpr hc110_577)).2.1) ?_
       ·
        have xh578 := own_fx hA own_s0 hb1 hf563 hc110_577
        refine g_aloadN X575 K d12_113 rfl rfl (g_iloadN X575 K d12_114 rfl (g_iloadN X575 K d12_115 rfl ?_))
        have q579 := ((q547.keep K556 na38).keep K571 na39)
        have q580 := ((q548.keep K556 na40).keep K571 na41)
        have q581 := (q570.keep K571 na42)
        have q582 := ((r544_0.keep K556 na43).keep K571 na44)
        have q583 := (r556_1.keep K571 na45)
        have q584 := (r556_3.keep K571 na46)
        have q585 := (r556_2.keep K571 na47)
        refine g_callP X575 K e575 201 202 4 204 203 3 rfl rfl rfl rfl rfl rfl (by decide) (rmwk0 l Z a0 hw x0 hn hq T571.heap n0 (Nat.le_trans Z0 KK571.1) rb571 q579 q580 q574 q581 r571_1 q582 q583 q584 q585 q573 (by decide) (fun q => absurd q (own_nlt xh578)) (p0) (own_rc2 kk)) rb571.1 d12_116 hml.symm (argsL := [(.int 0), (.int 1)]) (lenOf pd_13 rfl) rfl 0 (Nat.le_of_ble_eq_true rfl) (by decide) fun v586 T586 Lc586 hQ586 X586 => ?_
        obtain ⟨e0_586, e1_586, e2_586, e3_586, rfl, N586q, K586, rb586, r586_1, r586_2, r586_3, r586_4⟩ := hQ586
        have N586 := Fr.app N575 N586q
        have KK586 := KK571.trans K586 (own_al [0, 11, 13, 12, 7] rfl)
        dsimp only [Option.toList, List.cons_append, List.nil_append]
        refine g_ifN X586 K d12_119 ((if0 _ _).trans (feq (by decide)).1) (g_lloadN X586 K d12_122 rfl (g_lload X586 K d12_123 rfl (g_lsub X586 K d12_125 rfl (g_lstore X586 K d12_126 (L' := #[rv x0, iv 0, iv 1, lv x3, .second, lv ((0 : Int64) + f563), .second, lv ((0 : Int64) + ((k1 + (0 : Int64)) - pp_22)), .second, lv (x3 - ((0 : Int64) + f563)), .second, iv 0]) rfl (g_iloadN X586 K d12_128 rfl (g_istore X586 K d12_129 (L' := #[rv x0, iv 0, iv 1, lv x3, .second, lv ((0 : Int64) + f563), .second, lv ((0 : Int64) + ((k1 + (0 : Int64)) - pp_22)), .second, lv (x3 - ((0 : Int64) + f563)), .second, iv 1]) rfl (g_iload X586 K d12_131 rfl (g_iloadN X586 K d12_133 rfl (g_icN X586 K d12_134 (feq (by decide)).1 (g_lload X586 K d12_137 rfl (g_ag X586 K rfl 16 rfl rb586.2.2.2.1 d12_139 d12_140 rfl fun T589 X589 e589 => g_ag X589 K e589 30 rfl rb586.2.2.2.2.2.2.2.2.1 d12_143 d12_144 rfl fun T590 X590 e590 => ?_)))))))))))
        refine g_iload X590 K d12_147 rfl (g_iaload X590 K e590 r586_4 d12_149 (by decide) (v := (.int 0)) rfl ?_)
        have q591 := (r571_1.keep K586 na33)
        refine g_laload X590 K e590 q591 d12_150 (by decide) (v := (.long c0)) rfl (g_callS X590 K e590 198 199 81 200 rfl rfl rfl rfl (by decide) (rm32 l Z a0 hw (x3 - ((0 : Int64) + f563)) c0 T586.heap n0 (Nat.le_trans Z0 KK586.1) ) d12_151 hml.symm (argsL := [(.long (x3 - ((0 : Int64) + f563))), (.long c0)]) (lenOf pd_5 rfl) rfl 0 (Nat.le_of_ble_eq_true rfl) (by decide) fun v592 T592 Lc592 hQ592 X592 => ?_)
        obtain ⟨rfl, N592q, e592⟩ := hQ592
        have N592 := Fr.app N586 N592q
        dsimp only [Option.toList, List.cons_append, List.nil_append]
        obtain ⟨f593, hf593⟩ : ∃ z : Int64, z = (if c0 < (x3 - ((0 : Int64) + f563)) then c0 else (x3 - ((0 : Int64) + f563))) := ⟨_, rfl⟩
        refine gB (S' := T592.setTop (mkF m 154 #[rv x0, iv 0, iv 1, lv x3, .second, lv ((0 : Int64) + f563), .second, lv ((0 : Int64) + ((k1 + (0 : Int64)) - pp_22)), .second, lv (x3 - ((0 : Int64) + f563)), .second, iv 1] [(.long f593)])) ?_ (by
          intro t k
          rw [← hf593]
          exact k)
        have bf593 := own_f hA (own_s1 bf563) hb0 hc110_577 hf593
        refine g_lstore X592 K d12_154 (L' := #[rv x0, iv 0, iv 1, lv x3, .second, lv ((0 : Int64) + f563), .second, lv ((0 : Int64) + ((k1 + (0 : Int64)) - pp_22)), .second, lv f593, .second, iv 1]) rfl (g_aloadN X592 K d12_156 rfl rfl (g_ag X592 K e592 30 rfl rb586.2.2.2.2.2.2.2.2.1 d12_157 d12_158 rfl fun T594 X594 e594 => g_iload X594 K d12_161 rfl (g_iaload X594 K e594 r586_4 d12_163 (by decide) (v := (.int 0)) rfl ?_)))
        have q595 := (q574.keep K586 na34)
        refine g_callP X594 K e594 207 208 4 210 209 3 rfl rfl rfl rfl rfl rfl (by decide) (rmtl0 l Z a0 hw x0 T586.heap n0 (Nat.le_trans Z0 KK586.1) rb586.2.2.1 q595) rb586.1 d12_164 hml.symm (argsL := [(.int 0)]) (lenOf pd_14 rfl) rfl 0 (Nat.le_of_ble_eq_true rfl) (by decide) fun v596 T596 Lc596 hQ596 X596 => ?_
        obtain ⟨rfl, N596q, e596⟩ := hQ596
        have N596 := Fr.app N592 N596q
        dsimp only [Option.toList, List.cons_append, List.nil_append]
        refine g_istore X596 K d12_167 (L' := #[rv x0, iv 0, iv 1, lv x3, .second, lv ((0 : Int64) + f563), .second, lv ((0 : Int64) + ((k1 + (0 : Int64)) - pp_22)), .second, lv f593, .second, iv 0]) rfl (g_goto X596 K 131 d12_169 (by decide) (g_iload X596 K d12_131 rfl (g_iloadN X596 K d12_133 rfl (g_icY X596 K 172 d12_134 (by decide) (teq (by decide)).1 (g_iloadN X596 K d12_172 rfl (g_istore X596 K d12_173 (L' := #[rv x0, iv 0, iv 1, lv x3, .second, lv ((0 : Int64) + f563), .second, lv ((0 : Int64) + ((k1 + (0 : Int64)) - pp_22)), .second, lv f593, .second, iv 1]) rfl (g_iload X596 K d12_175 rfl (g_iloadN X596 K d12_177 rfl (g_icN X596 K d12_178 (feq (by decide)).1 (g_aloadN X596 K d12_181 rfl rfl (g_ag X596 K e596 30 rfl rb586.2.2.2.2.2.2.2.2.1 d12_182 d12_183 rfl fun T599 X599 e599 => g_iload X599 K d12_186 rfl ?_)))))))))))
        refine g_iaload X599 K e599 r586_4 d12_188 (by decide) (v := (.int 0)) rfl (g_lload X599 K d12_189 rfl ?_)
        have q600 := (q581.keep K586 na35)
        refine g_callP X599 K e599 211 212 4 214 213 3 rfl rfl rfl rfl rfl rfl (by decide) (rmps0 l Z a0 hw x0 f593 hn hq T586.heap n0 (Nat.le_trans Z0 KK586.1) rb586 q600 q591 (own_hmin bf593) (own_hdiv bf593 hk0) (own_hadd (own_bf1 bf563 hk1) bf593 hk0)) rb586.1 d12_191 hml.symm (argsL := [(.int 0), (.long f593)]) (lenOf pd_15 rfl) rfl 0 (Nat.le_of_ble_eq_true rfl) (by decide) fun v601 T601 Lc601 hQ601 X601 => ?_
        obtain ⟨rfl, N601q, K601, rb601, r601_1⟩ := hQ601
        have N601 := Fr.app N596 N601q
        have KK601 := KK586.trans K601 (own_al [0, 1] rfl)
        dsimp only [Option.toList, List.cons_append, List.nil_append]
        refine g_aloadN X601 K d12_194 rfl rfl (g_ag X601 K rfl 30 rfl rb601.2.2.2.2.2.2.2.2.1 d12_195 d12_196 rfl fun T602 X602 e602 => g_iload X602 K d12_199 rfl ?_)
        have q603 := (r586_4.keep K601 na36)
        refine g_iaload X602 K e602 q603 d12_201 (by decide) (v := (.int 0)) rfl ?_
        have q604 := (q595.keep K601 na37)
        refine g_callP X602 K e602 207 208 4 210 209 3 rfl rfl rfl rfl rfl rfl (by decide) (rmtl0 l Z a0 hw x0 T601.heap n0 (Nat.le_trans Z0 KK601.1) rb601.2.2.1 q604) rb601.1 d12_202 hml.symm (argsL := [(.int 0)]) (lenOf pd_14 rfl) rfl 0 (Nat.le_of_ble_eq_true rfl) (by decide) fun v605 T605 Lc605 hQ605 X605 => ?_
        obtain ⟨rfl, N605q, e605⟩ := hQ605
        have N605 := Fr.app N601 N605q
        dsimp only [Option.toList, List.cons_append, List.nil_append]
        refine g_istore X605 K d12_205 (L' := #[rv x0, iv 0, iv 1, lv x3, .second, lv ((0 : Int64) + f563), .second, lv ((0 : Int64) + ((k1 + (0 : Int64)) - pp_22)), .second, lv f593, .second, iv 0]) rfl (g_goto X605 K 175 d12_207 (by decide) (g_iload X605 K d12_175 rfl (g_iloadN X605 K d12_177 rfl (g_icY X605 K 210 d12_178 (by decide) (teq (by decide)).1 (g_lload X605 K d12_210 rfl (g_lload X605 K d12_212 rfl (g_ladd X605 K d12_214 rfl (g_lstore X605 K d12_215 (L' := #[rv x0, iv 0, iv 1, lv x3, .second, lv (((0 : Int64) + f563) + f593), .second, lv ((0 : Int64) + ((k1 + (0 : Int64)) - pp_22)), .second, lv f593, .second, iv 0]) rfl (g_goto X605 K 106 d12_217 (by decide) (g_lload X605 K d12_106 rfl (g_lloadN X605 K d12_108 rfl (g_lcmp X605 K d12_109 rfl ?_))))))))))))
        by_cases hc110_607 : (((0 : Int64) + f563) + f593) < x3
        refine g_ifN X605 K d12_110 ((if0 _ _).trans (tlt ((lw_lt (((0 : Int64) + f563) + f593) x3).mpr hc110_607)).2.1) ?_
        ·
         have xh608 := own_fx hA (own_s1 bf563) hb0 hf593 hc110_607
         refine g_aloadN X605 K d12_113 rfl rfl (g_iloadN X605 K d12_114 rfl (g_iloadN X605 K d12_115 rfl ?_))
         have q609 := ((q579.keep K586 na38).keep K601 na39)
         have q610 := ((q580.keep K586 na40).keep K601 na41)
         have q611 := (q600.keep K601 na42)
         have q612 := ((q582.keep K586 na43).keep K601 na44)
         have q613 := (r586_1.keep K601 na45)
         have q614 := (r586_3.keep K601 na46)
         have q615 := (r586_2.keep K601 na47)
         refine g_callP X605 K e605 201 202 4 204 203 3 rfl rfl rfl rfl rfl rfl (by decide) (rmwkF l Z a0 hw x0 hn hq T601.heap n0 (Nat.le_trans Z0 KK601.1) rb601 q609 q610 q604 q611 r601_1 q612 q613 q614 q615 q603 (by decide) (fun q => absurd q (own_nlt xh578)) (fun q => absurd q (own_nlt xh608))) rb601.1 d12_116 hml.symm (argsL := [(.int 0), (.int 1)]) (lenOf pd_13 rfl) rfl 0 (Nat.le_of_ble_eq_true rfl) (by decide) fun v616 T616 Lc616 hQ616 X616 => ?_
         obtain ⟨e0_616, e1_616, e2_616, e3_616, rfl, N616q, K616, rb616, r616_1, r616_2, r616_3, r616_4⟩ := hQ616
         have N616 := Fr.app N605 N616q
         have KK616 := KK601.trans K616 (own_al [0, 11, 13, 12, 7] rfl)
         dsimp only [Option.toList, List.cons_append, List.nil_append]
         refine g_ifY X616 K 220 d12_119 (by decide) ((if0 _ _).trans (teq (by decide)).1) (g_goto X616 K 67 d12_220 (by decide) (g_lload X616 K d12_67 rfl (g_lloadN X616 K d12_69 rfl (g_lcmp X616 K d12_70 rfl ?_))))
         have hc71_618 : (((0 : Int64) + f563) + f593) < x3 := hc110_607
         refine g_ifN X616 K d12_71 ((if0 _ _).trans (tlt ((lw_lt (((0 : Int64) + f563) + f593) x3).mpr hc71_618)).2.1) (g_aloadN X616 K d12_74 rfl rfl (g_iloadN X616 K d12_75 rfl (g_iconst X616 K d12_76 (z := 1) rfl ?_)))
         have q619 := (q609.keep K616 na38)
         have q620 := (q610.keep K616 na40)
         have q621 := (q604.keep K616 na34)
         have q622 := (q611.keep K616 na35)
         have q623 := (r601_1.keep K616 na33)
         have q624 := (q612.keep K616 na43)
         have q625 := ((((((r539_2_0.keep K544).keep K556).keep K571).keep K586).keep K601).keep K616)
         have q626 := ((((((r539_2_1.keep K544 na48).keep K556 na49).keep K571 na50).keep K586 na49).keep K601 na50).keep K616 na49)
         have q627 := ((((((r539_2_2.keep K544 na48).keep K556 na49).keep K571 na50).keep K586 na49).keep K601 na50).keep K616 na49)
         have q628 := ((((((r539_2_3.keep K544 na48).keep K556 na49).keep K571 na50).keep K586 na49).keep K601 na50).keep K616 na49)
         have q629 := ((((((r539_2_4.keep K544 na48).keep K556 na49).keep K571 na50).keep K586 na49).keep K601 na50).keep K616 na49)
         have q630 := ((((((r539_3.keep K544 na51).keep K556 na52).keep K571 na53).keep K586 na52).keep K601 na53).keep K616 na52)
         have q631 := ((((((r539_4.keep K544 na54).keep K556 na55).keep K571 na56).keep K586 na55).keep K601 na56).keep K616 na55)
         have q632 := ((((((r539_0.keep K544 na57).keep K556 na58).keep K571 na59).keep K586 na58).keep K601 na59).keep K616 na58)
         refine g_callP X616 K rfl 159 160 4 162 161 3 rfl rfl rfl rfl rfl rfl (by decide) (rmsrM l Z a0 hw x0 T616.heap n0 (Nat.le_trans Z0 KK616.1) rb616 q619 q620 q621 q622 q623 q624 ⟨q625, q626, q627, q628, q629⟩ q630 q631 q632 r616_4 (xh578) (xh608)) rb616.1 d12_77 hml.symm (argsL := [(.int 0), (.int 1)]) (lenOf pd_12 rfl) rfl 0 (Nat.le_of_ble_eq_true rfl) (by decide) fun v633 T633 Lc633 hQ633 X633 => ?_
         obtain ⟨e0_633, e1_633, e2_633, e3_633, rfl, N633q, K633, r633_0, r633_1, ⟨r633_2_0, r633_2_1, r633_2_2, r633_2_3, r633_2_4⟩, r633_3, r633_4⟩ := hQ633
         have N633 := Fr.app N616 N633q
         have KK633 := KK616.trans K633 (own_al [6, 7, 8, 9, 10] rfl)
         dsimp only [Option.toList, List.cons_append, List.nil_append]
         have xb634 := own_XF_keep rb616 K633 na10
         refine g_ag X633 K rfl 28 rfl xb634.2.2.2.2.2.2.2.1 d12_80 d12_81 rfl fun T635 X635 e635 => g_iloadN X635 K d12_84 rfl (g_laload X635 K e635 r633_0 d12_85 (by decide) (v := (.long 9223372036854775807)) rfl (g_lstore X635 K d12_86 (L' := #[rv x0, iv 0, iv 1, lv x3, .second, lv (((0 : Int64) + f563) + f593), .second, lv 9223372036854775807, .second, lv f593, .second, iv 0]) rfl (g_lload X635 K d12_88 rfl (g_ldc2 X635 K 163 rfl d12_90 (z := (9223372036854775807 : Int64)) rfl (g_lcmp X635 K d12_93 (z := (0 : Int32)) rfl (g_ifN X635 K d12_94 ((if0 _ _).trans (teq (by decide)).2) (g_goto X635 K 223 d12_97 (by decide) (g_lload X635 K d12_223 rfl ?_))))))))
         have q637 := (q623.keep K633 na11)
         have q638 := (q624.keep K633 na12)
         exact g_lvJ X635 K hlk hrt hR d12_225 (by decide) (by rw [e635]; exact ⟨(((0 : Int64) + (f563 * k1)) + (f593 * k0)), ((((0 : Int64) + (1 : Int64)) + (1 : Int64)) + (1 : Int64)), (c0 - f593), ((0 : Int64) + f593), (c1 - f563), ((0 : Int64) + f563), (0 : Int64), k1, (((0 : Int64) + f563) + f593), rfl, N633, KK633, xb634, q637, q638, (own_p1 c0 _)⟩)
        refine g_ifY X605 K 220 d12_110 (by decide) ((if0 _ _).trans (flt (fun q => hc110_607 ((lw_lt (((0 : Int64) + f563) + f593) x3).mp q))).2.1) ?_
        ·
         refine g_goto X605 K 67 d12_220 (by decide) (g_lload X605 K d12_67 rfl (g_lloadN X605 K d12_69 rfl (g_lcmp X605 K d12_70 rfl ?_)))
         have hc71_639 : ¬ ((((0 : Int64) + f563) + f593) < x3) := hc110_607
         refine g_ifY X605 K 223 d12_71 (by decide) ((if0 _ _).trans (flt (fun q => hc71_639 ((lw_lt (((0 : Int64) + f563) + f593) x3).mp q))).2.1) (g_lload X605 K d12_223 rfl ?_)
         have q640 := ((q582.keep K586 na43).keep K601 na44)
         exact g_lvJ X605 K hlk hrt hR d12_225 (by decide) (by rw [e605]; exact ⟨(((0 : Int64) + (f563 * k1)) + (f593 * k0)), (((0 : Int64) + (1 : Int64)) + (1 : Int64)), (c0 - f593), ((0 : Int64) + f593), (c1 - f563), ((0 : Int64) + f563), (0 : Int64), k1, (((0 : Int64) + f563) + f593), rfl, N605, KK601, rb601, r601_1, q640, (own_p1 c0 _)⟩)
       refine g_ifY X575 K 220 d12_110 (by decide) ((if0 _ _).trans (flt (fun q => hc110_577 ((lw_lt ((0 : Int64) + f563) x3).mp q))).2.1) ?_
       ·
        refine g_goto X575 K 67 d12_220 (by decide) (g_lload X575 K d12_67 rfl (g_lloadN X575 K d12_69 rfl (g_lcmp X575 K d12_70 rfl ?_)))
        have hc71_641 : ¬ (((0 : Int64) + f563) < x3) := hc110_577
        refine g_ifY X575 K 223 d12_71 (by decide) ((if0 _ _).trans (flt (fun q => hc71_641 ((lw_lt ((0 : Int64) + f563) x3).mp q))).2.1) (g_lload X575 K d12_223 rfl ?_)
        have q642 := ((r544_0.keep K556 na43).keep K571 na44)
        exact g_lvJ X575 K hlk hrt hR d12_225 (by decide) (by rw [e575]; exact ⟨((0 : Int64) + (f563 * k1)), ((0 : Int64) + (1 : Int64)), c0, (0 : Int64), (c1 - f563), ((0 : Int64) + f563), (0 : Int64), k1, ((0 : Int64) + f563), rfl, N575, KK571, rb571, r571_1, q642, (own_p0 c0)⟩)
  ·
   refine g_lload X22 K d12_67 rfl (g_lloadN X22 K d12_69 rfl (g_lcmp X22 K d12_70 rfl ?_))
   have hc71_643 : ¬ ((0 : Int64) < x3) := hA1
   refine g_ifY X22 K 223 d12_71 (by decide) ((if0 _ _).trans (flt (fun q => hc71_643 ((lw_lt (0 : Int64) x3).mp q))).2.1) (g_lload X22 K d12_223 rfl ?_)
   have q644 := (q17.keep K22 na4)
   exact g_lvJ X22 K hlk hrt hR d12_225 (by decide) (⟨(0 : Int64), (0 : Int64), c0, (0 : Int64), c1, (0 : Int64), (0 : Int64), pp_22, (0 : Int64), rfl, N22, KK22, rb22, q644, r22_1, (own_p0 c0)⟩)
def Q0 (Z : State) (x0 : Int32) (x1 : Int32) (x2 : Int32) (x3 : Int32) (x4 : Int32) (x5 : Int64) (h0 : Heap) (n0 : Nat) (v : Option Value) (h : Heap) (L : List Loc) : Prop := v = some (.int 1) ∧ Fr n0 L
theorem ef_0 (m : MethodId) (x0 : Int32) (x1 : Int32) (x2 : Int32) (x3 : Int32) (x4 : Int32) (x5 : Int64) : entryFrame m #[(.int x0), (.int x1), (.int x2), (.int x3), (.int x4), (.long x5)] maxLocals = mkF m 0 #[iv x0, iv x1, iv x2, iv x3, iv x4, lv x5, .second, .unset, .unset, .unset, .unset, .unset, .unset, .unset, .unset, .unset, .unset, .unset, .unset] [] := by first | (simp [entryFrame, mkF, argsToLocals, Value.category, maxLocals]; done) | rfl
set_option maxRecDepth 65536 in
set_option maxHeartbeats 40000000 in
theorem rm0 (l : Launch) (Z : State) (a0 : Array Value) (hw : ∀ d ∈ tables_1, d.before a0 Z = true) (ws : List Jvm.Cond) (x0 : Int32) (x1 : Int32) (x2 : Int32) (x3 : Int32) (x4 : Int32) (x5 : Int64) (h0 : Heap) (n0 : Nat) (Z0 : n0 ≤ h0.size) (O0 : Old Z n0 h0) :
    MetFree l x (head1 (Jvm.Cond.code x code maxLocals ret :: ws) room_1) (fun a U => a = #[(.int x0), (.int x1), (.int x2), (.int x3), (.int x4), (.long x5)] ∧ Z.Warmed39 U.vm ∧ U.heap = h0) (fun _ _ _ _ _ => True) (fun _ U o U' => ∃ v L, o = .returned v ∧ Q0 Z x0 x1 x2 x3 x4 x5 h0 n0 v U'.heap L ∧ FrameEnd U o U' L room_1.cells room_1.slots) := by
  refine MetFree.of_bodySF (plainFor_of_name pn_0) hisR ?_
  intro p e s m args below meth c s₁ Bd hml0 hP hK
  obtain ⟨rfl, hZ, hh⟩ := hP
  have hx := Bd.exec
  have hby := Bd.bytes
  have hml : c.maxLocals = 19 := hml0
  have hown : s.vm.findClass "com/example/violarc/violarc/graph/FlowNetworkClearFlowPinLaw" = some m.cls := findClass_of_methodNamed Bd.named
  have hnm := (name_of_methodNamed Bd.named Bd.method).1
  have X0 : Stand p l e room_1 s m #[(.int x0), (.int x1), (.int x2), (.int x3), (.int x4), (.long x5)] below meth c s₁ [] 0 0 := Stand.of_body Bd
  have e0 : s₁.heap = h0 := by rw [← hh, Bd.state]; rfl
  have N0 := Fr.nil n0
  have Kp0 := Keep.refl h0 []
  have K : own_K p c code Z s "com/example/violarc/violarc/graph/FlowNetworkClearFlowPinLaw" m a0 := ⟨hx, hby, hZ, hown, hw⟩
  refine gStart (S' := s₁.setTop (mkF m 0 #[iv x0, iv x1, iv x2, iv x3, iv x4, lv x5, .second, uu, uu, uu, uu, uu, uu, uu, uu, uu, uu, uu, uu] [])) (congrArg (fun f => s₁.setTop f) (ef_0 m x0 x1 x2 x3 x4 x5)) fun Rp hR => ?_
  refine g_bipush X0 K at_0 (z := 10) rfl ?_
  obtain ⟨T1, h1, k1, X1, e1, E1, A1, st1⟩ := newP X0 hx hZ (hw _ (im 0 rfl)) e0 (g := (mkF m 2 #[iv x0, iv x1, iv x2, iv x3, iv x4, lv x5, .second, uu, uu, uu, uu, uu, uu, uu, uu, uu, uu, uu, uu] [(.int 10)])) rfl (hb hby at_2) rfl (by decide) (cap := 10) (by decide) (by decide) (by decide) (by decide)
  obtain ⟨b1, g1⟩ : ∃ z, z = h0.size := ⟨_, rfl⟩
  rw [← g1] at A1 st1
  have ge_b1 : n0 ≤ b1 := Nat.le_trans Z0 (Nat.le_of_eq g1.symm)
  have Z1_ : n0 ≤ h1.size := Nat.le_trans Z0 E1.1
  have O1_ := O0.ext E1
  have V1 : Arv Z h1 b1 k1 .long (10 : Int32) [(.long 0), (.long 0), (.long 0), (.long 0), (.long 0), (.long 0), (.long 0), (.long 0), (.long 0), (.long 0)] (.long 0) := (Arv.new A1 (by decide)).pad (pad_rep [] (.long 0) 10)
  refine gB (S' := T1.setTop (mkF m 4 #[iv x0, iv x1, iv x2, iv x3, iv x4, lv x5, .second, uu, uu, uu, uu, uu, uu, uu, uu, uu, uu, uu, uu] [(.ref b1)])) ?_ st1
  refine g_astore X1 K at_4 rfl (L' := #[iv x0, iv x1, iv x2, iv x3, iv x4, lv x5, .second, rv b1, uu, uu, uu, uu, uu, uu, uu, uu, uu, uu, uu]) rfl (g_iloadN X1 K at_6 rfl (g_i2l X1 K at_7 rfl (g_ldc2 X1 K 1 rfl at_8 (z := (2147483647 : Int64)) rfl ?_)))
  refine gB (S' := T1.setTop (mkF m 12 #[iv x0, iv x1, iv x2, iv x3, iv x4, lv x5, .second, rv b1, uu, uu, uu, uu, uu, uu, uu, uu, uu, uu, uu] [(.long ((x0.toInt64) &&& (2147483647 : Int64)))])) ?_ (by
    intro t k
    refine XS.land X1.here hx rfl (hb hby at_11) rfl ?_
    exact k)
  refine g_lstore X1 K at_12 (L' := #[iv x0, iv x1, iv x2, iv x3, iv x4, lv x5, .second, rv b1, lv ((x0.toInt64) &&& (2147483647 : Int64)), .second, uu, uu, uu, uu, uu, uu, uu, uu, uu]) rfl (g_iloadN X1 K at_14 rfl (g_i2l X1 K at_15 rfl (g_ldc2 X1 K 1 rfl at_16 (z := (2147483647 : Int64)) rfl ?_)))
  refine gB (S' := T1.setTop (mkF m 20 #[iv x0, iv x1, iv x2, iv x3, iv x4, lv x5, .second, rv b1, lv ((x0.toInt64) &&& (2147483647 : Int64)), .second, uu, uu, uu, uu, uu, uu, uu, uu, uu] [(.long ((x1.toInt64) &&& (2147483647 : Int64)))])) ?_ (by
    intro t k
    refine XS.land X1.here hx rfl (hb hby at_19) rfl ?_
    exact k)
  refine g_lstore X1 K at_20 (L' := #[iv x0, iv x1, iv x2, iv x3, iv x4, lv x5, .second, rv b1, lv ((x0.toInt64) &&& (2147483647 : Int64)), .second, lv ((x1.toInt64) &&& (2147483647 : Int64)), .second, uu, uu, uu, uu, uu, uu, uu]) rfl (g_iload X1 K at_22 rfl (g_i2l X1 K at_24 rfl (g_ldc2 X1 K 1 rfl at_25 (z := (2147483647 : Int64)) rfl ?_)))
  refine gB (S' := T1.setTop (mkF m 29 #[iv x0, iv x1, iv x2, iv x3, iv x4, lv x5, .second, rv b1, lv ((x0.toInt64) &&& (2147483647 : Int64)), .second, lv ((x1.toInt64) &&& (2147483647 : Int64)), .second, uu, uu, uu, uu, uu, uu, uu] [(.long ((x4.toInt64) &&& (2147483647 : Int64)))])) ?_ (by
    intro t k
    refine XS.land X1.here hx rfl (hb hby at_28) rfl ?_
    exact k)
  refine g_lstore X1 K at_29 (L' := #[iv x0, iv x1, iv x2, iv x3, iv x4, lv x5, .second, rv b1, lv ((x0.toInt64) &&& (2147483647 : Int64)), .second, lv ((x1.toInt64) &&& (2147483647 : Int64)), .second, lv ((x4.toInt64) &&& (2147483647 : Int64)), .second, uu, uu, uu, uu, uu]) rfl ?_
  obtain ⟨T2, h2, X2, e2, E2, A2, D2, -, st2⟩ := newO X1 hx hZ hown (hw _ (im 2 rfl)) (hw _ (im 3 rfl)) (hw _ (im 4 rfl)) e1 (g := (mkF m 31 #[iv x0, iv x1, iv x2, iv x3, iv x4, lv x5, .second, rv b1, lv ((x0.toInt64) &&& (2147483647 : Int64)), .second, lv ((x1.toInt64) &&& (2147483647 : Int64)), .second, lv ((x4.toInt64) &&& (2147483647 : Int64)), .second, uu, uu, uu, uu, uu] [])) rfl (hb hby at_31) (by decide) (by decide)
  obtain ⟨b2, g2⟩ : ∃ z, z = h1.size := ⟨_, rfl⟩
  rw [← g2] at A2 D2 st2
  have ge_b2 : n0 ≤ b2 := Nat.le_trans Z1_ (Nat.le_of_eq g2.symm)
  have Z2_ : n0 ≤ h2.size := Nat.le_trans Z1_ E2.1
  have O2_ := O1_.ext E2
  have F2_next : Fld Z h2 b2 "com/example/violarc/violarc/graph/FlowNetwork" "next" "[I" .null := D2 (Or.inl (hw _ (im 13 rfl))) (ty := (.array .int)) (by decide)
  have F2_target : Fld Z h2 b2 "com/example/violarc/violarc/graph/FlowNetwork" "target" "[I" .null := D2 (Or.inl (hw _ (im 15 rfl))) (ty := (.array .int)) (by decide)
  have F2_residual : Fld Z h2 b2 "com/example/violarc/violarc/graph/FlowNetwork" "residual" "[J" .null := D2 (Or.inl (hw _ (im 17 rfl))) (ty := (.array .long)) (by decide)
  have F2_cost : Fld Z h2 b2 "com/example/violarc/violarc/graph/FlowNetwork" "cost" "[J" .null := D2 (Or.inl (hw _ (im 19 rfl))) (ty := (.array .long)) (by decide)
  have F2_source : Fld Z h2 b2 "com/example/violarc/violarc/graph/FlowNetwork" "source" "I" (.int 0) := D2 (Or.inl (hw _ (im 21 rfl))) (ty := .int) (by decide)
  have F2_sink : Fld Z h2 b2 "com/example/violarc/violarc/graph/FlowNetwork" "sink" "I" (.int 0) := D2 (Or.inl (hw _ (im 23 rfl))) (ty := .int) (by decide)
  have F2_first : Fld Z h2 b2 "com/example/violarc/violarc/graph/FlowNetwork" "first" "[I" .null := D2 (Or.inr (hw _ (im 25 rfl))) (ty := (.array .int)) (by decide)
  have F2_potentials : Fld Z h2 b2 "com/example/violarc/violarc/graph/FlowNetwork" "potentials" "[J" .null := D2 (Or.inr (hw _ (im 27 rfl))) (ty := (.array .long)) (by decide)
  have F2_distances : Fld Z h2 b2 "com/example/violarc/violarc/graph/FlowNetwork" "distances" "[J" .null := D2 (Or.inr (hw _ (im 29 rfl))) (ty := (.array .long)) (by decide)
  have F2_parents : Fld Z h2 b2 "com/example/violarc/violarc/graph/FlowNetwork" "parents" "[I" .null := D2 (Or.inr (hw _ (im 31 rfl))) (ty := (.array .int)) (by decide)
  have F2_heap : Fld Z h2 b2 "com/example/violarc/violarc/graph/FlowNetwork" "heap" "Lcom/example/violarc/violarc/graph/NodeHeap;" .null := D2 (Or.inr (hw _ (im 50 rfl))) (ty := (.object "com/example/violarc/violarc/graph/NodeHeap")) (by decide)
  have F2_queue : Fld Z h2 b2 "com/example/violarc/violarc/graph/FlowNetwork" "queue" "[I" .null := D2 (Or.inr (hw _ (im 52 rfl))) (ty := (.array .int)) (by decide)
  have F2_queued : Fld Z h2 b2 "com/example/violarc/violarc/graph/FlowNetwork" "queued" "[Z" .null := D2 (Or.inr (hw _ (im 55 rfl))) (ty := (.array .boolean)) (by decide)
  have F2_lowered : Fld Z h2 b2 "com/example/violarc/violarc/graph/FlowNetwork" "lowered" "[I" .null := D2 (Or.inr (hw _ (im 57 rfl))) (ty := (.array .int)) (by decide)
  have F2_stack : Fld Z h2 b2 "com/example/violarc/violarc/graph/FlowNetwork" "stack" "[I" .null := D2 (Or.inr (hw _ (im 59 rfl))) (ty := (.array .int)) (by decide)
  have F2_cursors : Fld Z h2 b2 "com/example/violarc/violarc/graph/FlowNetwork" "cursors" "[I" .null := D2 (Or.inr (hw _ (im 61 rfl))) (ty := (.array .int)) (by decide)
  have F2_visits : Fld Z h2 b2 "com/example/violarc/violarc/graph/FlowNetwork" "visits" "[J" .null := D2 (Or.inr (hw _ (im 63 rfl))) (ty := (.array .long)) (by decide)
  have F2_absoluteCosts : Fld Z h2 b2 "com/example/violarc/violarc/graph/FlowNetwork" "absoluteCosts" "J" (.long 0) := D2 (Or.inl (hw _ (im 78 rfl))) (ty := .long) (by decide)
  have F2_arcs : Fld Z h2 b2 "com/example/violarc/violarc/graph/FlowNetwork" "arcs" "I" (.int 0) := D2 (Or.inl (hw _ (im 92 rfl))) (ty := .int) (by decide)
  have F2_valid : Fld Z h2 b2 "com/example/violarc/violarc/graph/FlowNetwork" "valid" "Z" (.int 0) := D2 (Or.inl (hw _ (im 98 rfl))) (ty := .boolean) (by decide)
  have F2_flowCost : Fld Z h2 b2 "com/example/violarc/violarc/graph/FlowNetwork" "flowCost" "J" (.long 0) := D2 (Or.inl (hw _ (im 135 rfl))) (ty := .long) (by decide)
  have F2_visit : Fld Z h2 b2 "com/example/violarc/violarc/graph/FlowNetwork" "visit" "J" (.long 0) := D2 (Or.inl (hw _ (im 206 rfl))) (ty := .long) (by decide)
  refine gB (S' := T2.setTop (mkF m 34 #[iv x0, iv x1, iv x2, iv x3, iv x4, lv x5, .second, rv b1, lv ((x0.toInt64) &&& (2147483647 : Int64)), .second, lv ((x1.toInt64) &&& (2147483647 : Int64)), .second, lv ((x4.toInt64) &&& (2147483647 : Int64)), .second, uu, uu, uu, uu, uu] [(.ref b2)])) ?_ st2
  refine g_dup X2 K at_34 rfl (g_iconst X2 K at_35 (z := 2) rfl ?_)
  obtain ⟨_, _, ⟨T3, L3, k3, n3⟩, -, X3, ⟨Lc3, hQ3, l3, y3, z3⟩, st3⟩ := X2.specialBack hx (y := (⟨"com/example/violarc/violarc/graph/FlowNetwork", "<init>", "(I)V"⟩ : MethodName)) rfl hown (mvT hZ (hw _ (im 5 rfl))) (mvT hZ (hw _ (im 6 rfl))) (mvT hZ (hw _ (im 7 rfl))) (by decide) (backOf (W := 1) (rm1 l Z a0 hw b2 h2 n0 Z2_ A2 F2_next F2_target F2_residual F2_cost F2_first F2_potentials F2_distances F2_parents F2_heap F2_queue F2_queued F2_lowered F2_stack F2_cursors F2_visits F2_arcs F2_absoluteCosts F2_flowCost F2_valid F2_source F2_sink F2_visit ge_b2) hZ (hw _ (im 7 rfl)) (hw _ (im 4 rfl)) (by decide) (by decide)) (g := (mkF m 36 #[iv x0, iv x1, iv x2, iv x3, iv x4, lv x5, .second, rv b1, lv ((x0.toInt64) &&& (2147483647 : Int64)), .second, lv ((x1.toInt64) &&& (2147483647 : Int64)), .second, lv ((x4.toInt64) &&& (2147483647 : Int64)), .second, uu, uu, uu, uu, uu] [(.int 2), (.ref b2), (.ref b2)])) rfl (by rw [hml]; rfl) (Steps.refl _) (a := b2) (argsL := [(.int 2)]) (rest := [(.ref b2)]) (lenOf pd_3 rfl) rfl (by show 2 * 0 + _ ≤ _; exact Nat.le_of_eq rfl) (hb hby at_36) (fun _ _ => ⟨rfl, e2, (by decide : 2 + 17 ≤ _), (by decide : 32 + 92 ≤ _)⟩)
  dsimp only [Pt.U, Pt.locs, Pt.cells, Pt.slots] at X3 l3 y3 z3 st3 hQ3
  subst l3 y3 z3
  obtain ⟨nx_3, tg_3, rs_3, co_3, fi_3, po_3, di_3, pa_3, hp_3, hn_3, hq_3, qu_3, qd_3, lw_3, sk_3, cu_3, vi_3, knx_3, ktg_3, krs_3, kco_3, kfi_3, kpo_3, kdi_3, kpa_3, khn_3, khq_3, kqu_3, kqd_3, klw_3, ksk_3, kcu_3, kvi_3, rfl, N3q, K3, rb3, ⟨r3_1_0, r3_1_1, r3_1_2, r3_1_3, r3_1_4⟩, r3_2, r3_3, r3_4, r3_5, r3_6, r3_7, r3_8, r3_9, r3_10, r3_11, r3_12, r3_13, r3_14, r3_15, r3_16, r3_17⟩ := hQ3
  have N3 := Fr.app N0 N3q
  have Z3_ : n0 ≤ T3.heap.size := Nat.le_trans Z2_ K3.1
  have O3_ := O2_.keep K3 (allS ge_b2 all0)
  have od4 := rb3.2.2.2.2.2.2.2.2.2.2.2.2.2.2.2.2.2.2.2.2.2.2.2.2
  refine gB (S' := T3.setTop (mkF m 39 #[iv x0, iv x1, iv x2, iv x3, iv x4, lv x5, .second, rv b1, lv ((x0.toInt64) &&& (2147483647 : Int64)), .second, lv ((x1.toInt64) &&& (2147483647 : Int64)), .second, lv ((x4.toInt64) &&& (2147483647 : Int64)), .second, uu, uu, uu, uu, uu] [(.ref b2)])) ?_ fun _ => st3.trans
  refine g_astore X3 K at_39 rfl (L' := #[iv x0, iv x1, iv x2, iv x3, iv x4, lv x5, .second, rv b1, lv ((x0.toInt64) &&& (2147483647 : Int64)), .second, lv ((x1.toInt64) &&& (2147483647 : Int64)), .second, lv ((x4.toInt64) &&& (2147483647 : Int64)), .second, rv b2, uu, uu, uu, uu]) rfl (g_aload X3 K at_41 rfl rfl (g_iconst X3 K at_43 (z := 0) rfl (g_iconst X3 K at_44 (z := 1) rfl (g_lload X3 K at_45 rfl (g_iloadN X3 K at_47 rfl (g_i2l X3 K at_48 rfl (g_callV X3 K rfl 65 67 4 69 66 68 rfl rfl rfl rfl rfl rfl (by decide) (rmadd0 l Z a0 hw b2 ((x0.toInt64) &&& (2147483647 : Int64)) (x2.toInt64) hn_3 hq_3 T3.heap n0 Z3_ rb3 r3_3 r3_2 r3_6 r3_4 r3_5 (own_cap _) (own_hab _) (own_had1 _) (own_hmx1 _)) rb3.1 at_49 hml.symm (argsL := [(.int 0), (.int 1), (.long ((x0.toInt64) &&& (2147483647 : Int64))), (.long (x2.toInt64))]) (lenOf pd_16 rfl) rfl 0 (Nat.le_of_ble_eq_true rfl) (by decide) fun v5 T5 Lc5 hQ5 X5 => ?_)))))))
  obtain ⟨rfl, N5q, K5, rb5, r5_1, r5_2, r5_3, r5_4, r5_5⟩ := hQ5
  have N5 := Fr.app N3 N5q
  have Z5_ : n0 ≤ T5.heap.size := Nat.le_trans Z3_ K5.1
  have O5_ := O3_.keep K5 (allS ge_b2 (allS (own_ong od4 ge_b2 2 rfl) (allS (own_ong od4 ge_b2 1 rfl) (allS (own_ong od4 ge_b2 5 rfl) (allS (own_ong od4 ge_b2 3 rfl) (allS (own_ong od4 ge_b2 4 rfl) all0))))))
  dsimp only [Option.toList, List.cons_append, List.nil_append]
  refine g_pop X5 K at_52 rfl (g_aload X5 K at_53 rfl rfl (g_iconst X5 K at_55 (z := 0) rfl (g_iconst X5 K at_56 (z := 1) rfl (g_lload X5 K at_57 rfl (g_iloadN X5 K at_59 rfl (g_i2l X5 K at_60 rfl (g_callV X5 K rfl 65 67 4 69 66 68 rfl rfl rfl rfl rfl rfl (by decide) (rmadd1 l Z a0 hw b2 ((x1.toInt64) &&& (2147483647 : Int64)) (x3.toInt64) hn_3 hq_3 T5.heap n0 Z5_ rb5 r5_1 r5_2 r5_3 r5_4 r5_5 (own_cap _) (own_hab _) (own_had2 _ _) (own_hmx2 _ _)) rb5.1 at_61 hml.symm (argsL := [(.int 0), (.int 1), (.long ((x1.toInt64) &&& (2147483647 : Int64))), (.long (x3.toInt64))]) (lenOf pd_16 rfl) rfl 0 (Nat.le_of_ble_eq_true rfl) (by decide) fun v6 T6 Lc6 hQ6 X6 => ?_)))))))
  obtain ⟨rfl, N6q, K6, rb6, r6_1, r6_2, r6_3, r6_4, r6_5⟩ := hQ6
  have N6 := Fr.app N5 N6q
  have Z6_ : n0 ≤ T6.heap.size := Nat.le_trans Z5_ K6.1
  have O6_ := O5_.keep K6 (allS ge_b2 (allS (own_ong od4 ge_b2 2 rfl) (allS (own_ong od4 ge_b2 1 rfl) (allS (own_ong od4 ge_b2 5 rfl) (allS (own_ong od4 ge_b2 3 rfl) (allS (own_ong od4 ge_b2 4 rfl) all0))))))
  dsimp only [Option.toList, List.cons_append, List.nil_append]
  refine g_pop X6 K at_64 rfl (g_aload X6 K at_65 rfl rfl (g_iconst X6 K at_67 (z := 0) rfl (g_iconst X6 K at_68 (z := 1) rfl (g_lload X6 K at_69 rfl ?_))))
  have ni7 := (own_nin od4 6 rfl [0, 2, 1, 5, 3, 4] _ rfl (by decide) : po_3 ∉ [b2, tg_3, nx_3, fi_3, rs_3, co_3])
  have q8 := ((r3_7.keep K5 ni7).keep K6 ni7)
  have ni9 := (own_nin od4 14 rfl [0, 2, 1, 5, 3, 4] _ rfl (by decide) : lw_3 ∉ [b2, tg_3, nx_3, fi_3, rs_3, co_3])
  have q10 := ((r3_14.keep K5 ni9).keep K6 ni9)
  have ni11 := (own_nin od4 12 rfl [0, 2, 1, 5, 3, 4] _ rfl (by decide) : qu_3 ∉ [b2, tg_3, nx_3, fi_3, rs_3, co_3])
  have q12 := ((r3_12.keep K5 ni11).keep K6 ni11)
  have ni13 := (own_nin od4 13 rfl [0, 2, 1, 5, 3, 4] _ rfl (by decide) : qd_3 ∉ [b2, tg_3, nx_3, fi_3, rs_3, co_3])
  have q14 := ((r3_13.keep K5 ni13).keep K6 ni13)
  have ni15 := (own_nin od4 7 rfl [0, 2, 1, 5, 3, 4] _ rfl (by decide) : di_3 ∉ [b2, tg_3, nx_3, fi_3, rs_3, co_3])
  have q16 := ((r3_8.keep K5 ni15).keep K6 ni15)
  have ni17 := (own_nin od4 8 rfl [0, 2, 1, 5, 3, 4] _ rfl (by decide) : pa_3 ∉ [b2, tg_3, nx_3, fi_3, rs_3, co_3])
  have q18 := ((r3_9.keep K5 ni17).keep K6 ni17)
  have ni19 := (own_nin od4 10 rfl [0, 2, 1, 5, 3, 4] _ rfl (by decide) : hn_3 ∉ [b2, tg_3, nx_3, fi_3, rs_3, co_3])
  have q20 := ((r3_10.keep K5 ni19).keep K6 ni19)
  have ni21 := (own_nin od4 15 rfl [0, 2, 1, 5, 3, 4] _ rfl (by decide) : sk_3 ∉ [b2, tg_3, nx_3, fi_3, rs_3, co_3])
  have q22 := ((r3_15.keep K5 ni21).keep K6 ni21)
  have ni23 := (own_nin od4 16 rfl [0, 2, 1, 5, 3, 4] _ rfl (by decide) : cu_3 ∉ [b2, tg_3, nx_3, fi_3, rs_3, co_3])
  have q24 := ((r3_16.keep K5 ni23).keep K6 ni23)
  have q25 := ((r3_1_0.keep K5).keep K6)
  have ni26 := (own_nin od4 9 rfl [0, 2, 1, 5, 3, 4] _ rfl (by decide) : hp_3 ∉ [b2, tg_3, nx_3, fi_3, rs_3, co_3])
  have q27 := ((r3_1_1.keep K5 ni26).keep K6 ni26)
  have q28 := ((r3_1_2.keep K5 ni26).keep K6 ni26)
  have q29 := ((r3_1_3.keep K5 ni26).keep K6 ni26)
  have q30 := ((r3_1_4.keep K5 ni26).keep K6 ni26)
  have ni31 := (own_nin od4 11 rfl [0, 2, 1, 5, 3, 4] _ rfl (by decide) : hq_3 ∉ [b2, tg_3, nx_3, fi_3, rs_3, co_3])
  have q32 := ((r3_11.keep K5 ni31).keep K6 ni31)
  have ni33 := (own_nin od4 17 rfl [0, 2, 1, 5, 3, 4] _ rfl (by decide) : vi_3 ∉ [b2, tg_3, nx_3, fi_3, rs_3, co_3])
  have q34 := ((r3_17.keep K5 ni33).keep K6 ni33)
  refine g_callV X6 K rfl 99 101 4 103 100 102 rfl rfl rfl rfl rfl rfl (by decide) (rm12 l Z a0 hw b2 ((x4.toInt64) &&& (2147483647 : Int64)) T6.heap n0 Z6_ rb6 r6_3 r6_2 r6_1 r6_5 r6_4 q8 q10 q12 q14 q16 q18 q20 q22 q24 ⟨q25, q27, q28, q29, q30⟩ q32 q34 (own_bp _) (own_bp _) (own_bp _) (own_bd _) (own_bd _)) rb6.1 at_71 hml.symm (argsL := [(.int 0), (.int 1), (.long ((x4.toInt64) &&& (2147483647 : Int64)))]) (lenOf pd_17 rfl) rfl 0 (Nat.le_of_ble_eq_true rfl) (by decide) fun v35 T35 Lc35 hQ35 X35 => ?_
  obtain ⟨efc_35, evt_35, r0_35, r1_35, r2_35, r3_35, q0_35, q1_35, ert_35, rfl, N35q, K35, rb35, r35_1, r35_2, r35_3⟩ := hQ35
  have N35 := Fr.app N6 N35q
  have Z35_ : n0 ≤ T35.heap.size := Nat.le_trans Z6_ K35.1
  have O35_ := O6_.keep K35 (allS ge_b2 (allS (own_ong od4 ge_b2 3 rfl) (allS (own_ong od4 ge_b2 6 rfl) (allS (own_ong od4 ge_b2 14 rfl) (allS (own_ong od4 ge_b2 12 rfl) (allS (own_ong od4 ge_b2 13 rfl) (allS (own_ong od4 ge_b2 7 rfl) (allS (own_ong od4 ge_b2 8 rfl) (allS (own_ong od4 ge_b2 9 rfl) (allS (own_ong od4 ge_b2 10 rfl) (allS (own_ong od4 ge_b2 11 rfl) (allS (own_ong od4 ge_b2 15 rfl) (allS (own_ong od4 ge_b2 16 rfl) (allS (own_ong od4 ge_b2 17 rfl) all0))))))))))))))
  dsimp only [Option.toList, List.cons_append, List.nil_append]
  refine gB (S' := T35.setTop (mkF m 75 #[iv x0, iv x1, iv x2, iv x3, iv x4, lv x5, .second, rv b1, lv ((x0.toInt64) &&& (2147483647 : Int64)), .second, lv ((x1.toInt64) &&& (2147483647 : Int64)), .second, lv ((x4.toInt64) &&& (2147483647 : Int64)), .second, rv b2, uu, uu, uu, uu] [])) ?_ (by
    intro t k
    jvm_step X35.here [X35.here.top, hx, (hb hby at_74), Value.category]
    exact k)
  refine g_aload X35 K at_75 rfl rfl (g_iconst X35 K at_77 (z := 1) rfl (g_callV X35 K rfl 111 113 4 115 112 114 rfl rfl rfl rfl rfl rfl (by decide) (rm15 l Z a0 hw b2 T35.heap n0 Z35_ rb35.2.2.2.2.2.2.2.2.2.2.2.2.2.2.2.2.1 rb35.2.2.2.1 rb35.1 r35_1) rb35.1 at_78 hml.symm (argsL := [(.int 1)]) (lenOf pd_18 rfl) rfl 0 (Nat.le_of_ble_eq_true rfl) (by decide) fun v36 T36 Lc36 hQ36 X36 => ?_))
  obtain ⟨rfl, N36q, e36⟩ := hQ36
  have N36 := Fr.app N35 N36q
  dsimp only [Option.toList, List.cons_append, List.nil_append]
  refine g_lstore X36 K at_81 (L' := #[iv x0, iv x1, iv x2, iv x3, iv x4, lv x5, .second, rv b1, lv ((x0.toInt64) &&& (2147483647 : Int64)), .second, lv ((x1.toInt64) &&& (2147483647 : Int64)), .second, lv ((x4.toInt64) &&& (2147483647 : Int64)), .second, rv b2, lv r3_35, .second, uu, uu]) rfl (g_lload X36 K at_83 rfl (g_lload X36 K at_85 rfl (g_ldc2 X36 K 120 rfl at_87 (z := (9223372036854775807 : Int64)) rfl ?_)))
  refine gB (S' := T36.setTop (mkF m 91 #[iv x0, iv x1, iv x2, iv x3, iv x4, lv x5, .second, rv b1, lv ((x0.toInt64) &&& (2147483647 : Int64)), .second, lv ((x1.toInt64) &&& (2147483647 : Int64)), .second, lv ((x4.toInt64) &&& (2147483647 : Int64)), .second, rv b2, lv r3_35, .second, uu, uu] [(.long (x5 &&& (9223372036854775807 : Int64))), (.long r3_35)])) ?_ (by
    intro t k
    refine XS.land X36.here hx rfl (hb hby at_90) rfl ?_
    exact k)
  refine g_callS X36 K e36 121 122 81 123 rfl rfl rfl rfl (by decide) (rm17 l Z a0 hw r3_35 (x5 &&& (9223372036854775807 : Int64)) T35.heap n0 Z35_ ) at_91 hml.symm (argsL := [(.long r3_35), (.long (x5 &&& (9223372036854775807 : Int64)))]) (lenOf pd_5 rfl) rfl 0 (Nat.le_of_ble_eq_true rfl) (by decide) fun v37 T37 Lc37 hQ37 X37 => ?_
  obtain ⟨rfl, N37q, e37⟩ := hQ37
  have N37 := Fr.app N36 N37q
  dsimp only [Option.toList, List.cons_append, List.nil_append]
  refine g_lstore X37 K at_94 (L' := #[iv x0, iv x1, iv x2, iv x3, iv x4, lv x5, .second, rv b1, lv ((x0.toInt64) &&& (2147483647 : Int64)), .second, lv ((x1.toInt64) &&& (2147483647 : Int64)), .second, lv ((x4.toInt64) &&& (2147483647 : Int64)), .second, rv b2, lv r3_35, .second, lv (if r3_35 < (x5 &&& (9223372036854775807 : Int64)) then (x5 &&& (9223372036854775807 : Int64)) else r3_35), .second]) rfl (g_aload X37 K at_96 rfl rfl (g_iconst X37 K at_98 (z := 1) rfl (g_lload X37 K at_99 rfl (g_callV X37 K e37 124 126 4 128 125 127 rfl rfl rfl rfl rfl rfl (by decide) (rm18 l Z a0 hw b2 (if r3_35 < (x5 &&& (9223372036854775807 : Int64)) then (x5 &&& (9223372036854775807 : Int64)) else r3_35) hn_3 hq_3 T35.heap n0 Z35_ rb35 r35_1 (own_mx1 _ _) (own_mx2 _ _)) rb35.1 at_101 hml.symm (argsL := [(.int 1), (.long (if r3_35 < (x5 &&& (9223372036854775807 : Int64)) then (x5 &&& (9223372036854775807 : Int64)) else r3_35))]) (lenOf pd_15 rfl) rfl 0 (Nat.le_of_ble_eq_true rfl) (by decide) fun v38 T38 Lc38 hQ38 X38 => ?_))))
  obtain ⟨v2_38, rfl, N38q, K38, rb38, r38_1⟩ := hQ38
  have N38 := Fr.app N37 N38q
  have Z38_ : n0 ≤ T38.heap.size := Nat.le_trans Z35_ K38.1
  have O38_ := O35_.keep K38 (allS ge_b2 (allS (own_ong od4 ge_b2 3 rfl) all0))
  dsimp only [Option.toList, List.cons_append, List.nil_append]
  refine g_aload X38 K at_104 rfl rfl (g_callV X38 K rfl 129 131 4 133 130 132 rfl rfl rfl rfl rfl rfl (by decide) (rm19 l Z a0 hw b2 hn_3 hq_3 T38.heap n0 Z38_ rb38 r38_1) rb38.1 at_106 hml.symm (argsL := []) (lenOf pd_9 rfl) rfl 0 (Nat.le_of_ble_eq_true rfl) (by decide) fun v39 T39 Lc39 hQ39 X39 => ?_)
  obtain ⟨rfl, N39q, K39, rb39, r39_1⟩ := hQ39
  have N39 := Fr.app N38 N39q
  have Z39_ : n0 ≤ T39.heap.size := Nat.le_trans Z38_ K39.1
  have O39_ := O38_.keep K39 (allS ge_b2 (allS (own_ong od4 ge_b2 3 rfl) all0))
  dsimp only [Option.toList, List.cons_append, List.nil_append]
  refine g_aload X39 K at_109 rfl rfl (g_aload X39 K at_111 rfl rfl ?_)
  have ni40 := (own_nin od4 6 rfl [0, 3] _ rfl (by decide) : po_3 ∉ [b2, rs_3])
  have q41 := ((r35_2.keep K38 ni40).keep K39 ni40)
  have ne42 : b1 ≠ b2 := own_onb od4 (Nat.lt_of_lt_of_le V1.lt (Nat.le_of_eq g2.symm)) 0 rfl
  have ni43 := (ninS ne42 nin0)
  have ne44 : b1 ≠ co_3 := own_onb od4 (Nat.lt_of_lt_of_le V1.lt (Nat.le_of_eq g2.symm)) 4 rfl
  have ne45 : b1 ≠ rs_3 := own_onb od4 (Nat.lt_of_lt_of_le V1.lt (Nat.le_of_eq g2.symm)) 3 rfl
  have ne46 : b1 ≠ fi_3 := own_onb od4 (Nat.lt_of_lt_of_le V1.lt (Nat.le_of_eq g2.symm)) 5 rfl
  have ne47 : b1 ≠ nx_3 := own_onb od4 (Nat.lt_of_lt_of_le V1.lt (Nat.le_of_eq g2.symm)) 1 rfl
  have ne48 : b1 ≠ tg_3 := own_onb od4 (Nat.lt_of_lt_of_le V1.lt (Nat.le_of_eq g2.symm)) 2 rfl
  have ni49 := (ninS ne42 (ninS ne48 (ninS ne47 (ninS ne46 (ninS ne45 (ninS ne44 nin0))))))
  have ne50 : b1 ≠ vi_3 := own_onb od4 (Nat.lt_of_lt_of_le V1.lt (Nat.le_of_eq g2.symm)) 17 rfl
  have ne51 : b1 ≠ cu_3 := own_onb od4 (Nat.lt_of_lt_of_le V1.lt (Nat.le_of_eq g2.symm)) 16 rfl
  have ne52 : b1 ≠ sk_3 := own_onb od4 (Nat.lt_of_lt_of_le V1.lt (Nat.le_of_eq g2.symm)) 15 rfl
  have ne53 : b1 ≠ hq_3 := own_onb od4 (Nat.lt_of_lt_of_le V1.lt (Nat.le_of_eq g2.symm)) 11 rfl
  have ne54 : b1 ≠ hn_3 := own_onb od4 (Nat.lt_of_lt_of_le V1.lt (Nat.le_of_eq g2.symm)) 10 rfl
  have ne55 : b1 ≠ hp_3 := own_onb od4 (Nat.lt_of_lt_of_le V1.lt (Nat.le_of_eq g2.symm)) 9 rfl
  have ne56 : b1 ≠ pa_3 := own_onb od4 (Nat.lt_of_lt_of_le V1.lt (Nat.le_of_eq g2.symm)) 8 rfl
  have ne57 : b1 ≠ di_3 := own_onb od4 (Nat.lt_of_lt_of_le V1.lt (Nat.le_of_eq g2.symm)) 7 rfl
  have ne58 : b1 ≠ qd_3 := own_onb od4 (Nat.lt_of_lt_of_le V1.lt (Nat.le_of_eq g2.symm)) 13 rfl
  have ne59 : b1 ≠ qu_3 := own_onb od4 (Nat.lt_of_lt_of_le V1.lt (Nat.le_of_eq g2.symm)) 12 rfl
  have ne60 : b1 ≠ lw_3 := own_onb od4 (Nat.lt_of_lt_of_le V1.lt (Nat.le_of_eq g2.symm)) 14 rfl
  have ne61 : b1 ≠ po_3 := own_onb od4 (Nat.lt_of_lt_of_le V1.lt (Nat.le_of_eq g2.symm)) 6 rfl
  have ni62 := (ninS ne42 (ninS ne45 (ninS ne61 (ninS ne60 (ninS ne59 (ninS ne58 (ninS ne57 (ninS ne56 (ninS ne55 (ninS ne54 (ninS ne53 (ninS ne52 (ninS ne51 (ninS ne50 nin0))))))))))))))
  have ni63 := (ninS ne42 (ninS ne45 nin0))
  have q64 := (((((((V1.ext E2).keep K3 ni43).keep K5 ni49).keep K6 ni49).keep K35 ni62).keep K38 ni63).keep K39 ni63)
  refine g_callV X39 K rfl 136 138 4 140 137 139 rfl rfl rfl rfl rfl rfl (by decide) (rm20 l Z a0 hw b2 hn_3 hq_3 T39.heap n0 Z39_ rb39 r39_1 q41 q64 ge_b1 (Ne.symm ne42) (Ne.symm ne45) (Ne.symm ne61)) rb39.1 at_113 hml.symm (argsL := [(.ref b1)]) (lenOf pd_1 rfl) rfl 0 (Nat.le_of_ble_eq_true rfl) (by decide) fun v65 T65 Lc65 hQ65 X65 => ?_
  obtain ⟨rfl, N65q, K65, r65_0⟩ := hQ65
  have N65 := Fr.app N39 N65q
  have Z65_ : n0 ≤ T65.heap.size := Nat.le_trans Z39_ K65.1
  have O65_ := O39_.keep K65 (allS ge_b1 all0)
  dsimp only [Option.toList, List.cons_append, List.nil_append]
  refine g_aload X65 K at_116 rfl rfl ?_
  have ni67 := (ninS (Ne.symm ne42) nin0)
  have xb66 := own_XF_keep rb39 K65 ni67
  refine g_callV X65 K rfl 154 156 4 158 155 157 rfl rfl rfl rfl rfl rfl (by decide) (rm23 l Z a0 hw b2 T65.heap n0 Z65_ xb66.2.2.2.2.2.2.2.2.2.2.2.2.2.2.2.2.2.2.1) xb66.1 at_118 hml.symm (argsL := []) (lenOf pd_19 rfl) rfl 0 (Nat.le_of_ble_eq_true rfl) (by decide) fun v68 T68 Lc68 hQ68 X68 => ?_
  obtain ⟨rfl, N68q, e68⟩ := hQ68
  have N68 := Fr.app N65 N68q
  dsimp only [Option.toList, List.cons_append, List.nil_append]
  refine g_lconst X68 K at_121 (z := 0) rfl (g_lcmp X68 K at_122 (z := (0 : Int32)) rfl (g_ifN X68 K at_123 ((if0 _ _).trans (teq (by decide)).2) (g_aload X68 K at_126 rfl rfl (g_iconst X68 K at_128 (z := 0) rfl (g_laload X68 K e68 r65_0 at_129 (by decide) (v := (.long 0)) rfl (g_lconst X68 K at_130 (z := 0) rfl (g_lcmp X68 K at_131 (z := (0 : Int32)) rfl (g_ifN X68 K at_132 ((if0 _ _).trans (teq (by decide)).2) (g_aload X68 K at_135 rfl rfl (g_iconst X68 K at_137 (z := 1) rfl (g_laload X68 K e68 r65_0 at_138 (by decide) (v := (.long 0)) rfl (g_lconst X68 K at_139 (z := 0) rfl ?_))))))))))))
  refine g_lcmp X68 K at_140 (z := (0 : Int32)) rfl (g_ifN X68 K at_141 ((if0 _ _).trans (teq (by decide)).2) (g_aload X68 K at_144 rfl rfl (g_iconst X68 K at_146 (z := 2) rfl (g_laload X68 K e68 r65_0 at_147 (by decide) (v := (.long 0)) rfl (g_lconst X68 K at_148 (z := 0) rfl (g_lcmp X68 K at_149 (z := (0 : Int32)) rfl (g_ifN X68 K at_150 ((if0 _ _).trans (teq (by decide)).2) (g_aload X68 K at_153 rfl rfl (g_iconst X68 K at_155 (z := 3) rfl (g_laload X68 K e68 r65_0 at_156 (by decide) (v := (.long 1)) rfl (g_lconst X68 K at_157 (z := 1) rfl (g_lcmp X68 K at_158 (z := (0 : Int32)) rfl ?_))))))))))))
  refine g_ifN X68 K at_159 ((if0 _ _).trans (teq (by decide)).2) (g_aload X68 K at_162 rfl rfl (g_iconst X68 K at_164 (z := 4) rfl (g_laload X68 K e68 r65_0 at_165 (by decide) (v := (.long (r0_35 + r1_35))) rfl (g_lload X68 K at_166 rfl (g_lcmp X68 K at_168 rfl ?_)))))
  have hc169_74 : (r0_35 + r1_35) = ((x0.toInt64) &&& (2147483647 : Int64)) := r35_3
  refine g_ifN X68 K at_169 ((if0 _ _).trans (teq ((lw_eq (r0_35 + r1_35) ((x0.toInt64) &&& (2147483647 : Int64))).mpr hc169_74)).2) (g_aload X68 K at_172 rfl rfl (g_iconst X68 K at_174 (z := 5) rfl (g_laload X68 K e68 r65_0 at_175 (by decide) (v := (.long 0)) rfl (g_lconst X68 K at_176 (z := 0) rfl (g_lcmp X68 K at_177 (z := (0 : Int32)) rfl (g_ifN X68 K at_178 ((if0 _ _).trans (teq (by decide)).2) (g_aload X68 K at_181 rfl rfl (g_bipush X68 K at_183 (z := 6) rfl (g_laload X68 K e68 r65_0 at_185 (by decide) (v := (.long (((if r3_35 < (x5 &&& (9223372036854775807 : Int64)) then (x5 &&& (9223372036854775807 : Int64)) else r3_35) - r3_35) + r3_35))) rfl (g_lload X68 K at_186 rfl (g_lcmp X68 K at_188 rfl ?_)))))))))))
  have hc189_76 : (((if r3_35 < (x5 &&& (9223372036854775807 : Int64)) then (x5 &&& (9223372036854775807 : Int64)) else r3_35) - r3_35) + r3_35) = (if r3_35 < (x5 &&& (9223372036854775807 : Int64)) then (x5 &&& (9223372036854775807 : Int64)) else r3_35) := own_mx3 _ _
  refine g_ifN X68 K at_189 ((if0 _ _).trans (teq ((lw_eq (((if r3_35 < (x5 &&& (9223372036854775807 : Int64)) then (x5 &&& (9223372036854775807 : Int64)) else r3_35) - r3_35) + r3_35) (if r3_35 < (x5 &&& (9223372036854775807 : Int64)) then (x5 &&& (9223372036854775807 : Int64)) else r3_35)).mpr hc189_76)).2) (g_aload X68 K at_192 rfl rfl (g_bipush X68 K at_194 (z := 7) rfl (g_laload X68 K e68 r65_0 at_196 (by decide) (v := (.long 0)) rfl (g_lconst X68 K at_197 (z := 0) rfl (g_lcmp X68 K at_198 (z := (0 : Int32)) rfl (g_ifN X68 K at_199 ((if0 _ _).trans (teq (by decide)).2) (g_iconst X68 K at_202 (z := 1) rfl (g_goto X68 K 207 at_203 (by decide) ?_))))))))
  obtain ⟨fs, hr, hrun, hended, hW, hsame⟩ := X68.leave (v := some (.int 1)) (fun h => by rw [Bd.returns] at h; cases h)
  refine gEnd hR ⟨_, _, ?_, hrun, hended, _, _, rfl, ?_, ⟨_, rfl⟩, hW, hsame.mono (by decide) (by decide)⟩
  · exact retN X68 hx (t := .boolean) Bd.returns (by simp) (hb hby at_207) hr
  · show Q0 Z x0 x1 x2 x3 x4 x5 h0 n0 _ T68.heap _
    rw [e68]
    exact ⟨rfl, N68⟩

set_option maxRecDepth 65536 in
set_option maxHeartbeats 40000000 in
theorem comes_1 {Post : Tables → Env → Array Value → State → Outcome → State → Prop} (hpost : ∀ tb e args s v u, (limb_1_1.after args s (.returned v) u = true ∧ limb_1_2.after args s (.returned v) u = true ∧ True) → FrameEnd s (.returned v) u (Jvm.fieldLocs frame_1_writes args s ++ Jvm.arrayLocs frame_1_arrays args s ++ Jvm.staticLocs frame_1_statics s) 48 320 → Post tb e args s (.returned v) u) :
    ArmFor flags0 classFile x code maxLocals ret World_1 tables_1 room_1 Calls_1 rest_1 Pre_1 Post := by
  intro l hfl _ _ p e ha hc hk s m args below hf hA hF happ hP
  obtain ⟨hcalls, hrest, hpre⟩ := hP
  obtain ⟨-, -, -, hnamed, -, -, -, hat⟩ := (Spec.applies_iff hf).mp happ
  obtain ⟨hg, hn⟩ := and_e (Cond.before_iff.mp (show (Jvm.Cond.and given_1 narrow_1).before args s = true from hpre))
  obtain ⟨hcnt, hgs0⟩ := and_e hg
  obtain ⟨hk0, hgs1⟩ := and_e hgs0
  obtain ⟨hk1, hgs2⟩ := and_e hgs1
  obtain ⟨hk2, hgs3⟩ := and_e hgs2
  obtain ⟨hk3, hgs4⟩ := and_e hgs3
  obtain ⟨hk4, hgs5⟩ := and_e hgs4
  obtain ⟨w0, w1, w2, w3, w4, w5, rfl⟩ : ∃ w0 w1 w2 w3 w4 w5 : Value, args = #[w0, w1, w2, w3, w4, w5] := by
    have hs : args.size = 6 := by simpa [Cond.value, given_1] using hcnt
    obtain ⟨L⟩ := args
    match L, hs with
    | [w0, w1, w2, w3, w4, w5], _ => exact ⟨w0, w1, w2, w3, w4, w5, rfl⟩
  have hw := fun d (hd : d ∈ tables_1) => atoms_spec (ws := Jvm.Cond.code x code maxLocals ret :: tables_1) hat d (List.mem_cons_of_mem _ hd)
  have hfit : Fit s := fun {y c} hc i hi => by
    obtain ⟨ha, rfl⟩ := Array.getElem?_eq_some_iff.mp hc
    have q := List.all_eq_true.mp ((Array.all_eq_true_iff_forall_mem.mp hF) _ (Array.getElem_mem ha)) i (List.mem_range.mpr hi)
    simpa [Array.getElem?_eq_getElem hi] using q
  obtain ⟨i0, ei0⟩ := is_v hk0
  obtain rfl : w0 = (.int i0) := Option.some.inj ei0
  obtain ⟨i1, ei1⟩ := is_v hk1
  obtain rfl : w1 = (.int i1) := Option.some.inj ei1
  obtain ⟨i2, ei2⟩ := is_v hk2
  obtain rfl : w2 = (.int i2) := Option.some.inj ei2
  obtain ⟨i3, ei3⟩ := is_v hk3
  obtain rfl : w3 = (.int i3) := Option.some.inj ei3
  obtain ⟨i4, ei4⟩ := is_v hk4
  obtain rfl : w4 = (.int i4) := Option.some.inj ei4
  obtain ⟨i5, ei5⟩ := isL_v hgs5
  obtain rfl : w5 = (.long i5) := Option.some.inj ei5
  obtain ⟨n, o, h1, h2, h3, _, L, rfl, ⟨rfl, N⟩, hq⟩ := rm0 l s _ hw tables_1 i0 i1 i2 i3 i4 i5 s.heap s.heap.size (Nat.le_refl _) (Old.start s) p e ha hc hk s m _ below hf ((Spec.applies_iff_loose hf).mp happ).1 ⟨rfl, State.Warmed39.refl s, rfl⟩ trivial
  refine ⟨n, _, h1, h2, h3, hpost _ _ _ _ _ _ ⟨Cond.after_iff.mpr rfl, Cond.after_iff.mpr (eq_i res_at (Term.int_eval (1)) rfl), trivial⟩ ⟨hq.1, hq.2.1, (hq.2.2.sift fun y hy => Or.inr (N y hy)).mono (by decide) (by decide)⟩⟩
theorem main_1_1 : Claimed_1_1 := comes_1 fun _ _ _ _ _ _ h hF => ⟨h.1, hF⟩
theorem main_1_2 : Claimed_1_2 := comes_1 fun _ _ _ _ _ _ h hF => ⟨h.2.1, hF⟩
end Jvm.Pilot.@@N@@
namespace Jvm.Pilot.@@N@@
open Jvm Jvm.ClassFile Sem Op Lib Jvm.Free Jvm.Stand Jvm.Pilot.@@N@@.Jvm.D
/-! MADE BY PROGRAM (witnessworld.py) out of the Statement's table words and the real class files: 17 classes; the members and pool entries that the words name. The judged class is class 1, her method 1. -/
namespace start1
open Jvm.ClassFile
def u (s : String) : CpInfo := .utf8 (stringToUtf16 s)
/-- a pool by its gaps: so many unusable entries, then the entry; so many at the end -/
def gap : Nat → List CpInfo → List CpInfo
  | 0, r => r
  | n + 1, r => .unusable :: gap n r
def poolList (es : List (Nat × CpInfo)) (last : Nat) : List CpInfo := es.foldr (fun e r => gap e.1 (e.2 :: r)) (gap last [])
def pool (es : List (Nat × CpInfo)) (last : Nat) : Array CpInfo := ⟨poolList es last⟩
def fileOf (pool : Array CpInfo) (this : Nat) (attrs : Array Attribute := #[]) (ms : Array MethodInfo := #[]) (fl : Nat := 33) (sup : Nat := 0) (ifs : Array Nat := #[]) (fds : Array FieldInfo := #[]) : ClassFile where
  minorVersion := 0
  majorVersion := 65
  constantPool := pool
  accessFlags := fl
  thisClass := this
  superClass := sup
  interfaces := ifs
  fields := fds
  methods := ms
  attributes := attrs
def plain (name : String) (sup : Option ClassId) : Class where
  name := name
  kind := .ordinary
  loader := none
  accessFlags := 33
  super := sup
  interfaces := #[]
  cf := none
  fields := #[]
  methods := #[]
  instanceTypes := #[]
  staticTypes := #[]
  resolved := #[]
  callSites := []
  init := .initialized
  statics := none
  mirror := none

def pool0 : Array CpInfo := pool [(5, u "<init>"), (0, u "()V"), (1, .class_ 10), (1, u "java/lang/Object")] 113

def k0c0 : Code := { maxStack := 0, maxLocals := 1, code := object_method_1_code, exceptionTable := #[], attributes := #[] }
def k0m0 : Method := { name := "<init>", desc := "()V", sig := { parameters := [], returnType := none }, accessFlags := 1, code := some k0c0 }
/-- java/lang/Object -/
def k0 : Class := { plain "java/lang/Object" none with
  accessFlags := 33
  interfaces := #[]
  cf := some (fileOf pool0 8 #[] #[{ accessFlags := 1, nameIndex := 5, descriptorIndex := 6, attributes := #[] }] 33 0 #[] #[])
  fields := #[]
  methods := #[k0m0]
  instanceTypes := #[]
  staticTypes := #[]
  resolved := Array.replicate 124 none
  statics := none }

def pool1 : Array CpInfo := pool [(2, .class_ 4), (1, u "java/lang/Object"), (0, u "<init>"), (0, u "()V"), (0, .long 2147483647), (1, .class_ 10), (0, u "com/example/violarc/violarc/graph/FlowNetwork"), (0, .methodref 9 12), (0, .nameAndType 5 13), (0, u "(I)V"), (0, .methodref 9 15), (0, .nameAndType 16 17), (0, u "addArc"), (0, u "(IIJJ)I"), (0, .methodref 9 19), (0, .nameAndType 20 21), (0, u "send"), (0, u "(IIJ)J"), (0, .methodref 9 23), (0, .nameAndType 24 25), (0, u "flow"), (0, u "(I)J"), (2, .long 9223372036854775807), (1, .methodref 31 32), (0, .class_ 33), (0, .nameAndType 34 35), (0, u "java/lang/Math"), (0, u "max"), (0, u "(JJ)J"), (0, .methodref 9 37), (0, .nameAndType 38 39), (0, u "setCapacity"), (0, u "(IJ)V"), (0, .methodref 9 41), (0, .nameAndType 42 6), (0, u "clearFlow"), (0, .methodref 9 44), (0, .nameAndType 45 46), (0, u "saveState"), (0, u "([J)V"), (0, .methodref 9 48), (0, .nameAndType 49 50), (0, u "cost"), (0, u "()J"), (0, .class_ 52), (0, u "com/example/violarc/violarc/graph/FlowNetworkClearFlowPinLaw"), (2, u "law"), (0, u "(IIIIIJ)Z")] 5

def k1m0 : Method := { name := "<init>", desc := "()V", sig := { parameters := [], returnType := none }, accessFlags := 1, code := none }
def k1c1 : Code := { maxStack := 7, maxLocals := 19, code := code, exceptionTable := #[], attributes := #[] }
def k1m1 : Method := { name := "law", desc := "(IIIIIJ)Z", sig := { parameters := [.int, .int, .int, .int, .int, .long], returnType := some .boolean }, accessFlags := 9, code := some k1c1 }
/-- com/example/violarc/violarc/graph/FlowNetworkClearFlowPinLaw -/
def k1 : Class := { plain "com/example/violarc/violarc/graph/FlowNetworkClearFlowPinLaw" (some 0) with
  accessFlags := 49
  interfaces := #[]
  cf := some (fileOf pool1 51 #[] #[{ accessFlags := 1, nameIndex := 5, descriptorIndex := 6, attributes := #[] }, { accessFlags := 9, nameIndex := 55, descriptorIndex := 56, attributes := #[] }] 49 2 #[] #[])
  fields := #[]
  methods := #[k1m0, k1m1]
  instanceTypes := #[]
  staticTypes := #[]
  resolved := Array.replicate 62 none
  statics := none }

def pool2 : Array CpInfo := pool [(3, .methodref 4 5), (0, .class_ 6), (0, .nameAndType 7 8), (0, u "java/lang/Object"), (0, u "<init>"), (0, u "()V"), (0, .fieldref 10 11), (0, .class_ 12), (0, .nameAndType 13 14), (0, u "com/example/violarc/violarc/graph/FlowNetwork"), (0, u "next"), (0, u "[I"), (0, .fieldref 10 16), (0, .nameAndType 17 14), (0, u "target"), (0, .fieldref 10 19), (0, .nameAndType 20 21), (0, u "residual"), (0, u "[J"), (0, .fieldref 10 23), (0, .nameAndType 24 21), (0, u "cost"), (0, .fieldref 10 26), (0, .nameAndType 27 28), (0, u "source"), (0, u "I"), (0, .fieldref 10 30), (0, .nameAndType 31 28), (0, u "sink"), (9, .fieldref 10 42), (0, .nameAndType 43 14), (0, u "first"), (0, .fieldref 10 45), (0, .nameAndType 46 21), (0, u "potentials"), (0, .fieldref 10 48), (0, .nameAndType 49 21), (0, u "distances"), (0, .fieldref 10 51), (0, .nameAndType 52 14), (0, u "parents"), (0, .class_ 54), (0, u "com/example/violarc/violarc/graph/NodeHeap"), (0, .methodref 53 56), (0, .nameAndType 7 57), (0, u "([J)V"), (0, .fieldref 10 59), (0, .nameAndType 60 61), (0, u "heap"), (0, u "Lcom/example/violarc/violarc/graph/NodeHeap;"), (0, .fieldref 10 63), (0, .nameAndType 64 14), (0, u "queue"), (0, .fieldref 10 66), (0, .nameAndType 67 68), (0, u "queued"), (0, u "[Z"), (0, .fieldref 10 70), (0, .nameAndType 71 14), (0, u "lowered"), (0, .fieldref 10 73), (0, .nameAndType 74 14), (0, u "stack"), (0, .fieldref 10 76), (0, .nameAndType 77 14), (0, u "cursors"), (0, .fieldref 10 79), (0, .nameAndType 80 21), (0, u "visits"), (0, .methodref 82 83), (0, .class_ 84), (0, .nameAndType 85 86), (0, u "java/util/Arrays"), (0, u "fill"), (0, u "([II)V"), (0, .methodref 10 88), (0, .nameAndType 89 90), (0, u "checkNode"), (0, u "(I)V"), (0, .methodref 10 92), (0, .nameAndType 93 94), (0, u "checkCapacity"), (0, u "(J)V"), (0, .fieldref 10 96), (0, .nameAndType 97 98), (0, u "absoluteCosts"), (0, u "J"), (0, .methodref 100 101), (0, .class_ 102), (0, .nameAndType 103 104), (0, u "java/lang/Math"), (0, u "absExact"), (0, u "(J)J"), (0, .methodref 100 106), (0, .nameAndType 107 108), (0, u "addExact"), (0, u "(JJ)J"), (0, .long 1152921504606846975), (6, .fieldref 10 117), (0, .nameAndType 118 28), (0, u "arcs"), (7, .methodref 10 127), (0, .nameAndType 128 129), (0, u "link"), (0, u "(IIIJJ)V"), (0, .fieldref 10 131), (0, .nameAndType 132 133), (0, u "valid"), (0, u "Z"), (0, .methodref 10 135), (0, .nameAndType 136 90), (0, u "checkArc"), (6, .fieldref 10 144), (0, .nameAndType 145 98), (0, u "flowCost"), (0, .methodref 10 147), (0, .nameAndType 148 57), (0, u "checkState"), (0, .methodref 150 151), (0, .class_ 152), (0, .nameAndType 153 154), (0, u "java/lang/System"), (0, u "arraycopy"), (0, u "(Ljava/lang/Object;ILjava/lang/Object;II)V"), (1, .methodref 10 157), (0, .nameAndType 158 8), (0, u "settle"), (0, .methodref 10 160), (0, .nameAndType 161 162), (0, u "search"), (0, u "(IZ)V"), (0, .long 9223372036854775807), (1, .methodref 10 166), (0, .nameAndType 167 94), (0, u "advance"), (0, .methodref 10 169), (0, .nameAndType 170 171), (0, u "walk"), (0, u "(II)Z"), (0, .methodref 100 173), (0, .nameAndType 174 108), (0, u "min"), (0, .methodref 10 176), (0, .nameAndType 177 178), (0, u "tail"), (0, u "(I)I"), (0, .methodref 10 180), (0, .nameAndType 181 182), (0, u "push"), (0, u "(IJ)V"), (3, .methodref 82 187), (0, .nameAndType 85 188), (0, u "([JJ)V"), (2, .methodref 53 192), (0, .nameAndType 193 8), (0, u "clear"), (0, .methodref 53 195), (0, .nameAndType 181 90), (0, .methodref 53 197), (0, .nameAndType 198 199), (0, u "isEmpty"), (0, u "()Z"), (0, .methodref 53 201), (0, .nameAndType 202 203), (0, u "poll"), (0, u "()I"), (0, .fieldref 10 205), (0, .nameAndType 206 98), (0, u "visit"), (0, .methodref 100 208), (0, .nameAndType 209 108), (0, u "multiplyExact"), (4, .methodref 10 215), (0, .nameAndType 216 203), (0, u "stateSize"), (4, u "MAX_TOTAL_COST"), (1, u "UNREACHABLE"), (0, u "STATE_HEADER"), (5, u "addArc"), (0, u "(IIJJ)I"), (0, u "setCapacity"), (1, u "(I)J"), (0, u "clearFlow"), (0, u "flow"), (0, u "saveState"), (2, u "()J"), (0, u "send"), (0, u "(IIJ)J")] 31

def k2c0 : Code := { maxStack := 4, maxLocals := 2, code := prog_45_method_1_code, exceptionTable := #[], attributes := #[] }
def k2m0 : Method := { name := "<init>", desc := "(I)V", sig := { parameters := [.int], returnType := none }, accessFlags := 1, code := some k2c0 }
def k2c1 : Code := { maxStack := 8, maxLocals := 10, code := prog_45_method_3_code, exceptionTable := #[], attributes := #[] }
def k2m1 : Method := { name := "addArc", desc := "(IIJJ)I", sig := { parameters := [.int, .int, .long, .long], returnType := some .int }, accessFlags := 1, code := some k2c1 }
def k2c2 : Code := { maxStack := 6, maxLocals := 6, code := prog_45_method_4_code, exceptionTable := #[], attributes := #[] }
def k2m2 : Method := { name := "setCapacity", desc := "(IJ)V", sig := { parameters := [.int, .long], returnType := none }, accessFlags := 1, code := some k2c2 }
def k2c3 : Code := { maxStack := 7, maxLocals := 2, code := prog_45_method_6_code, exceptionTable := #[], attributes := #[] }
def k2m3 : Method := { name := "clearFlow", desc := "()V", sig := { parameters := [], returnType := none }, accessFlags := 1, code := some k2c3 }
def k2c4 : Code := { maxStack := 3, maxLocals := 2, code := prog_45_method_7_code, exceptionTable := #[], attributes := #[] }
def k2m4 : Method := { name := "flow", desc := "(I)J", sig := { parameters := [.int], returnType := some .long }, accessFlags := 1, code := some k2c4 }
def k2c5 : Code := { maxStack := 3, maxLocals := 1, code := prog_45_method_8_code, exceptionTable := #[], attributes := #[] }
def k2m5 : Method := { name := "stateSize", desc := "()I", sig := { parameters := [], returnType := some .int }, accessFlags := 1, code := some k2c5 }
def k2c6 : Code := { maxStack := 6, maxLocals := 2, code := prog_45_method_9_code, exceptionTable := #[], attributes := #[] }
def k2m6 : Method := { name := "saveState", desc := "([J)V", sig := { parameters := [(.array .long)], returnType := none }, accessFlags := 1, code := some k2c6 }
def k2c7 : Code := { maxStack := 2, maxLocals := 1, code := prog_45_method_11_code, exceptionTable := #[], attributes := #[] }
def k2m7 : Method := { name := "cost", desc := "()J", sig := { parameters := [], returnType := some .long }, accessFlags := 1, code := some k2c7 }
def k2c8 : Code := { maxStack := 5, maxLocals := 12, code := prog_45_method_12_code, exceptionTable := #[], attributes := #[] }
def k2m8 : Method := { name := "send", desc := "(IIJ)J", sig := { parameters := [.int, .int, .long], returnType := some .long }, accessFlags := 1, code := some k2c8 }
def k2c9 : Code := { maxStack := 4, maxLocals := 9, code := prog_45_method_17_code, exceptionTable := #[], attributes := #[] }
def k2m9 : Method := { name := "settle", desc := "()V", sig := { parameters := [], returnType := none }, accessFlags := 2, code := some k2c9 }
def k2c10 : Code := { maxStack := 4, maxLocals := 11, code := prog_45_method_18_code, exceptionTable := #[], attributes := #[] }
def k2m10 : Method := { name := "search", desc := "(IZ)V", sig := { parameters := [.int, .boolean], returnType := none }, accessFlags := 2, code := some k2c10 }
def k2c11 : Code := { maxStack := 8, maxLocals := 4, code := prog_45_method_19_code, exceptionTable := #[], attributes := #[] }
def k2m11 : Method := { name := "advance", desc := "(J)V", sig := { parameters := [.long], returnType := none }, accessFlags := 2, code := some k2c11 }
def k2c12 : Code := { maxStack := 5, maxLocals := 7, code := prog_45_method_20_code, exceptionTable := #[], attributes := #[] }
def k2m12 : Method := { name := "walk", desc := "(II)Z", sig := { parameters := [.int, .int], returnType := some .boolean }, accessFlags := 2, code := some k2c12 }
def k2c13 : Code := { maxStack := 7, maxLocals := 4, code := prog_45_method_21_code, exceptionTable := #[], attributes := #[] }
def k2m13 : Method := { name := "push", desc := "(IJ)V", sig := { parameters := [.int, .long], returnType := none }, accessFlags := 2, code := some k2c13 }
def k2c14 : Code := { maxStack := 3, maxLocals := 2, code := prog_45_method_22_code, exceptionTable := #[], attributes := #[] }
def k2m14 : Method := { name := "tail", desc := "(I)I", sig := { parameters := [.int], returnType := some .int }, accessFlags := 2, code := some k2c14 }
def k2c15 : Code := { maxStack := 4, maxLocals := 8, code := prog_45_method_23_code, exceptionTable := #[], attributes := #[] }
def k2m15 : Method := { name := "link", desc := "(IIIJJ)V", sig := { parameters := [.int, .int, .int, .long, .long], returnType := none }, accessFlags := 2, code := some k2c15 }
def k2c16 : Code := { maxStack := 3, maxLocals := 2, code := prog_45_method_24_code, exceptionTable := #[], attributes := #[] }
def k2m16 : Method := { name := "checkNode", desc := "(I)V", sig := { parameters := [.int], returnType := none }, accessFlags := 2, code := some k2c16 }
def k2c17 : Code := { maxStack := 4, maxLocals := 2, code := prog_45_method_25_code, exceptionTable := #[], attributes := #[] }
def k2m17 : Method := { name := "checkCapacity", desc := "(J)V", sig := { parameters := [.long], returnType := none }, accessFlags := 10, code := some k2c17 }
def k2c18 : Code := { maxStack := 4, maxLocals := 2, code := prog_45_method_26_code, exceptionTable := #[], attributes := #[] }
def k2m18 : Method := { name := "checkState", desc := "([J)V", sig := { parameters := [(.array .long)], returnType := none }, accessFlags := 2, code := some k2c18 }
def k2c19 : Code := { maxStack := 3, maxLocals := 2, code := prog_45_method_27_code, exceptionTable := #[], attributes := #[] }
def k2m19 : Method := { name := "checkArc", desc := "(I)V", sig := { parameters := [.int], returnType := none }, accessFlags := 2, code := some k2c19 }
/-- com/example/violarc/violarc/graph/FlowNetwork -/
def k2 : Class := { plain "com/example/violarc/violarc/graph/FlowNetwork" (some 0) with
  accessFlags := 49
  interfaces := #[]
  cf := some (fileOf pool2 10 #[] #[{ accessFlags := 1, nameIndex := 7, descriptorIndex := 90, attributes := #[] }, { accessFlags := 1, nameIndex := 230, descriptorIndex := 231, attributes := #[] }, { accessFlags := 1, nameIndex := 232, descriptorIndex := 182, attributes := #[] }, { accessFlags := 1, nameIndex := 235, descriptorIndex := 8, attributes := #[] }, { accessFlags := 1, nameIndex := 236, descriptorIndex := 234, attributes := #[] }, { accessFlags := 1, nameIndex := 216, descriptorIndex := 203, attributes := #[] }, { accessFlags := 1, nameIndex := 237, descriptorIndex := 57, attributes := #[] }, { accessFlags := 1, nameIndex := 24, descriptorIndex := 240, attributes := #[] }, { accessFlags := 1, nameIndex := 241, descriptorIndex := 242, attributes := #[] }, { accessFlags := 2, nameIndex := 158, descriptorIndex := 8, attributes := #[] }, { accessFlags := 2, nameIndex := 161, descriptorIndex := 162, attributes := #[] }, { accessFlags := 2, nameIndex := 167, descriptorIndex := 94, attributes := #[] }, { accessFlags := 2, nameIndex := 170, descriptorIndex := 171, attributes := #[] }, { accessFlags := 2, nameIndex := 181, descriptorIndex := 182, attributes := #[] }, { accessFlags := 2, nameIndex := 177, descriptorIndex := 178, attributes := #[] }, { accessFlags := 2, nameIndex := 128, descriptorIndex := 129, attributes := #[] }, { accessFlags := 2, nameIndex := 89, descriptorIndex := 90, attributes := #[] }, { accessFlags := 10, nameIndex := 93, descriptorIndex := 94, attributes := #[] }, { accessFlags := 2, nameIndex := 148, descriptorIndex := 57, attributes := #[] }, { accessFlags := 2, nameIndex := 136, descriptorIndex := 90, attributes := #[] }] 49 4 #[] #[{ accessFlags := 25, nameIndex := 221, descriptorIndex := 98, attributes := #[] }, { accessFlags := 25, nameIndex := 223, descriptorIndex := 98, attributes := #[] }, { accessFlags := 26, nameIndex := 224, descriptorIndex := 28, attributes := #[] }, { accessFlags := 18, nameIndex := 43, descriptorIndex := 14, attributes := #[] }, { accessFlags := 2, nameIndex := 13, descriptorIndex := 14, attributes := #[] }, { accessFlags := 2, nameIndex := 17, descriptorIndex := 14, attributes := #[] }, { accessFlags := 2, nameIndex := 20, descriptorIndex := 21, attributes := #[] }, { accessFlags := 2, nameIndex := 24, descriptorIndex := 21, attributes := #[] }, { accessFlags := 2, nameIndex := 118, descriptorIndex := 28, attributes := #[] }, { accessFlags := 2, nameIndex := 97, descriptorIndex := 98, attributes := #[] }, { accessFlags := 2, nameIndex := 145, descriptorIndex := 98, attributes := #[] }, { accessFlags := 18, nameIndex := 46, descriptorIndex := 21, attributes := #[] }, { accessFlags := 2, nameIndex := 132, descriptorIndex := 133, attributes := #[] }, { accessFlags := 2, nameIndex := 27, descriptorIndex := 28, attributes := #[] }, { accessFlags := 2, nameIndex := 31, descriptorIndex := 28, attributes := #[] }, { accessFlags := 18, nameIndex := 49, descriptorIndex := 21, attributes := #[] }, { accessFlags := 18, nameIndex := 52, descriptorIndex := 14, attributes := #[] }, { accessFlags := 18, nameIndex := 60, descriptorIndex := 61, attributes := #[] }, { accessFlags := 18, nameIndex := 64, descriptorIndex := 14, attributes := #[] }, { accessFlags := 18, nameIndex := 67, descriptorIndex := 68, attributes := #[] }, { accessFlags := 18, nameIndex := 71, descriptorIndex := 14, attributes := #[] }, { accessFlags := 18, nameIndex := 74, descriptorIndex := 14, attributes := #[] }, { accessFlags := 18, nameIndex := 77, descriptorIndex := 14, attributes := #[] }, { accessFlags := 18, nameIndex := 80, descriptorIndex := 21, attributes := #[] }, { accessFlags := 2, nameIndex := 206, descriptorIndex := 98, attributes := #[] }])
  fields := #[{ name := "MAX_TOTAL_COST", type := .long, accessFlags := 25, slot := 0, constantValue := 0 }, { name := "UNREACHABLE", type := .long, accessFlags := 25, slot := 1, constantValue := 0 }, { name := "STATE_HEADER", type := .int, accessFlags := 26, slot := 2, constantValue := 0 }, { name := "first", type := (.array .int), accessFlags := 18, slot := 0, constantValue := 0 }, { name := "next", type := (.array .int), accessFlags := 2, slot := 1, constantValue := 0 }, { name := "target", type := (.array .int), accessFlags := 2, slot := 2, constantValue := 0 }, { name := "residual", type := (.array .long), accessFlags := 2, slot := 3, constantValue := 0 }, { name := "cost", type := (.array .long), accessFlags := 2, slot := 4, constantValue := 0 }, { name := "arcs", type := .int, accessFlags := 2, slot := 5, constantValue := 0 }, { name := "absoluteCosts", type := .long, accessFlags := 2, slot := 6, constantValue := 0 }, { name := "flowCost", type := .long, accessFlags := 2, slot := 7, constantValue := 0 }, { name := "potentials", type := (.array .long), accessFlags := 18, slot := 8, constantValue := 0 }, { name := "valid", type := .boolean, accessFlags := 2, slot := 9, constantValue := 0 }, { name := "source", type := .int, accessFlags := 2, slot := 10, constantValue := 0 }, { name := "sink", type := .int, accessFlags := 2, slot := 11, constantValue := 0 }, { name := "distances", type := (.array .long), accessFlags := 18, slot := 12, constantValue := 0 }, { name := "parents", type := (.array .int), accessFlags := 18, slot := 13, constantValue := 0 }, { name := "heap", type := (.object "com/example/violarc/violarc/graph/NodeHeap"), accessFlags := 18, slot := 14, constantValue := 0 }, { name := "queue", type := (.array .int), accessFlags := 18, slot := 15, constantValue := 0 }, { name := "queued", type := (.array .boolean), accessFlags := 18, slot := 16, constantValue := 0 }, { name := "lowered", type := (.array .int), accessFlags := 18, slot := 17, constantValue := 0 }, { name := "stack", type := (.array .int), accessFlags := 18, slot := 18, constantValue := 0 }, { name := "cursors", type := (.array .int), accessFlags := 18, slot := 19, constantValue := 0 }, { name := "visits", type := (.array .long), accessFlags := 18, slot := 20, constantValue := 0 }, { name := "visit", type := .long, accessFlags := 2, slot := 21, constantValue := 0 }]
  methods := #[k2m0, k2m1, k2m2, k2m3, k2m4, k2m5, k2m6, k2m7, k2m8, k2m9, k2m10, k2m11, k2m12, k2m13, k2m14, k2m15, k2m16, k2m17, k2m18, k2m19]
  instanceTypes := #[(.array .int), (.array .int), (.array .int), (.array .long), (.array .long), .int, .long, .long, (.array .long), .boolean, .int, .int, (.array .long), (.array .int), (.object "com/example/violarc/violarc/graph/NodeHeap"), (.array .int), (.array .boolean), (.array .int), (.array .int), (.array .int), (.array .long), .long]
  staticTypes := #[.long, .long, .int]
  resolved := Array.replicate 274 none
  statics := none }

def pool3 : Array CpInfo := pool [(1, .methodref 2 3), (0, .class_ 4), (0, .nameAndType 5 6), (0, u "java/lang/Object"), (0, u "<init>"), (0, u "()V"), (0, .fieldref 8 9), (0, .class_ 10), (0, .nameAndType 11 12), (0, u "com/example/violarc/violarc/graph/NodeHeap"), (0, u "keys"), (0, u "[J"), (0, .fieldref 8 14), (0, .nameAndType 15 16), (0, u "nodes"), (0, u "[I"), (0, .fieldref 8 18), (0, .nameAndType 19 16), (0, u "positions"), (0, .methodref 21 22), (0, .class_ 23), (0, .nameAndType 24 25), (0, u "java/util/Arrays"), (0, u "fill"), (0, u "([II)V"), (0, .fieldref 8 27), (0, .nameAndType 28 29), (0, u "size"), (0, u "I"), (0, .methodref 8 31), (0, .nameAndType 32 33), (0, u "siftUp"), (0, u "(II)V"), (3, .methodref 8 38), (0, .nameAndType 39 33), (0, u "place"), (0, u "([J)V"), (2, u "isEmpty"), (0, u "()Z"), (1, u "clear"), (0, u "push"), (0, u "(I)V"), (0, u "poll"), (0, u "()I")] 2

def k3c0 : Code := { maxStack := 2, maxLocals := 2, code := prog_53_method_1_code, exceptionTable := #[], attributes := #[] }
def k3m0 : Method := { name := "<init>", desc := "([J)V", sig := { parameters := [(.array .long)], returnType := none }, accessFlags := 0, code := some k3c0 }
def k3c1 : Code := { maxStack := 1, maxLocals := 1, code := prog_53_method_2_code, exceptionTable := #[], attributes := #[] }
def k3m1 : Method := { name := "isEmpty", desc := "()Z", sig := { parameters := [], returnType := some .boolean }, accessFlags := 0, code := some k3c1 }
def k3c2 : Code := { maxStack := 3, maxLocals := 2, code := prog_53_method_3_code, exceptionTable := #[], attributes := #[] }
def k3m2 : Method := { name := "clear", desc := "()V", sig := { parameters := [], returnType := none }, accessFlags := 0, code := some k3c2 }
def k3c3 : Code := { maxStack := 4, maxLocals := 3, code := prog_53_method_4_code, exceptionTable := #[], attributes := #[] }
def k3m3 : Method := { name := "push", desc := "(I)V", sig := { parameters := [.int], returnType := none }, accessFlags := 0, code := some k3c3 }
def k3c4 : Code := { maxStack := 4, maxLocals := 3, code := prog_53_method_5_code, exceptionTable := #[], attributes := #[] }
def k3m4 : Method := { name := "poll", desc := "()I", sig := { parameters := [], returnType := some .int }, accessFlags := 0, code := some k3c4 }
def k3c5 : Code := { maxStack := 4, maxLocals := 4, code := prog_53_method_6_code, exceptionTable := #[], attributes := #[] }
def k3m5 : Method := { name := "siftUp", desc := "(II)V", sig := { parameters := [.int, .int], returnType := none }, accessFlags := 2, code := some k3c5 }
def k3c6 : Code := { maxStack := 3, maxLocals := 3, code := prog_53_method_8_code, exceptionTable := #[], attributes := #[] }
def k3m6 : Method := { name := "place", desc := "(II)V", sig := { parameters := [.int, .int], returnType := none }, accessFlags := 2, code := some k3c6 }
/-- com/example/violarc/violarc/graph/NodeHeap -/
def k3 : Class := { plain "com/example/violarc/violarc/graph/NodeHeap" (some 0) with
  accessFlags := 48
  interfaces := #[]
  cf := some (fileOf pool3 8 #[] #[{ accessFlags := 0, nameIndex := 5, descriptorIndex := 40, attributes := #[] }, { accessFlags := 0, nameIndex := 43, descriptorIndex := 44, attributes := #[] }, { accessFlags := 0, nameIndex := 46, descriptorIndex := 6, attributes := #[] }, { accessFlags := 0, nameIndex := 47, descriptorIndex := 48, attributes := #[] }, { accessFlags := 0, nameIndex := 49, descriptorIndex := 50, attributes := #[] }, { accessFlags := 2, nameIndex := 32, descriptorIndex := 33, attributes := #[] }, { accessFlags := 2, nameIndex := 39, descriptorIndex := 33, attributes := #[] }] 48 2 #[] #[{ accessFlags := 18, nameIndex := 11, descriptorIndex := 12, attributes := #[] }, { accessFlags := 18, nameIndex := 15, descriptorIndex := 16, attributes := #[] }, { accessFlags := 18, nameIndex := 19, descriptorIndex := 16, attributes := #[] }, { accessFlags := 2, nameIndex := 28, descriptorIndex := 29, attributes := #[] }])
  fields := #[{ name := "keys", type := (.array .long), accessFlags := 18, slot := 0, constantValue := 0 }, { name := "nodes", type := (.array .int), accessFlags := 18, slot := 1, constantValue := 0 }, { name := "positions", type := (.array .int), accessFlags := 18, slot := 2, constantValue := 0 }, { name := "size", type := .int, accessFlags := 2, slot := 3, constantValue := 0 }]
  methods := #[k3m0, k3m1, k3m2, k3m3, k3m4, k3m5, k3m6]
  instanceTypes := #[(.array .long), (.array .int), (.array .int), .int]
  staticTypes := #[]
  resolved := Array.replicate 53 none
  statics := none }

def pool4 : Array CpInfo := pool [(2, .class_ 4), (1, u "java/lang/Object"), (0, u "<init>"), (0, u "()V"), (7, .class_ 16), (1, u "java/util/Arrays"), (57, .class_ 76), (1, u "java/util/Arrays$NaturalOrder"), (36, .class_ 115), (1, u "java/util/Arrays$LegacyMergeSort"), (1, u "Z"), (257, .class_ 376), (0, u "java/util/Arrays$ArrayList"), (68, u "$assertionsDisabled"), (269, u "MIN_ARRAY_SORT_GRAN"), (0, u "I"), (2, u "INSERTIONSORT_THRESHOLD"), (120, u "fill"), (0, u "([JJ)V"), (3, u "([II)V"), (129, .class_ 976), (0, u "java/util/Arrays$ArrayItr")] 52

def k4m0 : Method := { name := "<init>", desc := "()V", sig := { parameters := [], returnType := none }, accessFlags := 2, code := none }
def k4c1 : Code := { maxStack := 4, maxLocals := 5, code := jdk_65_method_101_code, exceptionTable := #[], attributes := #[] }
def k4m1 : Method := { name := "fill", desc := "([JJ)V", sig := { parameters := [(.array .long), .long], returnType := none }, accessFlags := 9, code := some k4c1 }
def k4c2 : Code := { maxStack := 3, maxLocals := 4, code := jdk_65_method_103_code, exceptionTable := #[], attributes := #[] }
def k4m2 : Method := { name := "fill", desc := "([II)V", sig := { parameters := [(.array .int), .int], returnType := none }, accessFlags := 9, code := some k4c2 }
/-- java/util/Arrays -/
def k4 : Class := { plain "java/util/Arrays" (some 0) with
  accessFlags := 49
  interfaces := #[]
  cf := some (fileOf pool4 14 #[.nestMembers #[975, 375, 113, 74]] #[{ accessFlags := 2, nameIndex := 5, descriptorIndex := 6, attributes := #[] }, { accessFlags := 9, nameIndex := 840, descriptorIndex := 841, attributes := #[] }, { accessFlags := 9, nameIndex := 840, descriptorIndex := 845, attributes := #[] }] 49 2 #[] #[{ accessFlags := 26, nameIndex := 715, descriptorIndex := 716, attributes := #[] }, { accessFlags := 26, nameIndex := 719, descriptorIndex := 716, attributes := #[] }, { accessFlags := 4120, nameIndex := 445, descriptorIndex := 117, attributes := #[] }])
  fields := #[{ name := "MIN_ARRAY_SORT_GRAN", type := .int, accessFlags := 26, slot := 0, constantValue := 0 }, { name := "INSERTIONSORT_THRESHOLD", type := .int, accessFlags := 26, slot := 1, constantValue := 0 }, { name := "$assertionsDisabled", type := .boolean, accessFlags := 4120, slot := 2, constantValue := 0 }]
  methods := #[k4m0, k4m1, k4m2]
  instanceTypes := #[]
  staticTypes := #[.int, .int, .boolean]
  resolved := Array.replicate 1029 none
  statics := none }

def pool5 : Array CpInfo := pool [(1, .class_ 2), (0, u "java/lang/Math"), (1, .class_ 6), (1, u "java/lang/Object"), (0, u "<init>"), (0, u "()V"), (89, .class_ 100), (1, u "java/lang/Math$RandomNumberGeneratorHolder"), (19, u "multiplyExact"), (0, u "(JJ)J"), (0, .methodref 1 123), (0, .nameAndType 124 125), (0, u "abs"), (0, u "(J)J"), (2, .long 9223372036854775808), (43, u "negativeZeroFloatBits"), (0, u "J"), (2, u "negativeZeroDoubleBits"), (21, u "max"), (2, u "min"), (43, u "$assertionsDisabled"), (0, u "Z"), (91, u "twoToTheDoubleScaleDown"), (0, u "D"), (4, u "twoToTheDoubleScaleUp"), (9, u "E"), (3, u "PI"), (2, u "TAU"), (2, u "DEGREES_TO_RADIANS"), (0, u "RADIANS_TO_DEGREES"), (27, u "addExact"), (27, u "absExact")] 38

def k5m0 : Method := { name := "<init>", desc := "()V", sig := { parameters := [], returnType := none }, accessFlags := 2, code := none }
def k5c1 : Code := { maxStack := 6, maxLocals := 6, code := jdk_29_method_25_code, exceptionTable := #[], attributes := #[] }
def k5m1 : Method := { name := "addExact", desc := "(JJ)J", sig := { parameters := [.long, .long], returnType := some .long }, accessFlags := 9, code := some k5c1 }
def k5c2 : Code := { maxStack := 4, maxLocals := 10, code := jdk_29_method_30_code, exceptionTable := #[], attributes := #[] }
def k5m2 : Method := { name := "multiplyExact", desc := "(JJ)J", sig := { parameters := [.long, .long], returnType := some .long }, accessFlags := 9, code := some k5c2 }
def k5c3 : Code := { maxStack := 4, maxLocals := 2, code := jdk_29_method_61_code, exceptionTable := #[], attributes := #[] }
def k5m3 : Method := { name := "abs", desc := "(J)J", sig := { parameters := [.long], returnType := some .long }, accessFlags := 9, code := some k5c3 }
def k5c4 : Code := { maxStack := 4, maxLocals := 2, code := jdk_29_method_62_code, exceptionTable := #[], attributes := #[] }
def k5m4 : Method := { name := "absExact", desc := "(J)J", sig := { parameters := [.long], returnType := some .long }, accessFlags := 9, code := some k5c4 }
def k5c5 : Code := { maxStack := 4, maxLocals := 4, code := jdk_29_method_66_code, exceptionTable := #[], attributes := #[] }
def k5m5 : Method := { name := "max", desc := "(JJ)J", sig := { parameters := [.long, .long], returnType := some .long }, accessFlags := 9, code := some k5c5 }
def k5c6 : Code := { maxStack := 4, maxLocals := 4, code := jdk_29_method_70_code, exceptionTable := #[], attributes := #[] }
def k5m6 : Method := { name := "min", desc := "(JJ)J", sig := { parameters := [.long, .long], returnType := some .long }, accessFlags := 9, code := some k5c6 }
/-- java/lang/Math -/
def k5 : Class := { plain "java/lang/Math" (some 0) with
  accessFlags := 49
  interfaces := #[]
  cf := some (fileOf pool5 1 #[.nestMembers #[98]] #[{ accessFlags := 2, nameIndex := 7, descriptorIndex := 8, attributes := #[] }, { accessFlags := 9, nameIndex := 393, descriptorIndex := 121, attributes := #[] }, { accessFlags := 9, nameIndex := 120, descriptorIndex := 121, attributes := #[] }, { accessFlags := 9, nameIndex := 124, descriptorIndex := 125, attributes := #[] }, { accessFlags := 9, nameIndex := 421, descriptorIndex := 125, attributes := #[] }, { accessFlags := 9, nameIndex := 198, descriptorIndex := 121, attributes := #[] }, { accessFlags := 9, nameIndex := 201, descriptorIndex := 121, attributes := #[] }] 49 4 #[] #[{ accessFlags := 25, nameIndex := 354, descriptorIndex := 339, attributes := #[] }, { accessFlags := 25, nameIndex := 358, descriptorIndex := 339, attributes := #[] }, { accessFlags := 25, nameIndex := 361, descriptorIndex := 339, attributes := #[] }, { accessFlags := 26, nameIndex := 364, descriptorIndex := 339, attributes := #[] }, { accessFlags := 26, nameIndex := 365, descriptorIndex := 339, attributes := #[] }, { accessFlags := 26, nameIndex := 172, descriptorIndex := 173, attributes := #[] }, { accessFlags := 26, nameIndex := 176, descriptorIndex := 173, attributes := #[] }, { accessFlags := 8, nameIndex := 344, descriptorIndex := 339, attributes := #[] }, { accessFlags := 8, nameIndex := 338, descriptorIndex := 339, attributes := #[] }, { accessFlags := 4120, nameIndex := 245, descriptorIndex := 246, attributes := #[] }])
  fields := #[{ name := "E", type := .double, accessFlags := 25, slot := 0, constantValue := 0 }, { name := "PI", type := .double, accessFlags := 25, slot := 1, constantValue := 0 }, { name := "TAU", type := .double, accessFlags := 25, slot := 2, constantValue := 0 }, { name := "DEGREES_TO_RADIANS", type := .double, accessFlags := 26, slot := 3, constantValue := 0 }, { name := "RADIANS_TO_DEGREES", type := .double, accessFlags := 26, slot := 4, constantValue := 0 }, { name := "negativeZeroFloatBits", type := .long, accessFlags := 26, slot := 5, constantValue := 0 }, { name := "negativeZeroDoubleBits", type := .long, accessFlags := 26, slot := 6, constantValue := 0 }, { name := "twoToTheDoubleScaleUp", type := .double, accessFlags := 8, slot := 7, constantValue := 0 }, { name := "twoToTheDoubleScaleDown", type := .double, accessFlags := 8, slot := 8, constantValue := 0 }, { name := "$assertionsDisabled", type := .boolean, accessFlags := 4120, slot := 9, constantValue := 0 }]
  methods := #[k5m0, k5m1, k5m2, k5m3, k5m4, k5m5, k5m6]
  instanceTypes := #[]
  staticTypes := #[.double, .double, .double, .double, .double, .long, .long, .double, .double, .boolean]
  resolved := Array.replicate 460 none
  statics := none }

def pool6 : Array CpInfo := pool [(2, .class_ 4), (1, u "java/lang/Object"), (0, u "<init>"), (0, u "()V"), (1, .class_ 10), (1, u "java/lang/System"), (0, u "allowSecurityManager"), (0, u "I"), (16, u "cons"), (0, u "Ljava/io/Console;"), (77, .class_ 110), (1, u "java/lang/System$CallersHolder"), (43, u "initialErrStream"), (0, u "Ljava/io/PrintStream;"), (19, u "security"), (0, u "Ljava/lang/SecurityManager;"), (31, .class_ 209), (0, u "java/lang/System$1"), (7, u "props"), (0, u "Ljava/util/Properties;"), (2, u "lineSeparator"), (0, u "Ljava/lang/String;"), (96, .class_ 321), (1, u "java/lang/System$LoggerFinder"), (5, .class_ 328), (0, u "java/lang/System$Logger"), (67, u "err"), (2, u "out"), (91, u "notSupportedJnuEncoding"), (15, u "in"), (17, u "initialIn"), (0, u "Ljava/io/InputStream;"), (35, u "bootLayer"), (0, u "Ljava/lang/ModuleLayer;"), (99, .class_ 664), (0, u "java/lang/System$2"), (9, u "NEVER"), (2, u "MAYBE"), (49, u "arraycopy"), (0, u "(Ljava/lang/Object;ILjava/lang/Object;II)V"), (72, .class_ 802), (0, u "java/lang/System$Logger$Level")] 31

def k6m0 : Method := { name := "<init>", desc := "()V", sig := { parameters := [], returnType := none }, accessFlags := 2, code := none }
def k6m1 : Method := { name := "arraycopy", desc := "(Ljava/lang/Object;ILjava/lang/Object;II)V", sig := { parameters := [(.object "java/lang/Object"), .int, (.object "java/lang/Object"), .int, .int], returnType := none }, accessFlags := 265, code := none }
/-- java/lang/System -/
def k6 : Class := { plain "java/lang/System" (some 0) with
  accessFlags := 49
  interfaces := #[]
  cf := some (fileOf pool6 8 #[.nestMembers #[319, 327, 801, 108, 663, 208]] #[{ accessFlags := 2, nameIndex := 5, descriptorIndex := 6, attributes := #[] }, { accessFlags := 265, nameIndex := 727, descriptorIndex := 728, attributes := #[] }] 49 2 #[] #[{ accessFlags := 25, nameIndex := 507, descriptorIndex := 526, attributes := #[] }, { accessFlags := 25, nameIndex := 399, descriptorIndex := 155, attributes := #[] }, { accessFlags := 25, nameIndex := 396, descriptorIndex := 155, attributes := #[] }, { accessFlags := 10, nameIndex := 525, descriptorIndex := 526, attributes := #[] }, { accessFlags := 26, nameIndex := 674, descriptorIndex := 12, attributes := #[] }, { accessFlags := 26, nameIndex := 677, descriptorIndex := 12, attributes := #[] }, { accessFlags := 10, nameIndex := 11, descriptorIndex := 12, attributes := #[] }, { accessFlags := 74, nameIndex := 175, descriptorIndex := 176, attributes := #[] }, { accessFlags := 10, nameIndex := 491, descriptorIndex := 222, attributes := #[] }, { accessFlags := 74, nameIndex := 29, descriptorIndex := 30, attributes := #[] }, { accessFlags := 74, nameIndex := 154, descriptorIndex := 155, attributes := #[] }, { accessFlags := 10, nameIndex := 217, descriptorIndex := 218, attributes := #[] }, { accessFlags := 10, nameIndex := 221, descriptorIndex := 222, attributes := #[] }, { accessFlags := 8, nameIndex := 562, descriptorIndex := 563, attributes := #[] }])
  fields := #[{ name := "in", type := (.object "java/io/InputStream"), accessFlags := 25, slot := 0, constantValue := 0 }, { name := "out", type := (.object "java/io/PrintStream"), accessFlags := 25, slot := 1, constantValue := 0 }, { name := "err", type := (.object "java/io/PrintStream"), accessFlags := 25, slot := 2, constantValue := 0 }, { name := "initialIn", type := (.object "java/io/InputStream"), accessFlags := 10, slot := 3, constantValue := 0 }, { name := "NEVER", type := .int, accessFlags := 26, slot := 4, constantValue := 0 }, { name := "MAYBE", type := .int, accessFlags := 26, slot := 5, constantValue := 0 }, { name := "allowSecurityManager", type := .int, accessFlags := 10, slot := 6, constantValue := 0 }, { name := "security", type := (.object "java/lang/SecurityManager"), accessFlags := 74, slot := 7, constantValue := 0 }, { name := "notSupportedJnuEncoding", type := (.object "java/lang/String"), accessFlags := 10, slot := 8, constantValue := 0 }, { name := "cons", type := (.object "java/io/Console"), accessFlags := 74, slot := 9, constantValue := 0 }, { name := "initialErrStream", type := (.object "java/io/PrintStream"), accessFlags := 74, slot := 10, constantValue := 0 }, { name := "props", type := (.object "java/util/Properties"), accessFlags := 10, slot := 11, constantValue := 0 }, { name := "lineSeparator", type := (.object "java/lang/String"), accessFlags := 10, slot := 12, constantValue := 0 }, { name := "bootLayer", type := (.object "java/lang/ModuleLayer"), accessFlags := 8, slot := 13, constantValue := 0 }]
  methods := #[k6m0, k6m1]
  instanceTypes := #[]
  staticTypes := #[(.object "java/io/InputStream"), (.object "java/io/PrintStream"), (.object "java/io/PrintStream"), (.object "java/io/InputStream"), .int, .int, .int, (.object "java/lang/SecurityManager"), (.object "java/lang/String"), (.object "java/io/Console"), (.object "java/io/PrintStream"), (.object "java/util/Properties"), (.object "java/lang/String"), (.object "java/lang/ModuleLayer")]
  resolved := Array.replicate 834 none
  statics := none }

def pool7 : Array CpInfo := pool [(1, u "java/lang/Cloneable"), (0, .class_ 1), (0, u "java/lang/Object"), (0, .class_ 3)] 3

/-- java/lang/Cloneable -/
def k7 : Class := { plain "java/lang/Cloneable" (some 0) with
  accessFlags := 1537
  interfaces := #[]
  cf := some (fileOf pool7 2 #[] #[] 1537 4 #[] #[])
  fields := #[]
  methods := #[]
  instanceTypes := #[]
  staticTypes := #[]
  resolved := Array.replicate 8 none
  statics := none }

def pool8 : Array CpInfo := pool [(1, u "java/io/Serializable"), (0, .class_ 1), (0, u "java/lang/Object"), (0, .class_ 3)] 3

/-- java/io/Serializable -/
def k8 : Class := { plain "java/io/Serializable" (some 0) with
  accessFlags := 1537
  interfaces := #[]
  cf := some (fileOf pool8 2 #[] #[] 1537 4 #[] #[])
  fields := #[]
  methods := #[]
  instanceTypes := #[]
  staticTypes := #[]
  resolved := Array.replicate 8 none
  statics := none }

/-- the primitive boolean -/
def k9 : Class := { plain "boolean" none with kind := .primitive 'Z', accessFlags := 0x411 }
/-- [Z -/
def k10 : Class := { plain "[Z" (some 0) with kind := .array 9 .boolean, interfaces := #[7, 8], accessFlags := 1041 }

/-- the primitive byte -/
def k11 : Class := { plain "byte" none with kind := .primitive 'B', accessFlags := 0x411 }
/-- [B -/
def k12 : Class := { plain "[B" (some 0) with kind := .array 11 .byte, interfaces := #[7, 8], accessFlags := 1041 }

/-- the primitive int -/
def k13 : Class := { plain "int" none with kind := .primitive 'I', accessFlags := 0x411 }
/-- [I -/
def k14 : Class := { plain "[I" (some 0) with kind := .array 13 .int, interfaces := #[7, 8], accessFlags := 1041 }

/-- the primitive long -/
def k15 : Class := { plain "long" none with kind := .primitive 'J', accessFlags := 0x411 }
/-- [J -/
def k16 : Class := { plain "[J" (some 0) with kind := .array 15 .long, interfaces := #[7, 8], accessFlags := 1041 }

def heap : Heap := #[]
def classes : Array Class := #[k0, k1, k2, k3, k4, k5, k6, k7, k8, k9, k10, k11, k12, k13, k14, k15, k16]
def interned : List (Array UInt16 × Addr) := []
def slotsUsed : Nat := 0
def theMethod : MethodId := ⟨1, 1⟩
def args0 : Array Value := #[.int 5, .int 6, .int 7, .int 8, .int 9, .long 10]
def aboutOver (below : List Frame) : State where
  vm := { classes := classes, interned := interned.toArray }
  heap := heap
  slotsUsed := slotsUsed
  threads := #[{ frames := .invoking theMethod args0 :: below }]
def below0 : List Frame := [.native { method := ⟨0, 0⟩, args := #[] }]
def about1 : State := aboutOver below0
def p0 : Program := .bare "" "" ""
def e0 : Env := launch0.env 0 0 0
theorem w_frames : about1.frames = Frame.invoking theMethod args0 :: below0 := rfl
set_option maxRecDepth 65536 in
theorem w_args : argsFit about1.vm theMethod args0 = true := by decide +kernel
set_option maxRecDepth 65536 in
theorem w_heap : heapFits about1 = true := by decide +kernel
set_option maxRecDepth 65536 in
theorem w_runnable : about1.curStatus? = some .runnable := by decide +kernel
set_option maxRecDepth 65536 in
theorem w_alone : about1.alone = true := by decide +kernel
set_option maxRecDepth 65536 in
theorem w_named : about1.methodNamed? x = some theMethod := by decide +kernel
set_option maxRecDepth 65536 in
theorem w_hears : about1.hears theMethod below0 = true := by decide +kernel
set_option maxRecDepth 65536 in
theorem w_ripe : about1.ripe theMethod args0 below0 = true := by decide +kernel
theorem w_running : about1.status = .running := rfl
set_option maxRecDepth 65536 in
theorem w_room : about1.hasRoom e0.platform room_1 = true :=
  launch0.hasRoom_least _ room_1 (by decide +kernel) (by decide +kernel) (by decide +kernel) (by decide +kernel) (by decide +kernel) (by decide +kernel)
theorem allAtoms_all (ts : List Jvm.Cond) (a : Array Jvm.Value) (st : Jvm.State) : (allAtoms ts).before a st = ts.all (fun c => c.before a st) := by
  induction ts with
  | nil => rfl
  | cons c t ih =>
    show (Jvm.Cond.and c (allAtoms t)).before a st = _
    rw [Jvm.Cond.before_and, ih, List.all_cons]
def words1 : List Jvm.Cond := Jvm.Cond.code x code maxLocals ret :: tables_1
/-- a 'code' word, met by the world's own term for the bytes: nothing is compared byte by byte -/
theorem code_word {y : MethodName} {bytes : ByteArray} {mx : Nat} {rt : Option FieldType} {a : Array Value} {s : State} {m : MethodId} {meth : Method} {c : Code} (h1 : s.methodNamed? y = some m) (h2 : s.vm.method? m = some meth) (h3 : meth.code = some c) (h4 : c.code = bytes)
    (h5 : (c.maxLocals == mx && c.exceptionTable.isEmpty && decide (c.maxStack ≤ mostOperands) && decide (meth.sig.returnType = rt) && !meth.locks && decide (parseMethodDescriptor y.desc = some meth.sig)) = true) : (Jvm.Cond.code y bytes mx rt).before a s = true := by
  simp only [Bool.and_eq_true, beq_iff_eq, Bool.not_eq_true', decide_eq_true_eq] at h5
  obtain ⟨⟨⟨⟨⟨g1, g2⟩, g3⟩, g4⟩, g5⟩, g6⟩ := h5
  simp [Cond.before, Cond.holds, Cond.value, h1, h2, h3, h4, g1, g2, g3, g4, g5, g6]
def isCode : Jvm.Cond → Bool
  | .code _ _ _ _ => true
  | _ => false
theorem all_split {L : List Jvm.Cond} {P : Jvm.Cond → Bool} (h1 : L.all (fun c => isCode c || P c) = true) (h2 : ∀ c ∈ L.filter isCode, P c = true) : L.all P = true := by
  refine List.all_eq_true.mpr fun c hc => ?_
  have h := List.all_eq_true.mp h1 c hc
  rcases Bool.eq_false_or_eq_true (isCode c) with hi | hi
  · exact h2 c (List.mem_filter.mpr ⟨hc, hi⟩)
  · simpa [hi] using h
set_option maxRecDepth 65536 in
theorem w_c0 : (Jvm.Cond.code x code maxLocals ret).before args0 about1 = true := code_word (m := ⟨1, 1⟩) (meth := k1m1) (c := k1c1) (by decide +kernel) rfl rfl rfl (by decide +kernel)
set_option maxRecDepth 65536 in
theorem w_c1 : (Jvm.Cond.code ({ cls := "com/example/violarc/violarc/graph/FlowNetwork", name := "<init>", desc := "(I)V" } : Jvm.MethodName) prog_45_method_1_code (2 : Nat) (Option.none : Option Jvm.ClassFile.FieldType)).before args0 about1 = true := code_word (m := ⟨2, 0⟩) (meth := k2m0) (c := k2c0) (by decide +kernel) rfl rfl rfl (by decide +kernel)
set_option maxRecDepth 65536 in
theorem w_c2 : (Jvm.Cond.code ({ cls := "java/lang/Object", name := "<init>", desc := "()V" } : Jvm.MethodName) object_method_1_code (1 : Nat) (Option.none : Option Jvm.ClassFile.FieldType)).before args0 about1 = true := code_word (m := ⟨0, 0⟩) (meth := k0m0) (c := k0c0) (by decide +kernel) rfl rfl rfl (by decide +kernel)
set_option maxRecDepth 65536 in
theorem w_c3 : (Jvm.Cond.code ({ cls := "com/example/violarc/violarc/graph/NodeHeap", name := "<init>", desc := "([J)V" } : Jvm.MethodName) prog_53_method_1_code (2 : Nat) (Option.none : Option Jvm.ClassFile.FieldType)).before args0 about1 = true := code_word (m := ⟨3, 0⟩) (meth := k3m0) (c := k3c0) (by decide +kernel) rfl rfl rfl (by decide +kernel)
set_option maxRecDepth 65536 in
theorem w_c4 : (Jvm.Cond.code ({ cls := "java/util/Arrays", name := "fill", desc := "([II)V" } : Jvm.MethodName) jdk_65_method_103_code (4 : Nat) (Option.none : Option Jvm.ClassFile.FieldType)).before args0 about1 = true := code_word (m := ⟨4, 2⟩) (meth := k4m2) (c := k4c2) (by decide +kernel) rfl rfl rfl (by decide +kernel)
set_option maxRecDepth 65536 in
theorem w_c5 : (Jvm.Cond.code ({ cls := "com/example/violarc/violarc/graph/FlowNetwork", name := "addArc", desc := "(IIJJ)I" } : Jvm.MethodName) prog_45_method_3_code (10 : Nat) (Option.some Jvm.ClassFile.FieldType.int)).before args0 about1 = true := code_word (m := ⟨2, 1⟩) (meth := k2m1) (c := k2c1) (by decide +kernel) rfl rfl rfl (by decide +kernel)
set_option maxRecDepth 65536 in
theorem w_c6 : (Jvm.Cond.code ({ cls := "com/example/violarc/violarc/graph/FlowNetwork", name := "checkNode", desc := "(I)V" } : Jvm.MethodName) prog_45_method_24_code (2 : Nat) (Option.none : Option Jvm.ClassFile.FieldType)).before args0 about1 = true := code_word (m := ⟨2, 16⟩) (meth := k2m16) (c := k2c16) (by decide +kernel) rfl rfl rfl (by decide +kernel)
set_option maxRecDepth 65536 in
theorem w_c7 : (Jvm.Cond.code ({ cls := "com/example/violarc/violarc/graph/FlowNetwork", name := "checkCapacity", desc := "(J)V" } : Jvm.MethodName) prog_45_method_25_code (2 : Nat) (Option.none : Option Jvm.ClassFile.FieldType)).before args0 about1 = true := code_word (m := ⟨2, 17⟩) (meth := k2m17) (c := k2c17) (by decide +kernel) rfl rfl rfl (by decide +kernel)
set_option maxRecDepth 65536 in
theorem w_c8 : (Jvm.Cond.code ({ cls := "java/lang/Math", name := "absExact", desc := "(J)J" } : Jvm.MethodName) jdk_29_method_62_code (2 : Nat) (Option.some Jvm.ClassFile.FieldType.long)).before args0 about1 = true := code_word (m := ⟨5, 4⟩) (meth := k5m4) (c := k5c4) (by decide +kernel) rfl rfl rfl (by decide +kernel)
set_option maxRecDepth 65536 in
theorem w_c9 : (Jvm.Cond.code ({ cls := "java/lang/Math", name := "abs", desc := "(J)J" } : Jvm.MethodName) jdk_29_method_61_code (2 : Nat) (Option.some Jvm.ClassFile.FieldType.long)).before args0 about1 = true := code_word (m := ⟨5, 3⟩) (meth := k5m3) (c := k5c3) (by decide +kernel) rfl rfl rfl (by decide +kernel)
set_option maxRecDepth 65536 in
theorem w_c10 : (Jvm.Cond.code ({ cls := "java/lang/Math", name := "addExact", desc := "(JJ)J" } : Jvm.MethodName) jdk_29_method_25_code (6 : Nat) (Option.some Jvm.ClassFile.FieldType.long)).before args0 about1 = true := code_word (m := ⟨5, 1⟩) (meth := k5m1) (c := k5c1) (by decide +kernel) rfl rfl rfl (by decide +kernel)
set_option maxRecDepth 65536 in
theorem w_c11 : (Jvm.Cond.code ({ cls := "com/example/violarc/violarc/graph/FlowNetwork", name := "link", desc := "(IIIJJ)V" } : Jvm.MethodName) prog_45_method_23_code (8 : Nat) (Option.none : Option Jvm.ClassFile.FieldType)).before args0 about1 = true := code_word (m := ⟨2, 15⟩) (meth := k2m15) (c := k2c15) (by decide +kernel) rfl rfl rfl (by decide +kernel)
set_option maxRecDepth 65536 in
theorem w_c12 : (Jvm.Cond.code ({ cls := "com/example/violarc/violarc/graph/FlowNetwork", name := "send", desc := "(IIJ)J" } : Jvm.MethodName) prog_45_method_12_code (12 : Nat) (Option.some Jvm.ClassFile.FieldType.long)).before args0 about1 = true := code_word (m := ⟨2, 8⟩) (meth := k2m8) (c := k2c8) (by decide +kernel) rfl rfl rfl (by decide +kernel)
set_option maxRecDepth 65536 in
theorem w_c13 : (Jvm.Cond.code ({ cls := "com/example/violarc/violarc/graph/FlowNetwork", name := "settle", desc := "()V" } : Jvm.MethodName) prog_45_method_17_code (9 : Nat) (Option.none : Option Jvm.ClassFile.FieldType)).before args0 about1 = true := code_word (m := ⟨2, 9⟩) (meth := k2m9) (c := k2c9) (by decide +kernel) rfl rfl rfl (by decide +kernel)
set_option maxRecDepth 65536 in
theorem w_c14 : (Jvm.Cond.code ({ cls := "java/util/Arrays", name := "fill", desc := "([JJ)V" } : Jvm.MethodName) jdk_65_method_101_code (5 : Nat) (Option.none : Option Jvm.ClassFile.FieldType)).before args0 about1 = true := code_word (m := ⟨4, 1⟩) (meth := k4m1) (c := k4c1) (by decide +kernel) rfl rfl rfl (by decide +kernel)
set_option maxRecDepth 65536 in
theorem w_c15 : (Jvm.Cond.code ({ cls := "com/example/violarc/violarc/graph/FlowNetwork", name := "flow", desc := "(I)J" } : Jvm.MethodName) prog_45_method_7_code (2 : Nat) (Option.some Jvm.ClassFile.FieldType.long)).before args0 about1 = true := code_word (m := ⟨2, 4⟩) (meth := k2m4) (c := k2c4) (by decide +kernel) rfl rfl rfl (by decide +kernel)
set_option maxRecDepth 65536 in
theorem w_c16 : (Jvm.Cond.code ({ cls := "com/example/violarc/violarc/graph/FlowNetwork", name := "checkArc", desc := "(I)V" } : Jvm.MethodName) prog_45_method_27_code (2 : Nat) (Option.none : Option Jvm.ClassFile.FieldType)).before args0 about1 = true := code_word (m := ⟨2, 19⟩) (meth := k2m19) (c := k2c19) (by decide +kernel) rfl rfl rfl (by decide +kernel)
set_option maxRecDepth 65536 in
theorem w_c17 : (Jvm.Cond.code ({ cls := "java/lang/Math", name := "max", desc := "(JJ)J" } : Jvm.MethodName) jdk_29_method_66_code (4 : Nat) (Option.some Jvm.ClassFile.FieldType.long)).before args0 about1 = true := code_word (m := ⟨5, 5⟩) (meth := k5m5) (c := k5c5) (by decide +kernel) rfl rfl rfl (by decide +kernel)
set_option maxRecDepth 65536 in
theorem w_c18 : (Jvm.Cond.code ({ cls := "com/example/violarc/violarc/graph/FlowNetwork", name := "setCapacity", desc := "(IJ)V" } : Jvm.MethodName) prog_45_method_4_code (6 : Nat) (Option.none : Option Jvm.ClassFile.FieldType)).before args0 about1 = true := code_word (m := ⟨2, 2⟩) (meth := k2m2) (c := k2c2) (by decide +kernel) rfl rfl rfl (by decide +kernel)
set_option maxRecDepth 65536 in
theorem w_c19 : (Jvm.Cond.code ({ cls := "com/example/violarc/violarc/graph/FlowNetwork", name := "clearFlow", desc := "()V" } : Jvm.MethodName) prog_45_method_6_code (2 : Nat) (Option.none : Option Jvm.ClassFile.FieldType)).before args0 about1 = true := code_word (m := ⟨2, 3⟩) (meth := k2m3) (c := k2c3) (by decide +kernel) rfl rfl rfl (by decide +kernel)
set_option maxRecDepth 65536 in
theorem w_c20 : (Jvm.Cond.code ({ cls := "com/example/violarc/violarc/graph/FlowNetwork", name := "saveState", desc := "([J)V" } : Jvm.MethodName) prog_45_method_9_code (2 : Nat) (Option.none : Option Jvm.ClassFile.FieldType)).before args0 about1 = true := code_word (m := ⟨2, 6⟩) (meth := k2m6) (c := k2c6) (by decide +kernel) rfl rfl rfl (by decide +kernel)
set_option maxRecDepth 65536 in
theorem w_c21 : (Jvm.Cond.code ({ cls := "com/example/violarc/violarc/graph/FlowNetwork", name := "checkState", desc := "([J)V" } : Jvm.MethodName) prog_45_method_26_code (2 : Nat) (Option.none : Option Jvm.ClassFile.FieldType)).before args0 about1 = true := code_word (m := ⟨2, 18⟩) (meth := k2m18) (c := k2c18) (by decide +kernel) rfl rfl rfl (by decide +kernel)
set_option maxRecDepth 65536 in
theorem w_c22 : (Jvm.Cond.code ({ cls := "com/example/violarc/violarc/graph/FlowNetwork", name := "stateSize", desc := "()I" } : Jvm.MethodName) prog_45_method_8_code (1 : Nat) (Option.some Jvm.ClassFile.FieldType.int)).before args0 about1 = true := code_word (m := ⟨2, 5⟩) (meth := k2m5) (c := k2c5) (by decide +kernel) rfl rfl rfl (by decide +kernel)
set_option maxRecDepth 65536 in
theorem w_c23 : (Jvm.Cond.code ({ cls := "com/example/violarc/violarc/graph/FlowNetwork", name := "cost", desc := "()J" } : Jvm.MethodName) prog_45_method_11_code (1 : Nat) (Option.some Jvm.ClassFile.FieldType.long)).before args0 about1 = true := code_word (m := ⟨2, 7⟩) (meth := k2m7) (c := k2c7) (by decide +kernel) rfl rfl rfl (by decide +kernel)
set_option maxRecDepth 65536 in
theorem w_c24 : (Jvm.Cond.code ({ cls := "com/example/violarc/violarc/graph/FlowNetwork", name := "search", desc := "(IZ)V" } : Jvm.MethodName) prog_45_method_18_code (11 : Nat) (Option.none : Option Jvm.ClassFile.FieldType)).before args0 about1 = true := code_word (m := ⟨2, 10⟩) (meth := k2m10) (c := k2c10) (by decide +kernel) rfl rfl rfl (by decide +kernel)
set_option maxRecDepth 65536 in
theorem w_c25 : (Jvm.Cond.code ({ cls := "com/example/violarc/violarc/graph/NodeHeap", name := "clear", desc := "()V" } : Jvm.MethodName) prog_53_method_3_code (2 : Nat) (Option.none : Option Jvm.ClassFile.FieldType)).before args0 about1 = true := code_word (m := ⟨3, 2⟩) (meth := k3m2) (c := k3c2) (by decide +kernel) rfl rfl rfl (by decide +kernel)
set_option maxRecDepth 65536 in
theorem w_c26 : (Jvm.Cond.code ({ cls := "com/example/violarc/violarc/graph/NodeHeap", name := "push", desc := "(I)V" } : Jvm.MethodName) prog_53_method_4_code (3 : Nat) (Option.none : Option Jvm.ClassFile.FieldType)).before args0 about1 = true := code_word (m := ⟨3, 3⟩) (meth := k3m3) (c := k3c3) (by decide +kernel) rfl rfl rfl (by decide +kernel)
set_option maxRecDepth 65536 in
theorem w_c27 : (Jvm.Cond.code ({ cls := "com/example/violarc/violarc/graph/NodeHeap", name := "siftUp", desc := "(II)V" } : Jvm.MethodName) prog_53_method_6_code (4 : Nat) (Option.none : Option Jvm.ClassFile.FieldType)).before args0 about1 = true := code_word (m := ⟨3, 5⟩) (meth := k3m5) (c := k3c5) (by decide +kernel) rfl rfl rfl (by decide +kernel)
set_option maxRecDepth 65536 in
theorem w_c28 : (Jvm.Cond.code ({ cls := "com/example/violarc/violarc/graph/NodeHeap", name := "place", desc := "(II)V" } : Jvm.MethodName) prog_53_method_8_code (3 : Nat) (Option.none : Option Jvm.ClassFile.FieldType)).before args0 about1 = true := code_word (m := ⟨3, 6⟩) (meth := k3m6) (c := k3c6) (by decide +kernel) rfl rfl rfl (by decide +kernel)
set_option maxRecDepth 65536 in
theorem w_c29 : (Jvm.Cond.code ({ cls := "com/example/violarc/violarc/graph/NodeHeap", name := "isEmpty", desc := "()Z" } : Jvm.MethodName) prog_53_method_2_code (1 : Nat) (Option.some Jvm.ClassFile.FieldType.boolean)).before args0 about1 = true := code_word (m := ⟨3, 1⟩) (meth := k3m1) (c := k3c1) (by decide +kernel) rfl rfl rfl (by decide +kernel)
set_option maxRecDepth 65536 in
theorem w_c30 : (Jvm.Cond.code ({ cls := "com/example/violarc/violarc/graph/NodeHeap", name := "poll", desc := "()I" } : Jvm.MethodName) prog_53_method_5_code (3 : Nat) (Option.some Jvm.ClassFile.FieldType.int)).before args0 about1 = true := code_word (m := ⟨3, 4⟩) (meth := k3m4) (c := k3c4) (by decide +kernel) rfl rfl rfl (by decide +kernel)
set_option maxRecDepth 65536 in
theorem w_c31 : (Jvm.Cond.code ({ cls := "com/example/violarc/violarc/graph/FlowNetwork", name := "advance", desc := "(J)V" } : Jvm.MethodName) prog_45_method_19_code (4 : Nat) (Option.none : Option Jvm.ClassFile.FieldType)).before args0 about1 = true := code_word (m := ⟨2, 11⟩) (meth := k2m11) (c := k2c11) (by decide +kernel) rfl rfl rfl (by decide +kernel)
set_option maxRecDepth 65536 in
theorem w_c32 : (Jvm.Cond.code ({ cls := "java/lang/Math", name := "min", desc := "(JJ)J" } : Jvm.MethodName) jdk_29_method_70_code (4 : Nat) (Option.some Jvm.ClassFile.FieldType.long)).before args0 about1 = true := code_word (m := ⟨5, 6⟩) (meth := k5m6) (c := k5c6) (by decide +kernel) rfl rfl rfl (by decide +kernel)
set_option maxRecDepth 65536 in
theorem w_c33 : (Jvm.Cond.code ({ cls := "com/example/violarc/violarc/graph/FlowNetwork", name := "walk", desc := "(II)Z" } : Jvm.MethodName) prog_45_method_20_code (7 : Nat) (Option.some Jvm.ClassFile.FieldType.boolean)).before args0 about1 = true := code_word (m := ⟨2, 12⟩) (meth := k2m12) (c := k2c12) (by decide +kernel) rfl rfl rfl (by decide +kernel)
set_option maxRecDepth 65536 in
theorem w_c34 : (Jvm.Cond.code ({ cls := "com/example/violarc/violarc/graph/FlowNetwork", name := "tail", desc := "(I)I" } : Jvm.MethodName) prog_45_method_22_code (2 : Nat) (Option.some Jvm.ClassFile.FieldType.int)).before args0 about1 = true := code_word (m := ⟨2, 14⟩) (meth := k2m14) (c := k2c14) (by decide +kernel) rfl rfl rfl (by decide +kernel)
set_option maxRecDepth 65536 in
theorem w_c35 : (Jvm.Cond.code ({ cls := "com/example/violarc/violarc/graph/FlowNetwork", name := "push", desc := "(IJ)V" } : Jvm.MethodName) prog_45_method_21_code (4 : Nat) (Option.none : Option Jvm.ClassFile.FieldType)).before args0 about1 = true := code_word (m := ⟨2, 13⟩) (meth := k2m13) (c := k2c13) (by decide +kernel) rfl rfl rfl (by decide +kernel)
set_option maxRecDepth 65536 in
theorem w_c36 : (Jvm.Cond.code ({ cls := "java/lang/Math", name := "multiplyExact", desc := "(JJ)J" } : Jvm.MethodName) jdk_29_method_30_code (10 : Nat) (Option.some Jvm.ClassFile.FieldType.long)).before args0 about1 = true := code_word (m := ⟨5, 2⟩) (meth := k5m2) (c := k5c2) (by decide +kernel) rfl rfl rfl (by decide +kernel)
def codes1 : List Jvm.Cond := [Jvm.Cond.code x code maxLocals ret, Jvm.Cond.code ({ cls := "com/example/violarc/violarc/graph/FlowNetwork", name := "<init>", desc := "(I)V" } : Jvm.MethodName) prog_45_method_1_code (2 : Nat) (Option.none : Option Jvm.ClassFile.FieldType), Jvm.Cond.code ({ cls := "java/lang/Object", name := "<init>", desc := "()V" } : Jvm.MethodName) object_method_1_code (1 : Nat) (Option.none : Option Jvm.ClassFile.FieldType), Jvm.Cond.code ({ cls := "com/example/violarc/violarc/graph/NodeHeap", name := "<init>", desc := "([J)V" } : Jvm.MethodName) prog_53_method_1_code (2 : Nat) (Option.none : Option Jvm.ClassFile.FieldType), Jvm.Cond.code ({ cls := "java/util/Arrays", name := "fill", desc := "([II)V" } : Jvm.MethodName) jdk_65_method_103_code (4 : Nat) (Option.none : Option Jvm.ClassFile.FieldType), Jvm.Cond.code ({ cls := "com/example/violarc/violarc/graph/FlowNetwork", name := "addArc", desc := "(IIJJ)I" } : Jvm.MethodName) prog_45_method_3_code (10 : Nat) (Option.some Jvm.ClassFile.FieldType.int), Jvm.Cond.code ({ cls := "com/example/violarc/violarc/graph/FlowNetwork", name := "checkNode", desc := "(I)V" } : Jvm.MethodName) prog_45_method_24_code (2 : Nat) (Option.none : Option Jvm.ClassFile.FieldType), Jvm.Cond.code ({ cls := "com/example/violarc/violarc/graph/FlowNetwork", name := "checkCapacity", desc := "(J)V" } : Jvm.MethodName) prog_45_method_25_code (2 : Nat) (Option.none : Option Jvm.ClassFile.FieldType), Jvm.Cond.code ({ cls := "java/lang/Math", name := "absExact", desc := "(J)J" } : Jvm.MethodName) jdk_29_method_62_code (2 : Nat) (Option.some Jvm.ClassFile.FieldType.long), Jvm.Cond.code ({ cls := "java/lang/Math", name := "abs", desc := "(J)J" } : Jvm.MethodName) jdk_29_method_61_code (2 : Nat) (Option.some Jvm.ClassFile.FieldType.long), Jvm.Cond.code ({ cls := "java/lang/Math", name := "addExact", desc := "(JJ)J" } : Jvm.MethodName) jdk_29_method_25_code (6 : Nat) (Option.some Jvm.ClassFile.FieldType.long), Jvm.Cond.code ({ cls := "com/example/violarc/violarc/graph/FlowNetwork", name := "link", desc := "(IIIJJ)V" } : Jvm.MethodName) prog_45_method_23_code (8 : Nat) (Option.none : Option Jvm.ClassFile.FieldType), Jvm.Cond.code ({ cls := "com/example/violarc/violarc/graph/FlowNetwork", name := "send", desc := "(IIJ)J" } : Jvm.MethodName) prog_45_method_12_code (12 : Nat) (Option.some Jvm.ClassFile.FieldType.long), Jvm.Cond.code ({ cls := "com/example/violarc/violarc/graph/FlowNetwork", name := "settle", desc := "()V" } : Jvm.MethodName) prog_45_method_17_code (9 : Nat) (Option.none : Option Jvm.ClassFile.FieldType), Jvm.Cond.code ({ cls := "java/util/Arrays", name := "fill", desc := "([JJ)V" } : Jvm.MethodName) jdk_65_method_101_code (5 : Nat) (Option.none : Option Jvm.ClassFile.FieldType), Jvm.Cond.code ({ cls := "com/example/violarc/violarc/graph/FlowNetwork", name := "flow", desc := "(I)J" } : Jvm.MethodName) prog_45_method_7_code (2 : Nat) (Option.some Jvm.ClassFile.FieldType.long), Jvm.Cond.code ({ cls := "com/example/violarc/violarc/graph/FlowNetwork", name := "checkArc", desc := "(I)V" } : Jvm.MethodName) prog_45_method_27_code (2 : Nat) (Option.none : Option Jvm.ClassFile.FieldType), Jvm.Cond.code ({ cls := "java/lang/Math", name := "max", desc := "(JJ)J" } : Jvm.MethodName) jdk_29_method_66_code (4 : Nat) (Option.some Jvm.ClassFile.FieldType.long), Jvm.Cond.code ({ cls := "com/example/violarc/violarc/graph/FlowNetwork", name := "setCapacity", desc := "(IJ)V" } : Jvm.MethodName) prog_45_method_4_code (6 : Nat) (Option.none : Option Jvm.ClassFile.FieldType), Jvm.Cond.code ({ cls := "com/example/violarc/violarc/graph/FlowNetwork", name := "clearFlow", desc := "()V" } : Jvm.MethodName) prog_45_method_6_code (2 : Nat) (Option.none : Option Jvm.ClassFile.FieldType), Jvm.Cond.code ({ cls := "com/example/violarc/violarc/graph/FlowNetwork", name := "saveState", desc := "([J)V" } : Jvm.MethodName) prog_45_method_9_code (2 : Nat) (Option.none : Option Jvm.ClassFile.FieldType), Jvm.Cond.code ({ cls := "com/example/violarc/violarc/graph/FlowNetwork", name := "checkState", desc := "([J)V" } : Jvm.MethodName) prog_45_method_26_code (2 : Nat) (Option.none : Option Jvm.ClassFile.FieldType), Jvm.Cond.code ({ cls := "com/example/violarc/violarc/graph/FlowNetwork", name := "stateSize", desc := "()I" } : Jvm.MethodName) prog_45_method_8_code (1 : Nat) (Option.some Jvm.ClassFile.FieldType.int), Jvm.Cond.code ({ cls := "com/example/violarc/violarc/graph/FlowNetwork", name := "cost", desc := "()J" } : Jvm.MethodName) prog_45_method_11_code (1 : Nat) (Option.some Jvm.ClassFile.FieldType.long), Jvm.Cond.code ({ cls := "com/example/violarc/violarc/graph/FlowNetwork", name := "search", desc := "(IZ)V" } : Jvm.MethodName) prog_45_method_18_code (11 : Nat) (Option.none : Option Jvm.ClassFile.FieldType), Jvm.Cond.code ({ cls := "com/example/violarc/violarc/graph/NodeHeap", name := "clear", desc := "()V" } : Jvm.MethodName) prog_53_method_3_code (2 : Nat) (Option.none : Option Jvm.ClassFile.FieldType), Jvm.Cond.code ({ cls := "com/example/violarc/violarc/graph/NodeHeap", name := "push", desc := "(I)V" } : Jvm.MethodName) prog_53_method_4_code (3 : Nat) (Option.none : Option Jvm.ClassFile.FieldType), Jvm.Cond.code ({ cls := "com/example/violarc/violarc/graph/NodeHeap", name := "siftUp", desc := "(II)V" } : Jvm.MethodName) prog_53_method_6_code (4 : Nat) (Option.none : Option Jvm.ClassFile.FieldType), Jvm.Cond.code ({ cls := "com/example/violarc/violarc/graph/NodeHeap", name := "place", desc := "(II)V" } : Jvm.MethodName) prog_53_method_8_code (3 : Nat) (Option.none : Option Jvm.ClassFile.FieldType), Jvm.Cond.code ({ cls := "com/example/violarc/violarc/graph/NodeHeap", name := "isEmpty", desc := "()Z" } : Jvm.MethodName) prog_53_method_2_code (1 : Nat) (Option.some Jvm.ClassFile.FieldType.boolean), Jvm.Cond.code ({ cls := "com/example/violarc/violarc/graph/NodeHeap", name := "poll", desc := "()I" } : Jvm.MethodName) prog_53_method_5_code (3 : Nat) (Option.some Jvm.ClassFile.FieldType.int), Jvm.Cond.code ({ cls := "com/example/violarc/violarc/graph/FlowNetwork", name := "advance", desc := "(J)V" } : Jvm.MethodName) prog_45_method_19_code (4 : Nat) (Option.none : Option Jvm.ClassFile.FieldType), Jvm.Cond.code ({ cls := "java/lang/Math", name := "min", desc := "(JJ)J" } : Jvm.MethodName) jdk_29_method_70_code (4 : Nat) (Option.some Jvm.ClassFile.FieldType.long), Jvm.Cond.code ({ cls := "com/example/violarc/violarc/graph/FlowNetwork", name := "walk", desc := "(II)Z" } : Jvm.MethodName) prog_45_method_20_code (7 : Nat) (Option.some Jvm.ClassFile.FieldType.boolean), Jvm.Cond.code ({ cls := "com/example/violarc/violarc/graph/FlowNetwork", name := "tail", desc := "(I)I" } : Jvm.MethodName) prog_45_method_22_code (2 : Nat) (Option.some Jvm.ClassFile.FieldType.int), Jvm.Cond.code ({ cls := "com/example/violarc/violarc/graph/FlowNetwork", name := "push", desc := "(IJ)V" } : Jvm.MethodName) prog_45_method_21_code (4 : Nat) (Option.none : Option Jvm.ClassFile.FieldType), Jvm.Cond.code ({ cls := "java/lang/Math", name := "multiplyExact", desc := "(JJ)J" } : Jvm.MethodName) jdk_29_method_30_code (10 : Nat) (Option.some Jvm.ClassFile.FieldType.long)]
set_option maxRecDepth 65536 in
theorem codes_eq : words1.filter isCode = codes1 := rfl
theorem w_codes : ∀ c ∈ words1.filter isCode, c.before args0 about1 = true := by
  rw [codes_eq]
  intro c hc
  simp only [codes1, List.mem_cons, List.not_mem_nil, or_false] at hc
  rcases hc with rfl | rfl | rfl | rfl | rfl | rfl | rfl | rfl | rfl | rfl | rfl | rfl | rfl | rfl | rfl | rfl | rfl | rfl | rfl | rfl | rfl | rfl | rfl | rfl | rfl | rfl | rfl | rfl | rfl | rfl | rfl | rfl | rfl | rfl | rfl | rfl | rfl
  · exact w_c0
  · exact w_c1
  · exact w_c2
  · exact w_c3
  · exact w_c4
  · exact w_c5
  · exact w_c6
  · exact w_c7
  · exact w_c8
  · exact w_c9
  · exact w_c10
  · exact w_c11
  · exact w_c12
  · exact w_c13
  · exact w_c14
  · exact w_c15
  · exact w_c16
  · exact w_c17
  · exact w_c18
  · exact w_c19
  · exact w_c20
  · exact w_c21
  · exact w_c22
  · exact w_c23
  · exact w_c24
  · exact w_c25
  · exact w_c26
  · exact w_c27
  · exact w_c28
  · exact w_c29
  · exact w_c30
  · exact w_c31
  · exact w_c32
  · exact w_c33
  · exact w_c34
  · exact w_c35
  · exact w_c36
set_option maxRecDepth 65536 in
theorem w_t1 : (words1.take 24).all (fun c => isCode c || c.before args0 about1) = true := by decide +kernel
set_option maxRecDepth 65536 in
theorem w_t2 : ((words1.drop 24).take 24).all (fun c => isCode c || c.before args0 about1) = true := by decide +kernel
set_option maxRecDepth 65536 in
theorem w_t3 : (((words1.drop 24).drop 24).take 24).all (fun c => isCode c || c.before args0 about1) = true := by decide +kernel
set_option maxRecDepth 65536 in
theorem w_t4 : ((((words1.drop 24).drop 24).drop 24).take 24).all (fun c => isCode c || c.before args0 about1) = true := by decide +kernel
set_option maxRecDepth 65536 in
theorem w_t5 : (((((words1.drop 24).drop 24).drop 24).drop 24).take 24).all (fun c => isCode c || c.before args0 about1) = true := by decide +kernel
set_option maxRecDepth 65536 in
theorem w_t6 : ((((((words1.drop 24).drop 24).drop 24).drop 24).drop 24).take 24).all (fun c => isCode c || c.before args0 about1) = true := by decide +kernel
set_option maxRecDepth 65536 in
theorem w_t7 : (((((((words1.drop 24).drop 24).drop 24).drop 24).drop 24).drop 24).take 24).all (fun c => isCode c || c.before args0 about1) = true := by decide +kernel
set_option maxRecDepth 65536 in
theorem w_t8 : ((((((((words1.drop 24).drop 24).drop 24).drop 24).drop 24).drop 24).drop 24).take 24).all (fun c => isCode c || c.before args0 about1) = true := by decide +kernel
set_option maxRecDepth 65536 in
theorem w_t9 : (((((((((words1.drop 24).drop 24).drop 24).drop 24).drop 24).drop 24).drop 24).drop 24).take 24).all (fun c => isCode c || c.before args0 about1) = true := by decide +kernel
set_option maxRecDepth 65536 in
theorem w_t10 : (((((((((words1.drop 24).drop 24).drop 24).drop 24).drop 24).drop 24).drop 24).drop 24).drop 24).all (fun c => isCode c || c.before args0 about1) = true := by decide +kernel
theorem w_tables : (allAtoms (Jvm.Cond.code x code maxLocals ret :: tables_1)).before args0 about1 = true := by
  rw [allAtoms_all]
  show words1.all (fun c => c.before args0 about1) = true
  refine all_split ?_ w_codes
  rw [← List.take_append_drop 24 words1, List.all_append, w_t1, ← List.take_append_drop 24 (words1.drop 24), List.all_append, w_t2, ← List.take_append_drop 24 ((words1.drop 24).drop 24), List.all_append, w_t3, ← List.take_append_drop 24 (((words1.drop 24).drop 24).drop 24), List.all_append, w_t4, ← List.take_append_drop 24 ((((words1.drop 24).drop 24).drop 24).drop 24), List.all_append, w_t5, ← List.take_append_drop 24 (((((words1.drop 24).drop 24).drop 24).drop 24).drop 24), List.all_append, w_t6, ← List.take_append_drop 24 ((((((words1.drop 24).drop 24).drop 24).drop 24).drop 24).drop 24), List.all_append, w_t7, ← List.take_append_drop 24 (((((((words1.drop 24).drop 24).drop 24).drop 24).drop 24).drop 24).drop 24), List.all_append, w_t8, ← List.take_append_drop 24 ((((((((words1.drop 24).drop 24).drop 24).drop 24).drop 24).drop 24).drop 24).drop 24), List.all_append, w_t9, w_t10]
  rfl
set_option maxRecDepth 65536 in
theorem w_case : (Jvm.Cond.and given_1 narrow_1).before args0 about1 = true := by decide +kernel
theorem w_applies : (headSpec (Jvm.Cond.code x code maxLocals ret :: tables_1) room_1).applies x e0.platform about1 = true :=
  (Spec.applies_iff w_frames).mpr ⟨w_running, w_runnable, w_alone, w_named, w_hears, w_ripe, w_room, w_tables⟩
theorem atStart : AtStart classFile x code maxLocals ret World_1 tables_1 room_1 Calls_1 rest_1 Pre_1 launch0 p0 e0 about1 theMethod args0 below0 :=
  ⟨lists_1, trivial, launch0.admits_env _ _ _, launch0.least_env, fairChoices_fair.cas, fairChoices_fair.clock, w_frames, w_args, w_heap, w_applies, trivial, trivial, w_case⟩
end start1
theorem witness_1 : WitnessClaimed_1 := ⟨start1.p0, start1.e0, start1.about1, start1.theMethod, start1.args0, start1.below0, start1.atStart⟩
end Jvm.Pilot.@@N@@
