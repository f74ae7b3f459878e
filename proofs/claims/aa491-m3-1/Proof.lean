import JvmDerived
import JvmDerived.Pilot.@@N@@Statement
import JvmDerived.Pilot.@@N@@Code
set_option linter.unusedVariables false
set_option linter.unusedSimpArgs false
@@BLOCK:NumsL.lean.txt@@
namespace Jvm.RoadKit
open Sem ClassFile Op Lib Jvm.Stand Jvm.Free Jvm.LawKit
section New
variable {p : Program} {l : Launch} {e : Env} {R : Room} {s : State} {m : MethodId} {args : Array Value} {below : List Frame} {meth : Method} {c : Code} {T : State} {locs : List Loc} {cells slots : Nat}
theorem retI (X : Stand p l e R s m args below meth c T locs cells slots) (hx : p.tables.exec = Jvm.exec) {pc : Nat} {Ls : Array Slot} {z : Int32} {rest : List Value} (hret : meth.sig.returnType = some .int) (hd : decode c.code pc = .ok (.ireturn, 1)) {fs : List Frame}
    (hl : ∀ (f : JFrame) (acts : List Action), f.method = m → f.locked = none → f.entered = [] → (doReturn e (T.setTop f) acts (some (.int z))).1 = T.setFrames fs) : Steps p.tables e below (T.setTop (mkF m pc Ls (.int z :: rest))) (T.setFrames fs) := by
  have hm' : T.vm.method? m = some meth := X.method'
  have hn : narrow .int (.int z) = .int z := rfl
  show Steps p.tables e below (T.setTop { method := m, pc := pc, locals := Ls, stack := _ :: rest, locked := none }) _
  jvm_step X.here [X.here.top, hx, hd, hm', hret, hn]
  first | (intro acts; rw [hl _ acts rfl rfl rfl]) | rw [hl _ _ rfl rfl rfl]
  exact Steps.refl _
end New
end Jvm.RoadKit
namespace Jvm.Pilot.@@N@@
open Jvm Jvm.ClassFile Sem Op Lib Jvm.Free Jvm.Stand Jvm.LawKit Jvm.RoadKit Bundle Jvm.Pilot.@@N@@.Jvm.D
set_option maxRecDepth 65536
set_option maxHeartbeats 40000000
abbrev oMet (l : Launch) (y : MethodName) (code : ByteArray) (ml : Nat) (rt : Option FieldType) (ws : List Jvm.Cond) (R : Room) (Z : State) (h0 : Heap) (A : Array Value) (Q : Option Value → Heap → List Loc → Prop) : Prop := MetFree l y (head1 (Jvm.Cond.code y code ml rt :: ws) R) (fun a U => a = A ∧ Z.Warmed39 U.vm ∧ U.heap = h0) (fun _ _ _ _ _ => True) (fun _ U o U' => ∃ v L, o = .returned v ∧ Q v U'.heap L ∧ FrameEnd U o U' L R.cells R.slots)
theorem oBd {l : Launch} {y : MethodName} {code : ByteArray} {ml : Nat} {rt : Option FieldType} {ws : List Jvm.Cond} {R : Room} {Z : State} {h0 : Heap} {A : Array Value} {Q : Option Value → Heap → List Loc → Prop} (n0 : Nat) (pl : plainFor y = true)
    (H : ∀ (p : Program) (e : Env) (s : State) (m : MethodId) (below : List Frame) (meth : Method) (c : Code) (s₁ : State), BodyLoose p l y (head1 (Jvm.Cond.code y code ml rt :: ws) R) code ml rt e s m A below meth c s₁ → p.tables.exec = Jvm.exec → Z.Warmed39 s.vm → c.code = code → c.maxLocals = ml → s.vm.findClass y.cls = some m.cls → meth.name = y.name → Stand p l e R s m A below meth c s₁ [] 0 0 → s₁.heap = h0 → Fr n0 [] →
      ∃ s₂ o, Steps p.tables e below (s₁.setTop (entryFrame m A ml)) s₂ ∧ s₂.status = .running ∧ Ended s₂ below o ∧ ∃ v L, o = .returned v ∧ Q v s₂.heap L ∧ FrameEnd s o s₂ L R.cells R.slots) : oMet l y code ml rt ws R Z h0 A Q := by
  refine MetFree.of_bodySF pl hisR ?_
  intro p e s m args below meth c s₁ Bd hml hP hK
  obtain ⟨rfl, hZ, hh⟩ := hP
  exact H p e s m below meth c s₁ Bd Bd.exec hZ Bd.bytes hml (findClass_of_methodNamed Bd.named) (name_of_methodNamed Bd.named Bd.method).1 (Stand.of_body Bd) (by rw [← hh, Bd.state]; rfl) (Fr.nil n0)
abbrev oR (f c s l : Nat) : Room := { frames := f, cells := c, slots := s, locals := l }
theorem oW {a0 : Array Value} {Z : State} (hw : ∀ d ∈ tables_1, d.before a0 Z = true) (i : Nat) {d : Jvm.Cond} (h : tables_1[i]? = some d) : d.before a0 Z = true := hw _ (List.mem_of_getElem? h)
abbrev oH (a0 : Array Value) (Z : State) : Prop := ∀ d ∈ tables_1, d.before a0 Z = true
theorem oN {Z : State} {a0 : Array Value} {C O n d O' n' d' : String} {P : Prop} {t t' : FieldType} (L : Laid Z a0 C O n d) (L' : Laid Z a0 C O' n' d') (hn : n ≠ n' := by decide) (ht : parseFieldDescriptor d = some t := by decide) (ht' : parseFieldDescriptor d' = some t' := by decide) : P ∨ Jvm.RoadKit.slotOf Z O n d ≠ Jvm.RoadKit.slotOf Z O' n' d' := Or.inr (slot_ne L L' hn ht ht')
theorem oV {a b n : Nat} (h : a < n) (h2 : n ≤ b) : a ≠ b := Nat.ne_of_lt (Nat.lt_of_lt_of_le h h2)
theorem oX {α : Type} {l : List α} {x : α} (i : Nat) (h : l[i]? = some x) : x ∈ l := List.mem_of_getElem? h
abbrev oDs (b : ByteArray) (l : List (Nat × Instr × Nat)) : Prop := ∀ q ∈ l, decode b q.1 = .ok q.2
theorem oG {c : Code} {b : ByteArray} {l : List (Nat × Instr × Nat)} (hby : c.code = b) (h : oDs b l) (i : Nat) {pc : Nat} {ins : Instr} {n : Nat} (hq : l[i]? = some (pc, ins, n)) : decode c.code pc = .ok (ins, n) := by
  rw [hby]
  exact h (pc, ins, n) (List.mem_of_getElem? hq)
abbrev oI (x : Int32) : Slot := .val (.int x)
abbrev oA (x : Addr) : Slot := .val (.ref x)
abbrev oJ (x : Int64) : Slot := .val (.long x)
abbrev oZ (p : Program) (e : Env) (b : List Frame) (T : State) (f : JFrame) (t : State) : Prop := Steps p.tables e b (T.setTop f) t
theorem own_pn0 : plainName "com/example/narrows/narrows/Subsetter$Stretch" = true := by first | (simp [plainName, overriddenIn]; done) | decide +kernel
theorem own_pn1 : plainName "java/util/BitSet" = true := by first | (simp [plainName, overriddenIn]; done) | decide +kernel
theorem own_pn2 : plainName "com/example/narrows/narrows/SplitMix64" = true := by first | (simp [plainName, overriddenIn]; done) | decide +kernel
theorem own_pn3 : plainName "java/lang/Long" = true := by first | (simp [plainName, overriddenIn]; done) | decide +kernel
theorem own_pn4 : plainName "com/example/narrows/narrows/Subsetter" = true := by first | (simp [plainName, overriddenIn]; done) | decide +kernel
theorem own_pn5 : plainName "java/lang/Integer" = true := by first | (simp [plainName, overriddenIn]; done) | decide +kernel
theorem own_pn6 : plainName "java/util/Arrays" = true := by first | (simp [plainName, overriddenIn]; done) | decide +kernel
theorem own_pn7 : plainName "com/example/narrows/narrows/SubsetChange" = true := by first | (simp [plainName, overriddenIn]; done) | decide +kernel
theorem own_pn8 : plainName "com/example/narrows/narrows/Churn" = true := by first | (simp [plainName, overriddenIn]; done) | decide +kernel
theorem own_pn9 : plainName "com/example/narrows/narrows/ChurnConnectionsBeforePinLaw" = true := by first | (simp [plainName, overriddenIn]; done) | decide +kernel
theorem own_pd0 : parseMethodDescriptor "()V" = some ⟨[], none⟩ := by decide +kernel
theorem own_pd1 : parseMethodDescriptor "(I)I" = some ⟨[.int], some .int⟩ := by decide +kernel
theorem own_pd2 : parseMethodDescriptor "(I)Z" = some ⟨[.int], some .boolean⟩ := by decide +kernel
theorem own_pd3 : parseMethodDescriptor "(I)V" = some ⟨[.int], none⟩ := by decide +kernel
theorem own_pd4 : parseMethodDescriptor "(J)V" = some ⟨[.long], none⟩ := by decide +kernel
theorem own_pd5 : parseMethodDescriptor "(JJ)Lcom/example/narrows/narrows/SplitMix64;" = some ⟨[.long, .long], some (.object "com/example/narrows/narrows/SplitMix64")⟩ := by decide +kernel
theorem own_pd6 : parseMethodDescriptor "()J" = some ⟨[], some .long⟩ := by decide +kernel
theorem own_pd7 : parseMethodDescriptor "(JJ)J" = some ⟨[.long, .long], some .long⟩ := by decide +kernel
theorem own_pd8 : parseMethodDescriptor "(II)[I" = some ⟨[.int, .int], some (.array .int)⟩ := by decide +kernel
theorem own_pd9 : parseMethodDescriptor "(III)I" = some ⟨[.int, .int, .int], some .int⟩ := by decide +kernel
theorem own_pd10 : parseMethodDescriptor "(I)J" = some ⟨[.int], some .long⟩ := by decide +kernel
theorem own_pd11 : parseMethodDescriptor "([IJ)I" = some ⟨[(.array .int), .long], some .int⟩ := by decide +kernel
theorem own_pd12 : parseMethodDescriptor "(JII)V" = some ⟨[.long, .int, .int], none⟩ := by decide +kernel
theorem own_pd13 : parseMethodDescriptor "([IILcom/example/narrows/narrows/Subsetter$Stretch;)Z" = some ⟨[(.array .int), .int, (.object "com/example/narrows/narrows/Subsetter$Stretch")], some .boolean⟩ := by decide +kernel
theorem own_pd14 : parseMethodDescriptor "(I[II[II)I" = some ⟨[.int, (.array .int), .int, (.array .int), .int], some .int⟩ := by decide +kernel
theorem own_pd15 : parseMethodDescriptor "(I)[I" = some ⟨[.int], some (.array .int)⟩ := by decide +kernel
theorem own_pd16 : parseMethodDescriptor "(II)I" = some ⟨[.int, .int], some .int⟩ := by decide +kernel
theorem own_pd17 : parseMethodDescriptor "([II)[I" = some ⟨[(.array .int), .int], some (.array .int)⟩ := by decide +kernel
theorem own_pd18 : parseMethodDescriptor "([I[I)V" = some ⟨[(.array .int), (.array .int)], none⟩ := by decide +kernel
theorem own_pd19 : parseMethodDescriptor "(II)V" = some ⟨[.int, .int], none⟩ := by decide +kernel
theorem own_pd20 : parseMethodDescriptor "([I[I)Lcom/example/narrows/narrows/SubsetChange;" = some ⟨[(.array .int), (.array .int)], some (.object "com/example/narrows/narrows/SubsetChange")⟩ := by decide +kernel
theorem own_pd21 : parseMethodDescriptor "()I" = some ⟨[], some .int⟩ := by decide +kernel
theorem own_pd22 : parseMethodDescriptor "(IIIIII)V" = some ⟨[.int, .int, .int, .int, .int, .int], none⟩ := by decide +kernel
abbrev oC5 : String := "com/example/narrows/narrows/SplitMix64"
abbrev oC4 : String := "com/example/narrows/narrows/SubsetChange"
abbrev oC3 : String := "com/example/narrows/narrows/Churn"
abbrev oC2 : String := "java/util/BitSet"
abbrev oC1 : String := "com/example/narrows/narrows/Subsetter$Stretch"
abbrev oC0 : String := "com/example/narrows/narrows/Subsetter"
abbrev oM0 : MethodName := ⟨"com/example/narrows/narrows/Subsetter$Stretch", "offer", "(I)Z"⟩
abbrev oM1 : MethodName := ⟨"java/util/BitSet", "get", "(I)Z"⟩
abbrev oM2 : MethodName := ⟨"com/example/narrows/narrows/Subsetter", "backendAt", "(III)I"⟩
abbrev oM3 : MethodName := ⟨"com/example/narrows/narrows/Subsetter", "subset", "(I)[I"⟩
abbrev oM4 : MethodName := ⟨"com/example/narrows/narrows/SplitMix64", "afterDraws", "(JJ)Lcom/example/narrows/narrows/SplitMix64;"⟩
abbrev oM5 : MethodName := ⟨"com/example/narrows/narrows/Subsetter", "walkOrder", "(II)[I"⟩
abbrev oM6 : MethodName := ⟨"com/example/narrows/narrows/Subsetter", "shuffle", "(II)[I"⟩
abbrev oM7 : MethodName := ⟨"com/example/narrows/narrows/Subsetter", "offerRows", "([IILcom/example/narrows/narrows/Subsetter$Stretch;)Z"⟩
abbrev oM8 : MethodName := ⟨"java/util/BitSet", "set", "(I)V"⟩
abbrev oM9 : MethodName := ⟨"com/example/narrows/narrows/SubsetChange", "trimmed", "([II)[I"⟩
abbrev oM10 : MethodName := ⟨"com/example/narrows/narrows/Subsetter", "firstSlotAtOrAfter", "(I)I"⟩
abbrev oM11 : MethodName := ⟨"java/util/BitSet", "wordIndex", "(I)I"⟩
abbrev oM12 : MethodName := ⟨"java/lang/Math", "max", "(II)I"⟩
abbrev oM13 : MethodName := ⟨"com/example/narrows/narrows/SplitMix64", "nextLong", "()J"⟩
abbrev oM14 : MethodName := ⟨"com/example/narrows/narrows/Subsetter", "<init>", "(II)V"⟩
abbrev oM15 : MethodName := ⟨"java/util/BitSet", "checkInvariants", "()V"⟩
abbrev oM16 : MethodName := ⟨"java/lang/Integer", "numberOfLeadingZeros", "(I)I"⟩
abbrev oM17 : MethodName := ⟨"com/example/narrows/narrows/SubsetChange", "removedCount", "()I"⟩
abbrev oM18 : MethodName := ⟨"java/lang/Math", "min", "(II)I"⟩
abbrev oM19 : MethodName := ⟨"com/example/narrows/narrows/SubsetChange", "between", "([I[I)Lcom/example/narrows/narrows/SubsetChange;"⟩
abbrev oM20 : MethodName := ⟨"com/example/narrows/narrows/Churn", "connectionsBefore", "()J"⟩
abbrev oM21 : MethodName := ⟨"java/util/Arrays", "copyOf", "([II)[I"⟩
abbrev oM22 : MethodName := ⟨"java/util/BitSet", "expandTo", "(I)V"⟩
abbrev oM23 : MethodName := ⟨"com/example/narrows/narrows/Subsetter", "lotAt", "(I)I"⟩
abbrev oM24 : MethodName := ⟨"java/lang/Long", "remainderUnsigned", "(JJ)J"⟩
abbrev oM25 : MethodName := ⟨"com/example/narrows/narrows/Subsetter$Stretch", "<init>", "(JII)V"⟩
abbrev oM26 : MethodName := ⟨"java/lang/Integer", "reverse", "(I)I"⟩
abbrev oM27 : MethodName := ⟨"com/example/narrows/narrows/Subsetter", "lotsHolding", "([IJ)I"⟩
abbrev oM28 : MethodName := ⟨"com/example/narrows/narrows/Subsetter", "takeRow", "(I[II[II)I"⟩
abbrev oM29 : MethodName := ⟨"com/example/narrows/narrows/SubsetChange", "<init>", "([I[I)V"⟩
abbrev oM30 : MethodName := ⟨"com/example/narrows/narrows/Subsetter", "checkClients", "(I)V"⟩
abbrev oM31 : MethodName := ⟨"com/example/narrows/narrows/Subsetter", "sharedWalk", "(I)[I"⟩
abbrev oM32 : MethodName := ⟨"com/example/narrows/narrows/SplitMix64", "<init>", "(J)V"⟩
abbrev oM33 : MethodName := ⟨"com/example/narrows/narrows/Churn", "<init>", "(IIIIII)V"⟩
abbrev oM34 : MethodName := ⟨"com/example/narrows/narrows/Subsetter", "walk", "(II)[I"⟩
abbrev oM35 : MethodName := ⟨"java/lang/Integer", "toUnsignedLong", "(I)J"⟩
abbrev oM36 : MethodName := ⟨"java/util/BitSet", "ensureCapacity", "(I)V"⟩
abbrev oM37 : MethodName := ⟨"java/lang/Integer", "reverseBytes", "(I)I"⟩
abbrev oM38 : MethodName := ⟨"java/util/BitSet", "initWords", "(I)V"⟩
abbrev oM39 : MethodName := ⟨"java/util/BitSet", "<init>", "(I)V"⟩
abbrev oM40 : MethodName := ⟨"java/lang/Math", "min", "(JJ)J"⟩
theorem d1 : oDs jdk_29_method_65_code [(0, .iload_n 0, 1), (1, .iload_n 1, 1), (2, .if_icmp .lt 7, 3), (5, .iload_n 0, 1), (6, .goto 4, 3), (9, .iload_n 1, 1), (10, .ireturn, 1)] := by decide +kernel
theorem d2 : oDs prog_7_method_1_code [(0, .aload_n 0, 1), (1, .invokespecial 1, 3), (4, .iload_n 1, 1), (5, .invokestatic 7, 3), (8, .iload 4, 2), (10, .iconst 1, 1), (11, .if_icmp .ge 18, 3), (29, .new 8, 3), (32, .dup, 1), (33, .iload_n 2, 1), (34, .iload_n 3, 1), (35, .invokespecial 22, 3), (38, .astore 7, 2), (40, .new 8, 3), (43, .dup, 1), (44, .iload 5, 2), (46, .iload 6, 2), (48, .invokespecial 22, 3), (51, .astore 8, 2), (53, .aload_n 0, 1), (54, .iload_n 1, 1), (55, .putfield 25, 3), (58, .aload_n 0, 1), (59, .iload_n 2, 1), (60, .putfield 31, 3), (63, .aload_n 0, 1), (64, .iload_n 3, 1), (65, .putfield 34, 3), (68, .aload_n 0, 1), (69, .iload 4, 2), (71, .putfield 37, 3), (74, .aload_n 0, 1), (75, .iload 5, 2), (77, .putfield 40, 3), (80, .aload_n 0, 1), (81, .iload 6, 2), (83, .putfield 43, 3), (86, .lconst 0, 1), (87, .lstore 9, 2), (89, .iconst 0, 1), (90, .istore 11, 2), (92, .iconst 0, 1), (93, .istore 12, 2), (95, .iload_n 1, 1), (96, .iload 4, 2), (98, .invokestatic 46, 3), (101, .istore 13, 2), (103, .iconst 0, 1), (104, .istore 14, 2), (106, .iload 14, 2), (108, .iload 13, 2), (110, .if_icmp .ge 63, 3), (113, .aload 7, 2), (115, .iload 14, 2), (117, .invokevirtual 52, 3), (120, .astore 15, 2), (122, .aload 15, 2), (124, .aload 8, 2), (126, .iload 14, 2), (128, .invokevirtual 52, 3), (131, .invokestatic 56, 3), (134, .invokevirtual 62, 3), (137, .istore 16, 2), (139, .lload 9, 2), (141, .iload 16, 2), (143, .i2l, 1), (144, .ladd, 1), (145, .lstore 9, 2), (147, .iload 11, 2), (149, .iload 16, 2), (151, .invokestatic 66, 3), (154, .istore 11, 2), (156, .iload 16, 2), (158, .aload 15, 2), (160, .arraylength, 1), (161, .if_icmp .ne 6, 3), (164, .iinc 12 1, 3), (167, .iinc 14 1, 3), (170, .goto (-64), 3), (173, .aload_n 0, 1), (174, .lload 9, 2), (176, .putfield 69, 3), (179, .aload_n 0, 1), (180, .iload 11, 2), (182, .putfield 73, 3), (185, .aload_n 0, 1), (186, .iload 12, 2), (188, .putfield 76, 3), (191, .return_, 1)] := by decide +kernel
theorem d4 : oDs prog_29_method_15_code [(0, .iload_n 0, 1), (1, .iconst 1, 1), (2, .if_icmp .ge 17, 3), (19, .return_, 1)] := by decide +kernel
theorem d5 : oDs prog_29_method_1_code [(0, .aload_n 0, 1), (1, .invokespecial 1, 3), (4, .iload_n 1, 1), (5, .iconst 1, 1), (6, .if_icmp .ge 17, 3), (23, .iload_n 2, 1), (24, .iconst 1, 1), (25, .if_icmp .ge 17, 3), (42, .iload_n 2, 1), (43, .iload_n 1, 1), (44, .if_icmp .le 18, 3), (62, .aload_n 0, 1), (63, .iload_n 1, 1), (64, .putfield 20, 3), (67, .aload_n 0, 1), (68, .iload_n 2, 1), (69, .putfield 26, 3), (72, .aload_n 0, 1), (73, .iload_n 1, 1), (74, .iconst 1, 1), (75, .isub, 1), (76, .bipush 10, 2), (78, .idiv, 1), (79, .iconst 1, 1), (80, .iadd, 1), (81, .putfield 29, 3), (84, .aload_n 0, 1), (85, .iconst 1, 1), (86, .bipush 32, 2), (88, .aload_n 0, 1), (89, .getfield 29, 3), (92, .iconst 1, 1), (93, .isub, 1), (94, .invokestatic 34, 3), (97, .isub, 1), (98, .invokestatic 38, 3), (101, .putfield 44, 3), (104, .aload_n 0, 1), (105, .iload_n 2, 1), (106, .iload_n 1, 1), (107, .bipush 10, 2), (109, .idiv, 1), (110, .if_icmp .gt 7, 3), (113, .iconst 1, 1), (114, .goto 4, 3), (117, .iconst 0, 1), (118, .putfield 47, 3), (121, .return_, 1)] := by decide +kernel
theorem d6 : oDs jdk_33_method_47_code [(0, .iload_n 0, 1), (1, .ifCond .gt 14, 3), (4, .iload_n 0, 1), (5, .ifCond .ne 8, 3), (8, .bipush 32, 2), (10, .goto 4, 3), (14, .ireturn, 1), (15, .bipush 31, 2), (17, .istore_n 1, 1), (18, .iload_n 0, 1), (19, .ldc_w 264, 3), (22, .if_icmp .lt 11, 3), (33, .iload_n 0, 1), (34, .sipush 256, 3), (37, .if_icmp .lt 11, 3), (48, .iload_n 0, 1), (49, .bipush 16, 2), (51, .if_icmp .lt 10, 3), (61, .iload_n 0, 1), (62, .iconst 4, 1), (63, .if_icmp .lt 10, 3), (73, .iload_n 1, 1), (74, .iload_n 0, 1), (75, .iconst 1, 1), (76, .iushr, 1), (77, .isub, 1), (78, .ireturn, 1)] := by decide +kernel
theorem d7 : oDs jdk_29_method_69_code [(0, .iload_n 0, 1), (1, .iload_n 1, 1), (2, .if_icmp .gt 7, 3), (5, .iload_n 0, 1), (6, .goto 4, 3), (9, .iload_n 1, 1), (10, .ireturn, 1)] := by decide +kernel
theorem d8 : oDs prog_29_method_2_code [(0, .iload_n 1, 1), (1, .ifCond .ge 17, 3), (18, .iload_n 1, 1), (19, .bipush 10, 2), (21, .idiv, 1), (22, .istore_n 2, 1), (23, .iload_n 1, 1), (24, .bipush 10, 2), (26, .irem, 1), (27, .istore_n 3, 1), (28, .iload_n 2, 1), (29, .ifCond .ne 20, 3), (32, .aload_n 0, 1), (33, .getfield 47, 3), (36, .ifCond .ne 13, 3), (39, .aload_n 0, 1), (40, .iload_n 3, 1), (41, .invokevirtual 52, 3), (44, .astore 4, 2), (46, .goto 50, 3), (49, .iload_n 2, 1), (50, .iconst 1, 1), (51, .if_icmp .ne 33, 3), (84, .aload_n 0, 1), (85, .iload_n 2, 1), (86, .getstatic 59, 3), (89, .iload_n 3, 1), (90, .iaload, 1), (91, .invokevirtual 63, 3), (94, .astore 4, 2), (96, .aload 4, 2), (98, .invokestatic 67, 3), (101, .aload 4, 2), (103, .areturn, 1)] := by decide +kernel
theorem d9 : oDs prog_29_method_5_code [(0, .aload_n 0, 1), (1, .iconst 0, 1), (2, .aload_n 0, 1), (3, .getfield 29, 3), (6, .invokevirtual 86, 3), (9, .astore_n 2, 1), (10, .ldc2_w 89, 3), (13, .aload_n 0, 1), (14, .getfield 26, 3), (17, .i2l, 1), (18, .lmul, 1), (19, .lstore_n 3, 1), (20, .lload_n 3, 1), (21, .aload_n 0, 1), (22, .getfield 20, 3), (25, .i2l, 1), (26, .ldiv, 1), (27, .lstore 5, 2), (29, .aload_n 0, 1), (30, .aload_n 2, 1), (31, .lload_n 3, 1), (32, .lload 5, 2), (34, .aload_n 0, 1), (35, .getfield 20, 3), (38, .i2l, 1), (39, .lmul, 1), (40, .lsub, 1), (41, .invokevirtual 91, 3), (44, .istore 7, 2), (46, .new 95, 3), (49, .dup, 1), (50, .iload_n 1, 1), (51, .i2l, 1), (52, .aload_n 0, 1), (53, .getfield 26, 3), (56, .i2l, 1), (57, .lmul, 1), (58, .aload_n 0, 1), (59, .getfield 26, 3), (62, .aload_n 0, 1), (63, .getfield 20, 3), (66, .invokespecial 97, 3), (69, .astore 8, 2), (71, .lconst 0, 1), (72, .lstore 9, 2), (74, .lload 9, 2), (76, .lload 5, 2), (78, .lcmp, 1), (79, .ifCond .ge 30, 3), (82, .aload_n 0, 1), (83, .aload_n 2, 1), (84, .aload_n 2, 1), (85, .arraylength, 1), (86, .aload 8, 2), (88, .invokevirtual 100, 3), (91, .ifCond .eq 9, 3), (94, .aload 8, 2), (96, .getfield 104, 3), (99, .areturn, 1), (100, .lload 9, 2), (102, .lconst 1, 1), (103, .ladd, 1), (104, .lstore 9, 2), (106, .goto (-32), 3)] := by decide +kernel
theorem d10 : oDs prog_29_method_13_code [(0, .iconst 1, 1), (1, .aload_n 0, 1), (2, .getfield 44, 3), (5, .ishl, 1), (6, .istore_n 3, 1), (7, .aload_n 0, 1), (8, .iload_n 1, 1), (9, .invokevirtual 142, 3), (12, .istore 4, 2), (14, .iload_n 2, 1), (15, .newarray .int, 2), (17, .astore 5, 2), (19, .iconst 0, 1), (20, .istore 6, 2), (22, .iconst 0, 1), (23, .istore 7, 2), (25, .iload 6, 2), (27, .iload_n 2, 1), (28, .if_icmp .ge 43, 3), (31, .aload_n 0, 1), (32, .iload 4, 2), (34, .iload 7, 2), (36, .iadd, 1), (37, .iload_n 3, 1), (38, .iconst 1, 1), (39, .isub, 1), (40, .iand, 1), (41, .invokevirtual 145, 3), (44, .istore 8, 2), (46, .iload 8, 2), (48, .aload_n 0, 1), (49, .getfield 29, 3), (52, .if_icmp .ge 13, 3), (55, .aload 5, 2), (57, .iload 6, 2), (59, .iload 8, 2), (61, .iastore, 1), (62, .iinc 6 1, 3), (65, .iinc 7 1, 3), (68, .goto (-43), 3), (71, .aload 5, 2), (73, .areturn, 1)] := by decide +kernel
theorem d11 : oDs prog_29_method_17_code [(0, .iload_n 1, 1), (1, .invokestatic 152, 3), (4, .invokestatic 155, 3), (7, .lstore_n 2, 1), (8, .bipush 32, 2), (10, .aload_n 0, 1), (11, .getfield 44, 3), (14, .isub, 1), (15, .istore 4, 2), (17, .lload_n 2, 1), (18, .lconst 1, 1), (19, .iload 4, 2), (21, .lshl, 1), (22, .ladd, 1), (23, .lconst 1, 1), (24, .lsub, 1), (25, .iload 4, 2), (27, .lushr, 1), (28, .l2i, 1), (29, .ireturn, 1)] := by decide +kernel
theorem d12 : oDs jdk_33_method_52_code [(0, .iload_n 0, 1), (1, .ldc_w 265, 3), (4, .iand, 1), (5, .iconst 1, 1), (6, .ishl, 1), (7, .iload_n 0, 1), (8, .iconst 1, 1), (9, .iushr, 1), (10, .ldc_w 265, 3), (13, .iand, 1), (14, .ior, 1), (15, .istore_n 0, 1), (16, .iload_n 0, 1), (17, .ldc_w 266, 3), (20, .iand, 1), (21, .iconst 2, 1), (22, .ishl, 1), (23, .iload_n 0, 1), (24, .iconst 2, 1), (25, .iushr, 1), (26, .ldc_w 266, 3), (29, .iand, 1), (30, .ior, 1), (31, .istore_n 0, 1), (32, .iload_n 0, 1), (33, .ldc_w 267, 3), (36, .iand, 1), (37, .iconst 4, 1), (38, .ishl, 1), (39, .iload_n 0, 1), (40, .iconst 4, 1), (41, .iushr, 1), (42, .ldc_w 267, 3), (45, .iand, 1), (46, .ior, 1), (47, .istore_n 0, 1), (48, .iload_n 0, 1), (49, .invokestatic 268, 3), (52, .ireturn, 1)] := by decide +kernel
theorem d13 : oDs jdk_33_method_57_code [(0, .iload_n 0, 1), (1, .bipush 24, 2), (3, .ishl, 1), (4, .iload_n 0, 1), (5, .ldc_w 274, 3), (8, .iand, 1), (9, .bipush 8, 2), (11, .ishl, 1), (12, .ior, 1), (13, .iload_n 0, 1), (14, .bipush 8, 2), (16, .iushr, 1), (17, .ldc_w 274, 3), (20, .iand, 1), (21, .ior, 1), (22, .iload_n 0, 1), (23, .bipush 24, 2), (25, .iushr, 1), (26, .ior, 1), (27, .ireturn, 1)] := by decide +kernel
theorem d14 : oDs jdk_33_method_42_code [(0, .iload_n 0, 1), (1, .i2l, 1), (2, .ldc2_w 262, 3), (5, .land, 1), (6, .lreturn, 1)] := by decide +kernel
theorem d15 : oDs prog_29_method_18_code [(0, .iload_n 1, 1), (1, .invokestatic 152, 3), (4, .bipush 32, 2), (6, .aload_n 0, 1), (7, .getfield 44, 3), (10, .isub, 1), (11, .iushr, 1), (12, .ireturn, 1)] := by decide +kernel
theorem d16 : oDs prog_29_method_11_code [(0, .iconst 0, 1), (1, .istore 4, 2), (3, .lconst 0, 1), (4, .lstore 5, 2), (6, .lload 5, 2), (8, .lload_n 2, 1), (9, .lcmp, 1), (10, .ifCond .ge 50, 3), (13, .aload_n 1, 1), (14, .iload 4, 2), (16, .iaload, 1), (17, .istore 7, 2), (19, .lload 5, 2), (21, .iload 7, 2), (23, .aload_n 0, 1), (24, .getfield 29, 3), (27, .iconst 1, 1), (28, .isub, 1), (29, .if_icmp .ne 19, 3), (32, .aload_n 0, 1), (33, .getfield 20, 3), (36, .i2l, 1), (37, .iload 7, 2), (39, .i2l, 1), (40, .ldc2_w 89, 3), (43, .lmul, 1), (44, .lsub, 1), (45, .goto 6, 3), (48, .ldc2_w 89, 3), (51, .ladd, 1), (52, .lstore 5, 2), (54, .iinc 4 1, 3), (57, .goto (-51), 3), (60, .iload 4, 2), (62, .ireturn, 1)] := by decide +kernel
theorem d17 : oDs prog_30_method_1_code [(0, .aload_n 0, 1), (1, .invokespecial 1, 3), (4, .aload_n 0, 1), (5, .lload_n 1, 1), (6, .putfield 7, 3), (9, .aload_n 0, 1), (10, .iload_n 3, 1), (11, .newarray .int, 2), (13, .putfield 13, 3), (16, .aload_n 0, 1), (17, .new 17, 3), (20, .dup, 1), (21, .iload 4, 2), (23, .invokespecial 19, 3), (26, .putfield 22, 3), (29, .return_, 1)] := by decide +kernel
theorem d18 : oDs jdk_92_method_5_code [(0, .aload_n 0, 1), (1, .invokespecial 21, 3), (4, .aload_n 0, 1), (5, .iconst 0, 1), (6, .putfield 7, 3), (9, .aload_n 0, 1), (10, .iconst 0, 1), (11, .putfield 24, 3), (14, .iload_n 1, 1), (15, .ifCond .ge 30, 3), (45, .aload_n 0, 1), (46, .iload_n 1, 1), (47, .invokevirtual 27, 3), (50, .aload_n 0, 1), (51, .iconst 1, 1), (52, .putfield 24, 3), (55, .return_, 1)] := by decide +kernel
theorem d19 : oDs jdk_92_method_6_code [(0, .aload_n 0, 1), (1, .iload_n 1, 1), (2, .iconst 1, 1), (3, .isub, 1), (4, .invokestatic 52, 3), (7, .iconst 1, 1), (8, .iadd, 1), (9, .newarray .long, 2), (11, .putfield 11, 3), (14, .return_, 1)] := by decide +kernel
theorem d20 : oDs jdk_92_method_1_code [(0, .iload_n 0, 1), (1, .bipush 6, 2), (3, .ishr, 1), (4, .ireturn, 1)] := by decide +kernel
theorem d21 : oDs prog_29_method_10_code [(0, .getstatic 59, 3), (3, .astore 4, 2), (5, .aload 4, 2), (7, .arraylength, 1), (8, .istore 5, 2), (10, .iconst 0, 1), (11, .istore 6, 2), (13, .iload 6, 2), (15, .iload 5, 2), (17, .if_icmp .ge 60, 3), (20, .aload 4, 2), (22, .iload 6, 2), (24, .iaload, 1), (25, .istore 7, 2), (27, .iconst 0, 1), (28, .istore 8, 2), (30, .iload 8, 2), (32, .iload_n 2, 1), (33, .if_icmp .ge 38, 3), (36, .aload_n 0, 1), (37, .iconst 0, 1), (38, .aload_n 1, 1), (39, .iload 8, 2), (41, .iaload, 1), (42, .iload 7, 2), (44, .invokevirtual 138, 3), (47, .istore 9, 2), (49, .iload 9, 2), (51, .ifCond .lt 14, 3), (54, .aload_n 3, 1), (55, .iload 9, 2), (57, .invokevirtual 125, 3), (60, .ifCond .eq 5, 3), (63, .iconst 1, 1), (64, .ireturn, 1), (65, .iinc 8 1, 3), (68, .goto (-38), 3), (71, .iinc 6 1, 3), (74, .goto (-61), 3), (77, .iconst 0, 1), (78, .ireturn, 1)] := by decide +kernel
theorem d22 : oDs prog_29_method_14_code [(0, .iload_n 2, 1), (1, .i2l, 1), (2, .ldc2_w 89, 3), (5, .lmul, 1), (6, .iload_n 1, 1), (7, .iload_n 2, 1), (8, .invokestatic 148, 3), (11, .iload_n 3, 1), (12, .iaload, 1), (13, .i2l, 1), (14, .ladd, 1), (15, .lstore 4, 2), (17, .lload 4, 2), (19, .aload_n 0, 1), (20, .getfield 20, 3), (23, .i2l, 1), (24, .lcmp, 1), (25, .ifCond .ge 9, 3), (28, .lload 4, 2), (30, .l2i, 1), (31, .goto 4, 3), (34, .iconst (-1), 1), (35, .ireturn, 1)] := by decide +kernel
theorem d23 : oDs prog_29_method_19_code [(0, .bipush 10, 2), (2, .newarray .int, 2), (4, .astore_n 2, 1), (5, .iconst 0, 1), (6, .istore_n 3, 1), (7, .iload_n 3, 1), (8, .bipush 10, 2), (10, .if_icmp .ge 13, 3), (13, .aload_n 2, 1), (14, .iload_n 3, 1), (15, .iload_n 3, 1), (16, .iastore, 1), (17, .iinc 3 1, 3), (20, .goto (-13), 3), (23, .iload_n 0, 1), (24, .i2l, 1), (25, .iload_n 1, 1), (26, .i2l, 1), (27, .ldc2_w 159, 3), (30, .lmul, 1), (31, .invokestatic 161, 3), (34, .astore_n 3, 1), (35, .bipush 9, 2), (37, .istore 4, 2), (39, .iload 4, 2), (41, .ifCond .le 44, 3), (44, .aload_n 3, 1), (45, .invokevirtual 167, 3), (48, .iload 4, 2), (50, .iconst 1, 1), (51, .iadd, 1), (52, .i2l, 1), (53, .invokestatic 171, 3), (56, .l2i, 1), (57, .istore 5, 2), (59, .aload_n 2, 1), (60, .iload 4, 2), (62, .iaload, 1), (63, .istore 6, 2), (65, .aload_n 2, 1), (66, .iload 4, 2), (68, .aload_n 2, 1), (69, .iload 5, 2), (71, .iaload, 1), (72, .iastore, 1), (73, .aload_n 2, 1), (74, .iload 5, 2), (76, .iload 6, 2), (78, .iastore, 1), (79, .iinc 4 (-1), 3), (82, .goto (-43), 3), (85, .aload_n 2, 1), (86, .areturn, 1)] := by decide +kernel
theorem d24 : oDs prog_27_method_2_code [(0, .new 8, 3), (3, .dup, 1), (4, .lload_n 0, 1), (5, .lload_n 2, 1), (6, .ldc2_w 13, 3), (9, .lmul, 1), (10, .ladd, 1), (11, .invokespecial 15, 3), (14, .areturn, 1)] := by decide +kernel
theorem d25 : oDs prog_27_method_1_code [(0, .aload_n 0, 1), (1, .invokespecial 1, 3), (4, .aload_n 0, 1), (5, .lload_n 1, 1), (6, .putfield 7, 3), (9, .return_, 1)] := by decide +kernel
theorem d26 : oDs prog_27_method_3_code [(0, .aload_n 0, 1), (1, .dup, 1), (2, .getfield 7, 3), (5, .ldc2_w 13, 3), (8, .ladd, 1), (9, .putfield 7, 3), (12, .aload_n 0, 1), (13, .getfield 7, 3), (16, .lstore_n 1, 1), (17, .lload_n 1, 1), (18, .lload_n 1, 1), (19, .bipush 30, 2), (21, .lushr, 1), (22, .lxor, 1), (23, .ldc2_w 18, 3), (26, .lmul, 1), (27, .lstore_n 1, 1), (28, .lload_n 1, 1), (29, .lload_n 1, 1), (30, .bipush 27, 2), (32, .lushr, 1), (33, .lxor, 1), (34, .ldc2_w 20, 3), (37, .lmul, 1), (38, .lstore_n 1, 1), (39, .lload_n 1, 1), (40, .lload_n 1, 1), (41, .bipush 31, 2), (43, .lushr, 1), (44, .lxor, 1), (45, .lreturn, 1)] := by decide +kernel
theorem d27 : oDs jdk_35_method_45_code [(0, .lload_n 2, 1), (1, .lconst 0, 1), (2, .lcmp, 1), (3, .ifCond .lt 37, 3), (6, .lload_n 0, 1), (7, .iconst 1, 1), (8, .lushr, 1), (9, .lload_n 2, 1), (10, .ldiv, 1), (11, .iconst 1, 1), (12, .lshl, 1), (13, .lstore 4, 2), (15, .lload_n 0, 1), (16, .lload 4, 2), (18, .lload_n 2, 1), (19, .lmul, 1), (20, .lsub, 1), (21, .lstore 6, 2), (23, .lload 6, 2), (25, .lload 6, 2), (27, .lload_n 2, 1), (28, .lsub, 1), (29, .ldc2_w 306, 3), (32, .lxor, 1), (33, .bipush 63, 2), (35, .lshr, 1), (36, .lload_n 2, 1), (37, .land, 1), (38, .lsub, 1), (39, .lreturn, 1)] := by decide +kernel
theorem d28 : oDs prog_30_method_2_code [(0, .aload_n 0, 1), (1, .getfield 7, 3), (4, .lconst 0, 1), (5, .lcmp, 1), (6, .ifCond .le 15, 3), (9, .aload_n 0, 1), (10, .dup, 1), (11, .getfield 7, 3), (14, .lconst 1, 1), (15, .lsub, 1), (16, .putfield 7, 3), (19, .iconst 0, 1), (20, .ireturn, 1), (21, .aload_n 0, 1), (22, .getfield 26, 3), (25, .aload_n 0, 1), (26, .getfield 13, 3), (29, .arraylength, 1), (30, .if_icmp .ge 42, 3), (33, .aload_n 0, 1), (34, .getfield 22, 3), (37, .iload_n 1, 1), (38, .invokevirtual 30, 3), (41, .ifCond .ne 31, 3), (44, .aload_n 0, 1), (45, .getfield 22, 3), (48, .iload_n 1, 1), (49, .invokevirtual 34, 3), (52, .aload_n 0, 1), (53, .getfield 13, 3), (56, .aload_n 0, 1), (57, .getfield 26, 3), (60, .iload_n 1, 1), (61, .iastore, 1), (62, .aload_n 0, 1), (63, .dup, 1), (64, .getfield 26, 3), (67, .iconst 1, 1), (68, .iadd, 1), (69, .putfield 26, 3), (72, .aload_n 0, 1), (73, .getfield 26, 3), (76, .aload_n 0, 1), (77, .getfield 13, 3), (80, .arraylength, 1), (81, .if_icmp .ne 7, 3), (84, .iconst 1, 1), (85, .goto 4, 3), (88, .iconst 0, 1), (89, .ireturn, 1)] := by decide +kernel
theorem d29 : oDs jdk_92_method_26_code [(0, .iload_n 1, 1), (1, .ifCond .ge 30, 3), (31, .aload_n 0, 1), (32, .invokevirtual 56, 3), (35, .iload_n 1, 1), (36, .invokestatic 52, 3), (39, .istore_n 2, 1), (40, .iload_n 2, 1), (41, .aload_n 0, 1), (42, .getfield 7, 3), (45, .if_icmp .ge 22, 3), (48, .aload_n 0, 1), (49, .getfield 11, 3), (52, .iload_n 2, 1), (53, .laload, 1), (54, .lconst 1, 1), (55, .iload_n 1, 1), (56, .lshl, 1), (57, .land, 1), (58, .lconst 0, 1), (59, .lcmp, 1), (60, .ifCond .eq 7, 3), (63, .iconst 1, 1), (64, .goto 4, 3), (67, .iconst 0, 1), (68, .ireturn, 1)] := by decide +kernel
theorem d30 : oDs jdk_92_method_2_code [(0, .getstatic 3, 3), (3, .ifCond .ne 34, 3), (37, .getstatic 3, 3), (40, .ifCond .ne 30, 3), (70, .getstatic 3, 3), (73, .ifCond .ne 37, 3), (110, .return_, 1)] := by decide +kernel
theorem d31 : oDs jdk_92_method_19_code [(0, .iload_n 1, 1), (1, .ifCond .ge 30, 3), (31, .iload_n 1, 1), (32, .invokestatic 52, 3), (35, .istore_n 2, 1), (36, .aload_n 0, 1), (37, .iload_n 2, 1), (38, .invokevirtual 155, 3), (41, .aload_n 0, 1), (42, .getfield 11, 3), (45, .iload_n 2, 1), (46, .dup2, 1), (47, .laload, 1), (48, .lconst 1, 1), (49, .iload_n 1, 1), (50, .lshl, 1), (51, .lor, 1), (52, .lastore, 1), (53, .aload_n 0, 1), (54, .invokevirtual 56, 3), (57, .return_, 1)] := by decide +kernel
theorem d32 : oDs jdk_92_method_15_code [(0, .iload_n 1, 1), (1, .iconst 1, 1), (2, .iadd, 1), (3, .istore_n 2, 1), (4, .aload_n 0, 1), (5, .getfield 7, 3), (8, .iload_n 2, 1), (9, .if_icmp .ge 13, 3), (12, .aload_n 0, 1), (13, .iload_n 2, 1), (14, .invokevirtual 139, 3), (17, .aload_n 0, 1), (18, .iload_n 2, 1), (19, .putfield 7, 3), (22, .return_, 1)] := by decide +kernel
theorem d33 : oDs jdk_92_method_14_code [(0, .aload_n 0, 1), (1, .getfield 11, 3), (4, .arraylength, 1), (5, .iload_n 1, 1), (6, .if_icmp .ge 32, 3), (38, .return_, 1)] := by decide +kernel
theorem d38 : oDs prog_28_method_2_code [(0, .aload_n 1, 1), (1, .arraylength, 1), (2, .newarray .int, 2), (4, .astore_n 2, 1), (5, .aload_n 0, 1), (6, .arraylength, 1), (7, .newarray .int, 2), (9, .astore_n 3, 1), (10, .iconst 0, 1), (11, .istore 4, 2), (13, .iconst 0, 1), (14, .istore 5, 2), (16, .iconst 0, 1), (17, .istore 6, 2), (19, .iconst 0, 1), (20, .istore 7, 2), (22, .iload 6, 2), (24, .aload_n 0, 1), (25, .arraylength, 1), (26, .if_icmp .lt 10, 3), (29, .iload 7, 2), (31, .aload_n 1, 1), (32, .arraylength, 1), (33, .if_icmp .ge 89, 3), (36, .iload 7, 2), (38, .aload_n 1, 1), (39, .arraylength, 1), (40, .if_icmp .eq 21, 3), (43, .iload 6, 2), (45, .aload_n 0, 1), (46, .arraylength, 1), (47, .if_icmp .ge 31, 3), (50, .aload_n 0, 1), (51, .iload 6, 2), (53, .iaload, 1), (54, .aload_n 1, 1), (55, .iload 7, 2), (57, .iaload, 1), (58, .if_icmp .ge 20, 3), (61, .aload_n 3, 1), (62, .iload 5, 2), (64, .aload_n 0, 1), (65, .iload 6, 2), (67, .iaload, 1), (68, .iastore, 1), (69, .iinc 5 1, 3), (72, .iinc 6 1, 3), (75, .goto (-53), 3), (78, .iload 6, 2), (80, .aload_n 0, 1), (81, .arraylength, 1), (82, .if_icmp .eq 14, 3), (85, .aload_n 1, 1), (86, .iload 7, 2), (88, .iaload, 1), (89, .aload_n 0, 1), (90, .iload 6, 2), (92, .iaload, 1), (93, .if_icmp .ge 20, 3), (96, .aload_n 2, 1), (97, .iload 4, 2), (99, .aload_n 1, 1), (100, .iload 7, 2), (102, .iaload, 1), (103, .iastore, 1), (104, .iinc 4 1, 3), (107, .iinc 7 1, 3), (110, .goto (-88), 3), (113, .iinc 6 1, 3), (116, .iinc 7 1, 3), (119, .goto (-97), 3), (122, .new 8, 3), (125, .dup, 1), (126, .aload_n 2, 1), (127, .iload 4, 2), (129, .invokestatic 16, 3), (132, .aload_n 3, 1), (133, .iload 5, 2), (135, .invokestatic 16, 3), (138, .invokespecial 20, 3), (141, .areturn, 1)] := by decide +kernel
theorem d39 : oDs prog_28_method_3_code [(0, .iload_n 1, 1), (1, .ifCond .ne 9, 3), (4, .getstatic 23, 3), (7, .goto 8, 3), (10, .aload_n 0, 1), (11, .iload_n 1, 1), (12, .invokestatic 26, 3), (15, .areturn, 1)] := by decide +kernel
theorem d40 : oDs jdk_65_method_123_code [(0, .iload_n 1, 1), (1, .aload_n 0, 1), (2, .arraylength, 1), (3, .if_icmp .ne 11, 3), (6, .aload_n 0, 1), (7, .invokevirtual 316, 3), (10, .checkcast 317, 3), (13, .areturn, 1), (14, .iload_n 1, 1), (15, .newarray .int, 2), (17, .astore_n 2, 1), (18, .aload_n 0, 1), (19, .iconst 0, 1), (20, .aload_n 2, 1), (21, .iconst 0, 1), (22, .aload_n 0, 1), (23, .arraylength, 1), (24, .iload_n 1, 1), (25, .invokestatic 304, 3), (28, .invokestatic 150, 3), (31, .aload_n 2, 1), (32, .areturn, 1)] := by decide +kernel
theorem d41 : oDs prog_28_method_1_code [(0, .aload_n 0, 1), (1, .invokespecial 1, 3), (4, .aload_n 0, 1), (5, .aload_n 1, 1), (6, .putfield 7, 3), (9, .aload_n 0, 1), (10, .aload_n 2, 1), (11, .putfield 13, 3), (14, .return_, 1)] := by decide +kernel
theorem d42 : oDs prog_28_method_6_code [(0, .aload_n 0, 1), (1, .getfield 13, 3), (4, .arraylength, 1), (5, .ireturn, 1)] := by decide +kernel
theorem d43 : oDs prog_7_method_8_code [(0, .aload_n 0, 1), (1, .getfield 25, 3), (4, .i2l, 1), (5, .aload_n 0, 1), (6, .getfield 34, 3), (9, .i2l, 1), (10, .lmul, 1), (11, .lreturn, 1)] := by decide +kernel
theorem d44 : oDs prog_29_method_12_code [(0, .aload_n 0, 1), (1, .iload_n 1, 1), (2, .aload_n 0, 1), (3, .getfield 29, 3), (6, .i2l, 1), (7, .aload_n 0, 1), (8, .getfield 26, 3), (11, .i2l, 1), (12, .lconst 1, 1), (13, .ladd, 1), (14, .invokestatic 107, 3), (17, .l2i, 1), (18, .invokevirtual 86, 3), (21, .astore_n 3, 1), (22, .aload_n 0, 1), (23, .getfield 26, 3), (26, .newarray .int, 2), (28, .astore 4, 2), (30, .iconst 0, 1), (31, .istore 5, 2), (33, .iconst 0, 1), (34, .istore 6, 2), (36, .iload 5, 2), (38, .aload_n 0, 1), (39, .getfield 26, 3), (42, .if_icmp .ge 28, 3), (45, .aload_n 0, 1), (46, .iload_n 1, 1), (47, .aload_n 3, 1), (48, .iload_n 2, 1), (49, .iload 6, 2), (51, .iadd, 1), (52, .bipush 10, 2), (54, .irem, 1), (55, .aload 4, 2), (57, .iload 5, 2), (59, .invokevirtual 134, 3), (62, .istore 5, 2), (64, .iinc 6 1, 3), (67, .goto (-31), 3), (70, .aload 4, 2), (72, .areturn, 1)] := by decide +kernel
theorem d45 : oDs jdk_29_method_70_code [(0, .lload_n 0, 1), (1, .lload_n 2, 1), (2, .lcmp, 1), (3, .ifCond .gt 7, 3), (6, .lload_n 0, 1), (7, .goto 4, 3), (11, .lreturn, 1)] := by decide +kernel
theorem d46 : oDs prog_29_method_9_code [(0, .iload 5, 2), (2, .istore 6, 2), (4, .iconst 0, 1), (5, .istore 7, 2), (7, .iload 7, 2), (9, .aload_n 2, 1), (10, .arraylength, 1), (11, .if_icmp .ge 45, 3), (14, .iload 6, 2), (16, .aload_n 0, 1), (17, .getfield 26, 3), (20, .if_icmp .ge 36, 3), (23, .aload_n 0, 1), (24, .iload_n 1, 1), (25, .aload_n 2, 1), (26, .iload 7, 2), (28, .iaload, 1), (29, .iload_n 3, 1), (30, .invokevirtual 138, 3), (33, .istore 8, 2), (35, .iload 8, 2), (37, .ifCond .lt 13, 3), (40, .aload 4, 2), (42, .iload 6, 2), (44, .iload 8, 2), (46, .iastore, 1), (47, .iinc 6 1, 3), (50, .iinc 7 1, 3), (53, .goto (-46), 3), (56, .iload 6, 2), (58, .ireturn, 1)] := by decide +kernel
variable {p : Program} {l : Launch} {e : Env} {s : State} {m : MethodId} {args : Array Value} {below : List Frame} {meth : Method} {c : Code} {T0 : State} {locs : List Loc} {cells slots : Nat} {Z : State} {a0 : Array Value} {h0 : Heap} {n0 : Nat}
def own_QP (v0 : Option Value) (h0 : Heap) (n0 : Nat) (v : Option Value) (h : Heap) (L : List Loc) : Prop := v = v0 ∧ Fr n0 L ∧ h = h0
def own_QL (n0 : Nat) (v : Option Value) (h : Heap) (L : List Loc) : Prop := v = some (.int 1) ∧ Fr n0 L
theorem own_ext {h h' : Heap} (K : Keep h h' []) : Ext h h' := ⟨K.1, fun x c q => K.2.1 x c q (by simp)⟩
theorem own_sta_keep {Z : State} {h h' : Heap} {a : Addr} {C K n d : String} {w : Value} (S : Sta Z h C n d w) (k : Keep h h' [a]) (E : Exa Z h a K) : Sta Z h' C n d w := by
 obtain ⟨cf, i, kk, f, st, cell, h1, h2, h3, h4, h5, h6, h7⟩ := S
 refine ⟨cf, i, kk, f, st, cell, h1, h2, h3, h4, k.2.1 st cell h5 ?_, h6, h7⟩
 intro q
 cases List.mem_singleton.mp q
 obtain ⟨c2, _, g1, -, -, g4, -⟩ := E
 cases h5.symm.trans g1
 rw [g4] at h6
 cases h6
theorem own_fld_ne {Z : State} {h : Heap} {a b : Addr} {C n d : String} {v w : Value} (F : Fld Z h a C n d v) (G : Fld Z h b C n d w) (q : v ≠ w) : ¬ (a = b) := fun e => by
 subst e
 obtain ⟨c1, f1, k1, i1, g1, a1, a2, -, -, -, -, a7⟩ := F
 obtain ⟨c2, f2, k2, i2, g2, b1, b2, -, -, -, -, b7⟩ := G
 cases a1.symm.trans b1
 cases a2.symm.trans b2
 exact q (Option.some.inj (a7.symm.trans b7))
theorem own_eqI {t : Term} {args : Array Value} {s : State} {k : Int32} (h : (Cond.eq t (.int k)).value args s none s [] = some true) : t.eval args s none [] s = some (.int k) := by
 cases ht : t.eval args s none [] s with
 | none => simp [Cond.value, Term.eval, ht] at h
 | some v => cases v <;> simp [Cond.value, Term.eval, ht] at h ⊢; exact h
theorem own_eqL {t : Term} {args : Array Value} {s : State} {k : Int64} (h : (Cond.eq t (.long k)).value args s none s [] = some true) : t.eval args s none [] s = some (.long k) := by
 cases ht : t.eval args s none [] s with
 | none => simp [Cond.value, Term.eval, ht] at h
 | some v => cases v <;> simp [Cond.value, Term.eval, ht] at h ⊢; exact h
def own_us (x y : Int32) : Int32 := (x.toUInt32 >>> (y &&& 31).toUInt32).toInt32
def own_usl (x : Int64) (y : Int32) : Int64 := (x.toUInt64 >>> (y &&& 0x3f).toInt64.toUInt64).toInt64
def own_sl (x : Int64) (y : Int32) : Int64 := x <<< (y &&& 0x3f).toInt64
def own_sr (x : Int64) (y : Int32) : Int64 := x >>> (y &&& 0x3f).toInt64
section OwnBase
variable {Z : State} {h h' : Heap} {a b : Addr} {n j x : Int32} {vs : List Int32} {ws : List Int64} {sl : Nat} {v : Value} {W : List Addr}
def own_ia (Z : State) (h : Heap) (a : Addr) (n : Int32) : Prop := ∃ c : Cell, Arr Z h a c .int ∧ c.slots.size = n.toNatClampNeg ∧ ¬ n < 0 ∧ ∀ k, k < c.slots.size → ∃ z : Int32, c.slots[k]? = some (.int z)
def own_il (Z : State) (h : Heap) (a : Addr) (n : Int32) (vs : List Int32) : Prop := ∃ c : Cell, Arr Z h a c .int ∧ c.slots.size = n.toNatClampNeg ∧ ¬ n < 0 ∧ ∀ k, k < c.slots.size → c.slots[k]? = some (.int (vs.getD k 0))
def own_jl (Z : State) (h : Heap) (a : Addr) (n : Int32) (ws : List Int64) : Prop := ∃ c : Cell, Arr Z h a c .long ∧ c.slots.size = n.toNatClampNeg ∧ ¬ n < 0 ∧ ∀ k, k < c.slots.size → c.slots[k]? = some (.long (ws.getD k 0))
theorem own_il.ia (V : own_il Z h a n vs) : own_ia Z h a n := by obtain ⟨c, A, S, M, H⟩ := V; exact ⟨c, A, S, M, fun k hk => ⟨_, H k hk⟩⟩
theorem own_ia.lt (V : own_ia Z h a n) : a < h.size := by obtain ⟨c, A, -⟩ := V; exact A.lt
theorem own_il.lt (V : own_il Z h a n vs) : a < h.size := by obtain ⟨c, A, -⟩ := V; exact A.lt
theorem own_jl.lt (V : own_jl Z h a n ws) : a < h.size := by obtain ⟨c, A, -⟩ := V; exact A.lt
theorem own_ia.ext (V : own_ia Z h a n) (E : Ext h h') : own_ia Z h' a n := by obtain ⟨c, A, r⟩ := V; exact ⟨c, A.ext E, r⟩
theorem own_il.ext (V : own_il Z h a n vs) (E : Ext h h') : own_il Z h' a n vs := by obtain ⟨c, A, r⟩ := V; exact ⟨c, A.ext E, r⟩
theorem own_jl.ext (V : own_jl Z h a n ws) (E : Ext h h') : own_jl Z h' a n ws := by obtain ⟨c, A, r⟩ := V; exact ⟨c, A.ext E, r⟩
theorem own_ia.other (V : own_ia Z h b n) (w : Wr h h' a sl v) (q : b ≠ a) : own_ia Z h' b n := by obtain ⟨c, A, r⟩ := V; exact ⟨c, A.other w q, r⟩
theorem own_il.other (V : own_il Z h b n vs) (w : Wr h h' a sl v) (q : b ≠ a) : own_il Z h' b n vs := by obtain ⟨c, A, r⟩ := V; exact ⟨c, A.other w q, r⟩
theorem own_jl.other (V : own_jl Z h b n ws) (w : Wr h h' a sl v) (q : b ≠ a) : own_jl Z h' b n ws := by obtain ⟨c, A, r⟩ := V; exact ⟨c, A.other w q, r⟩
theorem own_ia.keep (V : own_ia Z h a n) (K : Keep h h' W) (q : a ∉ W) : own_ia Z h' a n := by obtain ⟨c, A, r⟩ := V; exact ⟨c, ⟨K.2.1 a c A.1 q, A.2⟩, r⟩
theorem own_il.keep (V : own_il Z h a n vs) (K : Keep h h' W) (q : a ∉ W) : own_il Z h' a n vs := by obtain ⟨c, A, r⟩ := V; exact ⟨c, ⟨K.2.1 a c A.1 q, A.2⟩, r⟩
theorem own_jl.keep (V : own_jl Z h a n ws) (K : Keep h h' W) (q : a ∉ W) : own_jl Z h' a n ws := by obtain ⟨c, A, r⟩ := V; exact ⟨c, ⟨K.2.1 a c A.1 q, A.2⟩, r⟩
theorem own_ia_at (V : own_ia Z h a n) (hj : ¬ j < 0) (hl : j < n) : ∃ (c : Cell) (z : Int32), Arr Z h a c .int ∧ ¬ (j < 0 ∨ c.slots.size ≤ j.toNatClampNeg) ∧ c.slots[j.toNatClampNeg]? = some (.int z) := by
 obtain ⟨c, A, S, M, H⟩ := V
 have hin := inb_of S ⟨hj, hl⟩
 obtain ⟨z, hz⟩ := H _ (Nat.lt_of_not_le fun q => hin (Or.inr q))
 exact ⟨c, z, A, hin, hz⟩
theorem own_il_at (V : own_il Z h a n vs) (hj : ¬ j < 0) (hl : j < n) : ∃ c : Cell, Arr Z h a c .int ∧ ¬ (j < 0 ∨ c.slots.size ≤ j.toNatClampNeg) ∧ c.slots[j.toNatClampNeg]? = some (.int (vs.getD j.toNatClampNeg 0)) := by
 obtain ⟨c, A, S, M, H⟩ := V
 have hin := inb_of S ⟨hj, hl⟩
 exact ⟨c, A, hin, H _ (Nat.lt_of_not_le fun q => hin (Or.inr q))⟩
theorem own_jl_at (V : own_jl Z h a n ws) (hj : ¬ j < 0) (hl : j < n) : ∃ c : Cell, Arr Z h a c .long ∧ ¬ (j < 0 ∨ c.slots.size ≤ j.toNatClampNeg) ∧ c.slots[j.toNatClampNeg]? = some (.long (ws.getD j.toNatClampNeg 0)) := by
 obtain ⟨c, A, S, M, H⟩ := V
 have hin := inb_of S ⟨hj, hl⟩
 exact ⟨c, A, hin, H _ (Nat.lt_of_not_le fun q => hin (Or.inr q))⟩
theorem own_ia_cell (V : own_ia Z h a n) : ∃ c : Cell, Arr Z h a c .int ∧ c.slots.size = n.toNatClampNeg ∧ ¬ n < 0 := by obtain ⟨c, A, S, M, -⟩ := V; exact ⟨c, A, S, M⟩
theorem own_il_cell (V : own_il Z h a n vs) : ∃ c : Cell, Arr Z h a c .int ∧ c.slots.size = n.toNatClampNeg ∧ ¬ n < 0 := by obtain ⟨c, A, S, M, -⟩ := V; exact ⟨c, A, S, M⟩
theorem own_jl_cell (V : own_jl Z h a n ws) : ∃ c : Cell, Arr Z h a c .long ∧ c.slots.size = n.toNatClampNeg ∧ ¬ n < 0 := by obtain ⟨c, A, S, M, -⟩ := V; exact ⟨c, A, S, M⟩
theorem own_slot_set {c : Cell} {i k : Nat} {w : Value} (hi : i < c.slots.size) : (c.setSlot i w).slots[k]? = if k = i then some w else c.slots[k]? := by
 by_cases q : k = i
 · subst q; simp [Cell.setSlot, hi]
 · simp [Cell.setSlot, q, Array.getElem?_setIfInBounds_ne (Ne.symm q)]
theorem own_ia_st {y : Int32} (V : own_ia Z h a n) (hj : ¬ j < 0) (hl : j < n) (w : Wr h h' a j.toNatClampNeg (.int y)) : own_ia Z h' a n := by
 obtain ⟨c, A, S, M, H⟩ := V
 have hin := inb_of S ⟨hj, hl⟩
 refine ⟨_, A.same w, by simp [Cell.setSlot, S], M, fun k hk => ?_⟩
 rw [own_slot_set (Nat.lt_of_not_le fun q => hin (Or.inr q))]
 by_cases q : k = j.toNatClampNeg
 · exact ⟨y, by simp [q]⟩
 · rw [if_neg q]; exact H k (by simpa [Cell.setSlot] using hk)
theorem own_getD_set {α : Type} {l : List α} {i k : Nat} {y d : α} (hi : i < l.length) : (l.set i y).getD k d = if k = i then y else l.getD k d := by
 by_cases q : k = i
 · subst q; simp [List.getD, hi]
 · simp [List.getD, q, List.getElem?_set_ne (Ne.symm q)]
theorem own_il_st {y : Int32} (V : own_il Z h a n vs) (hj : ¬ j < 0) (hl : j < n) (w : Wr h h' a j.toNatClampNeg (.int y)) (hv : j.toNatClampNeg < vs.length) : own_il Z h' a n (vs.set j.toNatClampNeg y) := by
 obtain ⟨c, A, S, M, H⟩ := V
 have hin := inb_of S ⟨hj, hl⟩
 refine ⟨_, A.same w, by simp [Cell.setSlot, S], M, fun k hk => ?_⟩
 rw [own_slot_set (Nat.lt_of_not_le fun q => hin (Or.inr q)), own_getD_set hv]
 by_cases q : k = j.toNatClampNeg
 · simp [q]
 · rw [if_neg q, if_neg q]; exact H k (by simpa [Cell.setSlot] using hk)
theorem own_jl_st {y : Int64} (V : own_jl Z h a n ws) (hj : ¬ j < 0) (hl : j < n) (w : Wr h h' a j.toNatClampNeg (.long y)) (hv : j.toNatClampNeg < ws.length) : own_jl Z h' a n (ws.set j.toNatClampNeg y) := by
 obtain ⟨c, A, S, M, H⟩ := V
 have hin := inb_of S ⟨hj, hl⟩
 refine ⟨_, A.same w, by simp [Cell.setSlot, S], M, fun k hk => ?_⟩
 rw [own_slot_set (Nat.lt_of_not_le fun q => hin (Or.inr q)), own_getD_set hv]
 by_cases q : k = j.toNatClampNeg
 · simp [q]
 · rw [if_neg q, if_neg q]; exact H k (by simpa [Cell.setSlot] using hk)
theorem own_getD_rep {α : Type} (m k : Nat) (d : α) : (List.replicate m d).getD k d = d := by
 rw [List.getD_eq_getElem?_getD, List.getElem?_replicate]; split <;> rfl
theorem own_il_new {cA : ClassId} {m : Nat} (A : Arr Z h a (newA cA .int n) .int) (q : ¬ n < 0) : own_il Z h a n (List.replicate m 0) :=
 ⟨_, A, sz_new _ _ _, q, fun k hk => by
   rw [own_getD_rep]
   have hk' : k < n.toNatClampNeg := by rw [sz_new] at hk; exact hk
   simp [newA, hk', defaultValue]⟩
theorem own_jl_new {cA : ClassId} {m : Nat} (A : Arr Z h a (newA cA .long n) .long) (q : ¬ n < 0) : own_jl Z h a n (List.replicate m 0) :=
 ⟨_, A, sz_new _ _ _, q, fun k hk => by
   rw [own_getD_rep]
   have hk' : k < n.toNatClampNeg := by rw [sz_new] at hk; exact hk
   simp [newA, hk', defaultValue]⟩
theorem own_il_eq {vs' : List Int32} (V : own_il Z h a n vs) (e : vs = vs') : own_il Z h a n vs' := e ▸ V
theorem own_jl_eq {ws' : List Int64} (V : own_jl Z h a n ws) (e : ws = ws') : own_jl Z h a n ws' := e ▸ V
def own_ns (h : Heap) (a : Addr) : Prop := ∃ c : Cell, h[a]? = some c ∧ c.vm.isStatics = false
theorem own_ns_E {C : String} (E : Exa Z h a C) : own_ns h a := by obtain ⟨c, _, h1, -, -, h4, -⟩ := E; exact ⟨c, h1, h4⟩
theorem own_ns_A {c : Cell} {ty : FieldType} (A : Arr Z h a c ty) : own_ns h a := ⟨c, A.1, A.plain⟩
theorem own_ns_ia (V : own_ia Z h a n) : own_ns h a := by obtain ⟨c, A, -⟩ := V; exact own_ns_A A
theorem own_ns_il (V : own_il Z h a n vs) : own_ns h a := by obtain ⟨c, A, -⟩ := V; exact own_ns_A A
theorem own_ns_jl (V : own_jl Z h a n ws) : own_ns h a := by obtain ⟨c, A, -⟩ := V; exact own_ns_A A
theorem own_sta_k {C f d : String} {w : Value} (S : Sta Z h C f d w) (k : Keep h h' W) (q : ∀ a ∈ W, own_ns h a) : Sta Z h' C f d w := by
 obtain ⟨cf, i, kk, fl, st, cell, h1, h2, h3, h4, h5, h6, h7⟩ := S
 refine ⟨cf, i, kk, fl, st, cell, h1, h2, h3, h4, k.2.1 st cell h5 fun r => ?_, h6, h7⟩
 obtain ⟨c2, g1, g2⟩ := q st r
 cases h5.symm.trans g1
 rw [g2] at h6
 cases h6
theorem own_n0 (a : Addr) : a ∉ ([] : List Addr) := by simp
theorem own_n1 {b1 : Addr} (q1 : a ≠ b1) : a ∉ [b1] := by simp [q1]
theorem own_n2 {b1 b2 : Addr} (q1 : a ≠ b1) (q2 : a ≠ b2) : a ∉ [b1, b2] := by simp [q1, q2]
theorem own_n3 {b1 b2 b3 : Addr} (q1 : a ≠ b1) (q2 : a ≠ b2) (q3 : a ≠ b3) : a ∉ [b1, b2, b3] := by simp [q1, q2, q3]
theorem own_n4 {b1 b2 b3 b4 : Addr} (q1 : a ≠ b1) (q2 : a ≠ b2) (q3 : a ≠ b3) (q4 : a ≠ b4) : a ∉ [b1, b2, b3, b4] := by simp [q1, q2, q3, q4]
theorem own_a0 {P : Addr → Prop} : ∀ x ∈ ([] : List Addr), P x := by simp
theorem own_a1 {P : Addr → Prop} {b1 : Addr} (q1 : P b1) : ∀ x ∈ [b1], P x := by simp [q1]
theorem own_a2 {P : Addr → Prop} {b1 b2 : Addr} (q1 : P b1) (q2 : P b2) : ∀ x ∈ [b1, b2], P x := by simp [q1, q2]
theorem own_a3 {P : Addr → Prop} {b1 b2 b3 : Addr} (q1 : P b1) (q2 : P b2) (q3 : P b3) : ∀ x ∈ [b1, b2, b3], P x := by simp [q1, q2, q3]
theorem own_a4 {P : Addr → Prop} {b1 b2 b3 b4 : Addr} (q1 : P b1) (q2 : P b2) (q3 : P b3) (q4 : P b4) : ∀ x ∈ [b1, b2, b3, b4], P x := by simp [q1, q2, q3, q4]
end OwnBase
section OwnBase2
variable {p : Program} {l : Launch} {e : Env} {R : Room} {s : State} {m : MethodId} {args : Array Value} {below : List Frame} {meth : Method} {c : Code} {T : State} {locs : List Loc} {cells slots : Nat} {Z : State} {a0 : Array Value} {h : Heap}
theorem own_getFR (X : Stand p l e R s m args below meth c T locs cells slots) (hx : p.tables.exec = Jvm.exec) (hZ : Z.Warmed39 s.vm) {own O n d : String} {index : Nat} (hown : s.vm.findClass own = some m.cls) (w : (Cond.fieldRef own index O n d).before a0 Z = true)
   (eT : T.heap = h) {a : Addr} {v : Value} (F : Fld Z h a O n d v) {g : JFrame} (hg : g.method = m) {rest : List Value} (hs : g.stack = .ref a :: rest) (hd : decode c.code g.pc = .ok (.getfield index, 3)) : ∃ T', Stand p l e R s m args below meth c T' locs cells slots ∧ T'.heap = h ∧ ∀ target, Steps p.tables e below (T'.setTop { g with pc := g.pc + 3, stack := v :: rest }) target → Steps p.tables e below (T.setTop g) target := by
 obtain ⟨cell, cf, k, i, f, h1, h2, h3, h4, -, -, h7⟩ := F
 have hW : Z.Warmed39 T.vm := wtrans hZ X.warmed
 have w' := Cond.fieldRef_warmed39 hW w
 have hc : (Z.setVm T.vm).vm.findClass own = some m.cls := by
   show T.vm.findClass own = some m.cls
   rw [X.warmed.alike.findClass]; exact hown
 obtain ⟨c', k', i', f', g1, g2⟩ := Cond.fieldRef_spec hc w'
 obtain ⟨k2, q1, -⟩ := State.fieldFound?_setVm (s := Z) hW.alike h2
 cases q1.symm.trans g1
 refine ⟨T, X, eT, fun target hrest => ?_⟩
 subst hg
 jvm_step X.here [hx, hd, getfield.wp_ready (e := e) (s := T) (f := g) X.here.top g2 h3 hs (show T.heap[a]? = some cell by rw [eT]; exact h1) h4 h7]
 exact hrest
theorem own_selp {y : MethodName} {n : Nat} (wi : (Cond.instantiable y.cls n).before args s = true) (wp : (Cond.privateMethod y).before args s = true) (wm : (Cond.instanceMethod y).before args s = true) (hy : y.cls ≠ "java/lang/invoke/MethodHandle" ∧ y.cls ≠ "java/lang/invoke/VarHandle") : (Cond.selects y.cls y y).before args s = true := by
 obtain ⟨c, k, h1, h2, h3, h4, -⟩ := Cond.instantiable_spec wi
 exact selects_self_of_private h1 h2 (Bool.or_eq_false_iff.mp h4).1 (Cond.privateMethod_at wp) wm hy
theorem own_same {cells' slots' : Nat} (X : Stand p l e R s m args below meth c T locs cells slots) (h1 : cells = cells') (h2 : slots = slots') : Stand p l e R s m args below meth c T locs cells' slots' := by subst h1 h2; exact X
theorem own_mono {y : MethodName} {S : Spec} {P : Array Value → State → Prop} {Q Q' : Option Value → Heap → List Loc → Prop} {k1 k2 : Nat} (hm : MetFree l y S P (fun _ _ _ _ _ => True) (fun _ U o U' => ∃ v L, o = .returned v ∧ Q v U'.heap L ∧ FrameEnd U o U' L k1 k2)) (q : ∀ v h L, Q v h L → Q' v h L) : MetFree l y S P (fun _ _ _ _ _ => True) (fun _ U o U' => ∃ v L, o = .returned v ∧ Q' v U'.heap L ∧ FrameEnd U o U' L k1 k2) :=
 hm.mono (fun _ _ r => r) (fun _ _ _ _ _ r => r) (fun _ _ _ _ _ ⟨v, L, a, b, c⟩ => ⟨v, L, a, q _ _ _ b, c⟩)
end OwnBase2
section OwnStr
abbrev own_St : Type := Int64 × Int32 × Int32 × Int64
def own_STR (Z : State) (h : Heap) (sp ch bs wd : Addr) (n : Int32) (us : Value) (st : own_St) : Prop :=
 Exa Z h sp oC1 ∧ Fld Z h sp oC1 "toSkip" "J" (.long st.1) ∧ Fld Z h sp oC1 "chosen" "[I" (.ref ch) ∧ Fld Z h sp oC1 "taken" "I" (.int st.2.1) ∧ Fld Z h sp oC1 "has" "Ljava/util/BitSet;" (.ref bs) ∧
 own_ia Z h ch n ∧ Exa Z h bs oC2 ∧ Fld Z h bs oC2 "wordsInUse" "I" (.int st.2.2.1) ∧ Fld Z h bs oC2 "sizeIsSticky" "Z" us ∧ Fld Z h bs oC2 "words" "[J" (.ref wd) ∧ own_jl Z h wd 1 [st.2.2.2]
def own_four (n0 : Nat) (sp ch bs wd : Addr) : Prop := (n0 ≤ sp ∧ n0 ≤ ch ∧ n0 ≤ bs ∧ n0 ≤ wd) ∧ ¬ (sp = ch) ∧ ¬ (sp = bs) ∧ ¬ (sp = wd) ∧ ¬ (ch = bs) ∧ ¬ (ch = wd) ∧ ¬ (bs = wd)
variable {Z : State} {h h' : Heap} {sp ch bs wd a : Addr} {n : Int32} {us : Value} {st : own_St} {W W' : List Addr}
theorem own_STR.ext (S : own_STR Z h sp ch bs wd n us st) (E : Ext h h') : own_STR Z h' sp ch bs wd n us st := by
 obtain ⟨a1, a2, a3, a4, a5, a6, a7, a8, a9, a10, a11⟩ := S
 exact ⟨a1.ext E, a2.ext E, a3.ext E, a4.ext E, a5.ext E, a6.ext E, a7.ext E, a8.ext E, a9.ext E, a10.ext E, a11.ext E⟩
theorem own_STR.keep (S : own_STR Z h sp ch bs wd n us st) (K : Keep h h' W) (q1 : sp ∉ W) (q2 : ch ∉ W) (q3 : bs ∉ W) (q4 : wd ∉ W) : own_STR Z h' sp ch bs wd n us st := by
 obtain ⟨a1, a2, a3, a4, a5, a6, a7, a8, a9, a10, a11⟩ := S
 exact ⟨a1.keep K, a2.keep K q1, a3.keep K q1, a4.keep K q1, a5.keep K q1, a6.keep K q2, a7.keep K, a8.keep K q3, a9.keep K q3, a10.keep K q3, a11.keep K q4⟩
theorem own_keep_mono (K : Keep h h' W) (q : ∀ x ∈ W, x ∈ W') : Keep h h' W' := ⟨K.1, fun x c r s => K.2.1 x c r fun t => s (q x t), K.2.2⟩
theorem own_keep_self (h : Heap) (W : List Addr) : Keep h h W := Keep.refl h W
def own_off (n x : Int32) (st : own_St) : own_St × Int32 :=
 if (0 : Int32) < lcmpW st.1 (0 : Int64) then ((st.1 - 1, st.2), 0)
 else if (0 : Int32) < st.2.2.1 ∧ ¬ (lcmpW (st.2.2.2 &&& own_sl (1 : Int64) x) (0 : Int64) = (0 : Int32)) then (st, 0)
 else ((st.1, st.2.1 + 1, 1, st.2.2.2 ||| own_sl (1 : Int64) x), if st.2.1 + 1 = n then 1 else 0)
def own_QO (Z : State) (sp ch bs wd : Addr) (n : Int32) (us : Value) (st' : own_St) (r : Int32) (h0 : Heap) (n0 : Nat) (v : Option Value) (h : Heap) (L : List Loc) : Prop := v = some (.int r) ∧ Fr n0 L ∧ Keep h0 h [sp, ch, bs, wd] ∧ own_STR Z h sp ch bs wd n us st'
end OwnStr

theorem own_ef0 (m : MethodId) (x0 : Addr) (x1 : Int32) : entryFrame m #[(.ref x0), (.int x1)] 2 = mkF m 0 #[oA x0, oI x1] [] := by first | (simp [entryFrame, mkF, argsToLocals, Value.category]; done) | rfl
theorem own_ef1 (m : MethodId) (x0 : Addr) : entryFrame m #[(.ref x0)] 1 = mkF m 0 #[oA x0] [] := by first | (simp [entryFrame, mkF, argsToLocals, Value.category]; done) | rfl
theorem own_ef2 (m : MethodId) (x0 : Int32) : entryFrame m #[(.int x0)] 1 = mkF m 0 #[oI x0] [] := by first | (simp [entryFrame, mkF, argsToLocals, Value.category]; done) | rfl
theorem own_ef3 (m : MethodId) (x0 : Addr) (x1 : Int32) : entryFrame m #[(.ref x0), (.int x1)] 3 = mkF m 0 #[oA x0, oI x1, .unset] [] := by first | (simp [entryFrame, mkF, argsToLocals, Value.category]; done) | rfl
theorem own_ef4 (m : MethodId) (x0 : Addr) (x1 : Int32) : entryFrame m #[(.ref x0), (.int x1)] 3 = mkF m 0 #[oA x0, oI x1, .unset] [] := by first | (simp [entryFrame, mkF, argsToLocals, Value.category]; done) | rfl
theorem own_ef5 (m : MethodId) (x0 : Addr) (x1 : Int32) : entryFrame m #[(.ref x0), (.int x1)] 3 = mkF m 0 #[oA x0, oI x1, .unset] [] := by first | (simp [entryFrame, mkF, argsToLocals, Value.category]; done) | rfl
theorem own_ef6 (m : MethodId) (x0 : Addr) (x1 : Int32) : entryFrame m #[(.ref x0), (.int x1)] 3 = mkF m 0 #[oA x0, oI x1, .unset] [] := by first | (simp [entryFrame, mkF, argsToLocals, Value.category]; done) | rfl
theorem own_ef7 (m : MethodId) (x0 : Addr) (x1 : Int64) : entryFrame m #[(.ref x0), (.long x1)] 3 = mkF m 0 #[oA x0, oJ x1, .second] [] := by first | (simp [entryFrame, mkF, argsToLocals, Value.category]; done) | rfl
theorem own_ef8 (m : MethodId) (x0 : Int64) (x1 : Int64) : entryFrame m #[(.long x0), (.long x1)] 4 = mkF m 0 #[oJ x0, .second, oJ x1, .second] [] := by first | (simp [entryFrame, mkF, argsToLocals, Value.category]; done) | rfl
theorem own_ef9 (m : MethodId) (x0 : Addr) : entryFrame m #[(.ref x0)] 3 = mkF m 0 #[oA x0, .unset, .unset] [] := by first | (simp [entryFrame, mkF, argsToLocals, Value.category]; done) | rfl
theorem own_ef10 (m : MethodId) (x0 : Int64) (x1 : Int64) : entryFrame m #[(.long x0), (.long x1)] 8 = mkF m 0 #[oJ x0, .second, oJ x1, .second, .unset, .unset, .unset, .unset] [] := by first | (simp [entryFrame, mkF, argsToLocals, Value.category]; done) | rfl
theorem own_ef11 (m : MethodId) (x0 : Int32) (x1 : Int32) : entryFrame m #[(.int x0), (.int x1)] 7 = mkF m 0 #[oI x0, oI x1, .unset, .unset, .unset, .unset, .unset] [] := by first | (simp [entryFrame, mkF, argsToLocals, Value.category]; done) | rfl
theorem own_ef12 (m : MethodId) (x0 : Addr) (x1 : Int32) (x2 : Int32) (x3 : Int32) : entryFrame m #[(.ref x0), (.int x1), (.int x2), (.int x3)] 6 = mkF m 0 #[oA x0, oI x1, oI x2, oI x3, .unset, .unset] [] := by first | (simp [entryFrame, mkF, argsToLocals, Value.category]; done) | rfl
theorem own_ef13 (m : MethodId) (x0 : Addr) (x1 : Addr) (x2 : Int32) (x3 : Addr) : entryFrame m #[(.ref x0), (.ref x1), (.int x2), (.ref x3)] 10 = mkF m 0 #[oA x0, oA x1, oI x2, oA x3, .unset, .unset, .unset, .unset, .unset, .unset] [] := by first | (simp [entryFrame, mkF, argsToLocals, Value.category]; done) | rfl
theorem own_ef14 (m : MethodId) (x0 : Addr) (x1 : Addr) (x2 : Int64) : entryFrame m #[(.ref x0), (.ref x1), (.long x2)] 8 = mkF m 0 #[oA x0, oA x1, oJ x2, .second, .unset, .unset, .unset, .unset] [] := by first | (simp [entryFrame, mkF, argsToLocals, Value.category]; done) | rfl
theorem own_ef15 (m : MethodId) (x0 : Int32) : entryFrame m #[(.int x0)] 1 = mkF m 0 #[oI x0] [] := by first | (simp [entryFrame, mkF, argsToLocals, Value.category]; done) | rfl
theorem own_ef16 (m : MethodId) (x0 : Int32) : entryFrame m #[(.int x0)] 1 = mkF m 0 #[oI x0] [] := by first | (simp [entryFrame, mkF, argsToLocals, Value.category]; done) | rfl
theorem own_ef17 (m : MethodId) (x0 : Int32) : entryFrame m #[(.int x0)] 1 = mkF m 0 #[oI x0] [] := by first | (simp [entryFrame, mkF, argsToLocals, Value.category]; done) | rfl
theorem own_ef18 (m : MethodId) (x0 : Addr) (x1 : Int32) : entryFrame m #[(.ref x0), (.int x1)] 5 = mkF m 0 #[oA x0, oI x1, .unset, .unset, .unset] [] := by first | (simp [entryFrame, mkF, argsToLocals, Value.category]; done) | rfl
theorem own_ef19 (m : MethodId) (x0 : Addr) (x1 : Int32) : entryFrame m #[(.ref x0), (.int x1)] 2 = mkF m 0 #[oA x0, oI x1] [] := by first | (simp [entryFrame, mkF, argsToLocals, Value.category]; done) | rfl
theorem own_ef20 (m : MethodId) (x0 : Addr) (x1 : Int32) (x2 : Int32) : entryFrame m #[(.ref x0), (.int x1), (.int x2)] 9 = mkF m 0 #[oA x0, oI x1, oI x2, .unset, .unset, .unset, .unset, .unset, .unset] [] := by first | (simp [entryFrame, mkF, argsToLocals, Value.category]; done) | rfl
theorem own_ef21 (m : MethodId) (x0 : Addr) (x1 : Int32) : entryFrame m #[(.ref x0), (.int x1)] 2 = mkF m 0 #[oA x0, oI x1] [] := by first | (simp [entryFrame, mkF, argsToLocals, Value.category]; done) | rfl
theorem own_ef22 (m : MethodId) (x0 : Addr) (x1 : Int32) : entryFrame m #[(.ref x0), (.int x1)] 2 = mkF m 0 #[oA x0, oI x1] [] := by first | (simp [entryFrame, mkF, argsToLocals, Value.category]; done) | rfl
theorem own_ef23 (m : MethodId) (x0 : Addr) (x1 : Int64) (x2 : Int32) (x3 : Int32) : entryFrame m #[(.ref x0), (.long x1), (.int x2), (.int x3)] 5 = mkF m 0 #[oA x0, oJ x1, .second, oI x2, oI x3] [] := by first | (simp [entryFrame, mkF, argsToLocals, Value.category]; done) | rfl
theorem own_ef24 (m : MethodId) (x0 : Addr) (x1 : Int32) : entryFrame m #[(.ref x0), (.int x1)] 11 = mkF m 0 #[oA x0, oI x1, .unset, .unset, .unset, .unset, .unset, .unset, .unset, .unset, .unset] [] := by first | (simp [entryFrame, mkF, argsToLocals, Value.category]; done) | rfl
theorem own_ef25 (m : MethodId) (x0 : Addr) (x1 : Int32) (x2 : Addr) (x3 : Int32) (x4 : Addr) (x5 : Int32) : entryFrame m #[(.ref x0), (.int x1), (.ref x2), (.int x3), (.ref x4), (.int x5)] 9 = mkF m 0 #[oA x0, oI x1, oA x2, oI x3, oA x4, oI x5, .unset, .unset, .unset] [] := by first | (simp [entryFrame, mkF, argsToLocals, Value.category]; done) | rfl
theorem own_ef26 (m : MethodId) (x0 : Int64) (x1 : Int64) : entryFrame m #[(.long x0), (.long x1)] 4 = mkF m 0 #[oJ x0, .second, oJ x1, .second] [] := by first | (simp [entryFrame, mkF, argsToLocals, Value.category]; done) | rfl
theorem own_ef27 (m : MethodId) (x0 : Addr) (x1 : Int32) (x2 : Int32) : entryFrame m #[(.ref x0), (.int x1), (.int x2)] 7 = mkF m 0 #[oA x0, oI x1, oI x2, .unset, .unset, .unset, .unset] [] := by first | (simp [entryFrame, mkF, argsToLocals, Value.category]; done) | rfl
theorem own_ef28 (m : MethodId) (x0 : Addr) (x1 : Int32) : entryFrame m #[(.ref x0), (.int x1)] 5 = mkF m 0 #[oA x0, oI x1, .unset, .unset, .unset] [] := by first | (simp [entryFrame, mkF, argsToLocals, Value.category]; done) | rfl
theorem own_ef29 (m : MethodId) (x0 : Addr) (x1 : Int32) : entryFrame m #[(.ref x0), (.int x1)] 3 = mkF m 0 #[oA x0, oI x1, .unset] [] := by first | (simp [entryFrame, mkF, argsToLocals, Value.category]; done) | rfl
theorem own_ef30 (m : MethodId) (x0 : Int32) (x1 : Int32) : entryFrame m #[(.int x0), (.int x1)] 2 = mkF m 0 #[oI x0, oI x1] [] := by first | (simp [entryFrame, mkF, argsToLocals, Value.category]; done) | rfl
theorem own_ef31 (m : MethodId) (x0 : Addr) (x1 : Int32) : entryFrame m #[(.ref x0), (.int x1)] 2 = mkF m 0 #[oA x0, oI x1] [] := by first | (simp [entryFrame, mkF, argsToLocals, Value.category]; done) | rfl
theorem own_ef32 (m : MethodId) (x0 : Addr) (x1 : Addr) (x2 : Addr) : entryFrame m #[(.ref x0), (.ref x1), (.ref x2)] 3 = mkF m 0 #[oA x0, oA x1, oA x2] [] := by first | (simp [entryFrame, mkF, argsToLocals, Value.category]; done) | rfl
theorem own_ef33 (m : MethodId) (x0 : Addr) (x1 : Addr) : entryFrame m #[(.ref x0), (.ref x1)] 8 = mkF m 0 #[oA x0, oA x1, .unset, .unset, .unset, .unset, .unset, .unset] [] := by first | (simp [entryFrame, mkF, argsToLocals, Value.category]; done) | rfl
theorem own_ef34 (m : MethodId) (x0 : Int32) (x1 : Int32) : entryFrame m #[(.int x0), (.int x1)] 2 = mkF m 0 #[oI x0, oI x1] [] := by first | (simp [entryFrame, mkF, argsToLocals, Value.category]; done) | rfl
theorem own_ef35 (m : MethodId) (x0 : Int32) : entryFrame m #[(.int x0)] 2 = mkF m 0 #[oI x0, .unset] [] := by first | (simp [entryFrame, mkF, argsToLocals, Value.category]; done) | rfl
theorem own_ef36 (m : MethodId) (x0 : Addr) (x1 : Int32) (x2 : Int32) : entryFrame m #[(.ref x0), (.int x1), (.int x2)] 3 = mkF m 0 #[oA x0, oI x1, oI x2] [] := by first | (simp [entryFrame, mkF, argsToLocals, Value.category]; done) | rfl
theorem own_ef37 (m : MethodId) (x0 : Addr) : entryFrame m #[(.ref x0)] 1 = mkF m 0 #[oA x0] [] := by first | (simp [entryFrame, mkF, argsToLocals, Value.category]; done) | rfl
theorem own_ef38 (m : MethodId) (x0 : Int32) : entryFrame m #[(.int x0)] 1 = mkF m 0 #[oI x0] [] := by first | (simp [entryFrame, mkF, argsToLocals, Value.category]; done) | rfl
theorem own_ef39 (m : MethodId) (x0 : Addr) (x1 : Int32) (x2 : Int32) (x3 : Int32) (x4 : Int32) (x5 : Int32) (x6 : Int32) : entryFrame m #[(.ref x0), (.int x1), (.int x2), (.int x3), (.int x4), (.int x5), (.int x6)] 17 = mkF m 0 #[oA x0, oI x1, oI x2, oI x3, oI x4, oI x5, oI x6, .unset, .unset, .unset, .unset, .unset, .unset, .unset, .unset, .unset, .unset] [] := by first | (simp [entryFrame, mkF, argsToLocals, Value.category]; done) | rfl
theorem own_ef40 (m : MethodId) (x0 : Addr) : entryFrame m #[(.ref x0)] 1 = mkF m 0 #[oA x0] [] := by first | (simp [entryFrame, mkF, argsToLocals, Value.category]; done) | rfl
theorem own_ef41 (m : MethodId) (x0 : Int32) (x1 : Int32) (x2 : Int32) (x3 : Int32) : entryFrame m #[(.int x0), (.int x1), (.int x2), (.int x3)] maxLocals = mkF m 0 #[oI x0, oI x1, oI x2, oI x3, .unset, .unset, .unset, .unset, .unset, .unset, .unset, .unset, .unset] [] := by first | (simp [entryFrame, mkF, argsToLocals, Value.category, maxLocals]; done) | rfl
def Qown_b28_f (Z : State) (a0_ : Addr) (p1_ : Int32) (f_toSkip_a0_ : Int64) (u_chosen_a0_ : Value) (u_has_a0_ : Value) (u_taken_a0_ : Value) (h0 : Heap) (n0 : Nat) (v : Option Value) (h : Heap) (L : List Loc) : Prop := v = some (.int 0) ∧ Fr n0 L ∧ Keep h0 h [a0_] ∧ Fld Z h a0_ oC1 "toSkip" "J" (.long (f_toSkip_a0_ - (1 : Int64))) ∧ Exa Z h a0_ oC1 ∧ Fld Z h a0_ oC1 "chosen" "[I" u_chosen_a0_ ∧ Fld Z h a0_ oC1 "has" "Ljava/util/BitSet;" u_has_a0_ ∧ Fld Z h a0_ oC1 "taken" "I" u_taken_a0_
theorem own_b28_f (l : Launch) (Z : State) (a0 : Array Value) (hw : oH a0 Z) (ws : List Jvm.Cond) (a0_ : Addr) (p1_ : Int32) (f_toSkip_a0_ : Int64) (u_chosen_a0_ : Value) (u_has_a0_ : Value) (u_taken_a0_ : Value) (h0 : Heap) (n0 : Nat) (Z0 : n0 ≤ h0.size) (F_toSkip_a0_ : Fld Z h0 a0_ oC1 "toSkip" "J" (.long f_toSkip_a0_)) (E_a0_ : Exa Z h0 a0_ oC1) (g_a0_ : n0 ≤ a0_) (F_chosen_a0_ : Fld Z h0 a0_ oC1 "chosen" "[I" u_chosen_a0_) (F_has_a0_ : Fld Z h0 a0_ oC1 "has" "Ljava/util/BitSet;" u_has_a0_) (F_taken_a0_ : Fld Z h0 a0_ oC1 "taken" "I" u_taken_a0_) (hf0 : (0 : Int32) < (lcmpW f_toSkip_a0_ (0 : Int64))) :
   oMet l oM0 prog_30_method_2_code 2 (some .boolean) ws (oR 3 0 0 60) Z h0 #[(.ref a0_), (.int p1_)] (Qown_b28_f Z a0_ p1_ f_toSkip_a0_ u_chosen_a0_ u_has_a0_ u_taken_a0_ h0 n0) := by
 refine oBd n0 (plainFor_of_name own_pn0) ?_
 intro p e s m below meth c s₁ Bd hx hZ hby hml hown hnm X0 e0 N0
 obtain ⟨T1, X1, e1, st1⟩ := getF X0 hx hZ hown (host := "") (Or.inl (oW hw 102 rfl)) Via.refl e0 F_toSkip_a0_ (g := (mkF m 1 #[oA a0_, oI p1_] [(.ref a0_)])) rfl rfl (oG hby d28 1 rfl)
 obtain ⟨T2, X2, e2, st2⟩ := getF X1 hx hZ hown (host := "") (Or.inl (oW hw 102 rfl)) Via.refl e1 F_toSkip_a0_ (g := (mkF m 11 #[oA a0_, oI p1_] [(.ref a0_), (.ref a0_)])) rfl rfl (oG hby d28 7 rfl)
 obtain ⟨T3, h3, X3, e3, W3, st3⟩ := putF X2 hx hZ hown (host := "") (Or.inl (oW hw 102 rfl)) Via.refl e2 F_toSkip_a0_ E_a0_ (Or.inl (oW hw 103 rfl)) (oW hw 96 rfl) (ty := .long) (by decide) rfl rfl (g := (mkF m 16 #[oA a0_, oI p1_] [(.long (f_toSkip_a0_ - (1 : Int64))), (.ref a0_)])) rfl rfl (oG hby d28 10 rfl)
 have Fw3 := F_toSkip_a0_.same W3
 have K3 : Keep h0 h3 [a0_] := (Keep.refl h0 [a0_]).wr W3 (Or.inl (oX 0 rfl))
 have N3 := Fr.snoc X3 N0 g_a0_
 have f4_a0__chosen := (F_chosen_a0_.other W3 (oN (Or.inr (oW hw 105 rfl)) (Or.inl (oW hw 103 rfl)) (t := (.array .int)) (t' := .long)))
 have f5_a0__has := (F_has_a0_.other W3 (oN (Or.inr (oW hw 129 rfl)) (Or.inl (oW hw 103 rfl)) (t := (.object oC2)) (t' := .long)))
 have f6_a0__taken := (F_taken_a0_.other W3 (oN (Or.inl (oW hw 175 rfl)) (Or.inl (oW hw 103 rfl)) (t := .int) (t' := .long)))
 have f7_a0_ := (E_a0_.wr W3)
 obtain ⟨fs, hr, hrun, hended, hW, hsame⟩ := X3.leave (v := some (.int 0)) (fun h => by rw [Bd.returns] at h; cases h)
 refine ⟨_, _, castTop (own_ef0 m a0_ p1_) ?_, hrun, hended, _, _, rfl, ?_, ⟨_, rfl⟩, hW, (hsame.mono (by decide) (by decide))⟩
 · show oZ p e below s₁ (mkF m 0 #[oA a0_, oI p1_] []) _
   refine XS.aloadN X0.here hx rfl (oG hby d28 0 rfl) rfl rfl ?_
   refine st1 _ ?_
   refine XS.lconst X1.here hx rfl (oG hby d28 2 rfl) ?_
   show oZ p e below T1 (mkF m 5 #[oA a0_, oI p1_] [(.long 0), (.long f_toSkip_a0_)]) _
   refine XS.lcmp X1.here hx rfl (oG hby d28 3 rfl) rfl ?_
   refine XS.ifNo X1.here hx rfl (oG hby d28 4 rfl) rfl ((if0 _ _).trans (tlt hf0).2.2.2) ?_
   refine XS.aloadN X1.here hx rfl (oG hby d28 5 rfl) rfl rfl ?_
   refine XS.dup X1.here hx rfl (oG hby d28 6 rfl) rfl rfl ?_
   refine st2 _ ?_
   refine XS.lconst X2.here hx rfl (oG hby d28 8 rfl) ?_
   show oZ p e below T2 (mkF m 15 #[oA a0_, oI p1_] [(.long 1), (.long f_toSkip_a0_), (.ref a0_)]) _
   refine XS.lsub X2.here hx rfl (oG hby d28 9 rfl) rfl ?_
   refine st3 _ ?_
   refine XS.iconst X3.here hx rfl (oG hby d28 11 rfl) ?_
   show oZ p e below T3 (mkF m 20 #[oA a0_, oI p1_] [(.int 0)]) _
   exact retN X3 hx (t := .boolean) Bd.returns (by simp) (oG hby d28 12 rfl) hr
 · show Qown_b28_f Z a0_ p1_ f_toSkip_a0_ u_chosen_a0_ u_has_a0_ u_taken_a0_ h0 n0 _ T3.heap _
   rw [e3]
   exact ⟨rfl, N3, K3, Fw3, f7_a0_, f4_a0__chosen, f5_a0__has, f6_a0__taken⟩
theorem own_b30_ttt (l : Launch) (Z : State) (a0 : Array Value) (hw : oH a0 Z) (ws : List Jvm.Cond) (a0_ : Addr) (h0 : Heap) (n0 : Nat) (Z0 : n0 ≤ h0.size) (S__assertionsDisabled : Sta Z h0 oC2 "$assertionsDisabled" "Z" (.int 1)) :
   oMet l oM15 jdk_92_method_2_code 1 none ws (oR 0 0 0 0) Z h0 #[(.ref a0_)] (own_QP (none) h0 n0) := by
 refine oBd n0 (plainFor_of_name own_pn1) ?_
 intro p e s m below meth c s₁ Bd hx hZ hby hml hown hnm X0 e0 N0
 obtain ⟨T1, X1, e1, st1⟩ := getS2 X0 hx hZ hown (host := "") (Or.inl (oW hw 186 rfl)) Via.refl e0 S__assertionsDisabled (g := (mkF m 0 #[oA a0_] [])) rfl (oG hby d30 0 rfl)
 obtain ⟨T2, X2, e2, st2⟩ := getS2 X1 hx hZ hown (host := "") (Or.inl (oW hw 186 rfl)) Via.refl e1 S__assertionsDisabled (g := (mkF m 37 #[oA a0_] [])) rfl (oG hby d30 2 rfl)
 obtain ⟨T3, X3, e3, st3⟩ := getS2 X2 hx hZ hown (host := "") (Or.inl (oW hw 186 rfl)) Via.refl e2 S__assertionsDisabled (g := (mkF m 70 #[oA a0_] [])) rfl (oG hby d30 4 rfl)
 obtain ⟨fs, hr, hrun, hended, hW, hsame⟩ := X3.leave (v := none) (fun _ => rfl)
 refine ⟨_, _, castTop (own_ef1 m a0_) ?_, hrun, hended, _, _, rfl, ?_, ⟨_, rfl⟩, hW, (hsame.mono (by decide) (by decide))⟩
 · show oZ p e below s₁ (mkF m 0 #[oA a0_] []) _
   refine st1 _ ?_
   refine XS.ifYes X1.here hx rfl (pc0 := 3) (pc' := 37) rfl (oG hby d30 1 rfl) rfl ((if0 _ _).trans (feq (by decide +kernel : ¬ ((1 : Int32) = (0 : Int32)))).2) (by decide) (by decide) ?_
   refine st2 _ ?_
   refine XS.ifYes X2.here hx rfl (pc0 := 40) (pc' := 70) rfl (oG hby d30 3 rfl) rfl ((if0 _ _).trans (feq (by decide +kernel : ¬ ((1 : Int32) = (0 : Int32)))).2) (by decide) (by decide) ?_
   refine st3 _ ?_
   refine XS.ifYes X3.here hx rfl (pc0 := 73) (pc' := 110) rfl (oG hby d30 5 rfl) rfl ((if0 _ _).trans (feq (by decide +kernel : ¬ ((1 : Int32) = (0 : Int32)))).2) (by decide) (by decide) ?_
   show oZ p e below T3 (mkF m 110 #[oA a0_] []) _
   exact X3.returnOut hx Bd.returns (oG hby d30 6 rfl) hr
 · show own_QP (none) h0 n0 _ T3.heap _
   exact ⟨rfl, N0, e3⟩
theorem own_b20_x (l : Launch) (Z : State) (a0 : Array Value) (hw : oH a0 Z) (ws : List Jvm.Cond) (p0_ : Int32) (h0 : Heap) (n0 : Nat) (Z0 : n0 ≤ h0.size) :
   oMet l oM11 jdk_92_method_1_code 1 (some .int) ws (oR 0 0 0 0) Z h0 #[(.int p0_)] (own_QP (some (.int (p0_ >>> ((6 : Int32) &&& 31)))) h0 n0) := by
 refine oBd n0 (plainFor_of_name own_pn1) ?_
 intro p e s m below meth c s₁ Bd hx hZ hby hml hown hnm X0 e0 N0
 obtain ⟨fs, hr, hrun, hended, hW, hsame⟩ := X0.leave (v := some (.int (p0_ >>> ((6 : Int32) &&& 31)))) (fun h => by rw [Bd.returns] at h; cases h)
 refine ⟨_, _, castTop (own_ef2 m p0_) ?_, hrun, hended, _, _, rfl, ?_, ⟨_, rfl⟩, hW, (hsame.mono (by decide) (by decide))⟩
 · show oZ p e below s₁ (mkF m 0 #[oI p0_] []) _
   refine XS.iloadN X0.here hx rfl (oG hby d20 0 rfl) rfl ?_
   refine XS.bipush X0.here hx rfl (oG hby d20 1 rfl) ?_
   refine XS.ishr X0.here hx rfl (oG hby d20 2 rfl) rfl ?_
   show oZ p e below s₁ (mkF m 4 #[oI p0_] [(.int (p0_ >>> ((6 : Int32) &&& 31)))]) _
   exact retI X0 hx Bd.returns (oG hby d20 3 rfl) hr
 · show own_QP (some (.int (p0_ >>> ((6 : Int32) &&& 31)))) h0 n0 _ s₁.heap _
   exact ⟨rfl, N0, e0⟩
theorem own_b29_tt_4 (l : Launch) (Z : State) (a0 : Array Value) (hw : oH a0 Z) (ws : List Jvm.Cond) (a0_ : Addr) (p1_ : Int32) (f_wordsInUse_a0_ : Int32) (h0 : Heap) (n0 : Nat) (Z0 : n0 ≤ h0.size) (S__assertionsDisabled : Sta Z h0 oC2 "$assertionsDisabled" "Z" (.int 1)) (E_a0_ : Exa Z h0 a0_ oC2) (F_wordsInUse_a0_ : Fld Z h0 a0_ oC2 "wordsInUse" "I" (.int f_wordsInUse_a0_)) (hf0 : ¬ (p1_ < (0 : Int32))) (hf1 : (p1_ >>> ((6 : Int32) &&& 31)) = (0 : Int32)) (hf2 : ¬ ((0 : Int32) < f_wordsInUse_a0_)) :
   oMet l oM1 jdk_92_method_26_code 3 (some .boolean) ws (oR 1 0 0 12) Z h0 #[(.ref a0_), (.int p1_)] (own_QP (some (.int 0)) h0 n0) := by
 refine oBd n0 (plainFor_of_name own_pn1) ?_
 intro p e s m below meth c s₁ Bd hx hZ hby hml hown hnm X0 e0 N0
 obtain ⟨cq1, q1, q1'⟩ := E_a0_.cell
 obtain ⟨_, _, ⟨T1, L1, k1, n1⟩, -, X1, ⟨Lc1, hQ1, l1, y1, z1⟩, st1⟩ := X0.privateBack hx (y := oM15) hown (mvT hZ (oW hw 181 rfl)) (mvT hZ (oW hw 182 rfl)) (own_selp (mvT hZ (oW hw 107 rfl)) (mvP hZ (oW hw 183 rfl) (args := #[])) (mvT hZ (oW hw 182 rfl)) (by decide)) (Cond.privateMethod_at (mvP hZ (oW hw 183 rfl) (args := #[]))) (mvT hZ (oW hw 185 rfl)) (by decide) (backOf (W := 0) (own_b30_ttt l Z a0 hw [] a0_ h0 n0 Z0 S__assertionsDisabled) hZ (oW hw 185 rfl) (oW hw 108 rfl) (by decide) (by decide)) (g := (mkF m 32 #[oA a0_, oI p1_, .unset] [(.ref a0_)])) rfl (by rw [hml]; rfl) (Steps.refl _) (a := a0_) (by rw [e0]; exact q1) q1' (argsL := []) (rest := []) (lenOf own_pd0 rfl) rfl (by show 2 * 0 + _ ≤ _; exact Nat.le_of_eq rfl) (oG hby d29 3 rfl) (fun _ _ => ⟨rfl, e0, (by decide : 0 + 0 ≤ _), (by decide : 0 + 0 ≤ _)⟩)
 dsimp only [Pt.U, Pt.locs, Pt.cells, Pt.slots] at X1 l1 y1 z1 st1 hQ1
 subst l1 y1 z1
 obtain ⟨rfl, N1q, e1⟩ := hQ1
 have N1 := Fr.app N0 N1q
 obtain ⟨_, _, ⟨T2, L2, k2, n2⟩, -, X2, ⟨Lc2, hQ2, l2, y2, z2⟩, st2⟩ := Jvm.LawKit.callS X1 hx (y := oM11) hown (mvT hZ (oW hw 122 rfl)) (mvT hZ (oW hw 123 rfl)) (mvT hZ (oW hw 108 rfl)) (mvT hZ (oW hw 124 rfl)) (by decide) (backOf (W := 0) (own_b20_x l Z a0 hw [] p1_ h0 n0 Z0 ) hZ (oW hw 124 rfl) (oW hw 108 rfl) (by decide) (by decide)) (g := (mkF m 36 #[oA a0_, oI p1_, .unset] [(.int p1_)])) rfl (by rw [hml]; rfl) (argsL := [(.int p1_)]) (rest := []) (lenOf own_pd1 rfl) rfl (by show 2 * 0 + _ ≤ _; exact Nat.le_of_eq rfl) (oG hby d29 5 rfl) (fun _ _ => ⟨rfl, e1, (by decide : 0 + 0 ≤ _), (by decide : 0 + 0 ≤ _)⟩)
 dsimp only [Pt.U, Pt.locs, Pt.cells, Pt.slots] at X2 l2 y2 z2 st2 hQ2
 subst l2 y2 z2
 obtain ⟨rfl, N2q, e2⟩ := hQ2
 have N2 := Fr.app N1 N2q
 obtain ⟨T3, X3, e3, st3⟩ := getF X2 hx hZ hown (host := "") (Or.inl (oW hw 113 rfl)) Via.refl e2 F_wordsInUse_a0_ (g := (mkF m 42 #[oA a0_, oI p1_, oI 0] [(.ref a0_), (.int 0)])) rfl rfl (oG hby d29 9 rfl)
 obtain ⟨fs, hr, hrun, hended, hW, hsame⟩ := X3.leave (v := some (.int 0)) (fun h => by rw [Bd.returns] at h; cases h)
 refine ⟨_, _, castTop (own_ef3 m a0_ p1_) ?_, hrun, hended, _, _, rfl, ?_, ⟨_, rfl⟩, hW, (hsame.mono (by decide) (by decide))⟩
 · show oZ p e below s₁ (mkF m 0 #[oA a0_, oI p1_, .unset] []) _
   refine XS.iloadN X0.here hx rfl (oG hby d29 0 rfl) rfl ?_
   refine XS.ifYes X0.here hx rfl (pc0 := 1) (pc' := 31) rfl (oG hby d29 1 rfl) rfl ((if0 _ _).trans (flt hf0).2.1) (by decide) (by decide) ?_
   refine XS.aloadN X0.here hx rfl (oG hby d29 2 rfl) rfl rfl ?_
   refine st1.trans ?_
   refine XS.iloadN X1.here hx rfl (oG hby d29 4 rfl) rfl ?_
   refine st2 _ ?_
   show oZ p e below T2 (mkF m 39 #[oA a0_, oI p1_, .unset] [(.int (p1_ >>> ((6 : Int32) &&& 31)))]) _
   rw [hf1]
   refine XS.istoreN X2.here hx rfl (oG hby d29 6 rfl) rfl (l' := #[oA a0_, oI p1_, oI 0]) rfl ?_
   refine XS.iloadN X2.here hx rfl (oG hby d29 7 rfl) rfl ?_
   refine XS.aloadN X2.here hx rfl (oG hby d29 8 rfl) rfl rfl ?_
   refine st3 _ ?_
   refine XS.icmpYes X3.here hx rfl (pc0 := 45) (pc' := 67) rfl (oG hby d29 10 rfl) rfl (flt hf2).2.1 (by decide) (by decide) ?_
   refine XS.iconst X3.here hx rfl (oG hby d29 24 rfl) ?_
   show oZ p e below T3 (mkF m 68 #[oA a0_, oI p1_, oI 0] [(.int 0)]) _
   exact retN X3 hx (t := .boolean) Bd.returns (by simp) (oG hby d29 25 rfl) hr
 · show own_QP (some (.int 0)) h0 n0 _ T3.heap _
   exact ⟨rfl, N2, e3⟩
theorem own_b33_t (l : Launch) (Z : State) (a0 : Array Value) (hw : oH a0 Z) (ws : List Jvm.Cond) (a0_ : Addr) (p1_ : Int32) (f_words_a0_ : Addr) (n_f_words_a0_ : Int32) (vs_f_words_a0_ : List Int64) (h0 : Heap) (n0 : Nat) (Z0 : n0 ≤ h0.size) (F_words_a0_ : Fld Z h0 a0_ oC2 "words" "[J" (.ref f_words_a0_)) (A_f_words_a0_ : own_jl Z h0 f_words_a0_ n_f_words_a0_ vs_f_words_a0_) (hf0 : ¬ (n_f_words_a0_ < p1_)) :
   oMet l oM36 jdk_92_method_14_code 3 none ws (oR 0 0 0 0) Z h0 #[(.ref a0_), (.int p1_)] (own_QP (none) h0 n0) := by
 refine oBd n0 (plainFor_of_name own_pn1) ?_
 intro p e s m below meth c s₁ Bd hx hZ hby hml hown hnm X0 e0 N0
 obtain ⟨T1, X1, e1, st1⟩ := getF X0 hx hZ hown (host := "") (Or.inl (oW hw 126 rfl)) Via.refl e0 F_words_a0_ (g := (mkF m 1 #[oA a0_, oI p1_, .unset] [(.ref a0_)])) rfl rfl (oG hby d33 1 rfl)
 obtain ⟨c2, A2, S2, M2⟩ := own_jl_cell A_f_words_a0_
 obtain ⟨fs, hr, hrun, hended, hW, hsame⟩ := X1.leave (v := none) (fun _ => rfl)
 refine ⟨_, _, castTop (own_ef4 m a0_ p1_) ?_, hrun, hended, _, _, rfl, ?_, ⟨_, rfl⟩, hW, (hsame.mono (by decide) (by decide))⟩
 · show oZ p e below s₁ (mkF m 0 #[oA a0_, oI p1_, .unset] []) _
   refine XS.aloadN X0.here hx rfl (oG hby d33 0 rfl) rfl rfl ?_
   refine st1 _ ?_
   refine X1.arraylength hx (by rw [e1]; exact A2.1) (State.isArrayOf_alike hZ.alike A2.2.1) (g := (mkF m 4 #[oA a0_, oI p1_, .unset] [(.ref f_words_a0_)])) rfl rfl (oG hby d33 2 rfl) _ ?_
   rw [len_of S2 M2]
   refine XS.iloadN X1.here hx rfl (oG hby d33 3 rfl) rfl ?_
   refine XS.icmpYes X1.here hx rfl (pc0 := 6) (pc' := 38) rfl (oG hby d33 4 rfl) rfl (flt hf0).2.1 (by decide) (by decide) ?_
   show oZ p e below T1 (mkF m 38 #[oA a0_, oI p1_, .unset] []) _
   exact X1.returnOut hx Bd.returns (oG hby d33 5 rfl) hr
 · show own_QP (none) h0 n0 _ T1.heap _
   exact ⟨rfl, N0, e1⟩
def Qown_b32_f_6 (Z : State) (a0_ : Addr) (p1_ : Int32) (f_wordsInUse_a0_ : Int32) (f_words_a0_ : Addr) (n_f_words_a0_ : Int32) (vs_f_words_a0_ : List Int64) (u_sizeIsSticky_a0_ : Value) (h0 : Heap) (n0 : Nat) (v : Option Value) (h : Heap) (L : List Loc) : Prop := v = none ∧ Fr n0 L ∧ Keep h0 h [a0_] ∧ Fld Z h a0_ oC2 "wordsInUse" "I" (.int (p1_ + (1 : Int32))) ∧ Fld Z h a0_ oC2 "words" "[J" (.ref f_words_a0_) ∧ Exa Z h a0_ oC2 ∧ Fld Z h a0_ oC2 "sizeIsSticky" "Z" u_sizeIsSticky_a0_
theorem own_b32_f_6 (l : Launch) (Z : State) (a0 : Array Value) (hw : oH a0 Z) (ws : List Jvm.Cond) (a0_ : Addr) (p1_ : Int32) (f_wordsInUse_a0_ : Int32) (f_words_a0_ : Addr) (n_f_words_a0_ : Int32) (vs_f_words_a0_ : List Int64) (u_sizeIsSticky_a0_ : Value) (h0 : Heap) (n0 : Nat) (Z0 : n0 ≤ h0.size) (F_wordsInUse_a0_ : Fld Z h0 a0_ oC2 "wordsInUse" "I" (.int f_wordsInUse_a0_)) (F_words_a0_ : Fld Z h0 a0_ oC2 "words" "[J" (.ref f_words_a0_)) (A_f_words_a0_ : own_jl Z h0 f_words_a0_ n_f_words_a0_ vs_f_words_a0_) (E_a0_ : Exa Z h0 a0_ oC2) (g_a0_ : n0 ≤ a0_) (F_sizeIsSticky_a0_ : Fld Z h0 a0_ oC2 "sizeIsSticky" "Z" u_sizeIsSticky_a0_) (hf0 : f_wordsInUse_a0_ < (p1_ + (1 : Int32))) (hf1 : ¬ (n_f_words_a0_ < (p1_ + (1 : Int32)))) :
   oMet l oM22 jdk_92_method_15_code 3 none ws (oR 1 0 0 14) Z h0 #[(.ref a0_), (.int p1_)] (Qown_b32_f_6 Z a0_ p1_ f_wordsInUse_a0_ f_words_a0_ n_f_words_a0_ vs_f_words_a0_ u_sizeIsSticky_a0_ h0 n0) := by
 refine oBd n0 (plainFor_of_name own_pn1) ?_
 intro p e s m below meth c s₁ Bd hx hZ hby hml hown hnm X0 e0 N0
 obtain ⟨T1, X1, e1, st1⟩ := getF X0 hx hZ hown (host := "") (Or.inl (oW hw 113 rfl)) Via.refl e0 F_wordsInUse_a0_ (g := (mkF m 5 #[oA a0_, oI p1_, oI (p1_ + (1 : Int32))] [(.ref a0_)])) rfl rfl (oG hby d32 5 rfl)
 obtain ⟨cq2, q2, q2'⟩ := E_a0_.cell
 obtain ⟨_, _, ⟨T2, L2, k2, n2⟩, -, X2, ⟨Lc2, hQ2, l2, y2, z2⟩, st2⟩ := X1.privateBack hx (y := oM36) hown (mvT hZ (oW hw 197 rfl)) (mvT hZ (oW hw 198 rfl)) (own_selp (mvT hZ (oW hw 107 rfl)) (mvP hZ (oW hw 199 rfl) (args := #[])) (mvT hZ (oW hw 198 rfl)) (by decide)) (Cond.privateMethod_at (mvP hZ (oW hw 199 rfl) (args := #[]))) (mvT hZ (oW hw 201 rfl)) (by decide) (backOf (W := 0) (own_b33_t l Z a0 hw [] a0_ (p1_ + (1 : Int32)) f_words_a0_ n_f_words_a0_ vs_f_words_a0_ h0 n0 Z0 F_words_a0_ A_f_words_a0_ hf1) hZ (oW hw 201 rfl) (oW hw 108 rfl) (by decide) (by decide)) (g := (mkF m 14 #[oA a0_, oI p1_, oI (p1_ + (1 : Int32))] [(.int (p1_ + (1 : Int32))), (.ref a0_)])) rfl (by rw [hml]; rfl) (Steps.refl _) (a := a0_) (by rw [e1]; exact q2) q2' (argsL := [(.int (p1_ + (1 : Int32)))]) (rest := []) (lenOf own_pd3 rfl) rfl (by show 2 * 0 + _ ≤ _; exact Nat.le_of_eq rfl) (oG hby d32 10 rfl) (fun _ _ => ⟨rfl, e1, (by decide : 0 + 0 ≤ _), (by decide : 0 + 0 ≤ _)⟩)
 dsimp only [Pt.U, Pt.locs, Pt.cells, Pt.slots] at X2 l2 y2 z2 st2 hQ2
 subst l2 y2 z2
 obtain ⟨rfl, N2q, e2⟩ := hQ2
 have N2 := Fr.app N0 N2q
 obtain ⟨T3, h3, X3, e3, W3, st3⟩ := putF X2 hx hZ hown (host := "") (Or.inl (oW hw 113 rfl)) Via.refl e2 F_wordsInUse_a0_ E_a0_ (Or.inl (oW hw 114 rfl)) (oW hw 107 rfl) (ty := .int) (by decide) rfl rfl (g := (mkF m 19 #[oA a0_, oI p1_, oI (p1_ + (1 : Int32))] [(.int (p1_ + (1 : Int32))), (.ref a0_)])) rfl rfl (oG hby d32 13 rfl)
 have Fw3 := F_wordsInUse_a0_.same W3
 have K3 : Keep h0 h3 [a0_] := (Keep.refl h0 [a0_]).wr W3 (Or.inl (oX 0 rfl))
 have N3 := Fr.snoc X3 N2 g_a0_
 have f4_a0__sizeIsSticky := (F_sizeIsSticky_a0_.other W3 (oN (Or.inl (oW hw 116 rfl)) (Or.inl (oW hw 114 rfl)) (t := .boolean) (t' := .int)))
 have f5_a0__words := (F_words_a0_.other W3 (oN (Or.inl (oW hw 127 rfl)) (Or.inl (oW hw 114 rfl)) (t := (.array .long)) (t' := .int)))
 have f6_a0_ := (E_a0_.wr W3)
 obtain ⟨fs, hr, hrun, hended, hW, hsame⟩ := X3.leave (v := none) (fun _ => rfl)
 refine ⟨_, _, castTop (own_ef5 m a0_ p1_) ?_, hrun, hended, _, _, rfl, ?_, ⟨_, rfl⟩, hW, (hsame.mono (by decide) (by decide))⟩
 · show oZ p e below s₁ (mkF m 0 #[oA a0_, oI p1_, .unset] []) _
   refine XS.iloadN X0.here hx rfl (oG hby d32 0 rfl) rfl ?_
   refine XS.iconst X0.here hx rfl (oG hby d32 1 rfl) ?_
   refine XS.iadd X0.here hx rfl (oG hby d32 2 rfl) rfl ?_
   refine XS.istoreN X0.here hx rfl (oG hby d32 3 rfl) rfl (l' := #[oA a0_, oI p1_, oI (p1_ + (1 : Int32))]) rfl ?_
   refine XS.aloadN X0.here hx rfl (oG hby d32 4 rfl) rfl rfl ?_
   refine st1 _ ?_
   refine XS.iloadN X1.here hx rfl (oG hby d32 6 rfl) rfl ?_
   refine XS.icmpNo X1.here hx rfl (oG hby d32 7 rfl) rfl (tlt hf0).2.1 ?_
   refine XS.aloadN X1.here hx rfl (oG hby d32 8 rfl) rfl rfl ?_
   refine XS.iloadN X1.here hx rfl (oG hby d32 9 rfl) rfl ?_
   refine st2.trans ?_
   show oZ p e below T2 (mkF m 17 #[oA a0_, oI p1_, oI (p1_ + (1 : Int32))] []) _
   refine XS.aloadN X2.here hx rfl (oG hby d32 11 rfl) rfl rfl ?_
   refine XS.iloadN X2.here hx rfl (oG hby d32 12 rfl) rfl ?_
   refine st3 _ ?_
   show oZ p e below T3 (mkF m 22 #[oA a0_, oI p1_, oI (p1_ + (1 : Int32))] []) _
   exact X3.returnOut hx Bd.returns (oG hby d32 14 rfl) hr
 · show Qown_b32_f_6 Z a0_ p1_ f_wordsInUse_a0_ f_words_a0_ n_f_words_a0_ vs_f_words_a0_ u_sizeIsSticky_a0_ h0 n0 _ T3.heap _
   rw [e3]
   exact ⟨rfl, N3, K3, Fw3, f5_a0__words, f6_a0_, f4_a0__sizeIsSticky⟩
def Qown_b31_t_7 (Z : State) (a0_ : Addr) (p1_ : Int32) (f_wordsInUse_a0_ : Int32) (f_words_a0_ : Addr) (n_f_words_a0_ : Int32) (vs_f_words_a0_ : List Int64) (u_sizeIsSticky_a0_ : Value) (h0 : Heap) (n0 : Nat) (v : Option Value) (h : Heap) (L : List Loc) : Prop := v = none ∧ Fr n0 L ∧ Keep h0 h [a0_, f_words_a0_] ∧ Exa Z h a0_ oC2 ∧ Fld Z h a0_ oC2 "wordsInUse" "I" (.int ((0 : Int32) + (1 : Int32))) ∧ Fld Z h a0_ oC2 "words" "[J" (.ref f_words_a0_) ∧ Fld Z h a0_ oC2 "sizeIsSticky" "Z" u_sizeIsSticky_a0_ ∧ own_jl Z h f_words_a0_ n_f_words_a0_ (vs_f_words_a0_.set ((0 : Int32)).toNatClampNeg ((vs_f_words_a0_.getD ((0 : Int32)).toNatClampNeg 0) ||| (own_sl (1 : Int64) p1_)))
theorem own_b31_t_7 (l : Launch) (Z : State) (a0 : Array Value) (hw : oH a0 Z) (ws : List Jvm.Cond) (a0_ : Addr) (p1_ : Int32) (f_wordsInUse_a0_ : Int32) (f_words_a0_ : Addr) (n_f_words_a0_ : Int32) (vs_f_words_a0_ : List Int64) (u_sizeIsSticky_a0_ : Value) (h0 : Heap) (n0 : Nat) (Z0 : n0 ≤ h0.size) (F_wordsInUse_a0_ : Fld Z h0 a0_ oC2 "wordsInUse" "I" (.int f_wordsInUse_a0_)) (F_words_a0_ : Fld Z h0 a0_ oC2 "words" "[J" (.ref f_words_a0_)) (A_f_words_a0_ : own_jl Z h0 f_words_a0_ n_f_words_a0_ vs_f_words_a0_) (E_a0_ : Exa Z h0 a0_ oC2) (g_a0_ : n0 ≤ a0_) (F_sizeIsSticky_a0_ : Fld Z h0 a0_ oC2 "sizeIsSticky" "Z" u_sizeIsSticky_a0_) (g_f_words_a0_ : n0 ≤ f_words_a0_) (S__assertionsDisabled : Sta Z h0 oC2 "$assertionsDisabled" "Z" (.int 1)) (hf0 : ¬ (p1_ < (0 : Int32))) (hf1 : (p1_ >>> ((6 : Int32) &&& 31)) = (0 : Int32)) (hf2 : f_wordsInUse_a0_ < ((0 : Int32) + (1 : Int32))) (hf3 : ¬ (n_f_words_a0_ < ((0 : Int32) + (1 : Int32)))) (hf4 : ¬ (f_words_a0_ = a0_)) (hf5 : (0 : Int32) < n_f_words_a0_) (hf6 : ((0 : Int32)).toNatClampNeg < vs_f_words_a0_.length) (hf7 : ¬ (a0_ = f_words_a0_)) :
   oMet l oM8 jdk_92_method_19_code 3 none ws (oR 2 0 0 28) Z h0 #[(.ref a0_), (.int p1_)] (Qown_b31_t_7 Z a0_ p1_ f_wordsInUse_a0_ f_words_a0_ n_f_words_a0_ vs_f_words_a0_ u_sizeIsSticky_a0_ h0 n0) := by
 refine oBd n0 (plainFor_of_name own_pn1) ?_
 intro p e s m below meth c s₁ Bd hx hZ hby hml hown hnm X0 e0 N0
 obtain ⟨_, _, ⟨T1, L1, k1, n1⟩, -, X1, ⟨Lc1, hQ1, l1, y1, z1⟩, st1⟩ := Jvm.LawKit.callS X0 hx (y := oM11) hown (mvT hZ (oW hw 122 rfl)) (mvT hZ (oW hw 123 rfl)) (mvT hZ (oW hw 108 rfl)) (mvT hZ (oW hw 124 rfl)) (by decide) (backOf (W := 0) (own_b20_x l Z a0 hw [] p1_ h0 n0 Z0 ) hZ (oW hw 124 rfl) (oW hw 108 rfl) (by decide) (by decide)) (g := (mkF m 32 #[oA a0_, oI p1_, .unset] [(.int p1_)])) rfl (by rw [hml]; rfl) (argsL := [(.int p1_)]) (rest := []) (lenOf own_pd1 rfl) rfl (by show 2 * 0 + _ ≤ _; exact Nat.le_of_eq rfl) (oG hby d31 3 rfl) (fun _ _ => ⟨rfl, e0, (by decide : 0 + 0 ≤ _), (by decide : 0 + 0 ≤ _)⟩)
 dsimp only [Pt.U, Pt.locs, Pt.cells, Pt.slots] at X1 l1 y1 z1 st1 hQ1
 subst l1 y1 z1
 obtain ⟨rfl, N1q, e1⟩ := hQ1
 have N1 := Fr.app N0 N1q
 obtain ⟨cq2, q2, q2'⟩ := E_a0_.cell
 obtain ⟨_, _, ⟨T2, L2, k2, n2⟩, -, X2, ⟨Lc2, hQ2, l2, y2, z2⟩, st2⟩ := X1.privateBack hx (y := oM22) hown (mvT hZ (oW hw 192 rfl)) (mvT hZ (oW hw 193 rfl)) (own_selp (mvT hZ (oW hw 107 rfl)) (mvP hZ (oW hw 194 rfl) (args := #[])) (mvT hZ (oW hw 193 rfl)) (by decide)) (Cond.privateMethod_at (mvP hZ (oW hw 194 rfl) (args := #[]))) (mvT hZ (oW hw 196 rfl)) (by decide) (backOf (W := 0) (own_b32_f_6 l Z a0 hw [] a0_ (0 : Int32) f_wordsInUse_a0_ f_words_a0_ n_f_words_a0_ vs_f_words_a0_ u_sizeIsSticky_a0_ h0 n0 Z0 F_wordsInUse_a0_ F_words_a0_ A_f_words_a0_ E_a0_ g_a0_ F_sizeIsSticky_a0_ hf2 hf3) hZ (oW hw 196 rfl) (oW hw 108 rfl) (by decide) (by decide)) (g := (mkF m 38 #[oA a0_, oI p1_, oI 0] [(.int 0), (.ref a0_)])) rfl (by rw [hml]; rfl) (Steps.refl _) (a := a0_) (by rw [e1]; exact q2) q2' (argsL := [(.int 0)]) (rest := []) (lenOf own_pd3 rfl) rfl (by show 2 * 0 + _ ≤ _; exact Nat.le_of_eq rfl) (oG hby d31 7 rfl) (fun _ _ => ⟨rfl, e1, (by decide : 0 + 0 ≤ _), (by decide : 0 + 0 ≤ _)⟩)
 dsimp only [Pt.U, Pt.locs, Pt.cells, Pt.slots] at X2 l2 y2 z2 st2 hQ2
 subst l2 y2 z2
 obtain ⟨rfl, N2q, Kq2, Q2_0, Q2_1, Q2_2, Q2_3⟩ := hQ2
 have N2 := Fr.app N1 N2q
 have K2 : Keep h0 T2.heap [a0_, f_words_a0_] := (Keep.refl h0 [a0_, f_words_a0_]).trans Kq2 (own_a1 (Or.inl (oX 0 rfl)))
 obtain ⟨T3, X3, e3, st3⟩ := getF X2 hx hZ hown (host := "") (Or.inl (oW hw 126 rfl)) Via.refl rfl Q2_1 (g := (mkF m 42 #[oA a0_, oI p1_, oI 0] [(.ref a0_)])) rfl rfl (oG hby d31 9 rfl)
 have f4_f_words_a0_ := (A_f_words_a0_.keep Kq2 (own_n1 hf4))
 obtain ⟨c5, A5, hin5, hat5⟩ := own_jl_at (j := (0 : Int32)) f4_f_words_a0_ (by decide +kernel) hf5
 have hat5' : c5.slots[((0 : Int32)).toNatClampNeg]? = some (.long (vs_f_words_a0_.getD ((0 : Int32)).toNatClampNeg 0)) := hat5
 obtain ⟨c6, A6, hin6, -⟩ := own_jl_at (j := (0 : Int32)) f4_f_words_a0_ (by decide +kernel) hf5
 obtain ⟨T7, h7, X7, e7, W7, st7⟩ := stJ X3 hx hZ e3 A6 (j := (0 : Int32)) hin6 (g := (mkF m 52 #[oA a0_, oI p1_, oI 0] [(.long ((vs_f_words_a0_.getD ((0 : Int32)).toNatClampNeg 0) ||| (own_sl (1 : Int64) p1_))), (.int 0), (.ref f_words_a0_)])) rfl rfl (oG hby d31 17 rfl)
 have V7 : own_jl Z h7 f_words_a0_ n_f_words_a0_ (vs_f_words_a0_.set ((0 : Int32)).toNatClampNeg ((vs_f_words_a0_.getD ((0 : Int32)).toNatClampNeg 0) ||| (own_sl (1 : Int64) p1_))) := own_jl_st f4_f_words_a0_ (by decide +kernel) hf5 W7 hf6
 have K7 : Keep h0 h7 [a0_, f_words_a0_] := K2.wr W7 (Or.inl (oX 1 rfl))
 have N7 := Fr.snoc X7 N2 g_f_words_a0_
 have f9_java_util_BitSet__assert := ((own_sta_k S__assertionsDisabled Kq2 (own_a1 (own_ns_E E_a0_))).wr W7)
 have f10_a0_ := (Q2_2.wr W7)
 obtain ⟨cq8, q8, q8'⟩ := f10_a0_.cell
 obtain ⟨_, _, ⟨T8, L8, k8, n8⟩, -, X8, ⟨Lc8, hQ8, l8, y8, z8⟩, st8⟩ := X7.privateBack hx (y := oM15) hown (mvT hZ (oW hw 181 rfl)) (mvT hZ (oW hw 182 rfl)) (own_selp (mvT hZ (oW hw 107 rfl)) (mvP hZ (oW hw 183 rfl) (args := #[])) (mvT hZ (oW hw 182 rfl)) (by decide)) (Cond.privateMethod_at (mvP hZ (oW hw 183 rfl) (args := #[]))) (mvT hZ (oW hw 185 rfl)) (by decide) (backOf (W := 0) (own_b30_ttt l Z a0 hw [] a0_ h7 n0 (Nat.le_trans Z0 K7.1) f9_java_util_BitSet__assert) hZ (oW hw 185 rfl) (oW hw 108 rfl) (by decide) (by decide)) (g := (mkF m 54 #[oA a0_, oI p1_, oI 0] [(.ref a0_)])) rfl (by rw [hml]; rfl) (Steps.refl _) (a := a0_) (by rw [e7]; exact q8) q8' (argsL := []) (rest := []) (lenOf own_pd0 rfl) rfl (by show 2 * 0 + _ ≤ _; exact Nat.le_of_eq rfl) (oG hby d31 19 rfl) (fun _ _ => ⟨rfl, e7, (by decide : 0 + 0 ≤ _), (by decide : 0 + 0 ≤ _)⟩)
 dsimp only [Pt.U, Pt.locs, Pt.cells, Pt.slots] at X8 l8 y8 z8 st8 hQ8
 subst l8 y8 z8
 obtain ⟨rfl, N8q, e8⟩ := hQ8
 have N8 := Fr.app N7 N8q
 have f11_a0__wordsInUse := (Q2_0.other W7 (Or.inl hf7))
 have f12_a0__words := (Q2_1.other W7 (Or.inl hf7))
 have f13_a0__sizeIsSticky := (Q2_3.other W7 (Or.inl hf7))
 obtain ⟨fs, hr, hrun, hended, hW, hsame⟩ := X8.leave (v := none) (fun _ => rfl)
 refine ⟨_, _, castTop (own_ef6 m a0_ p1_) ?_, hrun, hended, _, _, rfl, ?_, ⟨_, rfl⟩, hW, (hsame.mono (by decide) (by decide))⟩
 · show oZ p e below s₁ (mkF m 0 #[oA a0_, oI p1_, .unset] []) _
   refine XS.iloadN X0.here hx rfl (oG hby d31 0 rfl) rfl ?_
   refine XS.ifYes X0.here hx rfl (pc0 := 1) (pc' := 31) rfl (oG hby d31 1 rfl) rfl ((if0 _ _).trans (flt hf0).2.1) (by decide) (by decide) ?_
   refine XS.iloadN X0.here hx rfl (oG hby d31 2 rfl) rfl ?_
   refine st1 _ ?_
   show oZ p e below T1 (mkF m 35 #[oA a0_, oI p1_, .unset] [(.int (p1_ >>> ((6 : Int32) &&& 31)))]) _
   rw [hf1]
   refine XS.istoreN X1.here hx rfl (oG hby d31 4 rfl) rfl (l' := #[oA a0_, oI p1_, oI 0]) rfl ?_
   refine XS.aloadN X1.here hx rfl (oG hby d31 5 rfl) rfl rfl ?_
   refine XS.iloadN X1.here hx rfl (oG hby d31 6 rfl) rfl ?_
   refine st2.trans ?_
   refine XS.aloadN X2.here hx rfl (oG hby d31 8 rfl) rfl rfl ?_
   refine st3 _ ?_
   refine XS.iloadN X3.here hx rfl (oG hby d31 10 rfl) rfl ?_
   show oZ p e below T3 (mkF m 46 #[oA a0_, oI p1_, oI 0] [(.int 0), (.ref f_words_a0_)]) _
   jvm_step X3.here [X3.here.top, hx, (oG hby d31 11 rfl), Value.category]
   refine X3.laload hx (j := (0 : Int32)) (v := (.long (vs_f_words_a0_.getD ((0 : Int32)).toNatClampNeg 0))) (by rw [e3]; exact A5.1) (State.isArrayOf_alike hZ.alike A5.2.1) A5.2.2 hin5 hat5' (g := (mkF m 47 #[oA a0_, oI p1_, oI 0] [(.int 0), (.ref f_words_a0_), (.int 0), (.ref f_words_a0_)])) rfl rfl (oG hby d31 12 rfl) _ ?_
   refine XS.lconst X3.here hx rfl (oG hby d31 13 rfl) ?_
   show oZ p e below T3 (mkF m 49 #[oA a0_, oI p1_, oI 0] [(.long 1), (.long (vs_f_words_a0_.getD ((0 : Int32)).toNatClampNeg 0)), (.int 0), (.ref f_words_a0_)]) _
   refine XS.iloadN X3.here hx rfl (oG hby d31 14 rfl) rfl ?_
   refine XS.lshl X3.here hx rfl (oG hby d31 15 rfl) rfl ?_
   refine XS.lor X3.here hx rfl (oG hby d31 16 rfl) rfl ?_
   refine st7 _ ?_
   refine XS.aloadN X7.here hx rfl (oG hby d31 18 rfl) rfl rfl ?_
   refine st8.trans ?_
   show oZ p e below T8 (mkF m 57 #[oA a0_, oI p1_, oI 0] []) _
   exact X8.returnOut hx Bd.returns (oG hby d31 20 rfl) hr
 · show Qown_b31_t_7 Z a0_ p1_ f_wordsInUse_a0_ f_words_a0_ n_f_words_a0_ vs_f_words_a0_ u_sizeIsSticky_a0_ h0 n0 _ T8.heap _
   rw [e8]
   exact ⟨rfl, N8, K7, f10_a0_, f11_a0__wordsInUse, f12_a0__words, f13_a0__sizeIsSticky, V7⟩
def Qown_b28_tfft_8 (Z : State) (a0_ : Addr) (p1_ : Int32) (f_toSkip_a0_ : Int64) (f_taken_a0_ : Int32) (f_chosen_a0_ : Addr) (n_f_chosen_a0_ : Int32) (f_has_a0_ : Addr) (f_wordsInUse_f_has_a0_ : Int32) (f_words_f_has_a0_ : Addr) (n_f_words_f_has_a0_ : Int32) (vs_f_words_f_has_a0_ : List Int64) (u_sizeIsSticky_f_has_a0_ : Value) (h0 : Heap) (n0 : Nat) (v : Option Value) (h : Heap) (L : List Loc) : Prop := v = some (.int 0) ∧ Fr n0 L ∧ Keep h0 h [f_has_a0_, f_words_f_has_a0_, f_chosen_a0_, a0_] ∧ Exa Z h f_has_a0_ oC2 ∧ Fld Z h f_has_a0_ oC2 "wordsInUse" "I" (.int ((0 : Int32) + (1 : Int32))) ∧ Fld Z h f_has_a0_ oC2 "words" "[J" (.ref f_words_f_has_a0_) ∧ Fld Z h f_has_a0_ oC2 "sizeIsSticky" "Z" u_sizeIsSticky_f_has_a0_ ∧ own_jl Z h f_words_f_has_a0_ n_f_words_f_has_a0_ (vs_f_words_f_has_a0_.set ((0 : Int32)).toNatClampNeg ((vs_f_words_f_has_a0_.getD ((0 : Int32)).toNatClampNeg 0) ||| (own_sl (1 : Int64) p1_))) ∧ own_ia Z h f_chosen_a0_ n_f_chosen_a0_ ∧ Fld Z h a0_ oC1 "toSkip" "J" (.long f_toSkip_a0_) ∧ Fld Z h a0_ oC1 "taken" "I" (.int (f_taken_a0_ + (1 : Int32))) ∧ Fld Z h a0_ oC1 "chosen" "[I" (.ref f_chosen_a0_) ∧ Fld Z h a0_ oC1 "has" "Ljava/util/BitSet;" (.ref f_has_a0_) ∧ Exa Z h a0_ oC1
theorem own_b28_tfft_8 (l : Launch) (Z : State) (a0 : Array Value) (hw : oH a0 Z) (ws : List Jvm.Cond) (a0_ : Addr) (p1_ : Int32) (f_toSkip_a0_ : Int64) (f_taken_a0_ : Int32) (f_chosen_a0_ : Addr) (n_f_chosen_a0_ : Int32) (f_has_a0_ : Addr) (f_wordsInUse_f_has_a0_ : Int32) (f_words_f_has_a0_ : Addr) (n_f_words_f_has_a0_ : Int32) (vs_f_words_f_has_a0_ : List Int64) (u_sizeIsSticky_f_has_a0_ : Value) (h0 : Heap) (n0 : Nat) (Z0 : n0 ≤ h0.size) (F_toSkip_a0_ : Fld Z h0 a0_ oC1 "toSkip" "J" (.long f_toSkip_a0_)) (F_taken_a0_ : Fld Z h0 a0_ oC1 "taken" "I" (.int f_taken_a0_)) (F_chosen_a0_ : Fld Z h0 a0_ oC1 "chosen" "[I" (.ref f_chosen_a0_)) (A_f_chosen_a0_ : own_ia Z h0 f_chosen_a0_ n_f_chosen_a0_) (F_has_a0_ : Fld Z h0 a0_ oC1 "has" "Ljava/util/BitSet;" (.ref f_has_a0_)) (S__assertionsDisabled : Sta Z h0 oC2 "$assertionsDisabled" "Z" (.int 1)) (E_f_has_a0_ : Exa Z h0 f_has_a0_ oC2) (F_wordsInUse_f_has_a0_ : Fld Z h0 f_has_a0_ oC2 "wordsInUse" "I" (.int f_wordsInUse_f_has_a0_)) (F_words_f_has_a0_ : Fld Z h0 f_has_a0_ oC2 "words" "[J" (.ref f_words_f_has_a0_)) (A_f_words_f_has_a0_ : own_jl Z h0 f_words_f_has_a0_ n_f_words_f_has_a0_ vs_f_words_f_has_a0_) (g_f_has_a0_ : n0 ≤ f_has_a0_) (F_sizeIsSticky_f_has_a0_ : Fld Z h0 f_has_a0_ oC2 "sizeIsSticky" "Z" u_sizeIsSticky_f_has_a0_) (g_f_words_f_has_a0_ : n0 ≤ f_words_f_has_a0_) (g_f_chosen_a0_ : n0 ≤ f_chosen_a0_) (E_a0_ : Exa Z h0 a0_ oC1) (g_a0_ : n0 ≤ a0_) (hf0 : ¬ ((0 : Int32) < (lcmpW f_toSkip_a0_ (0 : Int64)))) (hf1 : f_taken_a0_ < n_f_chosen_a0_) (hf2 : ¬ (p1_ < (0 : Int32))) (hf3 : (p1_ >>> ((6 : Int32) &&& 31)) = (0 : Int32)) (hf4 : ¬ ((0 : Int32) < f_wordsInUse_f_has_a0_)) (hf5 : f_wordsInUse_f_has_a0_ < ((0 : Int32) + (1 : Int32))) (hf6 : ¬ (n_f_words_f_has_a0_ < ((0 : Int32) + (1 : Int32)))) (hf7 : ¬ (f_words_f_has_a0_ = f_has_a0_)) (hf8 : (0 : Int32) < n_f_words_f_has_a0_) (hf9 : ((0 : Int32)).toNatClampNeg < vs_f_words_f_has_a0_.length) (hf10 : ¬ (f_has_a0_ = f_words_f_has_a0_)) (hf11 : ¬ (a0_ = f_has_a0_)) (hf12 : ¬ (a0_ = f_words_f_has_a0_)) (hf13 : ¬ (f_chosen_a0_ = f_has_a0_)) (hf14 : ¬ (f_chosen_a0_ = f_words_f_has_a0_)) (hf15 : ¬ (f_taken_a0_ < 0)) (hf16 : ¬ (a0_ = f_chosen_a0_)) (hf17 : ¬ (f_chosen_a0_ = a0_)) (hf18 : ¬ ((f_taken_a0_ + (1 : Int32)) = n_f_chosen_a0_)) (hf19 : ¬ (f_has_a0_ = f_chosen_a0_)) (hf20 : ¬ (f_has_a0_ = a0_)) (hf21 : ¬ (f_words_f_has_a0_ = f_chosen_a0_)) (hf22 : ¬ (f_words_f_has_a0_ = a0_)) :
   oMet l oM0 prog_30_method_2_code 2 (some .boolean) ws (oR 3 0 0 60) Z h0 #[(.ref a0_), (.int p1_)] (Qown_b28_tfft_8 Z a0_ p1_ f_toSkip_a0_ f_taken_a0_ f_chosen_a0_ n_f_chosen_a0_ f_has_a0_ f_wordsInUse_f_has_a0_ f_words_f_has_a0_ n_f_words_f_has_a0_ vs_f_words_f_has_a0_ u_sizeIsSticky_f_has_a0_ h0 n0) := by
 refine oBd n0 (plainFor_of_name own_pn0) ?_
 intro p e s m below meth c s₁ Bd hx hZ hby hml hown hnm X0 e0 N0
 obtain ⟨T1, X1, e1, st1⟩ := getF X0 hx hZ hown (host := "") (Or.inl (oW hw 102 rfl)) Via.refl e0 F_toSkip_a0_ (g := (mkF m 1 #[oA a0_, oI p1_] [(.ref a0_)])) rfl rfl (oG hby d28 1 rfl)
 obtain ⟨T2, X2, e2, st2⟩ := getF X1 hx hZ hown (host := "") (Or.inl (oW hw 174 rfl)) Via.refl e1 F_taken_a0_ (g := (mkF m 22 #[oA a0_, oI p1_] [(.ref a0_)])) rfl rfl (oG hby d28 14 rfl)
 obtain ⟨T3, X3, e3, st3⟩ := getF X2 hx hZ hown (host := "") (Or.inl (oW hw 104 rfl)) Via.refl e2 F_chosen_a0_ (g := (mkF m 26 #[oA a0_, oI p1_] [(.ref a0_), (.int f_taken_a0_)])) rfl rfl (oG hby d28 16 rfl)
 obtain ⟨c4, A4, S4, M4⟩ := own_ia_cell A_f_chosen_a0_
 obtain ⟨T5, X5, e5, st5⟩ := getF X3 hx hZ hown (host := "") (Or.inl (oW hw 128 rfl)) Via.refl e3 F_has_a0_ (g := (mkF m 34 #[oA a0_, oI p1_] [(.ref a0_)])) rfl rfl (oG hby d28 20 rfl)
 obtain ⟨cq6, kq6, q6a, q6b, q6c⟩ := isOf hZ e5 E_f_has_a0_
 obtain ⟨_, _, ⟨T6, L6, k6, n6⟩, -, X6, ⟨Lc6, hQ6, l6, y6, z6⟩, st6⟩ := X5.virtualBack hx (y := oM1) (z := oM1) hown (mvT hZ (oW hw 176 rfl)) (mvT hZ (oW hw 177 rfl)) (notFace_of_selects (args := #[]) (mvT hZ (oW hw 179 rfl))) (mvT hZ (oW hw 179 rfl)) (mvT hZ (oW hw 178 rfl)) (by decide) (backOf (W := 0) (own_b29_tt_4 l Z a0 hw [] f_has_a0_ p1_ f_wordsInUse_f_has_a0_ h0 n0 Z0 S__assertionsDisabled E_f_has_a0_ F_wordsInUse_f_has_a0_ hf2 hf3 hf4) hZ (oW hw 180 rfl) (oW hw 108 rfl) (by decide) (by decide)) q6a q6c (g := (mkF m 38 #[oA a0_, oI p1_] [(.int p1_), (.ref f_has_a0_)])) rfl (by rw [hml]; rfl) (Steps.refl _) (argsL := [(.int p1_)]) (rest := []) (lenOf own_pd2 rfl) rfl (by show 2 * 0 + _ ≤ _; exact Nat.le_of_eq rfl) (oG hby d28 22 rfl) (fun _ _ => ⟨rfl, e5, (by decide : 0 + 0 ≤ _), (by decide : 0 + 0 ≤ _)⟩)
 dsimp only [Pt.U, Pt.locs, Pt.cells, Pt.slots] at X6 l6 y6 z6 st6 hQ6
 subst l6 y6 z6
 obtain ⟨rfl, N6q, e6⟩ := hQ6
 have N6 := Fr.app N0 N6q
 obtain ⟨T7, X7, e7, st7⟩ := getF X6 hx hZ hown (host := "") (Or.inl (oW hw 128 rfl)) Via.refl e6 F_has_a0_ (g := (mkF m 45 #[oA a0_, oI p1_] [(.ref a0_)])) rfl rfl (oG hby d28 25 rfl)
 obtain ⟨cq8, kq8, q8a, q8b, q8c⟩ := isOf hZ e7 E_f_has_a0_
 obtain ⟨_, _, ⟨T8, L8, k8, n8⟩, -, X8, ⟨Lc8, hQ8, l8, y8, z8⟩, st8⟩ := X7.virtualBack hx (y := oM8) (z := oM8) hown (mvT hZ (oW hw 187 rfl)) (mvT hZ (oW hw 188 rfl)) (notFace_of_selects (args := #[]) (mvT hZ (oW hw 190 rfl))) (mvT hZ (oW hw 190 rfl)) (mvT hZ (oW hw 189 rfl)) (by decide) (backOf (W := 0) (own_b31_t_7 l Z a0 hw [] f_has_a0_ p1_ f_wordsInUse_f_has_a0_ f_words_f_has_a0_ n_f_words_f_has_a0_ vs_f_words_f_has_a0_ u_sizeIsSticky_f_has_a0_ h0 n0 Z0 F_wordsInUse_f_has_a0_ F_words_f_has_a0_ A_f_words_f_has_a0_ E_f_has_a0_ g_f_has_a0_ F_sizeIsSticky_f_has_a0_ g_f_words_f_has_a0_ S__assertionsDisabled hf2 hf3 hf5 hf6 hf7 hf8 hf9 hf10) hZ (oW hw 191 rfl) (oW hw 108 rfl) (by decide) (by decide)) q8a q8c (g := (mkF m 49 #[oA a0_, oI p1_] [(.int p1_), (.ref f_has_a0_)])) rfl (by rw [hml]; rfl) (Steps.refl _) (argsL := [(.int p1_)]) (rest := []) (lenOf own_pd3 rfl) rfl (by show 2 * 0 + _ ≤ _; exact Nat.le_of_eq rfl) (oG hby d28 27 rfl) (fun _ _ => ⟨rfl, e7, (by decide : 0 + 0 ≤ _), (by decide : 0 + 0 ≤ _)⟩)
 dsimp only [Pt.U, Pt.locs, Pt.cells, Pt.slots] at X8 l8 y8 z8 st8 hQ8
 subst l8 y8 z8
 obtain ⟨rfl, N8q, Kq8, Q8_0, Q8_1, Q8_2, Q8_3, Q8_4⟩ := hQ8
 have N8 := Fr.app N6 N8q
 have K8 : Keep h0 T8.heap [f_has_a0_, f_words_f_has_a0_, f_chosen_a0_, a0_] := (Keep.refl h0 [f_has_a0_, f_words_f_has_a0_, f_chosen_a0_, a0_]).trans Kq8 (own_a2 (Or.inl (oX 0 rfl)) (Or.inl (oX 1 rfl)))
 have f9_a0__chosen := (F_chosen_a0_.keep Kq8 (own_n2 hf11 hf12))
 obtain ⟨T10, X10, e10, st10⟩ := getF X8 hx hZ hown (host := "") (Or.inl (oW hw 104 rfl)) Via.refl rfl f9_a0__chosen (g := (mkF m 53 #[oA a0_, oI p1_] [(.ref a0_)])) rfl rfl (oG hby d28 29 rfl)
 have f11_a0__taken := (F_taken_a0_.keep Kq8 (own_n2 hf11 hf12))
 obtain ⟨T12, X12, e12, st12⟩ := getF X10 hx hZ hown (host := "") (Or.inl (oW hw 174 rfl)) Via.refl e10 f11_a0__taken (g := (mkF m 57 #[oA a0_, oI p1_] [(.ref a0_), (.ref f_chosen_a0_)])) rfl rfl (oG hby d28 31 rfl)
 have f13_f_chosen_a0_ := (A_f_chosen_a0_.keep Kq8 (own_n2 hf13 hf14))
 obtain ⟨c14, z14, A14, hin14, -⟩ := own_ia_at (j := f_taken_a0_) f13_f_chosen_a0_ hf15 hf1
 obtain ⟨T15, h15, X15, e15, W15, st15⟩ := stI X12 hx hZ e12 A14 (j := f_taken_a0_) hin14 (g := (mkF m 61 #[oA a0_, oI p1_] [(.int p1_), (.int f_taken_a0_), (.ref f_chosen_a0_)])) rfl rfl (oG hby d28 33 rfl)
 have V15 := own_ia_st f13_f_chosen_a0_ hf15 hf1 W15
 have K15 : Keep h0 h15 [f_has_a0_, f_words_f_has_a0_, f_chosen_a0_, a0_] := K8.wr W15 (Or.inl (oX 2 rfl))
 have N15 := Fr.snoc X15 N8 g_f_chosen_a0_
 have f16_a0__taken := (f11_a0__taken.other W15 (Or.inl hf16))
 obtain ⟨T17, X17, e17, st17⟩ := getF X15 hx hZ hown (host := "") (Or.inl (oW hw 174 rfl)) Via.refl e15 f16_a0__taken (g := (mkF m 64 #[oA a0_, oI p1_] [(.ref a0_), (.ref a0_)])) rfl rfl (oG hby d28 36 rfl)
 have f18_a0_ := ((E_a0_.keep Kq8).wr W15)
 obtain ⟨T19, h19, X19, e19, W19, st19⟩ := putF X17 hx hZ hown (host := "") (Or.inl (oW hw 174 rfl)) Via.refl e17 f16_a0__taken f18_a0_ (Or.inl (oW hw 175 rfl)) (oW hw 96 rfl) (ty := .int) (by decide) rfl rfl (g := (mkF m 69 #[oA a0_, oI p1_] [(.int (f_taken_a0_ + (1 : Int32))), (.ref a0_)])) rfl rfl (oG hby d28 39 rfl)
 have Fw19 := f16_a0__taken.same W19
 have K19 : Keep h0 h19 [f_has_a0_, f_words_f_has_a0_, f_chosen_a0_, a0_] := K15.wr W19 (Or.inl (oX 3 rfl))
 have N19 := Fr.snoc X19 N15 g_a0_
 obtain ⟨T20, X20, e20, st20⟩ := getF X19 hx hZ hown (host := "") (Or.inl (oW hw 174 rfl)) Via.refl e19 Fw19 (g := (mkF m 73 #[oA a0_, oI p1_] [(.ref a0_)])) rfl rfl (oG hby d28 41 rfl)
 have f21_a0__chosen := ((f9_a0__chosen.other W15 (Or.inl hf16)).other W19 (oN (Or.inr (oW hw 105 rfl)) (Or.inl (oW hw 175 rfl)) (t := (.array .int)) (t' := .int)))
 obtain ⟨T22, X22, e22, st22⟩ := getF X20 hx hZ hown (host := "") (Or.inl (oW hw 104 rfl)) Via.refl e20 f21_a0__chosen (g := (mkF m 77 #[oA a0_, oI p1_] [(.ref a0_), (.int (f_taken_a0_ + (1 : Int32)))])) rfl rfl (oG hby d28 43 rfl)
 have f23_f_chosen_a0_ := (V15.other W19 hf17)
 obtain ⟨c24, A24, S24, M24⟩ := own_ia_cell f23_f_chosen_a0_
 have f25_f_has_a0_ := ((Q8_0.wr W15).wr W19)
 have f26_f_has_a0__wordsInUse := ((Q8_1.other W15 (Or.inl hf19)).other W19 (Or.inl hf20))
 have f27_f_has_a0__words := ((Q8_2.other W15 (Or.inl hf19)).other W19 (Or.inl hf20))
 have f28_f_has_a0__sizeIsSticky := ((Q8_3.other W15 (Or.inl hf19)).other W19 (Or.inl hf20))
 have f29_f_words_f_has_a0_ := ((Q8_4.other W15 hf21).other W19 hf22)
 have f30_a0__toSkip := (((F_toSkip_a0_.keep Kq8 (own_n2 hf11 hf12)).other W15 (Or.inl hf16)).other W19 (oN (Or.inl (oW hw 103 rfl)) (Or.inl (oW hw 175 rfl)) (t := .long) (t' := .int)))
 have f31_a0__has := (((F_has_a0_.keep Kq8 (own_n2 hf11 hf12)).other W15 (Or.inl hf16)).other W19 (oN (Or.inr (oW hw 129 rfl)) (Or.inl (oW hw 175 rfl)) (t := (.object oC2)) (t' := .int)))
 have f32_a0_ := (f18_a0_.wr W19)
 obtain ⟨fs, hr, hrun, hended, hW, hsame⟩ := X22.leave (v := some (.int 0)) (fun h => by rw [Bd.returns] at h; cases h)
 refine ⟨_, _, castTop (own_ef0 m a0_ p1_) ?_, hrun, hended, _, _, rfl, ?_, ⟨_, rfl⟩, hW, (hsame.mono (by decide) (by decide))⟩
 · show oZ p e below s₁ (mkF m 0 #[oA a0_, oI p1_] []) _
   refine XS.aloadN X0.here hx rfl (oG hby d28 0 rfl) rfl rfl ?_
   refine st1 _ ?_
   refine XS.lconst X1.here hx rfl (oG hby d28 2 rfl) ?_
   show oZ p e below T1 (mkF m 5 #[oA a0_, oI p1_] [(.long 0), (.long f_toSkip_a0_)]) _
   refine XS.lcmp X1.here hx rfl (oG hby d28 3 rfl) rfl ?_
   refine XS.ifYes X1.here hx rfl (pc0 := 6) (pc' := 21) rfl (oG hby d28 4 rfl) rfl ((if0 _ _).trans (flt hf0).2.2.2) (by decide) (by decide) ?_
   refine XS.aloadN X1.here hx rfl (oG hby d28 13 rfl) rfl rfl ?_
   refine st2 _ ?_
   refine XS.aloadN X2.here hx rfl (oG hby d28 15 rfl) rfl rfl ?_
   refine st3 _ ?_
   refine X3.arraylength hx (by rw [e3]; exact A4.1) (State.isArrayOf_alike hZ.alike A4.2.1) (g := (mkF m 29 #[oA a0_, oI p1_] [(.ref f_chosen_a0_), (.int f_taken_a0_)])) rfl rfl (oG hby d28 17 rfl) _ ?_
   rw [len_of S4 M4]
   refine XS.icmpNo X3.here hx rfl (oG hby d28 18 rfl) rfl (tlt hf1).2.1 ?_
   refine XS.aloadN X3.here hx rfl (oG hby d28 19 rfl) rfl rfl ?_
   refine st5 _ ?_
   refine XS.iloadN X5.here hx rfl (oG hby d28 21 rfl) rfl ?_
   show oZ p e below T5 (mkF m 38 #[oA a0_, oI p1_] [(.int p1_), (.ref f_has_a0_)]) _
   refine st6.trans ?_
   refine XS.ifNo X6.here hx rfl (oG hby d28 23 rfl) rfl ((if0 _ _).trans (teq (rfl : (0 : Int32) = (0 : Int32))).2) ?_
   refine XS.aloadN X6.here hx rfl (oG hby d28 24 rfl) rfl rfl ?_
   refine st7 _ ?_
   refine XS.iloadN X7.here hx rfl (oG hby d28 26 rfl) rfl ?_
   refine st8.trans ?_
   refine XS.aloadN X8.here hx rfl (oG hby d28 28 rfl) rfl rfl ?_
   refine st10 _ ?_
   refine XS.aloadN X10.here hx rfl (oG hby d28 30 rfl) rfl rfl ?_
   refine st12 _ ?_
   refine XS.iloadN X12.here hx rfl (oG hby d28 32 rfl) rfl ?_
   show oZ p e below T12 (mkF m 61 #[oA a0_, oI p1_] [(.int p1_), (.int f_taken_a0_), (.ref f_chosen_a0_)]) _
   refine st15 _ ?_
   refine XS.aloadN X15.here hx rfl (oG hby d28 34 rfl) rfl rfl ?_
   refine XS.dup X15.here hx rfl (oG hby d28 35 rfl) rfl rfl ?_
   refine st17 _ ?_
   refine XS.iconst X17.here hx rfl (oG hby d28 37 rfl) ?_
   refine XS.iadd X17.here hx rfl (oG hby d28 38 rfl) rfl ?_
   refine st19 _ ?_
   refine XS.aloadN X19.here hx rfl (oG hby d28 40 rfl) rfl rfl ?_
   refine st20 _ ?_
   refine XS.aloadN X20.here hx rfl (oG hby d28 42 rfl) rfl rfl ?_
   refine st22 _ ?_
   show oZ p e below T22 (mkF m 80 #[oA a0_, oI p1_] [(.ref f_chosen_a0_), (.int (f_taken_a0_ + (1 : Int32)))]) _
   refine X22.arraylength hx (by rw [e22]; exact A24.1) (State.isArrayOf_alike hZ.alike A24.2.1) (g := (mkF m 80 #[oA a0_, oI p1_] [(.ref f_chosen_a0_), (.int (f_taken_a0_ + (1 : Int32)))])) rfl rfl (oG hby d28 44 rfl) _ ?_
   rw [len_of S24 M24]
   refine XS.icmpYes X22.here hx rfl (pc0 := 81) (pc' := 88) rfl (oG hby d28 45 rfl) rfl (feq hf18).2 (by decide) (by decide) ?_
   refine XS.iconst X22.here hx rfl (oG hby d28 48 rfl) ?_
   show oZ p e below T22 (mkF m 89 #[oA a0_, oI p1_] [(.int 0)]) _
   exact retN X22 hx (t := .boolean) Bd.returns (by simp) (oG hby d28 49 rfl) hr
 · show Qown_b28_tfft_8 Z a0_ p1_ f_toSkip_a0_ f_taken_a0_ f_chosen_a0_ n_f_chosen_a0_ f_has_a0_ f_wordsInUse_f_has_a0_ f_words_f_has_a0_ n_f_words_f_has_a0_ vs_f_words_f_has_a0_ u_sizeIsSticky_f_has_a0_ h0 n0 _ T22.heap _
   rw [e22]
   exact ⟨rfl, N19, K19, f25_f_has_a0_, f26_f_has_a0__wordsInUse, f27_f_has_a0__words, f28_f_has_a0__sizeIsSticky, f29_f_words_f_has_a0_, f23_f_chosen_a0_, f30_a0__toSkip, Fw19, f21_a0__chosen, f31_a0__has, f32_a0_⟩
def Qown_b28_tfff_9 (Z : State) (a0_ : Addr) (p1_ : Int32) (f_toSkip_a0_ : Int64) (f_taken_a0_ : Int32) (f_chosen_a0_ : Addr) (n_f_chosen_a0_ : Int32) (f_has_a0_ : Addr) (f_wordsInUse_f_has_a0_ : Int32) (f_words_f_has_a0_ : Addr) (n_f_words_f_has_a0_ : Int32) (vs_f_words_f_has_a0_ : List Int64) (u_sizeIsSticky_f_has_a0_ : Value) (h0 : Heap) (n0 : Nat) (v : Option Value) (h : Heap) (L : List Loc) : Prop := v = some (.int 1) ∧ Fr n0 L ∧ Keep h0 h [f_has_a0_, f_words_f_has_a0_, f_chosen_a0_, a0_] ∧ Exa Z h f_has_a0_ oC2 ∧ Fld Z h f_has_a0_ oC2 "wordsInUse" "I" (.int ((0 : Int32) + (1 : Int32))) ∧ Fld Z h f_has_a0_ oC2 "words" "[J" (.ref f_words_f_has_a0_) ∧ Fld Z h f_has_a0_ oC2 "sizeIsSticky" "Z" u_sizeIsSticky_f_has_a0_ ∧ own_jl Z h f_words_f_has_a0_ n_f_words_f_has_a0_ (vs_f_words_f_has_a0_.set ((0 : Int32)).toNatClampNeg ((vs_f_words_f_has_a0_.getD ((0 : Int32)).toNatClampNeg 0) ||| (own_sl (1 : Int64) p1_))) ∧ own_ia Z h f_chosen_a0_ n_f_chosen_a0_ ∧ Fld Z h a0_ oC1 "toSkip" "J" (.long f_toSkip_a0_) ∧ Fld Z h a0_ oC1 "taken" "I" (.int (f_taken_a0_ + (1 : Int32))) ∧ Fld Z h a0_ oC1 "chosen" "[I" (.ref f_chosen_a0_) ∧ Fld Z h a0_ oC1 "has" "Ljava/util/BitSet;" (.ref f_has_a0_) ∧ Exa Z h a0_ oC1
theorem own_b28_tfff_9 (l : Launch) (Z : State) (a0 : Array Value) (hw : oH a0 Z) (ws : List Jvm.Cond) (a0_ : Addr) (p1_ : Int32) (f_toSkip_a0_ : Int64) (f_taken_a0_ : Int32) (f_chosen_a0_ : Addr) (n_f_chosen_a0_ : Int32) (f_has_a0_ : Addr) (f_wordsInUse_f_has_a0_ : Int32) (f_words_f_has_a0_ : Addr) (n_f_words_f_has_a0_ : Int32) (vs_f_words_f_has_a0_ : List Int64) (u_sizeIsSticky_f_has_a0_ : Value) (h0 : Heap) (n0 : Nat) (Z0 : n0 ≤ h0.size) (F_toSkip_a0_ : Fld Z h0 a0_ oC1 "toSkip" "J" (.long f_toSkip_a0_)) (F_taken_a0_ : Fld Z h0 a0_ oC1 "taken" "I" (.int f_taken_a0_)) (F_chosen_a0_ : Fld Z h0 a0_ oC1 "chosen" "[I" (.ref f_chosen_a0_)) (A_f_chosen_a0_ : own_ia Z h0 f_chosen_a0_ n_f_chosen_a0_) (F_has_a0_ : Fld Z h0 a0_ oC1 "has" "Ljava/util/BitSet;" (.ref f_has_a0_)) (S__assertionsDisabled : Sta Z h0 oC2 "$assertionsDisabled" "Z" (.int 1)) (E_f_has_a0_ : Exa Z h0 f_has_a0_ oC2) (F_wordsInUse_f_has_a0_ : Fld Z h0 f_has_a0_ oC2 "wordsInUse" "I" (.int f_wordsInUse_f_has_a0_)) (F_words_f_has_a0_ : Fld Z h0 f_has_a0_ oC2 "words" "[J" (.ref f_words_f_has_a0_)) (A_f_words_f_has_a0_ : own_jl Z h0 f_words_f_has_a0_ n_f_words_f_has_a0_ vs_f_words_f_has_a0_) (g_f_has_a0_ : n0 ≤ f_has_a0_) (F_sizeIsSticky_f_has_a0_ : Fld Z h0 f_has_a0_ oC2 "sizeIsSticky" "Z" u_sizeIsSticky_f_has_a0_) (g_f_words_f_has_a0_ : n0 ≤ f_words_f_has_a0_) (g_f_chosen_a0_ : n0 ≤ f_chosen_a0_) (E_a0_ : Exa Z h0 a0_ oC1) (g_a0_ : n0 ≤ a0_) (hf0 : ¬ ((0 : Int32) < (lcmpW f_toSkip_a0_ (0 : Int64)))) (hf1 : f_taken_a0_ < n_f_chosen_a0_) (hf2 : ¬ (p1_ < (0 : Int32))) (hf3 : (p1_ >>> ((6 : Int32) &&& 31)) = (0 : Int32)) (hf4 : ¬ ((0 : Int32) < f_wordsInUse_f_has_a0_)) (hf5 : f_wordsInUse_f_has_a0_ < ((0 : Int32) + (1 : Int32))) (hf6 : ¬ (n_f_words_f_has_a0_ < ((0 : Int32) + (1 : Int32)))) (hf7 : ¬ (f_words_f_has_a0_ = f_has_a0_)) (hf8 : (0 : Int32) < n_f_words_f_has_a0_) (hf9 : ((0 : Int32)).toNatClampNeg < vs_f_words_f_has_a0_.length) (hf10 : ¬ (f_has_a0_ = f_words_f_has_a0_)) (hf11 : ¬ (a0_ = f_has_a0_)) (hf12 : ¬ (a0_ = f_words_f_has_a0_)) (hf13 : ¬ (f_chosen_a0_ = f_has_a0_)) (hf14 : ¬ (f_chosen_a0_ = f_words_f_has_a0_)) (hf15 : ¬ (f_taken_a0_ < 0)) (hf16 : ¬ (a0_ = f_chosen_a0_)) (hf17 : ¬ (f_chosen_a0_ = a0_)) (hf18 : (f_taken_a0_ + (1 : Int32)) = n_f_chosen_a0_) (hf19 : ¬ (f_has_a0_ = f_chosen_a0_)) (hf20 : ¬ (f_has_a0_ = a0_)) (hf21 : ¬ (f_words_f_has_a0_ = f_chosen_a0_)) (hf22 : ¬ (f_words_f_has_a0_ = a0_)) :
   oMet l oM0 prog_30_method_2_code 2 (some .boolean) ws (oR 3 0 0 60) Z h0 #[(.ref a0_), (.int p1_)] (Qown_b28_tfff_9 Z a0_ p1_ f_toSkip_a0_ f_taken_a0_ f_chosen_a0_ n_f_chosen_a0_ f_has_a0_ f_wordsInUse_f_has_a0_ f_words_f_has_a0_ n_f_words_f_has_a0_ vs_f_words_f_has_a0_ u_sizeIsSticky_f_has_a0_ h0 n0) := by
 refine oBd n0 (plainFor_of_name own_pn0) ?_
 intro p e s m below meth c s₁ Bd hx hZ hby hml hown hnm X0 e0 N0
 obtain ⟨T1, X1, e1, st1⟩ := getF X0 hx hZ hown (host := "") (Or.inl (oW hw 102 rfl)) Via.refl e0 F_toSkip_a0_ (g := (mkF m 1 #[oA a0_, oI p1_] [(.ref a0_)])) rfl rfl (oG hby d28 1 rfl)
 obtain ⟨T2, X2, e2, st2⟩ := getF X1 hx hZ hown (host := "") (Or.inl (oW hw 174 rfl)) Via.refl e1 F_taken_a0_ (g := (mkF m 22 #[oA a0_, oI p1_] [(.ref a0_)])) rfl rfl (oG hby d28 14 rfl)
 obtain ⟨T3, X3, e3, st3⟩ := getF X2 hx hZ hown (host := "") (Or.inl (oW hw 104 rfl)) Via.refl e2 F_chosen_a0_ (g := (mkF m 26 #[oA a0_, oI p1_] [(.ref a0_), (.int f_taken_a0_)])) rfl rfl (oG hby d28 16 rfl)
 obtain ⟨c4, A4, S4, M4⟩ := own_ia_cell A_f_chosen_a0_
 obtain ⟨T5, X5, e5, st5⟩ := getF X3 hx hZ hown (host := "") (Or.inl (oW hw 128 rfl)) Via.refl e3 F_has_a0_ (g := (mkF m 34 #[oA a0_, oI p1_] [(.ref a0_)])) rfl rfl (oG hby d28 20 rfl)
 obtain ⟨cq6, kq6, q6a, q6b, q6c⟩ := isOf hZ e5 E_f_has_a0_
 obtain ⟨_, _, ⟨T6, L6, k6, n6⟩, -, X6, ⟨Lc6, hQ6, l6, y6, z6⟩, st6⟩ := X5.virtualBack hx (y := oM1) (z := oM1) hown (mvT hZ (oW hw 176 rfl)) (mvT hZ (oW hw 177 rfl)) (notFace_of_selects (args := #[]) (mvT hZ (oW hw 179 rfl))) (mvT hZ (oW hw 179 rfl)) (mvT hZ (oW hw 178 rfl)) (by decide) (backOf (W := 0) (own_b29_tt_4 l Z a0 hw [] f_has_a0_ p1_ f_wordsInUse_f_has_a0_ h0 n0 Z0 S__assertionsDisabled E_f_has_a0_ F_wordsInUse_f_has_a0_ hf2 hf3 hf4) hZ (oW hw 180 rfl) (oW hw 108 rfl) (by decide) (by decide)) q6a q6c (g := (mkF m 38 #[oA a0_, oI p1_] [(.int p1_), (.ref f_has_a0_)])) rfl (by rw [hml]; rfl) (Steps.refl _) (argsL := [(.int p1_)]) (rest := []) (lenOf own_pd2 rfl) rfl (by show 2 * 0 + _ ≤ _; exact Nat.le_of_eq rfl) (oG hby d28 22 rfl) (fun _ _ => ⟨rfl, e5, (by decide : 0 + 0 ≤ _), (by decide : 0 + 0 ≤ _)⟩)
 dsimp only [Pt.U, Pt.locs, Pt.cells, Pt.slots] at X6 l6 y6 z6 st6 hQ6
 subst l6 y6 z6
 obtain ⟨rfl, N6q, e6⟩ := hQ6
 have N6 := Fr.app N0 N6q
 obtain ⟨T7, X7, e7, st7⟩ := getF X6 hx hZ hown (host := "") (Or.inl (oW hw 128 rfl)) Via.refl e6 F_has_a0_ (g := (mkF m 45 #[oA a0_, oI p1_] [(.ref a0_)])) rfl rfl (oG hby d28 25 rfl)
 obtain ⟨cq8, kq8, q8a, q8b, q8c⟩ := isOf hZ e7 E_f_has_a0_
 obtain ⟨_, _, ⟨T8, L8, k8, n8⟩, -, X8, ⟨Lc8, hQ8, l8, y8, z8⟩, st8⟩ := X7.virtualBack hx (y := oM8) (z := oM8) hown (mvT hZ (oW hw 187 rfl)) (mvT hZ (oW hw 188 rfl)) (notFace_of_selects (args := #[]) (mvT hZ (oW hw 190 rfl))) (mvT hZ (oW hw 190 rfl)) (mvT hZ (oW hw 189 rfl)) (by decide) (backOf (W := 0) (own_b31_t_7 l Z a0 hw [] f_has_a0_ p1_ f_wordsInUse_f_has_a0_ f_words_f_has_a0_ n_f_words_f_has_a0_ vs_f_words_f_has_a0_ u_sizeIsSticky_f_has_a0_ h0 n0 Z0 F_wordsInUse_f_has_a0_ F_words_f_has_a0_ A_f_words_f_has_a0_ E_f_has_a0_ g_f_has_a0_ F_sizeIsSticky_f_has_a0_ g_f_words_f_has_a0_ S__assertionsDisabled hf2 hf3 hf5 hf6 hf7 hf8 hf9 hf10) hZ (oW hw 191 rfl) (oW hw 108 rfl) (by decide) (by decide)) q8a q8c (g := (mkF m 49 #[oA a0_, oI p1_] [(.int p1_), (.ref f_has_a0_)])) rfl (by rw [hml]; rfl) (Steps.refl _) (argsL := [(.int p1_)]) (rest := []) (lenOf own_pd3 rfl) rfl (by show 2 * 0 + _ ≤ _; exact Nat.le_of_eq rfl) (oG hby d28 27 rfl) (fun _ _ => ⟨rfl, e7, (by decide : 0 + 0 ≤ _), (by decide : 0 + 0 ≤ _)⟩)
 dsimp only [Pt.U, Pt.locs, Pt.cells, Pt.slots] at X8 l8 y8 z8 st8 hQ8
 subst l8 y8 z8
 obtain ⟨rfl, N8q, Kq8, Q8_0, Q8_1, Q8_2, Q8_3, Q8_4⟩ := hQ8
 have N8 := Fr.app N6 N8q
 have K8 : Keep h0 T8.heap [f_has_a0_, f_words_f_has_a0_, f_chosen_a0_, a0_] := (Keep.refl h0 [f_has_a0_, f_words_f_has_a0_, f_chosen_a0_, a0_]).trans Kq8 (own_a2 (Or.inl (oX 0 rfl)) (Or.inl (oX 1 rfl)))
 have f9_a0__chosen := (F_chosen_a0_.keep Kq8 (own_n2 hf11 hf12))
 obtain ⟨T10, X10, e10, st10⟩ := getF X8 hx hZ hown (host := "") (Or.inl (oW hw 104 rfl)) Via.refl rfl f9_a0__chosen (g := (mkF m 53 #[oA a0_, oI p1_] [(.ref a0_)])) rfl rfl (oG hby d28 29 rfl)
 have f11_a0__taken := (F_taken_a0_.keep Kq8 (own_n2 hf11 hf12))
 obtain ⟨T12, X12, e12, st12⟩ := getF X10 hx hZ hown (host := "") (Or.inl (oW hw 174 rfl)) Via.refl e10 f11_a0__taken (g := (mkF m 57 #[oA a0_, oI p1_] [(.ref a0_), (.ref f_chosen_a0_)])) rfl rfl (oG hby d28 31 rfl)
 have f13_f_chosen_a0_ := (A_f_chosen_a0_.keep Kq8 (own_n2 hf13 hf14))
 obtain ⟨c14, z14, A14, hin14, -⟩ := own_ia_at (j := f_taken_a0_) f13_f_chosen_a0_ hf15 hf1
 obtain ⟨T15, h15, X15, e15, W15, st15⟩ := stI X12 hx hZ e12 A14 (j := f_taken_a0_) hin14 (g := (mkF m 61 #[oA a0_, oI p1_] [(.int p1_), (.int f_taken_a0_), (.ref f_chosen_a0_)])) rfl rfl (oG hby d28 33 rfl)
 have V15 := own_ia_st f13_f_chosen_a0_ hf15 hf1 W15
 have K15 : Keep h0 h15 [f_has_a0_, f_words_f_has_a0_, f_chosen_a0_, a0_] := K8.wr W15 (Or.inl (oX 2 rfl))
 have N15 := Fr.snoc X15 N8 g_f_chosen_a0_
 have f16_a0__taken := (f11_a0__taken.other W15 (Or.inl hf16))
 obtain ⟨T17, X17, e17, st17⟩ := getF X15 hx hZ hown (host := "") (Or.inl (oW hw 174 rfl)) Via.refl e15 f16_a0__taken (g := (mkF m 64 #[oA a0_, oI p1_] [(.ref a0_), (.ref a0_)])) rfl rfl (oG hby d28 36 rfl)
 have f18_a0_ := ((E_a0_.keep Kq8).wr W15)
 obtain ⟨T19, h19, X19, e19, W19, st19⟩ := putF X17 hx hZ hown (host := "") (Or.inl (oW hw 174 rfl)) Via.refl e17 f16_a0__taken f18_a0_ (Or.inl (oW hw 175 rfl)) (oW hw 96 rfl) (ty := .int) (by decide) rfl rfl (g := (mkF m 69 #[oA a0_, oI p1_] [(.int (f_taken_a0_ + (1 : Int32))), (.ref a0_)])) rfl rfl (oG hby d28 39 rfl)
 have Fw19 := f16_a0__taken.same W19
 have K19 : Keep h0 h19 [f_has_a0_, f_words_f_has_a0_, f_chosen_a0_, a0_] := K15.wr W19 (Or.inl (oX 3 rfl))
 have N19 := Fr.snoc X19 N15 g_a0_
 obtain ⟨T20, X20, e20, st20⟩ := getF X19 hx hZ hown (host := "") (Or.inl (oW hw 174 rfl)) Via.refl e19 Fw19 (g := (mkF m 73 #[oA a0_, oI p1_] [(.ref a0_)])) rfl rfl (oG hby d28 41 rfl)
 have f21_a0__chosen := ((f9_a0__chosen.other W15 (Or.inl hf16)).other W19 (oN (Or.inr (oW hw 105 rfl)) (Or.inl (oW hw 175 rfl)) (t := (.array .int)) (t' := .int)))
 obtain ⟨T22, X22, e22, st22⟩ := getF X20 hx hZ hown (host := "") (Or.inl (oW hw 104 rfl)) Via.refl e20 f21_a0__chosen (g := (mkF m 77 #[oA a0_, oI p1_] [(.ref a0_), (.int (f_taken_a0_ + (1 : Int32)))])) rfl rfl (oG hby d28 43 rfl)
 have f23_f_chosen_a0_ := (V15.other W19 hf17)
 obtain ⟨c24, A24, S24, M24⟩ := own_ia_cell f23_f_chosen_a0_
 have f25_f_has_a0_ := ((Q8_0.wr W15).wr W19)
 have f26_f_has_a0__wordsInUse := ((Q8_1.other W15 (Or.inl hf19)).other W19 (Or.inl hf20))
 have f27_f_has_a0__words := ((Q8_2.other W15 (Or.inl hf19)).other W19 (Or.inl hf20))
 have f28_f_has_a0__sizeIsSticky := ((Q8_3.other W15 (Or.inl hf19)).other W19 (Or.inl hf20))
 have f29_f_words_f_has_a0_ := ((Q8_4.other W15 hf21).other W19 hf22)
 have f30_a0__toSkip := (((F_toSkip_a0_.keep Kq8 (own_n2 hf11 hf12)).other W15 (Or.inl hf16)).other W19 (oN (Or.inl (oW hw 103 rfl)) (Or.inl (oW hw 175 rfl)) (t := .long) (t' := .int)))
 have f31_a0__has := (((F_has_a0_.keep Kq8 (own_n2 hf11 hf12)).other W15 (Or.inl hf16)).other W19 (oN (Or.inr (oW hw 129 rfl)) (Or.inl (oW hw 175 rfl)) (t := (.object oC2)) (t' := .int)))
 have f32_a0_ := (f18_a0_.wr W19)
 obtain ⟨fs, hr, hrun, hended, hW, hsame⟩ := X22.leave (v := some (.int 1)) (fun h => by rw [Bd.returns] at h; cases h)
 refine ⟨_, _, castTop (own_ef0 m a0_ p1_) ?_, hrun, hended, _, _, rfl, ?_, ⟨_, rfl⟩, hW, (hsame.mono (by decide) (by decide))⟩
 · show oZ p e below s₁ (mkF m 0 #[oA a0_, oI p1_] []) _
   refine XS.aloadN X0.here hx rfl (oG hby d28 0 rfl) rfl rfl ?_
   refine st1 _ ?_
   refine XS.lconst X1.here hx rfl (oG hby d28 2 rfl) ?_
   show oZ p e below T1 (mkF m 5 #[oA a0_, oI p1_] [(.long 0), (.long f_toSkip_a0_)]) _
   refine XS.lcmp X1.here hx rfl (oG hby d28 3 rfl) rfl ?_
   refine XS.ifYes X1.here hx rfl (pc0 := 6) (pc' := 21) rfl (oG hby d28 4 rfl) rfl ((if0 _ _).trans (flt hf0).2.2.2) (by decide) (by decide) ?_
   refine XS.aloadN X1.here hx rfl (oG hby d28 13 rfl) rfl rfl ?_
   refine st2 _ ?_
   refine XS.aloadN X2.here hx rfl (oG hby d28 15 rfl) rfl rfl ?_
   refine st3 _ ?_
   refine X3.arraylength hx (by rw [e3]; exact A4.1) (State.isArrayOf_alike hZ.alike A4.2.1) (g := (mkF m 29 #[oA a0_, oI p1_] [(.ref f_chosen_a0_), (.int f_taken_a0_)])) rfl rfl (oG hby d28 17 rfl) _ ?_
   rw [len_of S4 M4]
   refine XS.icmpNo X3.here hx rfl (oG hby d28 18 rfl) rfl (tlt hf1).2.1 ?_
   refine XS.aloadN X3.here hx rfl (oG hby d28 19 rfl) rfl rfl ?_
   refine st5 _ ?_
   refine XS.iloadN X5.here hx rfl (oG hby d28 21 rfl) rfl ?_
   show oZ p e below T5 (mkF m 38 #[oA a0_, oI p1_] [(.int p1_), (.ref f_has_a0_)]) _
   refine st6.trans ?_
   refine XS.ifNo X6.here hx rfl (oG hby d28 23 rfl) rfl ((if0 _ _).trans (teq (rfl : (0 : Int32) = (0 : Int32))).2) ?_
   refine XS.aloadN X6.here hx rfl (oG hby d28 24 rfl) rfl rfl ?_
   refine st7 _ ?_
   refine XS.iloadN X7.here hx rfl (oG hby d28 26 rfl) rfl ?_
   refine st8.trans ?_
   refine XS.aloadN X8.here hx rfl (oG hby d28 28 rfl) rfl rfl ?_
   refine st10 _ ?_
   refine XS.aloadN X10.here hx rfl (oG hby d28 30 rfl) rfl rfl ?_
   refine st12 _ ?_
   refine XS.iloadN X12.here hx rfl (oG hby d28 32 rfl) rfl ?_
   show oZ p e below T12 (mkF m 61 #[oA a0_, oI p1_] [(.int p1_), (.int f_taken_a0_), (.ref f_chosen_a0_)]) _
   refine st15 _ ?_
   refine XS.aloadN X15.here hx rfl (oG hby d28 34 rfl) rfl rfl ?_
   refine XS.dup X15.here hx rfl (oG hby d28 35 rfl) rfl rfl ?_
   refine st17 _ ?_
   refine XS.iconst X17.here hx rfl (oG hby d28 37 rfl) ?_
   refine XS.iadd X17.here hx rfl (oG hby d28 38 rfl) rfl ?_
   refine st19 _ ?_
   refine XS.aloadN X19.here hx rfl (oG hby d28 40 rfl) rfl rfl ?_
   refine st20 _ ?_
   refine XS.aloadN X20.here hx rfl (oG hby d28 42 rfl) rfl rfl ?_
   refine st22 _ ?_
   show oZ p e below T22 (mkF m 80 #[oA a0_, oI p1_] [(.ref f_chosen_a0_), (.int (f_taken_a0_ + (1 : Int32)))]) _
   refine X22.arraylength hx (by rw [e22]; exact A24.1) (State.isArrayOf_alike hZ.alike A24.2.1) (g := (mkF m 80 #[oA a0_, oI p1_] [(.ref f_chosen_a0_), (.int (f_taken_a0_ + (1 : Int32)))])) rfl rfl (oG hby d28 44 rfl) _ ?_
   rw [len_of S24 M24]
   refine XS.icmpNo X22.here hx rfl (oG hby d28 45 rfl) rfl (teq hf18).2 ?_
   refine XS.iconst X22.here hx rfl (oG hby d28 46 rfl) ?_
   refine XS.goto X22.here hx rfl (pc0 := 85) (pc' := 89) rfl (oG hby d28 47 rfl) (by decide) (by decide) ?_
   show oZ p e below T22 (mkF m 89 #[oA a0_, oI p1_] [(.int 1)]) _
   exact retN X22 hx (t := .boolean) Bd.returns (by simp) (oG hby d28 49 rfl) hr
 · show Qown_b28_tfff_9 Z a0_ p1_ f_toSkip_a0_ f_taken_a0_ f_chosen_a0_ n_f_chosen_a0_ f_has_a0_ f_wordsInUse_f_has_a0_ f_words_f_has_a0_ n_f_words_f_has_a0_ vs_f_words_f_has_a0_ u_sizeIsSticky_f_has_a0_ h0 n0 _ T22.heap _
   rw [e22]
   exact ⟨rfl, N19, K19, f25_f_has_a0_, f26_f_has_a0__wordsInUse, f27_f_has_a0__words, f28_f_has_a0__sizeIsSticky, f29_f_words_f_has_a0_, f23_f_chosen_a0_, f30_a0__toSkip, Fw19, f21_a0__chosen, f31_a0__has, f32_a0_⟩
theorem own_b29_tff_10 (l : Launch) (Z : State) (a0 : Array Value) (hw : oH a0 Z) (ws : List Jvm.Cond) (a0_ : Addr) (p1_ : Int32) (f_wordsInUse_a0_ : Int32) (f_words_a0_ : Addr) (n_f_words_a0_ : Int32) (vs_f_words_a0_ : List Int64) (h0 : Heap) (n0 : Nat) (Z0 : n0 ≤ h0.size) (S__assertionsDisabled : Sta Z h0 oC2 "$assertionsDisabled" "Z" (.int 1)) (E_a0_ : Exa Z h0 a0_ oC2) (F_wordsInUse_a0_ : Fld Z h0 a0_ oC2 "wordsInUse" "I" (.int f_wordsInUse_a0_)) (F_words_a0_ : Fld Z h0 a0_ oC2 "words" "[J" (.ref f_words_a0_)) (A_f_words_a0_ : own_jl Z h0 f_words_a0_ n_f_words_a0_ vs_f_words_a0_) (hf0 : ¬ (p1_ < (0 : Int32))) (hf1 : (p1_ >>> ((6 : Int32) &&& 31)) = (0 : Int32)) (hf2 : (0 : Int32) < f_wordsInUse_a0_) (hf3 : (0 : Int32) < n_f_words_a0_) (hf4 : ¬ ((lcmpW ((vs_f_words_a0_.getD ((0 : Int32)).toNatClampNeg 0) &&& (own_sl (1 : Int64) p1_)) (0 : Int64)) = (0 : Int32))) :
   oMet l oM1 jdk_92_method_26_code 3 (some .boolean) ws (oR 1 0 0 12) Z h0 #[(.ref a0_), (.int p1_)] (own_QP (some (.int 1)) h0 n0) := by
 refine oBd n0 (plainFor_of_name own_pn1) ?_
 intro p e s m below meth c s₁ Bd hx hZ hby hml hown hnm X0 e0 N0
 obtain ⟨cq1, q1, q1'⟩ := E_a0_.cell
 obtain ⟨_, _, ⟨T1, L1, k1, n1⟩, -, X1, ⟨Lc1, hQ1, l1, y1, z1⟩, st1⟩ := X0.privateBack hx (y := oM15) hown (mvT hZ (oW hw 181 rfl)) (mvT hZ (oW hw 182 rfl)) (own_selp (mvT hZ (oW hw 107 rfl)) (mvP hZ (oW hw 183 rfl) (args := #[])) (mvT hZ (oW hw 182 rfl)) (by decide)) (Cond.privateMethod_at (mvP hZ (oW hw 183 rfl) (args := #[]))) (mvT hZ (oW hw 185 rfl)) (by decide) (backOf (W := 0) (own_b30_ttt l Z a0 hw [] a0_ h0 n0 Z0 S__assertionsDisabled) hZ (oW hw 185 rfl) (oW hw 108 rfl) (by decide) (by decide)) (g := (mkF m 32 #[oA a0_, oI p1_, .unset] [(.ref a0_)])) rfl (by rw [hml]; rfl) (Steps.refl _) (a := a0_) (by rw [e0]; exact q1) q1' (argsL := []) (rest := []) (lenOf own_pd0 rfl) rfl (by show 2 * 0 + _ ≤ _; exact Nat.le_of_eq rfl) (oG hby d29 3 rfl) (fun _ _ => ⟨rfl, e0, (by decide : 0 + 0 ≤ _), (by decide : 0 + 0 ≤ _)⟩)
 dsimp only [Pt.U, Pt.locs, Pt.cells, Pt.slots] at X1 l1 y1 z1 st1 hQ1
 subst l1 y1 z1
 obtain ⟨rfl, N1q, e1⟩ := hQ1
 have N1 := Fr.app N0 N1q
 obtain ⟨_, _, ⟨T2, L2, k2, n2⟩, -, X2, ⟨Lc2, hQ2, l2, y2, z2⟩, st2⟩ := Jvm.LawKit.callS X1 hx (y := oM11) hown (mvT hZ (oW hw 122 rfl)) (mvT hZ (oW hw 123 rfl)) (mvT hZ (oW hw 108 rfl)) (mvT hZ (oW hw 124 rfl)) (by decide) (backOf (W := 0) (own_b20_x l Z a0 hw [] p1_ h0 n0 Z0 ) hZ (oW hw 124 rfl) (oW hw 108 rfl) (by decide) (by decide)) (g := (mkF m 36 #[oA a0_, oI p1_, .unset] [(.int p1_)])) rfl (by rw [hml]; rfl) (argsL := [(.int p1_)]) (rest := []) (lenOf own_pd1 rfl) rfl (by show 2 * 0 + _ ≤ _; exact Nat.le_of_eq rfl) (oG hby d29 5 rfl) (fun _ _ => ⟨rfl, e1, (by decide : 0 + 0 ≤ _), (by decide : 0 + 0 ≤ _)⟩)
 dsimp only [Pt.U, Pt.locs, Pt.cells, Pt.slots] at X2 l2 y2 z2 st2 hQ2
 subst l2 y2 z2
 obtain ⟨rfl, N2q, e2⟩ := hQ2
 have N2 := Fr.app N1 N2q
 obtain ⟨T3, X3, e3, st3⟩ := getF X2 hx hZ hown (host := "") (Or.inl (oW hw 113 rfl)) Via.refl e2 F_wordsInUse_a0_ (g := (mkF m 42 #[oA a0_, oI p1_, oI 0] [(.ref a0_), (.int 0)])) rfl rfl (oG hby d29 9 rfl)
 obtain ⟨T4, X4, e4, st4⟩ := getF X3 hx hZ hown (host := "") (Or.inl (oW hw 126 rfl)) Via.refl e3 F_words_a0_ (g := (mkF m 49 #[oA a0_, oI p1_, oI 0] [(.ref a0_)])) rfl rfl (oG hby d29 12 rfl)
 obtain ⟨c5, A5, hin5, hat5⟩ := own_jl_at (j := (0 : Int32)) A_f_words_a0_ (by decide +kernel) hf3
 have hat5' : c5.slots[((0 : Int32)).toNatClampNeg]? = some (.long (vs_f_words_a0_.getD ((0 : Int32)).toNatClampNeg 0)) := hat5
 obtain ⟨fs, hr, hrun, hended, hW, hsame⟩ := X4.leave (v := some (.int 1)) (fun h => by rw [Bd.returns] at h; cases h)
 refine ⟨_, _, castTop (own_ef3 m a0_ p1_) ?_, hrun, hended, _, _, rfl, ?_, ⟨_, rfl⟩, hW, (hsame.mono (by decide) (by decide))⟩
 · show oZ p e below s₁ (mkF m 0 #[oA a0_, oI p1_, .unset] []) _
   refine XS.iloadN X0.here hx rfl (oG hby d29 0 rfl) rfl ?_
   refine XS.ifYes X0.here hx rfl (pc0 := 1) (pc' := 31) rfl (oG hby d29 1 rfl) rfl ((if0 _ _).trans (flt hf0).2.1) (by decide) (by decide) ?_
   refine XS.aloadN X0.here hx rfl (oG hby d29 2 rfl) rfl rfl ?_
   refine st1.trans ?_
   refine XS.iloadN X1.here hx rfl (oG hby d29 4 rfl) rfl ?_
   refine st2 _ ?_
   show oZ p e below T2 (mkF m 39 #[oA a0_, oI p1_, .unset] [(.int (p1_ >>> ((6 : Int32) &&& 31)))]) _
   rw [hf1]
   refine XS.istoreN X2.here hx rfl (oG hby d29 6 rfl) rfl (l' := #[oA a0_, oI p1_, oI 0]) rfl ?_
   refine XS.iloadN X2.here hx rfl (oG hby d29 7 rfl) rfl ?_
   refine XS.aloadN X2.here hx rfl (oG hby d29 8 rfl) rfl rfl ?_
   refine st3 _ ?_
   refine XS.icmpNo X3.here hx rfl (oG hby d29 10 rfl) rfl (tlt hf2).2.1 ?_
   refine XS.aloadN X3.here hx rfl (oG hby d29 11 rfl) rfl rfl ?_
   refine st4 _ ?_
   refine XS.iloadN X4.here hx rfl (oG hby d29 13 rfl) rfl ?_
   refine X4.laload hx (j := (0 : Int32)) (v := (.long (vs_f_words_a0_.getD ((0 : Int32)).toNatClampNeg 0))) (by rw [e4]; exact A5.1) (State.isArrayOf_alike hZ.alike A5.2.1) A5.2.2 hin5 hat5' (g := (mkF m 53 #[oA a0_, oI p1_, oI 0] [(.int 0), (.ref f_words_a0_)])) rfl rfl (oG hby d29 14 rfl) _ ?_
   refine XS.lconst X4.here hx rfl (oG hby d29 15 rfl) ?_
   show oZ p e below T4 (mkF m 55 #[oA a0_, oI p1_, oI 0] [(.long 1), (.long (vs_f_words_a0_.getD ((0 : Int32)).toNatClampNeg 0))]) _
   refine XS.iloadN X4.here hx rfl (oG hby d29 16 rfl) rfl ?_
   refine XS.lshl X4.here hx rfl (oG hby d29 17 rfl) rfl ?_
   refine XS.land X4.here hx rfl (oG hby d29 18 rfl) rfl ?_
   refine XS.lconst X4.here hx rfl (oG hby d29 19 rfl) ?_
   show oZ p e below T4 (mkF m 59 #[oA a0_, oI p1_, oI 0] [(.long 0), (.long ((vs_f_words_a0_.getD ((0 : Int32)).toNatClampNeg 0) &&& (own_sl (1 : Int64) p1_)))]) _
   refine XS.lcmp X4.here hx rfl (oG hby d29 20 rfl) rfl ?_
   refine XS.ifNo X4.here hx rfl (oG hby d29 21 rfl) rfl ((if0 _ _).trans (feq hf4).1) ?_
   refine XS.iconst X4.here hx rfl (oG hby d29 22 rfl) ?_
   refine XS.goto X4.here hx rfl (pc0 := 64) (pc' := 68) rfl (oG hby d29 23 rfl) (by decide) (by decide) ?_
   show oZ p e below T4 (mkF m 68 #[oA a0_, oI p1_, oI 0] [(.int 1)]) _
   exact retN X4 hx (t := .boolean) Bd.returns (by simp) (oG hby d29 25 rfl) hr
 · show own_QP (some (.int 1)) h0 n0 _ T4.heap _
   exact ⟨rfl, N2, e4⟩
theorem own_b28_tftt_11 (l : Launch) (Z : State) (a0 : Array Value) (hw : oH a0 Z) (ws : List Jvm.Cond) (a0_ : Addr) (p1_ : Int32) (f_toSkip_a0_ : Int64) (f_taken_a0_ : Int32) (f_chosen_a0_ : Addr) (n_f_chosen_a0_ : Int32) (f_has_a0_ : Addr) (f_wordsInUse_f_has_a0_ : Int32) (f_words_f_has_a0_ : Addr) (n_f_words_f_has_a0_ : Int32) (vs_f_words_f_has_a0_ : List Int64) (h0 : Heap) (n0 : Nat) (Z0 : n0 ≤ h0.size) (F_toSkip_a0_ : Fld Z h0 a0_ oC1 "toSkip" "J" (.long f_toSkip_a0_)) (F_taken_a0_ : Fld Z h0 a0_ oC1 "taken" "I" (.int f_taken_a0_)) (F_chosen_a0_ : Fld Z h0 a0_ oC1 "chosen" "[I" (.ref f_chosen_a0_)) (A_f_chosen_a0_ : own_ia Z h0 f_chosen_a0_ n_f_chosen_a0_) (F_has_a0_ : Fld Z h0 a0_ oC1 "has" "Ljava/util/BitSet;" (.ref f_has_a0_)) (S__assertionsDisabled : Sta Z h0 oC2 "$assertionsDisabled" "Z" (.int 1)) (E_f_has_a0_ : Exa Z h0 f_has_a0_ oC2) (F_wordsInUse_f_has_a0_ : Fld Z h0 f_has_a0_ oC2 "wordsInUse" "I" (.int f_wordsInUse_f_has_a0_)) (F_words_f_has_a0_ : Fld Z h0 f_has_a0_ oC2 "words" "[J" (.ref f_words_f_has_a0_)) (A_f_words_f_has_a0_ : own_jl Z h0 f_words_f_has_a0_ n_f_words_f_has_a0_ vs_f_words_f_has_a0_) (hf0 : ¬ ((0 : Int32) < (lcmpW f_toSkip_a0_ (0 : Int64)))) (hf1 : f_taken_a0_ < n_f_chosen_a0_) (hf2 : ¬ (p1_ < (0 : Int32))) (hf3 : (p1_ >>> ((6 : Int32) &&& 31)) = (0 : Int32)) (hf4 : (0 : Int32) < f_wordsInUse_f_has_a0_) (hf5 : (0 : Int32) < n_f_words_f_has_a0_) (hf6 : ¬ ((lcmpW ((vs_f_words_f_has_a0_.getD ((0 : Int32)).toNatClampNeg 0) &&& (own_sl (1 : Int64) p1_)) (0 : Int64)) = (0 : Int32))) (hf7 : ¬ (f_taken_a0_ = n_f_chosen_a0_)) :
   oMet l oM0 prog_30_method_2_code 2 (some .boolean) ws (oR 3 0 0 60) Z h0 #[(.ref a0_), (.int p1_)] (own_QP (some (.int 0)) h0 n0) := by
 refine oBd n0 (plainFor_of_name own_pn0) ?_
 intro p e s m below meth c s₁ Bd hx hZ hby hml hown hnm X0 e0 N0
 obtain ⟨T1, X1, e1, st1⟩ := getF X0 hx hZ hown (host := "") (Or.inl (oW hw 102 rfl)) Via.refl e0 F_toSkip_a0_ (g := (mkF m 1 #[oA a0_, oI p1_] [(.ref a0_)])) rfl rfl (oG hby d28 1 rfl)
 obtain ⟨T2, X2, e2, st2⟩ := getF X1 hx hZ hown (host := "") (Or.inl (oW hw 174 rfl)) Via.refl e1 F_taken_a0_ (g := (mkF m 22 #[oA a0_, oI p1_] [(.ref a0_)])) rfl rfl (oG hby d28 14 rfl)
 obtain ⟨T3, X3, e3, st3⟩ := getF X2 hx hZ hown (host := "") (Or.inl (oW hw 104 rfl)) Via.refl e2 F_chosen_a0_ (g := (mkF m 26 #[oA a0_, oI p1_] [(.ref a0_), (.int f_taken_a0_)])) rfl rfl (oG hby d28 16 rfl)
 obtain ⟨c4, A4, S4, M4⟩ := own_ia_cell A_f_chosen_a0_
 obtain ⟨T5, X5, e5, st5⟩ := getF X3 hx hZ hown (host := "") (Or.inl (oW hw 128 rfl)) Via.refl e3 F_has_a0_ (g := (mkF m 34 #[oA a0_, oI p1_] [(.ref a0_)])) rfl rfl (oG hby d28 20 rfl)
 obtain ⟨cq6, kq6, q6a, q6b, q6c⟩ := isOf hZ e5 E_f_has_a0_
 obtain ⟨_, _, ⟨T6, L6, k6, n6⟩, -, X6, ⟨Lc6, hQ6, l6, y6, z6⟩, st6⟩ := X5.virtualBack hx (y := oM1) (z := oM1) hown (mvT hZ (oW hw 176 rfl)) (mvT hZ (oW hw 177 rfl)) (notFace_of_selects (args := #[]) (mvT hZ (oW hw 179 rfl))) (mvT hZ (oW hw 179 rfl)) (mvT hZ (oW hw 178 rfl)) (by decide) (backOf (W := 0) (own_b29_tff_10 l Z a0 hw [] f_has_a0_ p1_ f_wordsInUse_f_has_a0_ f_words_f_has_a0_ n_f_words_f_has_a0_ vs_f_words_f_has_a0_ h0 n0 Z0 S__assertionsDisabled E_f_has_a0_ F_wordsInUse_f_has_a0_ F_words_f_has_a0_ A_f_words_f_has_a0_ hf2 hf3 hf4 hf5 hf6) hZ (oW hw 180 rfl) (oW hw 108 rfl) (by decide) (by decide)) q6a q6c (g := (mkF m 38 #[oA a0_, oI p1_] [(.int p1_), (.ref f_has_a0_)])) rfl (by rw [hml]; rfl) (Steps.refl _) (argsL := [(.int p1_)]) (rest := []) (lenOf own_pd2 rfl) rfl (by show 2 * 0 + _ ≤ _; exact Nat.le_of_eq rfl) (oG hby d28 22 rfl) (fun _ _ => ⟨rfl, e5, (by decide : 0 + 0 ≤ _), (by decide : 0 + 0 ≤ _)⟩)
 dsimp only [Pt.U, Pt.locs, Pt.cells, Pt.slots] at X6 l6 y6 z6 st6 hQ6
 subst l6 y6 z6
 obtain ⟨rfl, N6q, e6⟩ := hQ6
 have N6 := Fr.app N0 N6q
 obtain ⟨T7, X7, e7, st7⟩ := getF X6 hx hZ hown (host := "") (Or.inl (oW hw 174 rfl)) Via.refl e6 F_taken_a0_ (g := (mkF m 73 #[oA a0_, oI p1_] [(.ref a0_)])) rfl rfl (oG hby d28 41 rfl)
 obtain ⟨T8, X8, e8, st8⟩ := getF X7 hx hZ hown (host := "") (Or.inl (oW hw 104 rfl)) Via.refl e7 F_chosen_a0_ (g := (mkF m 77 #[oA a0_, oI p1_] [(.ref a0_), (.int f_taken_a0_)])) rfl rfl (oG hby d28 43 rfl)
 obtain ⟨c9, A9, S9, M9⟩ := own_ia_cell A_f_chosen_a0_
 obtain ⟨fs, hr, hrun, hended, hW, hsame⟩ := X8.leave (v := some (.int 0)) (fun h => by rw [Bd.returns] at h; cases h)
 refine ⟨_, _, castTop (own_ef0 m a0_ p1_) ?_, hrun, hended, _, _, rfl, ?_, ⟨_, rfl⟩, hW, (hsame.mono (by decide) (by decide))⟩
 · show oZ p e below s₁ (mkF m 0 #[oA a0_, oI p1_] []) _
   refine XS.aloadN X0.here hx rfl (oG hby d28 0 rfl) rfl rfl ?_
   refine st1 _ ?_
   refine XS.lconst X1.here hx rfl (oG hby d28 2 rfl) ?_
   show oZ p e below T1 (mkF m 5 #[oA a0_, oI p1_] [(.long 0), (.long f_toSkip_a0_)]) _
   refine XS.lcmp X1.here hx rfl (oG hby d28 3 rfl) rfl ?_
   refine XS.ifYes X1.here hx rfl (pc0 := 6) (pc' := 21) rfl (oG hby d28 4 rfl) rfl ((if0 _ _).trans (flt hf0).2.2.2) (by decide) (by decide) ?_
   refine XS.aloadN X1.here hx rfl (oG hby d28 13 rfl) rfl rfl ?_
   refine st2 _ ?_
   refine XS.aloadN X2.here hx rfl (oG hby d28 15 rfl) rfl rfl ?_
   refine st3 _ ?_
   refine X3.arraylength hx (by rw [e3]; exact A4.1) (State.isArrayOf_alike hZ.alike A4.2.1) (g := (mkF m 29 #[oA a0_, oI p1_] [(.ref f_chosen_a0_), (.int f_taken_a0_)])) rfl rfl (oG hby d28 17 rfl) _ ?_
   rw [len_of S4 M4]
   refine XS.icmpNo X3.here hx rfl (oG hby d28 18 rfl) rfl (tlt hf1).2.1 ?_
   refine XS.aloadN X3.here hx rfl (oG hby d28 19 rfl) rfl rfl ?_
   refine st5 _ ?_
   refine XS.iloadN X5.here hx rfl (oG hby d28 21 rfl) rfl ?_
   show oZ p e below T5 (mkF m 38 #[oA a0_, oI p1_] [(.int p1_), (.ref f_has_a0_)]) _
   refine st6.trans ?_
   refine XS.ifYes X6.here hx rfl (pc0 := 41) (pc' := 72) rfl (oG hby d28 23 rfl) rfl ((if0 _ _).trans (feq (by decide +kernel : ¬ ((1 : Int32) = (0 : Int32)))).2) (by decide) (by decide) ?_
   refine XS.aloadN X6.here hx rfl (oG hby d28 40 rfl) rfl rfl ?_
   refine st7 _ ?_
   refine XS.aloadN X7.here hx rfl (oG hby d28 42 rfl) rfl rfl ?_
   refine st8 _ ?_
   refine X8.arraylength hx (by rw [e8]; exact A9.1) (State.isArrayOf_alike hZ.alike A9.2.1) (g := (mkF m 80 #[oA a0_, oI p1_] [(.ref f_chosen_a0_), (.int f_taken_a0_)])) rfl rfl (oG hby d28 44 rfl) _ ?_
   rw [len_of S9 M9]
   refine XS.icmpYes X8.here hx rfl (pc0 := 81) (pc' := 88) rfl (oG hby d28 45 rfl) rfl (feq hf7).2 (by decide) (by decide) ?_
   refine XS.iconst X8.here hx rfl (oG hby d28 48 rfl) ?_
   show oZ p e below T8 (mkF m 89 #[oA a0_, oI p1_] [(.int 0)]) _
   exact retN X8 hx (t := .boolean) Bd.returns (by simp) (oG hby d28 49 rfl) hr
 · show own_QP (some (.int 0)) h0 n0 _ T8.heap _
   exact ⟨rfl, N6, e8⟩
theorem own_b29_tft_12 (l : Launch) (Z : State) (a0 : Array Value) (hw : oH a0 Z) (ws : List Jvm.Cond) (a0_ : Addr) (p1_ : Int32) (f_wordsInUse_a0_ : Int32) (f_words_a0_ : Addr) (n_f_words_a0_ : Int32) (vs_f_words_a0_ : List Int64) (h0 : Heap) (n0 : Nat) (Z0 : n0 ≤ h0.size) (S__assertionsDisabled : Sta Z h0 oC2 "$assertionsDisabled" "Z" (.int 1)) (E_a0_ : Exa Z h0 a0_ oC2) (F_wordsInUse_a0_ : Fld Z h0 a0_ oC2 "wordsInUse" "I" (.int f_wordsInUse_a0_)) (F_words_a0_ : Fld Z h0 a0_ oC2 "words" "[J" (.ref f_words_a0_)) (A_f_words_a0_ : own_jl Z h0 f_words_a0_ n_f_words_a0_ vs_f_words_a0_) (hf0 : ¬ (p1_ < (0 : Int32))) (hf1 : (p1_ >>> ((6 : Int32) &&& 31)) = (0 : Int32)) (hf2 : (0 : Int32) < f_wordsInUse_a0_) (hf3 : (0 : Int32) < n_f_words_a0_) (hf4 : (lcmpW ((vs_f_words_a0_.getD ((0 : Int32)).toNatClampNeg 0) &&& (own_sl (1 : Int64) p1_)) (0 : Int64)) = (0 : Int32)) :
   oMet l oM1 jdk_92_method_26_code 3 (some .boolean) ws (oR 1 0 0 12) Z h0 #[(.ref a0_), (.int p1_)] (own_QP (some (.int 0)) h0 n0) := by
 refine oBd n0 (plainFor_of_name own_pn1) ?_
 intro p e s m below meth c s₁ Bd hx hZ hby hml hown hnm X0 e0 N0
 obtain ⟨cq1, q1, q1'⟩ := E_a0_.cell
 obtain ⟨_, _, ⟨T1, L1, k1, n1⟩, -, X1, ⟨Lc1, hQ1, l1, y1, z1⟩, st1⟩ := X0.privateBack hx (y := oM15) hown (mvT hZ (oW hw 181 rfl)) (mvT hZ (oW hw 182 rfl)) (own_selp (mvT hZ (oW hw 107 rfl)) (mvP hZ (oW hw 183 rfl) (args := #[])) (mvT hZ (oW hw 182 rfl)) (by decide)) (Cond.privateMethod_at (mvP hZ (oW hw 183 rfl) (args := #[]))) (mvT hZ (oW hw 185 rfl)) (by decide) (backOf (W := 0) (own_b30_ttt l Z a0 hw [] a0_ h0 n0 Z0 S__assertionsDisabled) hZ (oW hw 185 rfl) (oW hw 108 rfl) (by decide) (by decide)) (g := (mkF m 32 #[oA a0_, oI p1_, .unset] [(.ref a0_)])) rfl (by rw [hml]; rfl) (Steps.refl _) (a := a0_) (by rw [e0]; exact q1) q1' (argsL := []) (rest := []) (lenOf own_pd0 rfl) rfl (by show 2 * 0 + _ ≤ _; exact Nat.le_of_eq rfl) (oG hby d29 3 rfl) (fun _ _ => ⟨rfl, e0, (by decide : 0 + 0 ≤ _), (by decide : 0 + 0 ≤ _)⟩)
 dsimp only [Pt.U, Pt.locs, Pt.cells, Pt.slots] at X1 l1 y1 z1 st1 hQ1
 subst l1 y1 z1
 obtain ⟨rfl, N1q, e1⟩ := hQ1
 have N1 := Fr.app N0 N1q
 obtain ⟨_, _, ⟨T2, L2, k2, n2⟩, -, X2, ⟨Lc2, hQ2, l2, y2, z2⟩, st2⟩ := Jvm.LawKit.callS X1 hx (y := oM11) hown (mvT hZ (oW hw 122 rfl)) (mvT hZ (oW hw 123 rfl)) (mvT hZ (oW hw 108 rfl)) (mvT hZ (oW hw 124 rfl)) (by decide) (backOf (W := 0) (own_b20_x l Z a0 hw [] p1_ h0 n0 Z0 ) hZ (oW hw 124 rfl) (oW hw 108 rfl) (by decide) (by decide)) (g := (mkF m 36 #[oA a0_, oI p1_, .unset] [(.int p1_)])) rfl (by rw [hml]; rfl) (argsL := [(.int p1_)]) (rest := []) (lenOf own_pd1 rfl) rfl (by show 2 * 0 + _ ≤ _; exact Nat.le_of_eq rfl) (oG hby d29 5 rfl) (fun _ _ => ⟨rfl, e1, (by decide : 0 + 0 ≤ _), (by decide : 0 + 0 ≤ _)⟩)
 dsimp only [Pt.U, Pt.locs, Pt.cells, Pt.slots] at X2 l2 y2 z2 st2 hQ2
 subst l2 y2 z2
 obtain ⟨rfl, N2q, e2⟩ := hQ2
 have N2 := Fr.app N1 N2q
 obtain ⟨T3, X3, e3, st3⟩ := getF X2 hx hZ hown (host := "") (Or.inl (oW hw 113 rfl)) Via.refl e2 F_wordsInUse_a0_ (g := (mkF m 42 #[oA a0_, oI p1_, oI 0] [(.ref a0_), (.int 0)])) rfl rfl (oG hby d29 9 rfl)
 obtain ⟨T4, X4, e4, st4⟩ := getF X3 hx hZ hown (host := "") (Or.inl (oW hw 126 rfl)) Via.refl e3 F_words_a0_ (g := (mkF m 49 #[oA a0_, oI p1_, oI 0] [(.ref a0_)])) rfl rfl (oG hby d29 12 rfl)
 obtain ⟨c5, A5, hin5, hat5⟩ := own_jl_at (j := (0 : Int32)) A_f_words_a0_ (by decide +kernel) hf3
 have hat5' : c5.slots[((0 : Int32)).toNatClampNeg]? = some (.long (vs_f_words_a0_.getD ((0 : Int32)).toNatClampNeg 0)) := hat5
 obtain ⟨fs, hr, hrun, hended, hW, hsame⟩ := X4.leave (v := some (.int 0)) (fun h => by rw [Bd.returns] at h; cases h)
 refine ⟨_, _, castTop (own_ef3 m a0_ p1_) ?_, hrun, hended, _, _, rfl, ?_, ⟨_, rfl⟩, hW, (hsame.mono (by decide) (by decide))⟩
 · show oZ p e below s₁ (mkF m 0 #[oA a0_, oI p1_, .unset] []) _
   refine XS.iloadN X0.here hx rfl (oG hby d29 0 rfl) rfl ?_
   refine XS.ifYes X0.here hx rfl (pc0 := 1) (pc' := 31) rfl (oG hby d29 1 rfl) rfl ((if0 _ _).trans (flt hf0).2.1) (by decide) (by decide) ?_
   refine XS.aloadN X0.here hx rfl (oG hby d29 2 rfl) rfl rfl ?_
   refine st1.trans ?_
   refine XS.iloadN X1.here hx rfl (oG hby d29 4 rfl) rfl ?_
   refine st2 _ ?_
   show oZ p e below T2 (mkF m 39 #[oA a0_, oI p1_, .unset] [(.int (p1_ >>> ((6 : Int32) &&& 31)))]) _
   rw [hf1]
   refine XS.istoreN X2.here hx rfl (oG hby d29 6 rfl) rfl (l' := #[oA a0_, oI p1_, oI 0]) rfl ?_
   refine XS.iloadN X2.here hx rfl (oG hby d29 7 rfl) rfl ?_
   refine XS.aloadN X2.here hx rfl (oG hby d29 8 rfl) rfl rfl ?_
   refine st3 _ ?_
   refine XS.icmpNo X3.here hx rfl (oG hby d29 10 rfl) rfl (tlt hf2).2.1 ?_
   refine XS.aloadN X3.here hx rfl (oG hby d29 11 rfl) rfl rfl ?_
   refine st4 _ ?_
   refine XS.iloadN X4.here hx rfl (oG hby d29 13 rfl) rfl ?_
   refine X4.laload hx (j := (0 : Int32)) (v := (.long (vs_f_words_a0_.getD ((0 : Int32)).toNatClampNeg 0))) (by rw [e4]; exact A5.1) (State.isArrayOf_alike hZ.alike A5.2.1) A5.2.2 hin5 hat5' (g := (mkF m 53 #[oA a0_, oI p1_, oI 0] [(.int 0), (.ref f_words_a0_)])) rfl rfl (oG hby d29 14 rfl) _ ?_
   refine XS.lconst X4.here hx rfl (oG hby d29 15 rfl) ?_
   show oZ p e below T4 (mkF m 55 #[oA a0_, oI p1_, oI 0] [(.long 1), (.long (vs_f_words_a0_.getD ((0 : Int32)).toNatClampNeg 0))]) _
   refine XS.iloadN X4.here hx rfl (oG hby d29 16 rfl) rfl ?_
   refine XS.lshl X4.here hx rfl (oG hby d29 17 rfl) rfl ?_
   refine XS.land X4.here hx rfl (oG hby d29 18 rfl) rfl ?_
   refine XS.lconst X4.here hx rfl (oG hby d29 19 rfl) ?_
   show oZ p e below T4 (mkF m 59 #[oA a0_, oI p1_, oI 0] [(.long 0), (.long ((vs_f_words_a0_.getD ((0 : Int32)).toNatClampNeg 0) &&& (own_sl (1 : Int64) p1_)))]) _
   refine XS.lcmp X4.here hx rfl (oG hby d29 20 rfl) rfl ?_
   refine XS.ifYes X4.here hx rfl (pc0 := 60) (pc' := 67) rfl (oG hby d29 21 rfl) rfl ((if0 _ _).trans (teq hf4).1) (by decide) (by decide) ?_
   refine XS.iconst X4.here hx rfl (oG hby d29 24 rfl) ?_
   show oZ p e below T4 (mkF m 68 #[oA a0_, oI p1_, oI 0] [(.int 0)]) _
   exact retN X4 hx (t := .boolean) Bd.returns (by simp) (oG hby d29 25 rfl) hr
 · show own_QP (some (.int 0)) h0 n0 _ T4.heap _
   exact ⟨rfl, N2, e4⟩
theorem own_b32_t (l : Launch) (Z : State) (a0 : Array Value) (hw : oH a0 Z) (ws : List Jvm.Cond) (a0_ : Addr) (p1_ : Int32) (f_wordsInUse_a0_ : Int32) (h0 : Heap) (n0 : Nat) (Z0 : n0 ≤ h0.size) (F_wordsInUse_a0_ : Fld Z h0 a0_ oC2 "wordsInUse" "I" (.int f_wordsInUse_a0_)) (hf0 : ¬ (f_wordsInUse_a0_ < (p1_ + (1 : Int32)))) :
   oMet l oM22 jdk_92_method_15_code 3 none ws (oR 0 0 0 0) Z h0 #[(.ref a0_), (.int p1_)] (own_QP (none) h0 n0) := by
 refine oBd n0 (plainFor_of_name own_pn1) ?_
 intro p e s m below meth c s₁ Bd hx hZ hby hml hown hnm X0 e0 N0
 obtain ⟨T1, X1, e1, st1⟩ := getF X0 hx hZ hown (host := "") (Or.inl (oW hw 113 rfl)) Via.refl e0 F_wordsInUse_a0_ (g := (mkF m 5 #[oA a0_, oI p1_, oI (p1_ + (1 : Int32))] [(.ref a0_)])) rfl rfl (oG hby d32 5 rfl)
 obtain ⟨fs, hr, hrun, hended, hW, hsame⟩ := X1.leave (v := none) (fun _ => rfl)
 refine ⟨_, _, castTop (own_ef5 m a0_ p1_) ?_, hrun, hended, _, _, rfl, ?_, ⟨_, rfl⟩, hW, (hsame.mono (by decide) (by decide))⟩
 · show oZ p e below s₁ (mkF m 0 #[oA a0_, oI p1_, .unset] []) _
   refine XS.iloadN X0.here hx rfl (oG hby d32 0 rfl) rfl ?_
   refine XS.iconst X0.here hx rfl (oG hby d32 1 rfl) ?_
   refine XS.iadd X0.here hx rfl (oG hby d32 2 rfl) rfl ?_
   refine XS.istoreN X0.here hx rfl (oG hby d32 3 rfl) rfl (l' := #[oA a0_, oI p1_, oI (p1_ + (1 : Int32))]) rfl ?_
   refine XS.aloadN X0.here hx rfl (oG hby d32 4 rfl) rfl rfl ?_
   refine st1 _ ?_
   refine XS.iloadN X1.here hx rfl (oG hby d32 6 rfl) rfl ?_
   refine XS.icmpYes X1.here hx rfl (pc0 := 9) (pc' := 22) rfl (oG hby d32 7 rfl) rfl (flt hf0).2.1 (by decide) (by decide) ?_
   show oZ p e below T1 (mkF m 22 #[oA a0_, oI p1_, oI (p1_ + (1 : Int32))] []) _
   exact X1.returnOut hx Bd.returns (oG hby d32 14 rfl) hr
 · show own_QP (none) h0 n0 _ T1.heap _
   exact ⟨rfl, N0, e1⟩
def Qown_b31_t_14 (Z : State) (a0_ : Addr) (p1_ : Int32) (f_wordsInUse_a0_ : Int32) (f_words_a0_ : Addr) (n_f_words_a0_ : Int32) (vs_f_words_a0_ : List Int64) (h0 : Heap) (n0 : Nat) (v : Option Value) (h : Heap) (L : List Loc) : Prop := v = none ∧ Fr n0 L ∧ Keep h0 h [f_words_a0_] ∧ own_jl Z h f_words_a0_ n_f_words_a0_ (vs_f_words_a0_.set ((0 : Int32)).toNatClampNeg ((vs_f_words_a0_.getD ((0 : Int32)).toNatClampNeg 0) ||| (own_sl (1 : Int64) p1_)))
theorem own_b31_t_14 (l : Launch) (Z : State) (a0 : Array Value) (hw : oH a0 Z) (ws : List Jvm.Cond) (a0_ : Addr) (p1_ : Int32) (f_wordsInUse_a0_ : Int32) (f_words_a0_ : Addr) (n_f_words_a0_ : Int32) (vs_f_words_a0_ : List Int64) (h0 : Heap) (n0 : Nat) (Z0 : n0 ≤ h0.size) (F_wordsInUse_a0_ : Fld Z h0 a0_ oC2 "wordsInUse" "I" (.int f_wordsInUse_a0_)) (E_a0_ : Exa Z h0 a0_ oC2) (F_words_a0_ : Fld Z h0 a0_ oC2 "words" "[J" (.ref f_words_a0_)) (A_f_words_a0_ : own_jl Z h0 f_words_a0_ n_f_words_a0_ vs_f_words_a0_) (g_f_words_a0_ : n0 ≤ f_words_a0_) (S__assertionsDisabled : Sta Z h0 oC2 "$assertionsDisabled" "Z" (.int 1)) (hf0 : ¬ (p1_ < (0 : Int32))) (hf1 : (p1_ >>> ((6 : Int32) &&& 31)) = (0 : Int32)) (hf2 : ¬ (f_wordsInUse_a0_ < ((0 : Int32) + (1 : Int32)))) (hf3 : (0 : Int32) < n_f_words_a0_) (hf4 : ((0 : Int32)).toNatClampNeg < vs_f_words_a0_.length) :
   oMet l oM8 jdk_92_method_19_code 3 none ws (oR 1 0 0 14) Z h0 #[(.ref a0_), (.int p1_)] (Qown_b31_t_14 Z a0_ p1_ f_wordsInUse_a0_ f_words_a0_ n_f_words_a0_ vs_f_words_a0_ h0 n0) := by
 refine oBd n0 (plainFor_of_name own_pn1) ?_
 intro p e s m below meth c s₁ Bd hx hZ hby hml hown hnm X0 e0 N0
 obtain ⟨_, _, ⟨T1, L1, k1, n1⟩, -, X1, ⟨Lc1, hQ1, l1, y1, z1⟩, st1⟩ := Jvm.LawKit.callS X0 hx (y := oM11) hown (mvT hZ (oW hw 122 rfl)) (mvT hZ (oW hw 123 rfl)) (mvT hZ (oW hw 108 rfl)) (mvT hZ (oW hw 124 rfl)) (by decide) (backOf (W := 0) (own_b20_x l Z a0 hw [] p1_ h0 n0 Z0 ) hZ (oW hw 124 rfl) (oW hw 108 rfl) (by decide) (by decide)) (g := (mkF m 32 #[oA a0_, oI p1_, .unset] [(.int p1_)])) rfl (by rw [hml]; rfl) (argsL := [(.int p1_)]) (rest := []) (lenOf own_pd1 rfl) rfl (by show 2 * 0 + _ ≤ _; exact Nat.le_of_eq rfl) (oG hby d31 3 rfl) (fun _ _ => ⟨rfl, e0, (by decide : 0 + 0 ≤ _), (by decide : 0 + 0 ≤ _)⟩)
 dsimp only [Pt.U, Pt.locs, Pt.cells, Pt.slots] at X1 l1 y1 z1 st1 hQ1
 subst l1 y1 z1
 obtain ⟨rfl, N1q, e1⟩ := hQ1
 have N1 := Fr.app N0 N1q
 obtain ⟨cq2, q2, q2'⟩ := E_a0_.cell
 obtain ⟨_, _, ⟨T2, L2, k2, n2⟩, -, X2, ⟨Lc2, hQ2, l2, y2, z2⟩, st2⟩ := X1.privateBack hx (y := oM22) hown (mvT hZ (oW hw 192 rfl)) (mvT hZ (oW hw 193 rfl)) (own_selp (mvT hZ (oW hw 107 rfl)) (mvP hZ (oW hw 194 rfl) (args := #[])) (mvT hZ (oW hw 193 rfl)) (by decide)) (Cond.privateMethod_at (mvP hZ (oW hw 194 rfl) (args := #[]))) (mvT hZ (oW hw 196 rfl)) (by decide) (backOf (W := 0) (own_b32_t l Z a0 hw [] a0_ (0 : Int32) f_wordsInUse_a0_ h0 n0 Z0 F_wordsInUse_a0_ hf2) hZ (oW hw 196 rfl) (oW hw 108 rfl) (by decide) (by decide)) (g := (mkF m 38 #[oA a0_, oI p1_, oI 0] [(.int 0), (.ref a0_)])) rfl (by rw [hml]; rfl) (Steps.refl _) (a := a0_) (by rw [e1]; exact q2) q2' (argsL := [(.int 0)]) (rest := []) (lenOf own_pd3 rfl) rfl (by show 2 * 0 + _ ≤ _; exact Nat.le_of_eq rfl) (oG hby d31 7 rfl) (fun _ _ => ⟨rfl, e1, (by decide : 0 + 0 ≤ _), (by decide : 0 + 0 ≤ _)⟩)
 dsimp only [Pt.U, Pt.locs, Pt.cells, Pt.slots] at X2 l2 y2 z2 st2 hQ2
 subst l2 y2 z2
 obtain ⟨rfl, N2q, e2⟩ := hQ2
 have N2 := Fr.app N1 N2q
 obtain ⟨T3, X3, e3, st3⟩ := getF X2 hx hZ hown (host := "") (Or.inl (oW hw 126 rfl)) Via.refl e2 F_words_a0_ (g := (mkF m 42 #[oA a0_, oI p1_, oI 0] [(.ref a0_)])) rfl rfl (oG hby d31 9 rfl)
 obtain ⟨c4, A4, hin4, hat4⟩ := own_jl_at (j := (0 : Int32)) A_f_words_a0_ (by decide +kernel) hf3
 have hat4' : c4.slots[((0 : Int32)).toNatClampNeg]? = some (.long (vs_f_words_a0_.getD ((0 : Int32)).toNatClampNeg 0)) := hat4
 obtain ⟨c5, A5, hin5, -⟩ := own_jl_at (j := (0 : Int32)) A_f_words_a0_ (by decide +kernel) hf3
 obtain ⟨T6, h6, X6, e6, W6, st6⟩ := stJ X3 hx hZ e3 A5 (j := (0 : Int32)) hin5 (g := (mkF m 52 #[oA a0_, oI p1_, oI 0] [(.long ((vs_f_words_a0_.getD ((0 : Int32)).toNatClampNeg 0) ||| (own_sl (1 : Int64) p1_))), (.int 0), (.ref f_words_a0_)])) rfl rfl (oG hby d31 17 rfl)
 have V6 : own_jl Z h6 f_words_a0_ n_f_words_a0_ (vs_f_words_a0_.set ((0 : Int32)).toNatClampNeg ((vs_f_words_a0_.getD ((0 : Int32)).toNatClampNeg 0) ||| (own_sl (1 : Int64) p1_))) := own_jl_st A_f_words_a0_ (by decide +kernel) hf3 W6 hf4
 have K6 : Keep h0 h6 [f_words_a0_] := (Keep.refl h0 [f_words_a0_]).wr W6 (Or.inl (oX 0 rfl))
 have N6 := Fr.snoc X6 N2 g_f_words_a0_
 have f8_java_util_BitSet__assert := (S__assertionsDisabled.wr W6)
 have f9_a0_ := (E_a0_.wr W6)
 obtain ⟨cq7, q7, q7'⟩ := f9_a0_.cell
 obtain ⟨_, _, ⟨T7, L7, k7, n7⟩, -, X7, ⟨Lc7, hQ7, l7, y7, z7⟩, st7⟩ := X6.privateBack hx (y := oM15) hown (mvT hZ (oW hw 181 rfl)) (mvT hZ (oW hw 182 rfl)) (own_selp (mvT hZ (oW hw 107 rfl)) (mvP hZ (oW hw 183 rfl) (args := #[])) (mvT hZ (oW hw 182 rfl)) (by decide)) (Cond.privateMethod_at (mvP hZ (oW hw 183 rfl) (args := #[]))) (mvT hZ (oW hw 185 rfl)) (by decide) (backOf (W := 0) (own_b30_ttt l Z a0 hw [] a0_ h6 n0 (Nat.le_trans Z0 K6.1) f8_java_util_BitSet__assert) hZ (oW hw 185 rfl) (oW hw 108 rfl) (by decide) (by decide)) (g := (mkF m 54 #[oA a0_, oI p1_, oI 0] [(.ref a0_)])) rfl (by rw [hml]; rfl) (Steps.refl _) (a := a0_) (by rw [e6]; exact q7) q7' (argsL := []) (rest := []) (lenOf own_pd0 rfl) rfl (by show 2 * 0 + _ ≤ _; exact Nat.le_of_eq rfl) (oG hby d31 19 rfl) (fun _ _ => ⟨rfl, e6, (by decide : 0 + 0 ≤ _), (by decide : 0 + 0 ≤ _)⟩)
 dsimp only [Pt.U, Pt.locs, Pt.cells, Pt.slots] at X7 l7 y7 z7 st7 hQ7
 subst l7 y7 z7
 obtain ⟨rfl, N7q, e7⟩ := hQ7
 have N7 := Fr.app N6 N7q
 obtain ⟨fs, hr, hrun, hended, hW, hsame⟩ := X7.leave (v := none) (fun _ => rfl)
 refine ⟨_, _, castTop (own_ef6 m a0_ p1_) ?_, hrun, hended, _, _, rfl, ?_, ⟨_, rfl⟩, hW, (hsame.mono (by decide) (by decide))⟩
 · show oZ p e below s₁ (mkF m 0 #[oA a0_, oI p1_, .unset] []) _
   refine XS.iloadN X0.here hx rfl (oG hby d31 0 rfl) rfl ?_
   refine XS.ifYes X0.here hx rfl (pc0 := 1) (pc' := 31) rfl (oG hby d31 1 rfl) rfl ((if0 _ _).trans (flt hf0).2.1) (by decide) (by decide) ?_
   refine XS.iloadN X0.here hx rfl (oG hby d31 2 rfl) rfl ?_
   refine st1 _ ?_
   show oZ p e below T1 (mkF m 35 #[oA a0_, oI p1_, .unset] [(.int (p1_ >>> ((6 : Int32) &&& 31)))]) _
   rw [hf1]
   refine XS.istoreN X1.here hx rfl (oG hby d31 4 rfl) rfl (l' := #[oA a0_, oI p1_, oI 0]) rfl ?_
   refine XS.aloadN X1.here hx rfl (oG hby d31 5 rfl) rfl rfl ?_
   refine XS.iloadN X1.here hx rfl (oG hby d31 6 rfl) rfl ?_
   refine st2.trans ?_
   refine XS.aloadN X2.here hx rfl (oG hby d31 8 rfl) rfl rfl ?_
   refine st3 _ ?_
   refine XS.iloadN X3.here hx rfl (oG hby d31 10 rfl) rfl ?_
   show oZ p e below T3 (mkF m 46 #[oA a0_, oI p1_, oI 0] [(.int 0), (.ref f_words_a0_)]) _
   jvm_step X3.here [X3.here.top, hx, (oG hby d31 11 rfl), Value.category]
   refine X3.laload hx (j := (0 : Int32)) (v := (.long (vs_f_words_a0_.getD ((0 : Int32)).toNatClampNeg 0))) (by rw [e3]; exact A4.1) (State.isArrayOf_alike hZ.alike A4.2.1) A4.2.2 hin4 hat4' (g := (mkF m 47 #[oA a0_, oI p1_, oI 0] [(.int 0), (.ref f_words_a0_), (.int 0), (.ref f_words_a0_)])) rfl rfl (oG hby d31 12 rfl) _ ?_
   refine XS.lconst X3.here hx rfl (oG hby d31 13 rfl) ?_
   show oZ p e below T3 (mkF m 49 #[oA a0_, oI p1_, oI 0] [(.long 1), (.long (vs_f_words_a0_.getD ((0 : Int32)).toNatClampNeg 0)), (.int 0), (.ref f_words_a0_)]) _
   refine XS.iloadN X3.here hx rfl (oG hby d31 14 rfl) rfl ?_
   refine XS.lshl X3.here hx rfl (oG hby d31 15 rfl) rfl ?_
   refine XS.lor X3.here hx rfl (oG hby d31 16 rfl) rfl ?_
   refine st6 _ ?_
   refine XS.aloadN X6.here hx rfl (oG hby d31 18 rfl) rfl rfl ?_
   refine st7.trans ?_
   show oZ p e below T7 (mkF m 57 #[oA a0_, oI p1_, oI 0] []) _
   exact X7.returnOut hx Bd.returns (oG hby d31 20 rfl) hr
 · show Qown_b31_t_14 Z a0_ p1_ f_wordsInUse_a0_ f_words_a0_ n_f_words_a0_ vs_f_words_a0_ h0 n0 _ T7.heap _
   rw [e7]
   exact ⟨rfl, N7, K6, V6⟩
def Qown_b28_tfft_15 (Z : State) (a0_ : Addr) (p1_ : Int32) (f_toSkip_a0_ : Int64) (f_taken_a0_ : Int32) (f_chosen_a0_ : Addr) (n_f_chosen_a0_ : Int32) (f_has_a0_ : Addr) (f_wordsInUse_f_has_a0_ : Int32) (f_words_f_has_a0_ : Addr) (n_f_words_f_has_a0_ : Int32) (vs_f_words_f_has_a0_ : List Int64) (h0 : Heap) (n0 : Nat) (v : Option Value) (h : Heap) (L : List Loc) : Prop := v = some (.int 0) ∧ Fr n0 L ∧ Keep h0 h [f_words_f_has_a0_, f_chosen_a0_, a0_] ∧ own_jl Z h f_words_f_has_a0_ n_f_words_f_has_a0_ (vs_f_words_f_has_a0_.set ((0 : Int32)).toNatClampNeg ((vs_f_words_f_has_a0_.getD ((0 : Int32)).toNatClampNeg 0) ||| (own_sl (1 : Int64) p1_))) ∧ own_ia Z h f_chosen_a0_ n_f_chosen_a0_ ∧ Fld Z h a0_ oC1 "toSkip" "J" (.long f_toSkip_a0_) ∧ Fld Z h a0_ oC1 "taken" "I" (.int (f_taken_a0_ + (1 : Int32))) ∧ Fld Z h a0_ oC1 "chosen" "[I" (.ref f_chosen_a0_) ∧ Fld Z h a0_ oC1 "has" "Ljava/util/BitSet;" (.ref f_has_a0_) ∧ Exa Z h a0_ oC1
theorem own_b28_tfft_15 (l : Launch) (Z : State) (a0 : Array Value) (hw : oH a0 Z) (ws : List Jvm.Cond) (a0_ : Addr) (p1_ : Int32) (f_toSkip_a0_ : Int64) (f_taken_a0_ : Int32) (f_chosen_a0_ : Addr) (n_f_chosen_a0_ : Int32) (f_has_a0_ : Addr) (f_wordsInUse_f_has_a0_ : Int32) (f_words_f_has_a0_ : Addr) (n_f_words_f_has_a0_ : Int32) (vs_f_words_f_has_a0_ : List Int64) (h0 : Heap) (n0 : Nat) (Z0 : n0 ≤ h0.size) (F_toSkip_a0_ : Fld Z h0 a0_ oC1 "toSkip" "J" (.long f_toSkip_a0_)) (F_taken_a0_ : Fld Z h0 a0_ oC1 "taken" "I" (.int f_taken_a0_)) (F_chosen_a0_ : Fld Z h0 a0_ oC1 "chosen" "[I" (.ref f_chosen_a0_)) (A_f_chosen_a0_ : own_ia Z h0 f_chosen_a0_ n_f_chosen_a0_) (F_has_a0_ : Fld Z h0 a0_ oC1 "has" "Ljava/util/BitSet;" (.ref f_has_a0_)) (S__assertionsDisabled : Sta Z h0 oC2 "$assertionsDisabled" "Z" (.int 1)) (E_f_has_a0_ : Exa Z h0 f_has_a0_ oC2) (F_wordsInUse_f_has_a0_ : Fld Z h0 f_has_a0_ oC2 "wordsInUse" "I" (.int f_wordsInUse_f_has_a0_)) (F_words_f_has_a0_ : Fld Z h0 f_has_a0_ oC2 "words" "[J" (.ref f_words_f_has_a0_)) (A_f_words_f_has_a0_ : own_jl Z h0 f_words_f_has_a0_ n_f_words_f_has_a0_ vs_f_words_f_has_a0_) (g_f_words_f_has_a0_ : n0 ≤ f_words_f_has_a0_) (g_f_chosen_a0_ : n0 ≤ f_chosen_a0_) (E_a0_ : Exa Z h0 a0_ oC1) (g_a0_ : n0 ≤ a0_) (hf0 : ¬ ((0 : Int32) < (lcmpW f_toSkip_a0_ (0 : Int64)))) (hf1 : f_taken_a0_ < n_f_chosen_a0_) (hf2 : ¬ (p1_ < (0 : Int32))) (hf3 : (p1_ >>> ((6 : Int32) &&& 31)) = (0 : Int32)) (hf4 : (0 : Int32) < f_wordsInUse_f_has_a0_) (hf5 : (0 : Int32) < n_f_words_f_has_a0_) (hf6 : (lcmpW ((vs_f_words_f_has_a0_.getD ((0 : Int32)).toNatClampNeg 0) &&& (own_sl (1 : Int64) p1_)) (0 : Int64)) = (0 : Int32)) (hf7 : ¬ (f_wordsInUse_f_has_a0_ < ((0 : Int32) + (1 : Int32)))) (hf8 : ((0 : Int32)).toNatClampNeg < vs_f_words_f_has_a0_.length) (hf9 : ¬ (a0_ = f_words_f_has_a0_)) (hf10 : ¬ (f_chosen_a0_ = f_words_f_has_a0_)) (hf11 : ¬ (f_taken_a0_ < 0)) (hf12 : ¬ (a0_ = f_chosen_a0_)) (hf13 : ¬ (f_chosen_a0_ = a0_)) (hf14 : ¬ ((f_taken_a0_ + (1 : Int32)) = n_f_chosen_a0_)) (hf15 : ¬ (f_words_f_has_a0_ = f_chosen_a0_)) (hf16 : ¬ (f_words_f_has_a0_ = a0_)) :
   oMet l oM0 prog_30_method_2_code 2 (some .boolean) ws (oR 3 0 0 60) Z h0 #[(.ref a0_), (.int p1_)] (Qown_b28_tfft_15 Z a0_ p1_ f_toSkip_a0_ f_taken_a0_ f_chosen_a0_ n_f_chosen_a0_ f_has_a0_ f_wordsInUse_f_has_a0_ f_words_f_has_a0_ n_f_words_f_has_a0_ vs_f_words_f_has_a0_ h0 n0) := by
 refine oBd n0 (plainFor_of_name own_pn0) ?_
 intro p e s m below meth c s₁ Bd hx hZ hby hml hown hnm X0 e0 N0
 obtain ⟨T1, X1, e1, st1⟩ := getF X0 hx hZ hown (host := "") (Or.inl (oW hw 102 rfl)) Via.refl e0 F_toSkip_a0_ (g := (mkF m 1 #[oA a0_, oI p1_] [(.ref a0_)])) rfl rfl (oG hby d28 1 rfl)
 obtain ⟨T2, X2, e2, st2⟩ := getF X1 hx hZ hown (host := "") (Or.inl (oW hw 174 rfl)) Via.refl e1 F_taken_a0_ (g := (mkF m 22 #[oA a0_, oI p1_] [(.ref a0_)])) rfl rfl (oG hby d28 14 rfl)
 obtain ⟨T3, X3, e3, st3⟩ := getF X2 hx hZ hown (host := "") (Or.inl (oW hw 104 rfl)) Via.refl e2 F_chosen_a0_ (g := (mkF m 26 #[oA a0_, oI p1_] [(.ref a0_), (.int f_taken_a0_)])) rfl rfl (oG hby d28 16 rfl)
 obtain ⟨c4, A4, S4, M4⟩ := own_ia_cell A_f_chosen_a0_
 obtain ⟨T5, X5, e5, st5⟩ := getF X3 hx hZ hown (host := "") (Or.inl (oW hw 128 rfl)) Via.refl e3 F_has_a0_ (g := (mkF m 34 #[oA a0_, oI p1_] [(.ref a0_)])) rfl rfl (oG hby d28 20 rfl)
 obtain ⟨cq6, kq6, q6a, q6b, q6c⟩ := isOf hZ e5 E_f_has_a0_
 obtain ⟨_, _, ⟨T6, L6, k6, n6⟩, -, X6, ⟨Lc6, hQ6, l6, y6, z6⟩, st6⟩ := X5.virtualBack hx (y := oM1) (z := oM1) hown (mvT hZ (oW hw 176 rfl)) (mvT hZ (oW hw 177 rfl)) (notFace_of_selects (args := #[]) (mvT hZ (oW hw 179 rfl))) (mvT hZ (oW hw 179 rfl)) (mvT hZ (oW hw 178 rfl)) (by decide) (backOf (W := 0) (own_b29_tft_12 l Z a0 hw [] f_has_a0_ p1_ f_wordsInUse_f_has_a0_ f_words_f_has_a0_ n_f_words_f_has_a0_ vs_f_words_f_has_a0_ h0 n0 Z0 S__assertionsDisabled E_f_has_a0_ F_wordsInUse_f_has_a0_ F_words_f_has_a0_ A_f_words_f_has_a0_ hf2 hf3 hf4 hf5 hf6) hZ (oW hw 180 rfl) (oW hw 108 rfl) (by decide) (by decide)) q6a q6c (g := (mkF m 38 #[oA a0_, oI p1_] [(.int p1_), (.ref f_has_a0_)])) rfl (by rw [hml]; rfl) (Steps.refl _) (argsL := [(.int p1_)]) (rest := []) (lenOf own_pd2 rfl) rfl (by show 2 * 0 + _ ≤ _; exact Nat.le_of_eq rfl) (oG hby d28 22 rfl) (fun _ _ => ⟨rfl, e5, (by decide : 0 + 0 ≤ _), (by decide : 0 + 0 ≤ _)⟩)
 dsimp only [Pt.U, Pt.locs, Pt.cells, Pt.slots] at X6 l6 y6 z6 st6 hQ6
 subst l6 y6 z6
 obtain ⟨rfl, N6q, e6⟩ := hQ6
 have N6 := Fr.app N0 N6q
 obtain ⟨T7, X7, e7, st7⟩ := getF X6 hx hZ hown (host := "") (Or.inl (oW hw 128 rfl)) Via.refl e6 F_has_a0_ (g := (mkF m 45 #[oA a0_, oI p1_] [(.ref a0_)])) rfl rfl (oG hby d28 25 rfl)
 obtain ⟨cq8, kq8, q8a, q8b, q8c⟩ := isOf hZ e7 E_f_has_a0_
 obtain ⟨_, _, ⟨T8, L8, k8, n8⟩, -, X8, ⟨Lc8, hQ8, l8, y8, z8⟩, st8⟩ := X7.virtualBack hx (y := oM8) (z := oM8) hown (mvT hZ (oW hw 187 rfl)) (mvT hZ (oW hw 188 rfl)) (notFace_of_selects (args := #[]) (mvT hZ (oW hw 190 rfl))) (mvT hZ (oW hw 190 rfl)) (mvT hZ (oW hw 189 rfl)) (by decide) (backOf (W := 0) (own_b31_t_14 l Z a0 hw [] f_has_a0_ p1_ f_wordsInUse_f_has_a0_ f_words_f_has_a0_ n_f_words_f_has_a0_ vs_f_words_f_has_a0_ h0 n0 Z0 F_wordsInUse_f_has_a0_ E_f_has_a0_ F_words_f_has_a0_ A_f_words_f_has_a0_ g_f_words_f_has_a0_ S__assertionsDisabled hf2 hf3 hf7 hf5 hf8) hZ (oW hw 191 rfl) (oW hw 108 rfl) (by decide) (by decide)) q8a q8c (g := (mkF m 49 #[oA a0_, oI p1_] [(.int p1_), (.ref f_has_a0_)])) rfl (by rw [hml]; rfl) (Steps.refl _) (argsL := [(.int p1_)]) (rest := []) (lenOf own_pd3 rfl) rfl (by show 2 * 0 + _ ≤ _; exact Nat.le_of_eq rfl) (oG hby d28 27 rfl) (fun _ _ => ⟨rfl, e7, (by decide : 0 + 0 ≤ _), (by decide : 0 + 0 ≤ _)⟩)
 dsimp only [Pt.U, Pt.locs, Pt.cells, Pt.slots] at X8 l8 y8 z8 st8 hQ8
 subst l8 y8 z8
 obtain ⟨rfl, N8q, Kq8, Q8_0⟩ := hQ8
 have N8 := Fr.app N6 N8q
 have K8 : Keep h0 T8.heap [f_words_f_has_a0_, f_chosen_a0_, a0_] := (Keep.refl h0 [f_words_f_has_a0_, f_chosen_a0_, a0_]).trans Kq8 (own_a1 (Or.inl (oX 0 rfl)))
 have f9_a0__chosen := (F_chosen_a0_.keep Kq8 (own_n1 hf9))
 obtain ⟨T10, X10, e10, st10⟩ := getF X8 hx hZ hown (host := "") (Or.inl (oW hw 104 rfl)) Via.refl rfl f9_a0__chosen (g := (mkF m 53 #[oA a0_, oI p1_] [(.ref a0_)])) rfl rfl (oG hby d28 29 rfl)
 have f11_a0__taken := (F_taken_a0_.keep Kq8 (own_n1 hf9))
 obtain ⟨T12, X12, e12, st12⟩ := getF X10 hx hZ hown (host := "") (Or.inl (oW hw 174 rfl)) Via.refl e10 f11_a0__taken (g := (mkF m 57 #[oA a0_, oI p1_] [(.ref a0_), (.ref f_chosen_a0_)])) rfl rfl (oG hby d28 31 rfl)
 have f13_f_chosen_a0_ := (A_f_chosen_a0_.keep Kq8 (own_n1 hf10))
 obtain ⟨c14, z14, A14, hin14, -⟩ := own_ia_at (j := f_taken_a0_) f13_f_chosen_a0_ hf11 hf1
 obtain ⟨T15, h15, X15, e15, W15, st15⟩ := stI X12 hx hZ e12 A14 (j := f_taken_a0_) hin14 (g := (mkF m 61 #[oA a0_, oI p1_] [(.int p1_), (.int f_taken_a0_), (.ref f_chosen_a0_)])) rfl rfl (oG hby d28 33 rfl)
 have V15 := own_ia_st f13_f_chosen_a0_ hf11 hf1 W15
 have K15 : Keep h0 h15 [f_words_f_has_a0_, f_chosen_a0_, a0_] := K8.wr W15 (Or.inl (oX 1 rfl))
 have N15 := Fr.snoc X15 N8 g_f_chosen_a0_
 have f16_a0__taken := (f11_a0__taken.other W15 (Or.inl hf12))
 obtain ⟨T17, X17, e17, st17⟩ := getF X15 hx hZ hown (host := "") (Or.inl (oW hw 174 rfl)) Via.refl e15 f16_a0__taken (g := (mkF m 64 #[oA a0_, oI p1_] [(.ref a0_), (.ref a0_)])) rfl rfl (oG hby d28 36 rfl)
 have f18_a0_ := ((E_a0_.keep Kq8).wr W15)
 obtain ⟨T19, h19, X19, e19, W19, st19⟩ := putF X17 hx hZ hown (host := "") (Or.inl (oW hw 174 rfl)) Via.refl e17 f16_a0__taken f18_a0_ (Or.inl (oW hw 175 rfl)) (oW hw 96 rfl) (ty := .int) (by decide) rfl rfl (g := (mkF m 69 #[oA a0_, oI p1_] [(.int (f_taken_a0_ + (1 : Int32))), (.ref a0_)])) rfl rfl (oG hby d28 39 rfl)
 have Fw19 := f16_a0__taken.same W19
 have K19 : Keep h0 h19 [f_words_f_has_a0_, f_chosen_a0_, a0_] := K15.wr W19 (Or.inl (oX 2 rfl))
 have N19 := Fr.snoc X19 N15 g_a0_
 obtain ⟨T20, X20, e20, st20⟩ := getF X19 hx hZ hown (host := "") (Or.inl (oW hw 174 rfl)) Via.refl e19 Fw19 (g := (mkF m 73 #[oA a0_, oI p1_] [(.ref a0_)])) rfl rfl (oG hby d28 41 rfl)
 have f21_a0__chosen := ((f9_a0__chosen.other W15 (Or.inl hf12)).other W19 (oN (Or.inr (oW hw 105 rfl)) (Or.inl (oW hw 175 rfl)) (t := (.array .int)) (t' := .int)))
 obtain ⟨T22, X22, e22, st22⟩ := getF X20 hx hZ hown (host := "") (Or.inl (oW hw 104 rfl)) Via.refl e20 f21_a0__chosen (g := (mkF m 77 #[oA a0_, oI p1_] [(.ref a0_), (.int (f_taken_a0_ + (1 : Int32)))])) rfl rfl (oG hby d28 43 rfl)
 have f23_f_chosen_a0_ := (V15.other W19 hf13)
 obtain ⟨c24, A24, S24, M24⟩ := own_ia_cell f23_f_chosen_a0_
 have f25_f_words_f_has_a0_ := ((Q8_0.other W15 hf15).other W19 hf16)
 have f26_a0__toSkip := (((F_toSkip_a0_.keep Kq8 (own_n1 hf9)).other W15 (Or.inl hf12)).other W19 (oN (Or.inl (oW hw 103 rfl)) (Or.inl (oW hw 175 rfl)) (t := .long) (t' := .int)))
 have f27_a0__has := (((F_has_a0_.keep Kq8 (own_n1 hf9)).other W15 (Or.inl hf12)).other W19 (oN (Or.inr (oW hw 129 rfl)) (Or.inl (oW hw 175 rfl)) (t := (.object oC2)) (t' := .int)))
 have f28_a0_ := (f18_a0_.wr W19)
 obtain ⟨fs, hr, hrun, hended, hW, hsame⟩ := X22.leave (v := some (.int 0)) (fun h => by rw [Bd.returns] at h; cases h)
 refine ⟨_, _, castTop (own_ef0 m a0_ p1_) ?_, hrun, hended, _, _, rfl, ?_, ⟨_, rfl⟩, hW, (hsame.mono (by decide) (by decide))⟩
 · show oZ p e below s₁ (mkF m 0 #[oA a0_, oI p1_] []) _
   refine XS.aloadN X0.here hx rfl (oG hby d28 0 rfl) rfl rfl ?_
   refine st1 _ ?_
   refine XS.lconst X1.here hx rfl (oG hby d28 2 rfl) ?_
   show oZ p e below T1 (mkF m 5 #[oA a0_, oI p1_] [(.long 0), (.long f_toSkip_a0_)]) _
   refine XS.lcmp X1.here hx rfl (oG hby d28 3 rfl) rfl ?_
   refine XS.ifYes X1.here hx rfl (pc0 := 6) (pc' := 21) rfl (oG hby d28 4 rfl) rfl ((if0 _ _).trans (flt hf0).2.2.2) (by decide) (by decide) ?_
   refine XS.aloadN X1.here hx rfl (oG hby d28 13 rfl) rfl rfl ?_
   refine st2 _ ?_
   refine XS.aloadN X2.here hx rfl (oG hby d28 15 rfl) rfl rfl ?_
   refine st3 _ ?_
   refine X3.arraylength hx (by rw [e3]; exact A4.1) (State.isArrayOf_alike hZ.alike A4.2.1) (g := (mkF m 29 #[oA a0_, oI p1_] [(.ref f_chosen_a0_), (.int f_taken_a0_)])) rfl rfl (oG hby d28 17 rfl) _ ?_
   rw [len_of S4 M4]
   refine XS.icmpNo X3.here hx rfl (oG hby d28 18 rfl) rfl (tlt hf1).2.1 ?_
   refine XS.aloadN X3.here hx rfl (oG hby d28 19 rfl) rfl rfl ?_
   refine st5 _ ?_
   refine XS.iloadN X5.here hx rfl (oG hby d28 21 rfl) rfl ?_
   show oZ p e below T5 (mkF m 38 #[oA a0_, oI p1_] [(.int p1_), (.ref f_has_a0_)]) _
   refine st6.trans ?_
   refine XS.ifNo X6.here hx rfl (oG hby d28 23 rfl) rfl ((if0 _ _).trans (teq (rfl : (0 : Int32) = (0 : Int32))).2) ?_
   refine XS.aloadN X6.here hx rfl (oG hby d28 24 rfl) rfl rfl ?_
   refine st7 _ ?_
   refine XS.iloadN X7.here hx rfl (oG hby d28 26 rfl) rfl ?_
   refine st8.trans ?_
   refine XS.aloadN X8.here hx rfl (oG hby d28 28 rfl) rfl rfl ?_
   refine st10 _ ?_
   refine XS.aloadN X10.here hx rfl (oG hby d28 30 rfl) rfl rfl ?_
   refine st12 _ ?_
   refine XS.iloadN X12.here hx rfl (oG hby d28 32 rfl) rfl ?_
   show oZ p e below T12 (mkF m 61 #[oA a0_, oI p1_] [(.int p1_), (.int f_taken_a0_), (.ref f_chosen_a0_)]) _
   refine st15 _ ?_
   refine XS.aloadN X15.here hx rfl (oG hby d28 34 rfl) rfl rfl ?_
   refine XS.dup X15.here hx rfl (oG hby d28 35 rfl) rfl rfl ?_
   refine st17 _ ?_
   refine XS.iconst X17.here hx rfl (oG hby d28 37 rfl) ?_
   refine XS.iadd X17.here hx rfl (oG hby d28 38 rfl) rfl ?_
   refine st19 _ ?_
   refine XS.aloadN X19.here hx rfl (oG hby d28 40 rfl) rfl rfl ?_
   refine st20 _ ?_
   refine XS.aloadN X20.here hx rfl (oG hby d28 42 rfl) rfl rfl ?_
   refine st22 _ ?_
   show oZ p e below T22 (mkF m 80 #[oA a0_, oI p1_] [(.ref f_chosen_a0_), (.int (f_taken_a0_ + (1 : Int32)))]) _
   refine X22.arraylength hx (by rw [e22]; exact A24.1) (State.isArrayOf_alike hZ.alike A24.2.1) (g := (mkF m 80 #[oA a0_, oI p1_] [(.ref f_chosen_a0_), (.int (f_taken_a0_ + (1 : Int32)))])) rfl rfl (oG hby d28 44 rfl) _ ?_
   rw [len_of S24 M24]
   refine XS.icmpYes X22.here hx rfl (pc0 := 81) (pc' := 88) rfl (oG hby d28 45 rfl) rfl (feq hf14).2 (by decide) (by decide) ?_
   refine XS.iconst X22.here hx rfl (oG hby d28 48 rfl) ?_
   show oZ p e below T22 (mkF m 89 #[oA a0_, oI p1_] [(.int 0)]) _
   exact retN X22 hx (t := .boolean) Bd.returns (by simp) (oG hby d28 49 rfl) hr
 · show Qown_b28_tfft_15 Z a0_ p1_ f_toSkip_a0_ f_taken_a0_ f_chosen_a0_ n_f_chosen_a0_ f_has_a0_ f_wordsInUse_f_has_a0_ f_words_f_has_a0_ n_f_words_f_has_a0_ vs_f_words_f_has_a0_ h0 n0 _ T22.heap _
   rw [e22]
   exact ⟨rfl, N19, K19, f25_f_words_f_has_a0_, f23_f_chosen_a0_, f26_a0__toSkip, Fw19, f21_a0__chosen, f27_a0__has, f28_a0_⟩
def Qown_b28_tfff_16 (Z : State) (a0_ : Addr) (p1_ : Int32) (f_toSkip_a0_ : Int64) (f_taken_a0_ : Int32) (f_chosen_a0_ : Addr) (n_f_chosen_a0_ : Int32) (f_has_a0_ : Addr) (f_wordsInUse_f_has_a0_ : Int32) (f_words_f_has_a0_ : Addr) (n_f_words_f_has_a0_ : Int32) (vs_f_words_f_has_a0_ : List Int64) (h0 : Heap) (n0 : Nat) (v : Option Value) (h : Heap) (L : List Loc) : Prop := v = some (.int 1) ∧ Fr n0 L ∧ Keep h0 h [f_words_f_has_a0_, f_chosen_a0_, a0_] ∧ own_jl Z h f_words_f_has_a0_ n_f_words_f_has_a0_ (vs_f_words_f_has_a0_.set ((0 : Int32)).toNatClampNeg ((vs_f_words_f_has_a0_.getD ((0 : Int32)).toNatClampNeg 0) ||| (own_sl (1 : Int64) p1_))) ∧ own_ia Z h f_chosen_a0_ n_f_chosen_a0_ ∧ Fld Z h a0_ oC1 "toSkip" "J" (.long f_toSkip_a0_) ∧ Fld Z h a0_ oC1 "taken" "I" (.int (f_taken_a0_ + (1 : Int32))) ∧ Fld Z h a0_ oC1 "chosen" "[I" (.ref f_chosen_a0_) ∧ Fld Z h a0_ oC1 "has" "Ljava/util/BitSet;" (.ref f_has_a0_) ∧ Exa Z h a0_ oC1
theorem own_b28_tfff_16 (l : Launch) (Z : State) (a0 : Array Value) (hw : oH a0 Z) (ws : List Jvm.Cond) (a0_ : Addr) (p1_ : Int32) (f_toSkip_a0_ : Int64) (f_taken_a0_ : Int32) (f_chosen_a0_ : Addr) (n_f_chosen_a0_ : Int32) (f_has_a0_ : Addr) (f_wordsInUse_f_has_a0_ : Int32) (f_words_f_has_a0_ : Addr) (n_f_words_f_has_a0_ : Int32) (vs_f_words_f_has_a0_ : List Int64) (h0 : Heap) (n0 : Nat) (Z0 : n0 ≤ h0.size) (F_toSkip_a0_ : Fld Z h0 a0_ oC1 "toSkip" "J" (.long f_toSkip_a0_)) (F_taken_a0_ : Fld Z h0 a0_ oC1 "taken" "I" (.int f_taken_a0_)) (F_chosen_a0_ : Fld Z h0 a0_ oC1 "chosen" "[I" (.ref f_chosen_a0_)) (A_f_chosen_a0_ : own_ia Z h0 f_chosen_a0_ n_f_chosen_a0_) (F_has_a0_ : Fld Z h0 a0_ oC1 "has" "Ljava/util/BitSet;" (.ref f_has_a0_)) (S__assertionsDisabled : Sta Z h0 oC2 "$assertionsDisabled" "Z" (.int 1)) (E_f_has_a0_ : Exa Z h0 f_has_a0_ oC2) (F_wordsInUse_f_has_a0_ : Fld Z h0 f_has_a0_ oC2 "wordsInUse" "I" (.int f_wordsInUse_f_has_a0_)) (F_words_f_has_a0_ : Fld Z h0 f_has_a0_ oC2 "words" "[J" (.ref f_words_f_has_a0_)) (A_f_words_f_has_a0_ : own_jl Z h0 f_words_f_has_a0_ n_f_words_f_has_a0_ vs_f_words_f_has_a0_) (g_f_words_f_has_a0_ : n0 ≤ f_words_f_has_a0_) (g_f_chosen_a0_ : n0 ≤ f_chosen_a0_) (E_a0_ : Exa Z h0 a0_ oC1) (g_a0_ : n0 ≤ a0_) (hf0 : ¬ ((0 : Int32) < (lcmpW f_toSkip_a0_ (0 : Int64)))) (hf1 : f_taken_a0_ < n_f_chosen_a0_) (hf2 : ¬ (p1_ < (0 : Int32))) (hf3 : (p1_ >>> ((6 : Int32) &&& 31)) = (0 : Int32)) (hf4 : (0 : Int32) < f_wordsInUse_f_has_a0_) (hf5 : (0 : Int32) < n_f_words_f_has_a0_) (hf6 : (lcmpW ((vs_f_words_f_has_a0_.getD ((0 : Int32)).toNatClampNeg 0) &&& (own_sl (1 : Int64) p1_)) (0 : Int64)) = (0 : Int32)) (hf7 : ¬ (f_wordsInUse_f_has_a0_ < ((0 : Int32) + (1 : Int32)))) (hf8 : ((0 : Int32)).toNatClampNeg < vs_f_words_f_has_a0_.length) (hf9 : ¬ (a0_ = f_words_f_has_a0_)) (hf10 : ¬ (f_chosen_a0_ = f_words_f_has_a0_)) (hf11 : ¬ (f_taken_a0_ < 0)) (hf12 : ¬ (a0_ = f_chosen_a0_)) (hf13 : ¬ (f_chosen_a0_ = a0_)) (hf14 : (f_taken_a0_ + (1 : Int32)) = n_f_chosen_a0_) (hf15 : ¬ (f_words_f_has_a0_ = f_chosen_a0_)) (hf16 : ¬ (f_words_f_has_a0_ = a0_)) :
   oMet l oM0 prog_30_method_2_code 2 (some .boolean) ws (oR 3 0 0 60) Z h0 #[(.ref a0_), (.int p1_)] (Qown_b28_tfff_16 Z a0_ p1_ f_toSkip_a0_ f_taken_a0_ f_chosen_a0_ n_f_chosen_a0_ f_has_a0_ f_wordsInUse_f_has_a0_ f_words_f_has_a0_ n_f_words_f_has_a0_ vs_f_words_f_has_a0_ h0 n0) := by
 refine oBd n0 (plainFor_of_name own_pn0) ?_
 intro p e s m below meth c s₁ Bd hx hZ hby hml hown hnm X0 e0 N0
 obtain ⟨T1, X1, e1, st1⟩ := getF X0 hx hZ hown (host := "") (Or.inl (oW hw 102 rfl)) Via.refl e0 F_toSkip_a0_ (g := (mkF m 1 #[oA a0_, oI p1_] [(.ref a0_)])) rfl rfl (oG hby d28 1 rfl)
 obtain ⟨T2, X2, e2, st2⟩ := getF X1 hx hZ hown (host := "") (Or.inl (oW hw 174 rfl)) Via.refl e1 F_taken_a0_ (g := (mkF m 22 #[oA a0_, oI p1_] [(.ref a0_)])) rfl rfl (oG hby d28 14 rfl)
 obtain ⟨T3, X3, e3, st3⟩ := getF X2 hx hZ hown (host := "") (Or.inl (oW hw 104 rfl)) Via.refl e2 F_chosen_a0_ (g := (mkF m 26 #[oA a0_, oI p1_] [(.ref a0_), (.int f_taken_a0_)])) rfl rfl (oG hby d28 16 rfl)
 obtain ⟨c4, A4, S4, M4⟩ := own_ia_cell A_f_chosen_a0_
 obtain ⟨T5, X5, e5, st5⟩ := getF X3 hx hZ hown (host := "") (Or.inl (oW hw 128 rfl)) Via.refl e3 F_has_a0_ (g := (mkF m 34 #[oA a0_, oI p1_] [(.ref a0_)])) rfl rfl (oG hby d28 20 rfl)
 obtain ⟨cq6, kq6, q6a, q6b, q6c⟩ := isOf hZ e5 E_f_has_a0_
 obtain ⟨_, _, ⟨T6, L6, k6, n6⟩, -, X6, ⟨Lc6, hQ6, l6, y6, z6⟩, st6⟩ := X5.virtualBack hx (y := oM1) (z := oM1) hown (mvT hZ (oW hw 176 rfl)) (mvT hZ (oW hw 177 rfl)) (notFace_of_selects (args := #[]) (mvT hZ (oW hw 179 rfl))) (mvT hZ (oW hw 179 rfl)) (mvT hZ (oW hw 178 rfl)) (by decide) (backOf (W := 0) (own_b29_tft_12 l Z a0 hw [] f_has_a0_ p1_ f_wordsInUse_f_has_a0_ f_words_f_has_a0_ n_f_words_f_has_a0_ vs_f_words_f_has_a0_ h0 n0 Z0 S__assertionsDisabled E_f_has_a0_ F_wordsInUse_f_has_a0_ F_words_f_has_a0_ A_f_words_f_has_a0_ hf2 hf3 hf4 hf5 hf6) hZ (oW hw 180 rfl) (oW hw 108 rfl) (by decide) (by decide)) q6a q6c (g := (mkF m 38 #[oA a0_, oI p1_] [(.int p1_), (.ref f_has_a0_)])) rfl (by rw [hml]; rfl) (Steps.refl _) (argsL := [(.int p1_)]) (rest := []) (lenOf own_pd2 rfl) rfl (by show 2 * 0 + _ ≤ _; exact Nat.le_of_eq rfl) (oG hby d28 22 rfl) (fun _ _ => ⟨rfl, e5, (by decide : 0 + 0 ≤ _), (by decide : 0 + 0 ≤ _)⟩)
 dsimp only [Pt.U, Pt.locs, Pt.cells, Pt.slots] at X6 l6 y6 z6 st6 hQ6
 subst l6 y6 z6
 obtain ⟨rfl, N6q, e6⟩ := hQ6
 have N6 := Fr.app N0 N6q
 obtain ⟨T7, X7, e7, st7⟩ := getF X6 hx hZ hown (host := "") (Or.inl (oW hw 128 rfl)) Via.refl e6 F_has_a0_ (g := (mkF m 45 #[oA a0_, oI p1_] [(.ref a0_)])) rfl rfl (oG hby d28 25 rfl)
 obtain ⟨cq8, kq8, q8a, q8b, q8c⟩ := isOf hZ e7 E_f_has_a0_
 obtain ⟨_, _, ⟨T8, L8, k8, n8⟩, -, X8, ⟨Lc8, hQ8, l8, y8, z8⟩, st8⟩ := X7.virtualBack hx (y := oM8) (z := oM8) hown (mvT hZ (oW hw 187 rfl)) (mvT hZ (oW hw 188 rfl)) (notFace_of_selects (args := #[]) (mvT hZ (oW hw 190 rfl))) (mvT hZ (oW hw 190 rfl)) (mvT hZ (oW hw 189 rfl)) (by decide) (backOf (W := 0) (own_b31_t_14 l Z a0 hw [] f_has_a0_ p1_ f_wordsInUse_f_has_a0_ f_words_f_has_a0_ n_f_words_f_has_a0_ vs_f_words_f_has_a0_ h0 n0 Z0 F_wordsInUse_f_has_a0_ E_f_has_a0_ F_words_f_has_a0_ A_f_words_f_has_a0_ g_f_words_f_has_a0_ S__assertionsDisabled hf2 hf3 hf7 hf5 hf8) hZ (oW hw 191 rfl) (oW hw 108 rfl) (by decide) (by decide)) q8a q8c (g := (mkF m 49 #[oA a0_, oI p1_] [(.int p1_), (.ref f_has_a0_)])) rfl (by rw [hml]; rfl) (Steps.refl _) (argsL := [(.int p1_)]) (rest := []) (lenOf own_pd3 rfl) rfl (by show 2 * 0 + _ ≤ _; exact Nat.le_of_eq rfl) (oG hby d28 27 rfl) (fun _ _ => ⟨rfl, e7, (by decide : 0 + 0 ≤ _), (by decide : 0 + 0 ≤ _)⟩)
 dsimp only [Pt.U, Pt.locs, Pt.cells, Pt.slots] at X8 l8 y8 z8 st8 hQ8
 subst l8 y8 z8
 obtain ⟨rfl, N8q, Kq8, Q8_0⟩ := hQ8
 have N8 := Fr.app N6 N8q
 have K8 : Keep h0 T8.heap [f_words_f_has_a0_, f_chosen_a0_, a0_] := (Keep.refl h0 [f_words_f_has_a0_, f_chosen_a0_, a0_]).trans Kq8 (own_a1 (Or.inl (oX 0 rfl)))
 have f9_a0__chosen := (F_chosen_a0_.keep Kq8 (own_n1 hf9))
 obtain ⟨T10, X10, e10, st10⟩ := getF X8 hx hZ hown (host := "") (Or.inl (oW hw 104 rfl)) Via.refl rfl f9_a0__chosen (g := (mkF m 53 #[oA a0_, oI p1_] [(.ref a0_)])) rfl rfl (oG hby d28 29 rfl)
 have f11_a0__taken := (F_taken_a0_.keep Kq8 (own_n1 hf9))
 obtain ⟨T12, X12, e12, st12⟩ := getF X10 hx hZ hown (host := "") (Or.inl (oW hw 174 rfl)) Via.refl e10 f11_a0__taken (g := (mkF m 57 #[oA a0_, oI p1_] [(.ref a0_), (.ref f_chosen_a0_)])) rfl rfl (oG hby d28 31 rfl)
 have f13_f_chosen_a0_ := (A_f_chosen_a0_.keep Kq8 (own_n1 hf10))
 obtain ⟨c14, z14, A14, hin14, -⟩ := own_ia_at (j := f_taken_a0_) f13_f_chosen_a0_ hf11 hf1
 obtain ⟨T15, h15, X15, e15, W15, st15⟩ := stI X12 hx hZ e12 A14 (j := f_taken_a0_) hin14 (g := (mkF m 61 #[oA a0_, oI p1_] [(.int p1_), (.int f_taken_a0_), (.ref f_chosen_a0_)])) rfl rfl (oG hby d28 33 rfl)
 have V15 := own_ia_st f13_f_chosen_a0_ hf11 hf1 W15
 have K15 : Keep h0 h15 [f_words_f_has_a0_, f_chosen_a0_, a0_] := K8.wr W15 (Or.inl (oX 1 rfl))
 have N15 := Fr.snoc X15 N8 g_f_chosen_a0_
 have f16_a0__taken := (f11_a0__taken.other W15 (Or.inl hf12))
 obtain ⟨T17, X17, e17, st17⟩ := getF X15 hx hZ hown (host := "") (Or.inl (oW hw 174 rfl)) Via.refl e15 f16_a0__taken (g := (mkF m 64 #[oA a0_, oI p1_] [(.ref a0_), (.ref a0_)])) rfl rfl (oG hby d28 36 rfl)
 have f18_a0_ := ((E_a0_.keep Kq8).wr W15)
 obtain ⟨T19, h19, X19, e19, W19, st19⟩ := putF X17 hx hZ hown (host := "") (Or.inl (oW hw 174 rfl)) Via.refl e17 f16_a0__taken f18_a0_ (Or.inl (oW hw 175 rfl)) (oW hw 96 rfl) (ty := .int) (by decide) rfl rfl (g := (mkF m 69 #[oA a0_, oI p1_] [(.int (f_taken_a0_ + (1 : Int32))), (.ref a0_)])) rfl rfl (oG hby d28 39 rfl)
 have Fw19 := f16_a0__taken.same W19
 have K19 : Keep h0 h19 [f_words_f_has_a0_, f_chosen_a0_, a0_] := K15.wr W19 (Or.inl (oX 2 rfl))
 have N19 := Fr.snoc X19 N15 g_a0_
 obtain ⟨T20, X20, e20, st20⟩ := getF X19 hx hZ hown (host := "") (Or.inl (oW hw 174 rfl)) Via.refl e19 Fw19 (g := (mkF m 73 #[oA a0_, oI p1_] [(.ref a0_)])) rfl rfl (oG hby d28 41 rfl)
 have f21_a0__chosen := ((f9_a0__chosen.other W15 (Or.inl hf12)).other W19 (oN (Or.inr (oW hw 105 rfl)) (Or.inl (oW hw 175 rfl)) (t := (.array .int)) (t' := .int)))
 obtain ⟨T22, X22, e22, st22⟩ := getF X20 hx hZ hown (host := "") (Or.inl (oW hw 104 rfl)) Via.refl e20 f21_a0__chosen (g := (mkF m 77 #[oA a0_, oI p1_] [(.ref a0_), (.int (f_taken_a0_ + (1 : Int32)))])) rfl rfl (oG hby d28 43 rfl)
 have f23_f_chosen_a0_ := (V15.other W19 hf13)
 obtain ⟨c24, A24, S24, M24⟩ := own_ia_cell f23_f_chosen_a0_
 have f25_f_words_f_has_a0_ := ((Q8_0.other W15 hf15).other W19 hf16)
 have f26_a0__toSkip := (((F_toSkip_a0_.keep Kq8 (own_n1 hf9)).other W15 (Or.inl hf12)).other W19 (oN (Or.inl (oW hw 103 rfl)) (Or.inl (oW hw 175 rfl)) (t := .long) (t' := .int)))
 have f27_a0__has := (((F_has_a0_.keep Kq8 (own_n1 hf9)).other W15 (Or.inl hf12)).other W19 (oN (Or.inr (oW hw 129 rfl)) (Or.inl (oW hw 175 rfl)) (t := (.object oC2)) (t' := .int)))
 have f28_a0_ := (f18_a0_.wr W19)
 obtain ⟨fs, hr, hrun, hended, hW, hsame⟩ := X22.leave (v := some (.int 1)) (fun h => by rw [Bd.returns] at h; cases h)
 refine ⟨_, _, castTop (own_ef0 m a0_ p1_) ?_, hrun, hended, _, _, rfl, ?_, ⟨_, rfl⟩, hW, (hsame.mono (by decide) (by decide))⟩
 · show oZ p e below s₁ (mkF m 0 #[oA a0_, oI p1_] []) _
   refine XS.aloadN X0.here hx rfl (oG hby d28 0 rfl) rfl rfl ?_
   refine st1 _ ?_
   refine XS.lconst X1.here hx rfl (oG hby d28 2 rfl) ?_
   show oZ p e below T1 (mkF m 5 #[oA a0_, oI p1_] [(.long 0), (.long f_toSkip_a0_)]) _
   refine XS.lcmp X1.here hx rfl (oG hby d28 3 rfl) rfl ?_
   refine XS.ifYes X1.here hx rfl (pc0 := 6) (pc' := 21) rfl (oG hby d28 4 rfl) rfl ((if0 _ _).trans (flt hf0).2.2.2) (by decide) (by decide) ?_
   refine XS.aloadN X1.here hx rfl (oG hby d28 13 rfl) rfl rfl ?_
   refine st2 _ ?_
   refine XS.aloadN X2.here hx rfl (oG hby d28 15 rfl) rfl rfl ?_
   refine st3 _ ?_
   refine X3.arraylength hx (by rw [e3]; exact A4.1) (State.isArrayOf_alike hZ.alike A4.2.1) (g := (mkF m 29 #[oA a0_, oI p1_] [(.ref f_chosen_a0_), (.int f_taken_a0_)])) rfl rfl (oG hby d28 17 rfl) _ ?_
   rw [len_of S4 M4]
   refine XS.icmpNo X3.here hx rfl (oG hby d28 18 rfl) rfl (tlt hf1).2.1 ?_
   refine XS.aloadN X3.here hx rfl (oG hby d28 19 rfl) rfl rfl ?_
   refine st5 _ ?_
   refine XS.iloadN X5.here hx rfl (oG hby d28 21 rfl) rfl ?_
   show oZ p e below T5 (mkF m 38 #[oA a0_, oI p1_] [(.int p1_), (.ref f_has_a0_)]) _
   refine st6.trans ?_
   refine XS.ifNo X6.here hx rfl (oG hby d28 23 rfl) rfl ((if0 _ _).trans (teq (rfl : (0 : Int32) = (0 : Int32))).2) ?_
   refine XS.aloadN X6.here hx rfl (oG hby d28 24 rfl) rfl rfl ?_
   refine st7 _ ?_
   refine XS.iloadN X7.here hx rfl (oG hby d28 26 rfl) rfl ?_
   refine st8.trans ?_
   refine XS.aloadN X8.here hx rfl (oG hby d28 28 rfl) rfl rfl ?_
   refine st10 _ ?_
   refine XS.aloadN X10.here hx rfl (oG hby d28 30 rfl) rfl rfl ?_
   refine st12 _ ?_
   refine XS.iloadN X12.here hx rfl (oG hby d28 32 rfl) rfl ?_
   show oZ p e below T12 (mkF m 61 #[oA a0_, oI p1_] [(.int p1_), (.int f_taken_a0_), (.ref f_chosen_a0_)]) _
   refine st15 _ ?_
   refine XS.aloadN X15.here hx rfl (oG hby d28 34 rfl) rfl rfl ?_
   refine XS.dup X15.here hx rfl (oG hby d28 35 rfl) rfl rfl ?_
   refine st17 _ ?_
   refine XS.iconst X17.here hx rfl (oG hby d28 37 rfl) ?_
   refine XS.iadd X17.here hx rfl (oG hby d28 38 rfl) rfl ?_
   refine st19 _ ?_
   refine XS.aloadN X19.here hx rfl (oG hby d28 40 rfl) rfl rfl ?_
   refine st20 _ ?_
   refine XS.aloadN X20.here hx rfl (oG hby d28 42 rfl) rfl rfl ?_
   refine st22 _ ?_
   show oZ p e below T22 (mkF m 80 #[oA a0_, oI p1_] [(.ref f_chosen_a0_), (.int (f_taken_a0_ + (1 : Int32)))]) _
   refine X22.arraylength hx (by rw [e22]; exact A24.1) (State.isArrayOf_alike hZ.alike A24.2.1) (g := (mkF m 80 #[oA a0_, oI p1_] [(.ref f_chosen_a0_), (.int (f_taken_a0_ + (1 : Int32)))])) rfl rfl (oG hby d28 44 rfl) _ ?_
   rw [len_of S24 M24]
   refine XS.icmpNo X22.here hx rfl (oG hby d28 45 rfl) rfl (teq hf14).2 ?_
   refine XS.iconst X22.here hx rfl (oG hby d28 46 rfl) ?_
   refine XS.goto X22.here hx rfl (pc0 := 85) (pc' := 89) rfl (oG hby d28 47 rfl) (by decide) (by decide) ?_
   show oZ p e below T22 (mkF m 89 #[oA a0_, oI p1_] [(.int 1)]) _
   exact retN X22 hx (t := .boolean) Bd.returns (by simp) (oG hby d28 49 rfl) hr
 · show Qown_b28_tfff_16 Z a0_ p1_ f_toSkip_a0_ f_taken_a0_ f_chosen_a0_ n_f_chosen_a0_ f_has_a0_ f_wordsInUse_f_has_a0_ f_words_f_has_a0_ n_f_words_f_has_a0_ vs_f_words_f_has_a0_ h0 n0 _ T22.heap _
   rw [e22]
   exact ⟨rfl, N19, K19, f25_f_words_f_has_a0_, f23_f_chosen_a0_, f26_a0__toSkip, Fw19, f21_a0__chosen, f27_a0__has, f28_a0_⟩
theorem own_offer (l : Launch) (Z : State) (a0 : Array Value) (hw : oH a0 Z) (ws : List Jvm.Cond) (sp : Addr) (x : Int32) (ch bs wd : Addr) (n : Int32) (us : Value) (st : own_St) (h0 : Heap) (n0 : Nat) (Z0 : n0 ≤ h0.size) (S : own_STR Z h0 sp ch bs wd n us st) (D : own_four n0 sp ch bs wd) (SA : Sta Z h0 oC2 "$assertionsDisabled" "Z" (.int 1)) (hx0 : ¬ (x < (0 : Int32))) (hx6 : (x >>> ((6 : Int32) &&& 31)) = (0 : Int32)) (ht0 : ¬ (st.2.1 < 0)) (htn : st.2.1 < n) (hu : st.2.2.1 = 0 ∨ st.2.2.1 = 1) :
   oMet l oM0 prog_30_method_2_code 2 (some .boolean) ws (oR 3 0 0 60) Z h0 #[(.ref sp), (.int x)] (own_QO Z sp ch bs wd n us (own_off n x st).1 (own_off n x st).2 h0 n0) := by
 obtain ⟨sk, tk, u, w⟩ := st
 obtain ⟨a1, a2, a3, a4, a5, a6, a7, a8, a9, a10, a11⟩ := S
 obtain ⟨G, n1, n2, n3, n4, n5, n6⟩ := D
 dsimp only at a1 a2 a3 a4 a5 a6 a7 a8 a9 a10 a11 ht0 htn hu
 have m1 := Ne.symm n1; have m2 := Ne.symm n2; have m3 := Ne.symm n3; have m4 := Ne.symm n4; have m5 := Ne.symm n5; have m6 := Ne.symm n6
 have hT : ¬ (tk = n) := fun q => by rw [q] at htn; exact Int32.lt_irrefl htn
 by_cases hS : (0 : Int32) < lcmpW sk (0 : Int64)
 · refine own_mono (own_b28_f l Z a0 hw ws sp x sk (.ref ch) (.ref bs) (.int tk) h0 n0 Z0 a2 a1 G.1 a3 a5 a4 (by first | assumption | exact hS | exact hT | exact hL | (intro q; exact absurd q.symm (by assumption)) | decide | exact Nat.le_of_ble_eq_true rfl)) ?_
   rintro v h L ⟨rfl, N, K, b1, b2, b3, b4, b5⟩
   have e : own_off n x (sk, tk, u, w) = ((sk - 1, tk, u, w), 0) := by simp only [own_off, hS, if_true]
   rw [e]; exact ⟨rfl, N, own_keep_mono K (own_a1 (by simp)), b2, b1, b3, b5, b4, a6.keep K (own_n1 m1), a7.keep K, a8.keep K (own_n1 m2), a9.keep K (own_n1 m2), a10.keep K (own_n1 m2), a11.keep K (own_n1 m3)⟩
 · by_cases hH : (0 : Int32) < u ∧ ¬ (lcmpW (w &&& own_sl (1 : Int64) x) (0 : Int64) = (0 : Int32))
   · have hU := hH.1; have hL := hH.2
     refine own_mono (own_b28_tftt_11 l Z a0 hw ws sp x sk tk ch n bs u wd (1 : Int32) [w] h0 n0 Z0 a2 a4 a3 a6 a5 SA a7 a8 a10 a11 (by first | assumption | exact hS | exact hT | exact hL | (intro q; exact absurd q.symm (by assumption)) | decide | exact Nat.le_of_ble_eq_true rfl) (by first | assumption | exact hS | exact hT | exact hL | (intro q; exact absurd q.symm (by assumption)) | decide | exact Nat.le_of_ble_eq_true rfl) (by first | assumption | exact hS | exact hT | exact hL | (intro q; exact absurd q.symm (by assumption)) | decide | exact Nat.le_of_ble_eq_true rfl) (by first | assumption | exact hS | exact hT | exact hL | (intro q; exact absurd q.symm (by assumption)) | decide | exact Nat.le_of_ble_eq_true rfl) (by first | assumption | exact hS | exact hT | exact hL | (intro q; exact absurd q.symm (by assumption)) | decide | exact Nat.le_of_ble_eq_true rfl) (by first | assumption | exact hS | exact hT | exact hL | (intro q; exact absurd q.symm (by assumption)) | decide | exact Nat.le_of_ble_eq_true rfl) (by first | assumption | exact hS | exact hT | exact hL | (intro q; exact absurd q.symm (by assumption)) | decide | exact Nat.le_of_ble_eq_true rfl) (by first | assumption | exact hS | exact hT | exact hL | (intro q; exact absurd q.symm (by assumption)) | decide | exact Nat.le_of_ble_eq_true rfl)) ?_
     rintro v h L ⟨rfl, N, rfl⟩
     have e : own_off n x (sk, tk, u, w) = ((sk, tk, u, w), 0) := by simp only [own_off, hS, hH, if_true, if_false, and_self, not_false_eq_true]
     rw [e]; exact ⟨rfl, N, own_keep_self _ _, a1, a2, a3, a4, a5, a6, a7, a8, a9, a10, a11⟩
   · rcases hu with rfl | rfl
     · by_cases hE : tk + (1 : Int32) = n
       · have hL := hE
         refine own_mono (own_b28_tfff_9 l Z a0 hw ws sp x sk tk ch n bs (0 : Int32) wd (1 : Int32) [w] us h0 n0 Z0 a2 a4 a3 a6 a5 SA a7 a8 a10 a11 G.2.2.1 a9 G.2.2.2 G.2.1 a1 G.1 (by first | assumption | exact hS | exact hT | exact hL | (intro q; exact absurd q.symm (by assumption)) | decide | exact Nat.le_of_ble_eq_true rfl) (by first | assumption | exact hS | exact hT | exact hL | (intro q; exact absurd q.symm (by assumption)) | decide | exact Nat.le_of_ble_eq_true rfl) (by first | assumption | exact hS | exact hT | exact hL | (intro q; exact absurd q.symm (by assumption)) | decide | exact Nat.le_of_ble_eq_true rfl) (by first | assumption | exact hS | exact hT | exact hL | (intro q; exact absurd q.symm (by assumption)) | decide | exact Nat.le_of_ble_eq_true rfl) (by first | assumption | exact hS | exact hT | exact hL | (intro q; exact absurd q.symm (by assumption)) | decide | exact Nat.le_of_ble_eq_true rfl) (by first | assumption | exact hS | exact hT | exact hL | (intro q; exact absurd q.symm (by assumption)) | decide | exact Nat.le_of_ble_eq_true rfl) (by first | assumption | exact hS | exact hT | exact hL | (intro q; exact absurd q.symm (by assumption)) | decide | exact Nat.le_of_ble_eq_true rfl) (by first | assumption | exact hS | exact hT | exact hL | (intro q; exact absurd q.symm (by assumption)) | decide | exact Nat.le_of_ble_eq_true rfl) (by first | assumption | exact hS | exact hT | exact hL | (intro q; exact absurd q.symm (by assumption)) | decide | exact Nat.le_of_ble_eq_true rfl) (by first | assumption | exact hS | exact hT | exact hL | (intro q; exact absurd q.symm (by assumption)) | decide | exact Nat.le_of_ble_eq_true rfl) (by first | assumption | exact hS | exact hT | exact hL | (intro q; exact absurd q.symm (by assumption)) | decide | exact Nat.le_of_ble_eq_true rfl) (by first | assumption | exact hS | exact hT | exact hL | (intro q; exact absurd q.symm (by assumption)) | decide | exact Nat.le_of_ble_eq_true rfl) (by first | assumption | exact hS | exact hT | exact hL | (intro q; exact absurd q.symm (by assumption)) | decide | exact Nat.le_of_ble_eq_true rfl) (by first | assumption | exact hS | exact hT | exact hL | (intro q; exact absurd q.symm (by assumption)) | decide | exact Nat.le_of_ble_eq_true rfl) (by first | assumption | exact hS | exact hT | exact hL | (intro q; exact absurd q.symm (by assumption)) | decide | exact Nat.le_of_ble_eq_true rfl) (by first | assumption | exact hS | exact hT | exact hL | (intro q; exact absurd q.symm (by assumption)) | decide | exact Nat.le_of_ble_eq_true rfl) (by first | assumption | exact hS | exact hT | exact hL | (intro q; exact absurd q.symm (by assumption)) | decide | exact Nat.le_of_ble_eq_true rfl) (by first | assumption | exact hS | exact hT | exact hL | (intro q; exact absurd q.symm (by assumption)) | decide | exact Nat.le_of_ble_eq_true rfl) (by first | assumption | exact hS | exact hT | exact hL | (intro q; exact absurd q.symm (by assumption)) | decide | exact Nat.le_of_ble_eq_true rfl) (by first | assumption | exact hS | exact hT | exact hL | (intro q; exact absurd q.symm (by assumption)) | decide | exact Nat.le_of_ble_eq_true rfl) (by first | assumption | exact hS | exact hT | exact hL | (intro q; exact absurd q.symm (by assumption)) | decide | exact Nat.le_of_ble_eq_true rfl) (by first | assumption | exact hS | exact hT | exact hL | (intro q; exact absurd q.symm (by assumption)) | decide | exact Nat.le_of_ble_eq_true rfl) (by first | assumption | exact hS | exact hT | exact hL | (intro q; exact absurd q.symm (by assumption)) | decide | exact Nat.le_of_ble_eq_true rfl)) ?_
         have e : own_off n x (sk, tk, (0 : Int32), w) = ((sk, tk + 1, 1, w ||| own_sl (1 : Int64) x), 1) := by simp only [own_off, hS, hH, hE, if_true, if_false]
         rintro v h L ⟨rfl, N, K, b1, b2, b3, b4, b5, b6, b7, b8, b9, b10, b11⟩
         rw [e]; exact ⟨rfl, N, own_keep_mono K (own_a4 (by simp) (by simp) (by simp) (by simp)), b11, b7, b9, b8, b10, b6, b1, b2, b4, b3, b5⟩
       · have hL := hE
         refine own_mono (own_b28_tfft_8 l Z a0 hw ws sp x sk tk ch n bs (0 : Int32) wd (1 : Int32) [w] us h0 n0 Z0 a2 a4 a3 a6 a5 SA a7 a8 a10 a11 G.2.2.1 a9 G.2.2.2 G.2.1 a1 G.1 (by first | assumption | exact hS | exact hT | exact hL | (intro q; exact absurd q.symm (by assumption)) | decide | exact Nat.le_of_ble_eq_true rfl) (by first | assumption | exact hS | exact hT | exact hL | (intro q; exact absurd q.symm (by assumption)) | decide | exact Nat.le_of_ble_eq_true rfl) (by first | assumption | exact hS | exact hT | exact hL | (intro q; exact absurd q.symm (by assumption)) | decide | exact Nat.le_of_ble_eq_true rfl) (by first | assumption | exact hS | exact hT | exact hL | (intro q; exact absurd q.symm (by assumption)) | decide | exact Nat.le_of_ble_eq_true rfl) (by first | assumption | exact hS | exact hT | exact hL | (intro q; exact absurd q.symm (by assumption)) | decide | exact Nat.le_of_ble_eq_true rfl) (by first | assumption | exact hS | exact hT | exact hL | (intro q; exact absurd q.symm (by assumption)) | decide | exact Nat.le_of_ble_eq_true rfl) (by first | assumption | exact hS | exact hT | exact hL | (intro q; exact absurd q.symm (by assumption)) | decide | exact Nat.le_of_ble_eq_true rfl) (by first | assumption | exact hS | exact hT | exact hL | (intro q; exact absurd q.symm (by assumption)) | decide | exact Nat.le_of_ble_eq_true rfl) (by first | assumption | exact hS | exact hT | exact hL | (intro q; exact absurd q.symm (by assumption)) | decide | exact Nat.le_of_ble_eq_true rfl) (by first | assumption | exact hS | exact hT | exact hL | (intro q; exact absurd q.symm (by assumption)) | decide | exact Nat.le_of_ble_eq_true rfl) (by first | assumption | exact hS | exact hT | exact hL | (intro q; exact absurd q.symm (by assumption)) | decide | exact Nat.le_of_ble_eq_true rfl) (by first | assumption | exact hS | exact hT | exact hL | (intro q; exact absurd q.symm (by assumption)) | decide | exact Nat.le_of_ble_eq_true rfl) (by first | assumption | exact hS | exact hT | exact hL | (intro q; exact absurd q.symm (by assumption)) | decide | exact Nat.le_of_ble_eq_true rfl) (by first | assumption | exact hS | exact hT | exact hL | (intro q; exact absurd q.symm (by assumption)) | decide | exact Nat.le_of_ble_eq_true rfl) (by first | assumption | exact hS | exact hT | exact hL | (intro q; exact absurd q.symm (by assumption)) | decide | exact Nat.le_of_ble_eq_true rfl) (by first | assumption | exact hS | exact hT | exact hL | (intro q; exact absurd q.symm (by assumption)) | decide | exact Nat.le_of_ble_eq_true rfl) (by first | assumption | exact hS | exact hT | exact hL | (intro q; exact absurd q.symm (by assumption)) | decide | exact Nat.le_of_ble_eq_true rfl) (by first | assumption | exact hS | exact hT | exact hL | (intro q; exact absurd q.symm (by assumption)) | decide | exact Nat.le_of_ble_eq_true rfl) (by first | assumption | exact hS | exact hT | exact hL | (intro q; exact absurd q.symm (by assumption)) | decide | exact Nat.le_of_ble_eq_true rfl) (by first | assumption | exact hS | exact hT | exact hL | (intro q; exact absurd q.symm (by assumption)) | decide | exact Nat.le_of_ble_eq_true rfl) (by first | assumption | exact hS | exact hT | exact hL | (intro q; exact absurd q.symm (by assumption)) | decide | exact Nat.le_of_ble_eq_true rfl) (by first | assumption | exact hS | exact hT | exact hL | (intro q; exact absurd q.symm (by assumption)) | decide | exact Nat.le_of_ble_eq_true rfl) (by first | assumption | exact hS | exact hT | exact hL | (intro q; exact absurd q.symm (by assumption)) | decide | exact Nat.le_of_ble_eq_true rfl)) ?_
         have e : own_off n x (sk, tk, (0 : Int32), w) = ((sk, tk + 1, 1, w ||| own_sl (1 : Int64) x), 0) := by simp only [own_off, hS, hH, hE, if_true, if_false]
         rintro v h L ⟨rfl, N, K, b1, b2, b3, b4, b5, b6, b7, b8, b9, b10, b11⟩
         rw [e]; exact ⟨rfl, N, own_keep_mono K (own_a4 (by simp) (by simp) (by simp) (by simp)), b11, b7, b9, b8, b10, b6, b1, b2, b4, b3, b5⟩
     · by_cases hE : tk + (1 : Int32) = n
       · have hL : lcmpW (w &&& own_sl (1 : Int64) x) (0 : Int64) = (0 : Int32) := Classical.byContradiction fun q => hH ⟨by decide, q⟩
         refine own_mono (own_b28_tfff_16 l Z a0 hw ws sp x sk tk ch n bs (1 : Int32) wd (1 : Int32) [w] h0 n0 Z0 a2 a4 a3 a6 a5 SA a7 a8 a10 a11 G.2.2.2 G.2.1 a1 G.1 (by first | assumption | exact hS | exact hT | exact hL | (intro q; exact absurd q.symm (by assumption)) | decide | exact Nat.le_of_ble_eq_true rfl) (by first | assumption | exact hS | exact hT | exact hL | (intro q; exact absurd q.symm (by assumption)) | decide | exact Nat.le_of_ble_eq_true rfl) (by first | assumption | exact hS | exact hT | exact hL | (intro q; exact absurd q.symm (by assumption)) | decide | exact Nat.le_of_ble_eq_true rfl) (by first | assumption | exact hS | exact hT | exact hL | (intro q; exact absurd q.symm (by assumption)) | decide | exact Nat.le_of_ble_eq_true rfl) (by first | assumption | exact hS | exact hT | exact hL | (intro q; exact absurd q.symm (by assumption)) | decide | exact Nat.le_of_ble_eq_true rfl) (by first | assumption | exact hS | exact hT | exact hL | (intro q; exact absurd q.symm (by assumption)) | decide | exact Nat.le_of_ble_eq_true rfl) (by first | assumption | exact hS | exact hT | exact hL | (intro q; exact absurd q.symm (by assumption)) | decide | exact Nat.le_of_ble_eq_true rfl) (by first | assumption | exact hS | exact hT | exact hL | (intro q; exact absurd q.symm (by assumption)) | decide | exact Nat.le_of_ble_eq_true rfl) (by first | assumption | exact hS | exact hT | exact hL | (intro q; exact absurd q.symm (by assumption)) | decide | exact Nat.le_of_ble_eq_true rfl) (by first | assumption | exact hS | exact hT | exact hL | (intro q; exact absurd q.symm (by assumption)) | decide | exact Nat.le_of_ble_eq_true rfl) (by first | assumption | exact hS | exact hT | exact hL | (intro q; exact absurd q.symm (by assumption)) | decide | exact Nat.le_of_ble_eq_true rfl) (by first | assumption | exact hS | exact hT | exact hL | (intro q; exact absurd q.symm (by assumption)) | decide | exact Nat.le_of_ble_eq_true rfl) (by first | assumption | exact hS | exact hT | exact hL | (intro q; exact absurd q.symm (by assumption)) | decide | exact Nat.le_of_ble_eq_true rfl) (by first | assumption | exact hS | exact hT | exact hL | (intro q; exact absurd q.symm (by assumption)) | decide | exact Nat.le_of_ble_eq_true rfl) (by first | assumption | exact hS | exact hT | exact hL | (intro q; exact absurd q.symm (by assumption)) | decide | exact Nat.le_of_ble_eq_true rfl) (by first | assumption | exact hS | exact hT | exact hL | (intro q; exact absurd q.symm (by assumption)) | decide | exact Nat.le_of_ble_eq_true rfl) (by first | assumption | exact hS | exact hT | exact hL | (intro q; exact absurd q.symm (by assumption)) | decide | exact Nat.le_of_ble_eq_true rfl)) ?_
         have e : own_off n x (sk, tk, (1 : Int32), w) = ((sk, tk + 1, 1, w ||| own_sl (1 : Int64) x), 1) := by simp only [own_off, hS, hH, hE, if_true, if_false]
         rintro v h L ⟨rfl, N, K, b1, b2, b3, b4, b5, b6, b7⟩
         rw [e]; exact ⟨rfl, N, own_keep_mono K (own_a3 (by simp) (by simp) (by simp)), b7, b3, b5, b4, b6, b2, a7.keep K, a8.keep K (own_n3 n6 m4 m2), a9.keep K (own_n3 n6 m4 m2), a10.keep K (own_n3 n6 m4 m2), b1⟩
       · have hL : lcmpW (w &&& own_sl (1 : Int64) x) (0 : Int64) = (0 : Int32) := Classical.byContradiction fun q => hH ⟨by decide, q⟩
         refine own_mono (own_b28_tfft_15 l Z a0 hw ws sp x sk tk ch n bs (1 : Int32) wd (1 : Int32) [w] h0 n0 Z0 a2 a4 a3 a6 a5 SA a7 a8 a10 a11 G.2.2.2 G.2.1 a1 G.1 (by first | assumption | exact hS | exact hT | exact hL | (intro q; exact absurd q.symm (by assumption)) | decide | exact Nat.le_of_ble_eq_true rfl) (by first | assumption | exact hS | exact hT | exact hL | (intro q; exact absurd q.symm (by assumption)) | decide | exact Nat.le_of_ble_eq_true rfl) (by first | assumption | exact hS | exact hT | exact hL | (intro q; exact absurd q.symm (by assumption)) | decide | exact Nat.le_of_ble_eq_true rfl) (by first | assumption | exact hS | exact hT | exact hL | (intro q; exact absurd q.symm (by assumption)) | decide | exact Nat.le_of_ble_eq_true rfl) (by first | assumption | exact hS | exact hT | exact hL | (intro q; exact absurd q.symm (by assumption)) | decide | exact Nat.le_of_ble_eq_true rfl) (by first | assumption | exact hS | exact hT | exact hL | (intro q; exact absurd q.symm (by assumption)) | decide | exact Nat.le_of_ble_eq_true rfl) (by first | assumption | exact hS | exact hT | exact hL | (intro q; exact absurd q.symm (by assumption)) | decide | exact Nat.le_of_ble_eq_true rfl) (by first | assumption | exact hS | exact hT | exact hL | (intro q; exact absurd q.symm (by assumption)) | decide | exact Nat.le_of_ble_eq_true rfl) (by first | assumption | exact hS | exact hT | exact hL | (intro q; exact absurd q.symm (by assumption)) | decide | exact Nat.le_of_ble_eq_true rfl) (by first | assumption | exact hS | exact hT | exact hL | (intro q; exact absurd q.symm (by assumption)) | decide | exact Nat.le_of_ble_eq_true rfl) (by first | assumption | exact hS | exact hT | exact hL | (intro q; exact absurd q.symm (by assumption)) | decide | exact Nat.le_of_ble_eq_true rfl) (by first | assumption | exact hS | exact hT | exact hL | (intro q; exact absurd q.symm (by assumption)) | decide | exact Nat.le_of_ble_eq_true rfl) (by first | assumption | exact hS | exact hT | exact hL | (intro q; exact absurd q.symm (by assumption)) | decide | exact Nat.le_of_ble_eq_true rfl) (by first | assumption | exact hS | exact hT | exact hL | (intro q; exact absurd q.symm (by assumption)) | decide | exact Nat.le_of_ble_eq_true rfl) (by first | assumption | exact hS | exact hT | exact hL | (intro q; exact absurd q.symm (by assumption)) | decide | exact Nat.le_of_ble_eq_true rfl) (by first | assumption | exact hS | exact hT | exact hL | (intro q; exact absurd q.symm (by assumption)) | decide | exact Nat.le_of_ble_eq_true rfl) (by first | assumption | exact hS | exact hT | exact hL | (intro q; exact absurd q.symm (by assumption)) | decide | exact Nat.le_of_ble_eq_true rfl)) ?_
         have e : own_off n x (sk, tk, (1 : Int32), w) = ((sk, tk + 1, 1, w ||| own_sl (1 : Int64) x), 0) := by simp only [own_off, hS, hH, hE, if_true, if_false]
         rintro v h L ⟨rfl, N, K, b1, b2, b3, b4, b5, b6, b7⟩
         rw [e]; exact ⟨rfl, N, own_keep_mono K (own_a3 (by simp) (by simp) (by simp)), b7, b3, b5, b4, b6, b2, a7.keep K, a8.keep K (own_n3 n6 m4 m2), a9.keep K (own_n3 n6 m4 m2), a10.keep K (own_n3 n6 m4 m2), b1⟩
theorem own_s23_7_f_17 (rc : Nat) (rs : Nat) (i0_ : Int32) (i1_ : Int32) (o2_ : Addr) (i3_ : Int32) (n_o2_ : Int32) (vs_o2_ : List Int32) (i_ : Int32)
   (X0 : Stand p l e (oR 3 rc rs 60) s m args below meth c T0 locs cells slots) (hx : p.tables.exec = Jvm.exec) (hZ : Z.Warmed39 s.vm) (hw : oH a0 Z) (hby : c.code = prog_29_method_19_code) (hml : c.maxLocals = 7) (hown : s.vm.findClass oC0 = some m.cls) (e0 : T0.heap = h0) (N0 : Fr n0 locs) (Z0 : n0 ≤ h0.size) (A_o2_ : own_il Z h0 o2_ n_o2_ vs_o2_) (g_o2_ : n0 ≤ o2_) (hf0 : i3_ < (10 : Int32)) (hf1 : ¬ (i3_ < 0)) (hf2 : i3_ < n_o2_) (hf3 : (i3_).toNatClampNeg < vs_o2_.length) (hf4 : (i3_ + (1 : Int32)) = i_) (hc : cells + (0) ≤ rc) (hs : slots + (0) ≤ rs) :
   ∃ (T' : State) (locs' : List Loc), Stand p l e (oR 3 rc rs 60) s m args below meth c T' locs' cells slots ∧ Fr n0 locs' ∧ Keep h0 T'.heap [o2_] ∧ own_il Z T'.heap o2_ n_o2_ (vs_o2_.set (i3_).toNatClampNeg i3_) ∧
     ∀ target, Steps p.tables e below (T'.setTop (mkF m 7 #[oI i0_, oI i1_, oA o2_, oI i_, .unset, .unset, .unset] [])) target → Steps p.tables e below (T0.setTop (mkF m 7 #[oI i0_, oI i1_, oA o2_, oI i3_, .unset, .unset, .unset] [])) target := by
 obtain ⟨c1, A1, hin1, -⟩ := own_il_at (j := i3_) A_o2_ hf1 hf2
 obtain ⟨T2, h2, X2, e2, W2, st2⟩ := stI X0 hx hZ e0 A1 (j := i3_) hin1 (g := (mkF m 16 #[oI i0_, oI i1_, oA o2_, oI i3_, .unset, .unset, .unset] [(.int i3_), (.int i3_), (.ref o2_)])) rfl rfl (oG hby d23 11 rfl)
 have V2 : own_il Z h2 o2_ n_o2_ (vs_o2_.set (i3_).toNatClampNeg i3_) := own_il_st A_o2_ hf1 hf2 W2 hf3
 have K2 : Keep h0 h2 [o2_] := (Keep.refl h0 [o2_]).wr W2 (Or.inl (oX 0 rfl))
 have N2 := Fr.snoc X2 N0 g_o2_
 subst e2
 refine ⟨T2, _, X2, N2, K2, V2, fun target kt => ?_⟩
 show oZ p e below T0 (mkF m 7 #[oI i0_, oI i1_, oA o2_, oI i3_, .unset, .unset, .unset] []) _
 refine XS.iloadN X0.here hx rfl (oG hby d23 5 rfl) rfl ?_
 refine XS.bipush X0.here hx rfl (oG hby d23 6 rfl) ?_
 refine XS.icmpNo X0.here hx rfl (oG hby d23 7 rfl) rfl (tlt hf0).2.1 ?_
 refine XS.aloadN X0.here hx rfl (oG hby d23 8 rfl) rfl rfl ?_
 refine XS.iloadN X0.here hx rfl (oG hby d23 9 rfl) rfl ?_
 refine XS.iloadN X0.here hx rfl (oG hby d23 10 rfl) rfl ?_
 refine st2 _ ?_
 refine XS.iinc X2.here hx rfl (oG hby d23 12 rfl) rfl (l' := #[oI i0_, oI i1_, oA o2_, oI (i3_ + (1 : Int32)), .unset, .unset, .unset]) rfl ?_
 show oZ p e below T2 (mkF m 20 #[oI i0_, oI i1_, oA o2_, oI (i3_ + (1 : Int32)), .unset, .unset, .unset] []) _
 rw [hf4]
 refine XS.goto X2.here hx rfl (pc0 := 20) (pc' := 7) rfl (oG hby d23 13 rfl) (by decide) (by decide) ?_
 exact kt
def Qown_b25_x (Z : State) (a0_ : Addr) (q1_ : Int64) (u_state_a0_ : Value) (h0 : Heap) (n0 : Nat) (v : Option Value) (h : Heap) (L : List Loc) : Prop := v = none ∧ Fr n0 L ∧ Keep h0 h [a0_] ∧ Exa Z h a0_ oC5 ∧ Fld Z h a0_ oC5 "state" "J" (.long q1_)
theorem own_b25_x (l : Launch) (Z : State) (a0 : Array Value) (hw : oH a0 Z) (ws : List Jvm.Cond) (a0_ : Addr) (q1_ : Int64) (u_state_a0_ : Value) (h0 : Heap) (n0 : Nat) (Z0 : n0 ≤ h0.size) (E_a0_ : Exa Z h0 a0_ oC5) (F_state_a0_ : Fld Z h0 a0_ oC5 "state" "J" u_state_a0_) (g_a0_ : n0 ≤ a0_) :
   oMet l oM32 prog_27_method_1_code 3 none ws (oR 1 0 0 12) Z h0 #[(.ref a0_), (.long q1_)] (Qown_b25_x Z a0_ q1_ u_state_a0_ h0 n0) := by
 refine oBd n0 (plainFor_of_name own_pn2) ?_
 intro p e s m below meth c s₁ Bd hx hZ hby hml hown hnm X0 e0 N0
 obtain ⟨T1, X1, e1, st1⟩ := initO X0 hx hZ hown (oW hw 154 rfl) (oW hw 12 rfl) (oW hw 13 rfl) e0 (g := (mkF m 1 #[oA a0_, oJ q1_, .second] [(.ref a0_)])) rfl (by rw [hml]; rfl) rfl (oG hby d25 1 rfl) (by decide) (W := 0) (by show 2 * 0 + _ ≤ _; exact Nat.le_of_eq rfl) (by decide)
 obtain ⟨T2, h2, X2, e2, W2, st2⟩ := putF X1 hx hZ hown (host := "") (Or.inl (oW hw 155 rfl)) Via.refl e1 F_state_a0_ E_a0_ (Or.inl (oW hw 156 rfl)) (oW hw 149 rfl) (ty := .long) (by decide) rfl rfl (g := (mkF m 6 #[oA a0_, oJ q1_, .second] [(.long q1_), (.ref a0_)])) rfl rfl (oG hby d25 4 rfl)
 have Fw2 := F_state_a0_.same W2
 have K2 : Keep h0 h2 [a0_] := (Keep.refl h0 [a0_]).wr W2 (Or.inl (oX 0 rfl))
 have N2 := Fr.snoc X2 N0 g_a0_
 have f3_a0_ := (E_a0_.wr W2)
 obtain ⟨fs, hr, hrun, hended, hW, hsame⟩ := X2.leave (v := none) (fun _ => rfl)
 refine ⟨_, _, castTop (own_ef7 m a0_ q1_) ?_, hrun, hended, _, _, rfl, ?_, ⟨_, rfl⟩, hW, (hsame.mono (by decide) (by decide))⟩
 · show oZ p e below s₁ (mkF m 0 #[oA a0_, oJ q1_, .second] []) _
   refine XS.aloadN X0.here hx rfl (oG hby d25 0 rfl) rfl rfl ?_
   refine st1 _ ?_
   refine XS.aloadN X1.here hx rfl (oG hby d25 2 rfl) rfl rfl ?_
   refine XS.lloadN X1.here hx rfl (oG hby d25 3 rfl) rfl ?_
   refine st2 _ ?_
   show oZ p e below T2 (mkF m 9 #[oA a0_, oJ q1_, .second] []) _
   exact X2.returnOut hx Bd.returns (oG hby d25 5 rfl) hr
 · show Qown_b25_x Z a0_ q1_ u_state_a0_ h0 n0 _ T2.heap _
   rw [e2]
   exact ⟨rfl, N2, K2, f3_a0_, Fw2⟩
def Qown_b24_x_19 (Z : State) (q0_ : Int64) (q1_ : Int64) (h0 : Heap) (n0 : Nat) (v : Option Value) (h : Heap) (L : List Loc) : Prop := ∃ b1 : Addr, v = some (.ref b1) ∧ Fr n0 L ∧ Keep h0 h [] ∧ h0.size ≤ b1 ∧ Exa Z h b1 oC5 ∧ Fld Z h b1 oC5 "state" "J" (.long (q0_ + (q1_ * (-7046029254386353131 : Int64))))
theorem own_b24_x_19 (l : Launch) (Z : State) (a0 : Array Value) (hw : oH a0 Z) (ws : List Jvm.Cond) (q0_ : Int64) (q1_ : Int64) (h0 : Heap) (n0 : Nat) (Z0 : n0 ≤ h0.size) :
   oMet l oM4 prog_27_method_2_code 4 (some (.object oC5)) ws (oR 2 1 1 27) Z h0 #[(.long q0_), (.long q1_)] (Qown_b24_x_19 Z q0_ q1_ h0 n0) := by
 refine oBd n0 (plainFor_of_name own_pn2) ?_
 intro p e s m below meth c s₁ Bd hx hZ hby hml hown hnm X0 e0 N0
 obtain ⟨T1, h1, X1, e1, E1, A1, D1, -, st1⟩ := newO X0 hx hZ hown (oW hw 148 rfl) (oW hw 149 rfl) (oW hw 146 rfl) e0 (g := (mkF m 0 #[oJ q0_, .second, oJ q1_, .second] [])) rfl (oG hby d24 0 rfl) (by decide) (by decide)
 obtain ⟨b1, g1⟩ : ∃ z, z = h0.size := ⟨_, rfl⟩
 rw [← g1] at A1 D1 st1
 have lo_b1 : h0.size ≤ b1 := Nat.le_of_eq g1.symm
 have sz_b1 : h0.size ≤ b1 := Nat.le_trans (Keep.refl h0 []).1 lo_b1
 have g_b1 : n0 ≤ b1 := Nat.le_trans Z0 sz_b1
 have K1 : Keep h0 h1 [] := (Keep.refl h0 []).ext E1
 have F1_state : Fld Z h1 b1 oC5 "state" "J" (.long 0) := D1 (Or.inl (oW hw 156 rfl)) (ty := .long) (by decide)
 obtain ⟨_, _, ⟨T2, L2, k2, n2⟩, -, X2, ⟨Lc2, hQ2, l2, y2, z2⟩, st2⟩ := X1.specialBack hx (y := oM32) rfl hown (mvT hZ (oW hw 151 rfl)) (mvT hZ (oW hw 152 rfl)) (mvT hZ (oW hw 153 rfl)) (by decide) (backOf (W := 1) (own_b25_x l Z a0 hw [] b1 (q0_ + (q1_ * (-7046029254386353131 : Int64))) (.long 0) h1 n0 (Nat.le_trans Z0 K1.1) A1 F1_state g_b1) hZ (oW hw 153 rfl) (oW hw 146 rfl) (by decide) (by decide)) (g := (mkF m 11 #[oJ q0_, .second, oJ q1_, .second] [(.long (q0_ + (q1_ * (-7046029254386353131 : Int64)))), (.ref b1), (.ref b1)])) rfl (by rw [hml]; rfl) (Steps.refl _) (a := b1) (argsL := [(.long (q0_ + (q1_ * (-7046029254386353131 : Int64))))]) (rest := [(.ref b1)]) (lenOf own_pd4 rfl) rfl (by show 2 * 0 + _ ≤ _; exact Nat.le_of_eq rfl) (oG hby d24 7 rfl) (fun _ _ => ⟨rfl, e1, (by decide : 1 + 0 ≤ _), (by decide : 1 + 0 ≤ _)⟩)
 dsimp only [Pt.U, Pt.locs, Pt.cells, Pt.slots] at X2 l2 y2 z2 st2 hQ2
 subst l2 y2 z2
 obtain ⟨rfl, N2q, Kq2, Q2_0, Q2_1⟩ := hQ2
 have N2 := Fr.app N0 N2q
 have K2 : Keep h0 T2.heap [] := K1.trans Kq2 (own_a1 (Or.inr sz_b1))
 obtain ⟨fs, hr, hrun, hended, hW, hsame⟩ := X2.leave (v := some (.ref b1)) (fun h => by rw [Bd.returns] at h; cases h)
 refine ⟨_, _, castTop (own_ef8 m q0_ q1_) ?_, hrun, hended, _, _, rfl, ?_, ⟨_, rfl⟩, hW, (hsame.mono (by decide) (by decide))⟩
 · show oZ p e below s₁ (mkF m 0 #[oJ q0_, .second, oJ q1_, .second] []) _
   refine st1 _ ?_
   refine XS.dup X1.here hx rfl (oG hby d24 1 rfl) rfl rfl ?_
   refine XS.lloadN X1.here hx rfl (oG hby d24 2 rfl) rfl ?_
   refine XS.lloadN X1.here hx rfl (oG hby d24 3 rfl) rfl ?_
   refine X1.ldc2Long hx hown (mvT hZ (oW hw 150 rfl)) (g := (mkF m 6 #[oJ q0_, .second, oJ q1_, .second] [(.long q1_), (.long q0_), (.ref b1), (.ref b1)])) rfl (oG hby d24 4 rfl) _ ?_
   refine XS.lmul X1.here hx rfl (oG hby d24 5 rfl) rfl ?_
   refine XS.ladd X1.here hx rfl (oG hby d24 6 rfl) rfl ?_
   refine st2.trans ?_
   show oZ p e below T2 (mkF m 14 #[oJ q0_, .second, oJ q1_, .second] [(.ref b1)]) _
   jvm_step X2.here [X2.here.top, hx, (oG hby d24 8 rfl), X2.method', Bd.returns, Value.isRef, FieldType.isReference]
   first | (intro acts; rw [hr _ acts rfl rfl rfl]) | rw [hr _ _ rfl rfl rfl]
   exact Steps.refl _
 · show Qown_b24_x_19 Z q0_ q1_ h0 n0 _ T2.heap _
   exact ⟨b1, rfl, N2, K2, sz_b1, Q2_0, Q2_1⟩
def own_r26_x (f_state_a0_ : Int64) : Int64 := ((((((f_state_a0_ + (-7046029254386353131 : Int64)) ^^^ (own_usl (f_state_a0_ + (-7046029254386353131 : Int64)) (30 : Int32))) * (-4658895280553007687 : Int64)) ^^^ (own_usl (((f_state_a0_ + (-7046029254386353131 : Int64)) ^^^ (own_usl (f_state_a0_ + (-7046029254386353131 : Int64)) (30 : Int32))) * (-4658895280553007687 : Int64)) (27 : Int32))) * (-7723592293110705685 : Int64)) ^^^ (own_usl (((((f_state_a0_ + (-7046029254386353131 : Int64)) ^^^ (own_usl (f_state_a0_ + (-7046029254386353131 : Int64)) (30 : Int32))) * (-4658895280553007687 : Int64)) ^^^ (own_usl (((f_state_a0_ + (-7046029254386353131 : Int64)) ^^^ (own_usl (f_state_a0_ + (-7046029254386353131 : Int64)) (30 : Int32))) * (-4658895280553007687 : Int64)) (27 : Int32))) * (-7723592293110705685 : Int64)) (31 : Int32)))
def Qown_b26_x (Z : State) (a0_ : Addr) (f_state_a0_ : Int64) (h0 : Heap) (n0 : Nat) (v : Option Value) (h : Heap) (L : List Loc) : Prop := v = some (.long (own_r26_x f_state_a0_)) ∧ Fr n0 L ∧ Keep h0 h [a0_] ∧ Fld Z h a0_ oC5 "state" "J" (.long (f_state_a0_ + (-7046029254386353131 : Int64))) ∧ Exa Z h a0_ oC5
theorem own_b26_x (l : Launch) (Z : State) (a0 : Array Value) (hw : oH a0 Z) (ws : List Jvm.Cond) (a0_ : Addr) (f_state_a0_ : Int64) (h0 : Heap) (n0 : Nat) (Z0 : n0 ≤ h0.size) (F_state_a0_ : Fld Z h0 a0_ oC5 "state" "J" (.long f_state_a0_)) (E_a0_ : Exa Z h0 a0_ oC5) (g_a0_ : n0 ≤ a0_) :
   oMet l oM13 prog_27_method_3_code 3 (some .long) ws (oR 0 0 0 0) Z h0 #[(.ref a0_)] (Qown_b26_x Z a0_ f_state_a0_ h0 n0) := by
 refine oBd n0 (plainFor_of_name own_pn2) ?_
 intro p e s m below meth c s₁ Bd hx hZ hby hml hown hnm X0 e0 N0
 obtain ⟨T1, X1, e1, st1⟩ := getF X0 hx hZ hown (host := "") (Or.inl (oW hw 155 rfl)) Via.refl e0 F_state_a0_ (g := (mkF m 2 #[oA a0_, .unset, .unset] [(.ref a0_), (.ref a0_)])) rfl rfl (oG hby d26 2 rfl)
 obtain ⟨T2, h2, X2, e2, W2, st2⟩ := putF X1 hx hZ hown (host := "") (Or.inl (oW hw 155 rfl)) Via.refl e1 F_state_a0_ E_a0_ (Or.inl (oW hw 156 rfl)) (oW hw 149 rfl) (ty := .long) (by decide) rfl rfl (g := (mkF m 9 #[oA a0_, .unset, .unset] [(.long (f_state_a0_ + (-7046029254386353131 : Int64))), (.ref a0_)])) rfl rfl (oG hby d26 5 rfl)
 have Fw2 := F_state_a0_.same W2
 have K2 : Keep h0 h2 [a0_] := (Keep.refl h0 [a0_]).wr W2 (Or.inl (oX 0 rfl))
 have N2 := Fr.snoc X2 N0 g_a0_
 obtain ⟨T3, X3, e3, st3⟩ := getF X2 hx hZ hown (host := "") (Or.inl (oW hw 155 rfl)) Via.refl e2 Fw2 (g := (mkF m 13 #[oA a0_, .unset, .unset] [(.ref a0_)])) rfl rfl (oG hby d26 7 rfl)
 have f4_a0_ := (E_a0_.wr W2)
 obtain ⟨fs, hr, hrun, hended, hW, hsame⟩ := X3.leave (v := some (.long ((((((f_state_a0_ + (-7046029254386353131 : Int64)) ^^^ (own_usl (f_state_a0_ + (-7046029254386353131 : Int64)) (30 : Int32))) * (-4658895280553007687 : Int64)) ^^^ (own_usl (((f_state_a0_ + (-7046029254386353131 : Int64)) ^^^ (own_usl (f_state_a0_ + (-7046029254386353131 : Int64)) (30 : Int32))) * (-4658895280553007687 : Int64)) (27 : Int32))) * (-7723592293110705685 : Int64)) ^^^ (own_usl (((((f_state_a0_ + (-7046029254386353131 : Int64)) ^^^ (own_usl (f_state_a0_ + (-7046029254386353131 : Int64)) (30 : Int32))) * (-4658895280553007687 : Int64)) ^^^ (own_usl (((f_state_a0_ + (-7046029254386353131 : Int64)) ^^^ (own_usl (f_state_a0_ + (-7046029254386353131 : Int64)) (30 : Int32))) * (-4658895280553007687 : Int64)) (27 : Int32))) * (-7723592293110705685 : Int64)) (31 : Int32))))) (fun h => by rw [Bd.returns] at h; cases h)
 refine ⟨_, _, castTop (own_ef9 m a0_) ?_, hrun, hended, _, _, rfl, ?_, ⟨_, rfl⟩, hW, (hsame.mono (by decide) (by decide))⟩
 · show oZ p e below s₁ (mkF m 0 #[oA a0_, .unset, .unset] []) _
   refine XS.aloadN X0.here hx rfl (oG hby d26 0 rfl) rfl rfl ?_
   refine XS.dup X0.here hx rfl (oG hby d26 1 rfl) rfl rfl ?_
   refine st1 _ ?_
   refine X1.ldc2Long hx hown (mvT hZ (oW hw 150 rfl)) (g := (mkF m 5 #[oA a0_, .unset, .unset] [(.long f_state_a0_), (.ref a0_)])) rfl (oG hby d26 3 rfl) _ ?_
   refine XS.ladd X1.here hx rfl (oG hby d26 4 rfl) rfl ?_
   refine st2 _ ?_
   refine XS.aloadN X2.here hx rfl (oG hby d26 6 rfl) rfl rfl ?_
   refine st3 _ ?_
   refine XS.lstoreN X3.here hx rfl (oG hby d26 8 rfl) rfl (l' := #[oA a0_, oJ (f_state_a0_ + (-7046029254386353131 : Int64)), .second]) rfl ?_
   refine XS.lloadN X3.here hx rfl (oG hby d26 9 rfl) rfl ?_
   refine XS.lloadN X3.here hx rfl (oG hby d26 10 rfl) rfl ?_
   show oZ p e below T3 (mkF m 19 #[oA a0_, oJ (f_state_a0_ + (-7046029254386353131 : Int64)), .second] [(.long (f_state_a0_ + (-7046029254386353131 : Int64))), (.long (f_state_a0_ + (-7046029254386353131 : Int64)))]) _
   refine XS.bipush X3.here hx rfl (oG hby d26 11 rfl) ?_
   refine XS.lushr X3.here hx rfl (oG hby d26 12 rfl) rfl ?_
   refine XS.lxor X3.here hx rfl (oG hby d26 13 rfl) rfl ?_
   refine X3.ldc2Long hx hown (mvT hZ (oW hw 162 rfl)) (g := (mkF m 23 #[oA a0_, oJ (f_state_a0_ + (-7046029254386353131 : Int64)), .second] [(.long ((f_state_a0_ + (-7046029254386353131 : Int64)) ^^^ (own_usl (f_state_a0_ + (-7046029254386353131 : Int64)) (30 : Int32))))])) rfl (oG hby d26 14 rfl) _ ?_
   refine XS.lmul X3.here hx rfl (oG hby d26 15 rfl) rfl ?_
   refine XS.lstoreN X3.here hx rfl (oG hby d26 16 rfl) rfl (l' := #[oA a0_, oJ (((f_state_a0_ + (-7046029254386353131 : Int64)) ^^^ (own_usl (f_state_a0_ + (-7046029254386353131 : Int64)) (30 : Int32))) * (-4658895280553007687 : Int64)), .second]) rfl ?_
   refine XS.lloadN X3.here hx rfl (oG hby d26 17 rfl) rfl ?_
   refine XS.lloadN X3.here hx rfl (oG hby d26 18 rfl) rfl ?_
   refine XS.bipush X3.here hx rfl (oG hby d26 19 rfl) ?_
   refine XS.lushr X3.here hx rfl (oG hby d26 20 rfl) rfl ?_
   refine XS.lxor X3.here hx rfl (oG hby d26 21 rfl) rfl ?_
   show oZ p e below T3 (mkF m 34 #[oA a0_, oJ (((f_state_a0_ + (-7046029254386353131 : Int64)) ^^^ (own_usl (f_state_a0_ + (-7046029254386353131 : Int64)) (30 : Int32))) * (-4658895280553007687 : Int64)), .second] [(.long ((((f_state_a0_ + (-7046029254386353131 : Int64)) ^^^ (own_usl (f_state_a0_ + (-7046029254386353131 : Int64)) (30 : Int32))) * (-4658895280553007687 : Int64)) ^^^ (own_usl (((f_state_a0_ + (-7046029254386353131 : Int64)) ^^^ (own_usl (f_state_a0_ + (-7046029254386353131 : Int64)) (30 : Int32))) * (-4658895280553007687 : Int64)) (27 : Int32))))]) _
   refine X3.ldc2Long hx hown (mvT hZ (oW hw 163 rfl)) (g := (mkF m 34 #[oA a0_, oJ (((f_state_a0_ + (-7046029254386353131 : Int64)) ^^^ (own_usl (f_state_a0_ + (-7046029254386353131 : Int64)) (30 : Int32))) * (-4658895280553007687 : Int64)), .second] [(.long ((((f_state_a0_ + (-7046029254386353131 : Int64)) ^^^ (own_usl (f_state_a0_ + (-7046029254386353131 : Int64)) (30 : Int32))) * (-4658895280553007687 : Int64)) ^^^ (own_usl (((f_state_a0_ + (-7046029254386353131 : Int64)) ^^^ (own_usl (f_state_a0_ + (-7046029254386353131 : Int64)) (30 : Int32))) * (-4658895280553007687 : Int64)) (27 : Int32))))])) rfl (oG hby d26 22 rfl) _ ?_
   refine XS.lmul X3.here hx rfl (oG hby d26 23 rfl) rfl ?_
   refine XS.lstoreN X3.here hx rfl (oG hby d26 24 rfl) rfl (l' := #[oA a0_, oJ (((((f_state_a0_ + (-7046029254386353131 : Int64)) ^^^ (own_usl (f_state_a0_ + (-7046029254386353131 : Int64)) (30 : Int32))) * (-4658895280553007687 : Int64)) ^^^ (own_usl (((f_state_a0_ + (-7046029254386353131 : Int64)) ^^^ (own_usl (f_state_a0_ + (-7046029254386353131 : Int64)) (30 : Int32))) * (-4658895280553007687 : Int64)) (27 : Int32))) * (-7723592293110705685 : Int64)), .second]) rfl ?_
   refine XS.lloadN X3.here hx rfl (oG hby d26 25 rfl) rfl ?_
   refine XS.lloadN X3.here hx rfl (oG hby d26 26 rfl) rfl ?_
   refine XS.bipush X3.here hx rfl (oG hby d26 27 rfl) ?_
   refine XS.lushr X3.here hx rfl (oG hby d26 28 rfl) rfl ?_
   refine XS.lxor X3.here hx rfl (oG hby d26 29 rfl) rfl ?_
   show oZ p e below T3 (mkF m 45 #[oA a0_, oJ (((((f_state_a0_ + (-7046029254386353131 : Int64)) ^^^ (own_usl (f_state_a0_ + (-7046029254386353131 : Int64)) (30 : Int32))) * (-4658895280553007687 : Int64)) ^^^ (own_usl (((f_state_a0_ + (-7046029254386353131 : Int64)) ^^^ (own_usl (f_state_a0_ + (-7046029254386353131 : Int64)) (30 : Int32))) * (-4658895280553007687 : Int64)) (27 : Int32))) * (-7723592293110705685 : Int64)), .second] [(.long ((((((f_state_a0_ + (-7046029254386353131 : Int64)) ^^^ (own_usl (f_state_a0_ + (-7046029254386353131 : Int64)) (30 : Int32))) * (-4658895280553007687 : Int64)) ^^^ (own_usl (((f_state_a0_ + (-7046029254386353131 : Int64)) ^^^ (own_usl (f_state_a0_ + (-7046029254386353131 : Int64)) (30 : Int32))) * (-4658895280553007687 : Int64)) (27 : Int32))) * (-7723592293110705685 : Int64)) ^^^ (own_usl (((((f_state_a0_ + (-7046029254386353131 : Int64)) ^^^ (own_usl (f_state_a0_ + (-7046029254386353131 : Int64)) (30 : Int32))) * (-4658895280553007687 : Int64)) ^^^ (own_usl (((f_state_a0_ + (-7046029254386353131 : Int64)) ^^^ (own_usl (f_state_a0_ + (-7046029254386353131 : Int64)) (30 : Int32))) * (-4658895280553007687 : Int64)) (27 : Int32))) * (-7723592293110705685 : Int64)) (31 : Int32))))]) _
   exact X3.lreturnOut hx Bd.returns (oG hby d26 30 rfl) hr
 · show Qown_b26_x Z a0_ f_state_a0_ h0 n0 _ T3.heap _
   rw [e3]
   exact ⟨rfl, N2, K2, Fw2, f4_a0_⟩
def own_r27_f (q0_ : Int64) (q1_ : Int64) : Int64 := ((q0_ - ((own_sl ((own_usl q0_ (1 : Int32)) / q1_) (1 : Int32)) * q1_)) - ((own_sr (((q0_ - ((own_sl ((own_usl q0_ (1 : Int32)) / q1_) (1 : Int32)) * q1_)) - q1_) ^^^ (-1 : Int64)) (63 : Int32)) &&& q1_))
theorem own_b27_f (l : Launch) (Z : State) (a0 : Array Value) (hw : oH a0 Z) (ws : List Jvm.Cond) (q0_ : Int64) (q1_ : Int64) (h0 : Heap) (n0 : Nat) (Z0 : n0 ≤ h0.size) (hf0 : ¬ ((lcmpW q1_ (0 : Int64)) < (0 : Int32))) (hf1 : ¬ (q1_ = (0 : Int64))) :
   oMet l oM24 jdk_35_method_45_code 8 (some .long) ws (oR 0 0 0 0) Z h0 #[(.long q0_), (.long q1_)] (own_QP (some (.long (own_r27_f q0_ q1_))) h0 n0) := by
 refine oBd n0 (plainFor_of_name own_pn3) ?_
 intro p e s m below meth c s₁ Bd hx hZ hby hml hown hnm X0 e0 N0
 obtain ⟨fs, hr, hrun, hended, hW, hsame⟩ := X0.leave (v := some (.long ((q0_ - ((own_sl ((own_usl q0_ (1 : Int32)) / q1_) (1 : Int32)) * q1_)) - ((own_sr (((q0_ - ((own_sl ((own_usl q0_ (1 : Int32)) / q1_) (1 : Int32)) * q1_)) - q1_) ^^^ (-1 : Int64)) (63 : Int32)) &&& q1_)))) (fun h => by rw [Bd.returns] at h; cases h)
 refine ⟨_, _, castTop (own_ef10 m q0_ q1_) ?_, hrun, hended, _, _, rfl, ?_, ⟨_, rfl⟩, hW, (hsame.mono (by decide) (by decide))⟩
 · show oZ p e below s₁ (mkF m 0 #[oJ q0_, .second, oJ q1_, .second, .unset, .unset, .unset, .unset] []) _
   refine XS.lloadN X0.here hx rfl (oG hby d27 0 rfl) rfl ?_
   refine XS.lconst X0.here hx rfl (oG hby d27 1 rfl) ?_
   show oZ p e below s₁ (mkF m 2 #[oJ q0_, .second, oJ q1_, .second, .unset, .unset, .unset, .unset] [(.long 0), (.long q1_)]) _
   refine XS.lcmp X0.here hx rfl (oG hby d27 2 rfl) rfl ?_
   refine XS.ifNo X0.here hx rfl (oG hby d27 3 rfl) rfl ((if0 _ _).trans (flt hf0).1) ?_
   refine XS.lloadN X0.here hx rfl (oG hby d27 4 rfl) rfl ?_
   refine XS.iconst X0.here hx rfl (oG hby d27 5 rfl) ?_
   refine XS.lushr X0.here hx rfl (oG hby d27 6 rfl) rfl ?_
   refine XS.lloadN X0.here hx rfl (oG hby d27 7 rfl) rfl ?_
   refine XS.ldiv X0.here hx rfl (oG hby d27 8 rfl) rfl hf1 ?_
   refine XS.iconst X0.here hx rfl (oG hby d27 9 rfl) ?_
   refine XS.lshl X0.here hx rfl (oG hby d27 10 rfl) rfl ?_
   refine XS.lstore X0.here hx rfl (oG hby d27 11 rfl) rfl (l' := #[oJ q0_, .second, oJ q1_, .second, oJ (own_sl ((own_usl q0_ (1 : Int32)) / q1_) (1 : Int32)), .second, .unset, .unset]) rfl ?_
   refine XS.lloadN X0.here hx rfl (oG hby d27 12 rfl) rfl ?_
   show oZ p e below s₁ (mkF m 16 #[oJ q0_, .second, oJ q1_, .second, oJ (own_sl ((own_usl q0_ (1 : Int32)) / q1_) (1 : Int32)), .second, .unset, .unset] [(.long q0_)]) _
   refine XS.lload X0.here hx rfl (oG hby d27 13 rfl) rfl ?_
   refine XS.lloadN X0.here hx rfl (oG hby d27 14 rfl) rfl ?_
   refine XS.lmul X0.here hx rfl (oG hby d27 15 rfl) rfl ?_
   refine XS.lsub X0.here hx rfl (oG hby d27 16 rfl) rfl ?_
   refine XS.lstore X0.here hx rfl (oG hby d27 17 rfl) rfl (l' := #[oJ q0_, .second, oJ q1_, .second, oJ (own_sl ((own_usl q0_ (1 : Int32)) / q1_) (1 : Int32)), .second, oJ (q0_ - ((own_sl ((own_usl q0_ (1 : Int32)) / q1_) (1 : Int32)) * q1_)), .second]) rfl ?_
   refine XS.lload X0.here hx rfl (oG hby d27 18 rfl) rfl ?_
   refine XS.lload X0.here hx rfl (oG hby d27 19 rfl) rfl ?_
   refine XS.lloadN X0.here hx rfl (oG hby d27 20 rfl) rfl ?_
   refine XS.lsub X0.here hx rfl (oG hby d27 21 rfl) rfl ?_
   refine X0.ldc2Long hx hown (mvT hZ (oW hw 168 rfl)) (g := (mkF m 29 #[oJ q0_, .second, oJ q1_, .second, oJ (own_sl ((own_usl q0_ (1 : Int32)) / q1_) (1 : Int32)), .second, oJ (q0_ - ((own_sl ((own_usl q0_ (1 : Int32)) / q1_) (1 : Int32)) * q1_)), .second] [(.long ((q0_ - ((own_sl ((own_usl q0_ (1 : Int32)) / q1_) (1 : Int32)) * q1_)) - q1_)), (.long (q0_ - ((own_sl ((own_usl q0_ (1 : Int32)) / q1_) (1 : Int32)) * q1_)))])) rfl (oG hby d27 22 rfl) _ ?_
   refine XS.lxor X0.here hx rfl (oG hby d27 23 rfl) rfl ?_
   show oZ p e below s₁ (mkF m 33 #[oJ q0_, .second, oJ q1_, .second, oJ (own_sl ((own_usl q0_ (1 : Int32)) / q1_) (1 : Int32)), .second, oJ (q0_ - ((own_sl ((own_usl q0_ (1 : Int32)) / q1_) (1 : Int32)) * q1_)), .second] [(.long (((q0_ - ((own_sl ((own_usl q0_ (1 : Int32)) / q1_) (1 : Int32)) * q1_)) - q1_) ^^^ (-1 : Int64))), (.long (q0_ - ((own_sl ((own_usl q0_ (1 : Int32)) / q1_) (1 : Int32)) * q1_)))]) _
   refine XS.bipush X0.here hx rfl (oG hby d27 24 rfl) ?_
   refine XS.lshr X0.here hx rfl (oG hby d27 25 rfl) rfl ?_
   refine XS.lloadN X0.here hx rfl (oG hby d27 26 rfl) rfl ?_
   refine XS.land X0.here hx rfl (oG hby d27 27 rfl) rfl ?_
   refine XS.lsub X0.here hx rfl (oG hby d27 28 rfl) rfl ?_
   show oZ p e below s₁ (mkF m 39 #[oJ q0_, .second, oJ q1_, .second, oJ (own_sl ((own_usl q0_ (1 : Int32)) / q1_) (1 : Int32)), .second, oJ (q0_ - ((own_sl ((own_usl q0_ (1 : Int32)) / q1_) (1 : Int32)) * q1_)), .second] [(.long ((q0_ - ((own_sl ((own_usl q0_ (1 : Int32)) / q1_) (1 : Int32)) * q1_)) - ((own_sr (((q0_ - ((own_sl ((own_usl q0_ (1 : Int32)) / q1_) (1 : Int32)) * q1_)) - q1_) ^^^ (-1 : Int64)) (63 : Int32)) &&& q1_)))]) _
   exact X0.lreturnOut hx Bd.returns (oG hby d27 29 rfl) hr
 · show own_QP (some (.long (own_r27_f q0_ q1_))) h0 n0 _ s₁.heap _
   exact ⟨rfl, N0, e0⟩
theorem own_s23_39_f_22 (rc : Nat) (rs : Nat) (i0_ : Int32) (i1_ : Int32) (o2_ : Addr) (o3_ : Addr) (i4_ : Int32) (f_state_o3_ : Int64) (k_ : Int32) (n_o2_ : Int32) (vs_o2_ : List Int32) (i_ : Int32)
   (X0 : Stand p l e (oR 3 rc rs 60) s m args below meth c T0 locs cells slots) (hx : p.tables.exec = Jvm.exec) (hZ : Z.Warmed39 s.vm) (hw : oH a0 Z) (hby : c.code = prog_29_method_19_code) (hml : c.maxLocals = 7) (hown : s.vm.findClass oC0 = some m.cls) (e0 : T0.heap = h0) (N0 : Fr n0 locs) (Z0 : n0 ≤ h0.size) (F_state_o3_ : Fld Z h0 o3_ oC5 "state" "J" (.long f_state_o3_)) (E_o3_ : Exa Z h0 o3_ oC5) (g_o3_ : n0 ≤ o3_) (A_o2_ : own_il Z h0 o2_ n_o2_ vs_o2_) (g_o2_ : n0 ≤ o2_) (hf0 : (0 : Int32) < i4_) (hf1 : ¬ ((lcmpW ((i4_ + (1 : Int32)).toInt64) (0 : Int64)) < (0 : Int32))) (hf2 : ¬ (((i4_ + (1 : Int32)).toInt64) = (0 : Int64))) (hf3 : ((own_r27_f (own_r26_x f_state_o3_) ((i4_ + (1 : Int32)).toInt64)).toInt32) = k_) (hf4 : ¬ (o2_ = o3_)) (hf5 : ¬ (i4_ < 0)) (hf6 : i4_ < n_o2_) (hf7 : ¬ (k_ < 0)) (hf8 : k_ < n_o2_) (hf9 : (i4_).toNatClampNeg < vs_o2_.length) (hf10 : (k_).toNatClampNeg < (vs_o2_.set (i4_).toNatClampNeg (vs_o2_.getD (k_).toNatClampNeg 0)).length) (hf11 : (i4_ + (-1 : Int32)) = i_) (hf12 : ¬ (o3_ = o2_)) (hc : cells + (0) ≤ rc) (hs : slots + (0) ≤ rs) :
   ∃ (T' : State) (locs' : List Loc), Stand p l e (oR 3 rc rs 60) s m args below meth c T' locs' cells slots ∧ Fr n0 locs' ∧ Keep h0 T'.heap [o3_, o2_] ∧ Exa Z T'.heap o3_ oC5 ∧ Fld Z T'.heap o3_ oC5 "state" "J" (.long (f_state_o3_ + (-7046029254386353131 : Int64))) ∧ own_il Z T'.heap o2_ n_o2_ ((vs_o2_.set (i4_).toNatClampNeg (vs_o2_.getD (k_).toNatClampNeg 0)).set (k_).toNatClampNeg (vs_o2_.getD (i4_).toNatClampNeg 0)) ∧
     ∀ target, Steps p.tables e below (T'.setTop (mkF m 39 #[oI i0_, oI i1_, oA o2_, oA o3_, oI i_, oI k_, oI (vs_o2_.getD (i4_).toNatClampNeg 0)] [])) target → Steps p.tables e below (T0.setTop (mkF m 39 #[oI i0_, oI i1_, oA o2_, oA o3_, oI i4_, .unset, .unset] [])) target := by
 obtain ⟨cq1, kq1, q1a, q1b, q1c⟩ := isOf hZ e0 E_o3_
 obtain ⟨_, _, ⟨T1, L1, k1, n1⟩, -, X1, ⟨Lc1, hQ1, l1, y1, z1⟩, st1⟩ := X0.virtualBack hx (y := oM13) (z := oM13) hown (mvT hZ (oW hw 157 rfl)) (mvT hZ (oW hw 158 rfl)) (notFace_of_selects (args := #[]) (mvT hZ (oW hw 160 rfl))) (mvT hZ (oW hw 160 rfl)) (mvT hZ (oW hw 159 rfl)) (by decide) (backOf (W := 0) (own_b26_x l Z a0 hw [] o3_ f_state_o3_ h0 n0 Z0 F_state_o3_ E_o3_ g_o3_) hZ (oW hw 161 rfl) (oW hw 146 rfl) (Nat.le_of_ble_eq_true rfl) (Nat.le_of_ble_eq_true rfl)) q1a q1c (g := (mkF m 45 #[oI i0_, oI i1_, oA o2_, oA o3_, oI i4_, .unset, .unset] [(.ref o3_)])) rfl (by rw [hml]; rfl) (Steps.refl _) (argsL := []) (rest := []) (lenOf own_pd6 rfl) rfl (by show 2 * 0 + _ ≤ _; exact Nat.le_of_eq rfl) (oG hby d23 27 rfl) (fun _ _ => ⟨rfl, e0, (show cells + 0 ≤ rc from by omega), (show slots + 0 ≤ rs from by omega)⟩)
 dsimp only [Pt.U, Pt.locs, Pt.cells, Pt.slots] at X1 l1 y1 z1 st1 hQ1
 subst l1; rw [y1, z1] at X1
 obtain ⟨rfl, N1q, Kq1, Q1_0, Q1_1⟩ := hQ1
 have N1 := Fr.app N0 N1q
 have K1 : Keep h0 T1.heap [o3_, o2_] := (Keep.refl h0 [o3_, o2_]).trans Kq1 (own_a1 (Or.inl (oX 0 rfl)))
 obtain ⟨_, _, ⟨T2, L2, k2, n2⟩, -, X2, ⟨Lc2, hQ2, l2, y2, z2⟩, st2⟩ := Jvm.LawKit.callS X1 hx (y := oM24) hown (mvT hZ (oW hw 164 rfl)) (mvT hZ (oW hw 165 rfl)) (mvT hZ (oW hw 166 rfl)) (mvT hZ (oW hw 167 rfl)) (by decide) (backOf (W := 0) (own_b27_f l Z a0 hw [] (own_r26_x f_state_o3_) ((i4_ + (1 : Int32)).toInt64) T1.heap n0 (Nat.le_trans Z0 K1.1) hf1 hf2) hZ (oW hw 167 rfl) (oW hw 166 rfl) (Nat.le_of_ble_eq_true rfl) (Nat.le_of_ble_eq_true rfl)) (g := (mkF m 53 #[oI i0_, oI i1_, oA o2_, oA o3_, oI i4_, .unset, .unset] [(.long ((i4_ + (1 : Int32)).toInt64)), (.long (own_r26_x f_state_o3_))])) rfl (by rw [hml]; rfl) (argsL := [(.long (own_r26_x f_state_o3_)), (.long ((i4_ + (1 : Int32)).toInt64))]) (rest := []) (lenOf own_pd7 rfl) rfl (by show 2 * 0 + _ ≤ _; exact Nat.le_of_eq rfl) (oG hby d23 32 rfl) (fun _ _ => ⟨rfl, rfl, (show cells + 0 ≤ rc from by omega), (show slots + 0 ≤ rs from by omega)⟩)
 dsimp only [Pt.U, Pt.locs, Pt.cells, Pt.slots] at X2 l2 y2 z2 st2 hQ2
 subst l2; rw [y2, z2] at X2
 obtain ⟨rfl, N2q, e2⟩ := hQ2
 have N2 := Fr.app N1 N2q
 have f3_o2_ := (A_o2_.keep Kq1 (own_n1 hf4))
 obtain ⟨c4, A4, hin4, hat4⟩ := own_il_at (j := i4_) f3_o2_ hf5 hf6
 have hat4' : c4.slots[(i4_).toNatClampNeg]? = some (.int (vs_o2_.getD (i4_).toNatClampNeg 0)) := hat4
 obtain ⟨c5, A5, hin5, hat5⟩ := own_il_at (j := k_) f3_o2_ hf7 hf8
 have hat5' : c5.slots[(k_).toNatClampNeg]? = some (.int (vs_o2_.getD (k_).toNatClampNeg 0)) := hat5
 obtain ⟨c6, A6, hin6, -⟩ := own_il_at (j := i4_) f3_o2_ hf5 hf6
 obtain ⟨T7, h7, X7, e7, W7, st7⟩ := stI X2 hx hZ e2 A6 (j := i4_) hin6 (g := (mkF m 72 #[oI i0_, oI i1_, oA o2_, oA o3_, oI i4_, oI k_, oI (vs_o2_.getD (i4_).toNatClampNeg 0)] [(.int (vs_o2_.getD (k_).toNatClampNeg 0)), (.int i4_), (.ref o2_)])) rfl rfl (oG hby d23 44 rfl)
 have V7 : own_il Z h7 o2_ n_o2_ (vs_o2_.set (i4_).toNatClampNeg (vs_o2_.getD (k_).toNatClampNeg 0)) := own_il_st f3_o2_ hf5 hf6 W7 hf9
 have K7 : Keep h0 h7 [o3_, o2_] := K1.wr W7 (Or.inl (oX 1 rfl))
 have N7 := Fr.snoc X7 N2 g_o2_
 obtain ⟨c8, A8, hin8, -⟩ := own_il_at (j := k_) V7 hf7 hf8
 obtain ⟨T9, h9, X9, e9, W9, st9⟩ := stI X7 hx hZ e7 A8 (j := k_) hin8 (g := (mkF m 78 #[oI i0_, oI i1_, oA o2_, oA o3_, oI i4_, oI k_, oI (vs_o2_.getD (i4_).toNatClampNeg 0)] [(.int (vs_o2_.getD (i4_).toNatClampNeg 0)), (.int k_), (.ref o2_)])) rfl rfl (oG hby d23 48 rfl)
 have V9 : own_il Z h9 o2_ n_o2_ ((vs_o2_.set (i4_).toNatClampNeg (vs_o2_.getD (k_).toNatClampNeg 0)).set (k_).toNatClampNeg (vs_o2_.getD (i4_).toNatClampNeg 0)) := own_il_st V7 hf7 hf8 W9 hf10
 have K9 : Keep h0 h9 [o3_, o2_] := K7.wr W9 (Or.inl (oX 1 rfl))
 have N9 := Fr.snoc X9 N7 g_o2_
 have f10_o3_ := ((Q1_1.wr W7).wr W9)
 have f11_o3__state := ((Q1_0.other W7 (Or.inl hf12)).other W9 (Or.inl hf12))
 subst e9
 refine ⟨T9, _, X9, N9, K9, f10_o3_, f11_o3__state, V9, fun target kt => ?_⟩
 show oZ p e below T0 (mkF m 39 #[oI i0_, oI i1_, oA o2_, oA o3_, oI i4_, .unset, .unset] []) _
 refine XS.iload X0.here hx rfl (oG hby d23 24 rfl) rfl ?_
 refine XS.ifNo X0.here hx rfl (oG hby d23 25 rfl) rfl ((if0 _ _).trans (tlt hf0).2.2.2) ?_
 refine XS.aloadN X0.here hx rfl (oG hby d23 26 rfl) rfl rfl ?_
 refine st1.trans ?_
 refine XS.iload X1.here hx rfl (oG hby d23 28 rfl) rfl ?_
 refine XS.iconst X1.here hx rfl (oG hby d23 29 rfl) ?_
 refine XS.iadd X1.here hx rfl (oG hby d23 30 rfl) rfl ?_
 refine XS.i2l X1.here hx rfl (oG hby d23 31 rfl) rfl ?_
 refine st2 _ ?_
 refine XS.l2i X2.here hx rfl (oG hby d23 33 rfl) rfl ?_
 show oZ p e below T2 (mkF m 57 #[oI i0_, oI i1_, oA o2_, oA o3_, oI i4_, .unset, .unset] [(.int ((own_r27_f (own_r26_x f_state_o3_) ((i4_ + (1 : Int32)).toInt64)).toInt32))]) _
 rw [hf3]
 refine XS.istore X2.here hx rfl (oG hby d23 34 rfl) rfl (l' := #[oI i0_, oI i1_, oA o2_, oA o3_, oI i4_, oI k_, .unset]) rfl ?_
 refine XS.aloadN X2.here hx rfl (oG hby d23 35 rfl) rfl rfl ?_
 refine XS.iload X2.here hx rfl (oG hby d23 36 rfl) rfl ?_
 refine X2.iaload hx (j := i4_) (v := (.int (vs_o2_.getD (i4_).toNatClampNeg 0))) (by rw [e2]; exact A4.1) (State.isArrayOf_alike hZ.alike A4.2.1) A4.2.2 hin4 hat4' (g := (mkF m 62 #[oI i0_, oI i1_, oA o2_, oA o3_, oI i4_, oI k_, .unset] [(.int i4_), (.ref o2_)])) rfl rfl (oG hby d23 37 rfl) _ ?_
 refine XS.istore X2.here hx rfl (oG hby d23 38 rfl) rfl (l' := #[oI i0_, oI i1_, oA o2_, oA o3_, oI i4_, oI k_, oI (vs_o2_.getD (i4_).toNatClampNeg 0)]) rfl ?_
 refine XS.aloadN X2.here hx rfl (oG hby d23 39 rfl) rfl rfl ?_
 refine XS.iload X2.here hx rfl (oG hby d23 40 rfl) rfl ?_
 refine XS.aloadN X2.here hx rfl (oG hby d23 41 rfl) rfl rfl ?_
 refine XS.iload X2.here hx rfl (oG hby d23 42 rfl) rfl ?_
 refine X2.iaload hx (j := k_) (v := (.int (vs_o2_.getD (k_).toNatClampNeg 0))) (by rw [e2]; exact A5.1) (State.isArrayOf_alike hZ.alike A5.2.1) A5.2.2 hin5 hat5' (g := (mkF m 71 #[oI i0_, oI i1_, oA o2_, oA o3_, oI i4_, oI k_, oI (vs_o2_.getD (i4_).toNatClampNeg 0)] [(.int k_), (.ref o2_), (.int i4_), (.ref o2_)])) rfl rfl (oG hby d23 43 rfl) _ ?_
 show oZ p e below T2 (mkF m 72 #[oI i0_, oI i1_, oA o2_, oA o3_, oI i4_, oI k_, oI (vs_o2_.getD (i4_).toNatClampNeg 0)] [(.int (vs_o2_.getD (k_).toNatClampNeg 0)), (.int i4_), (.ref o2_)]) _
 refine st7 _ ?_
 refine XS.aloadN X7.here hx rfl (oG hby d23 45 rfl) rfl rfl ?_
 refine XS.iload X7.here hx rfl (oG hby d23 46 rfl) rfl ?_
 refine XS.iload X7.here hx rfl (oG hby d23 47 rfl) rfl ?_
 refine st9 _ ?_
 refine XS.iinc X9.here hx rfl (oG hby d23 49 rfl) rfl (l' := #[oI i0_, oI i1_, oA o2_, oA o3_, oI (i4_ + (-1 : Int32)), oI k_, oI (vs_o2_.getD (i4_).toNatClampNeg 0)]) rfl ?_
 show oZ p e below T9 (mkF m 82 #[oI i0_, oI i1_, oA o2_, oA o3_, oI (i4_ + (-1 : Int32)), oI k_, oI (vs_o2_.getD (i4_).toNatClampNeg 0)] []) _
 rw [hf11]
 refine XS.goto X9.here hx rfl (pc0 := 82) (pc' := 39) rfl (oG hby d23 50 rfl) (by decide) (by decide) ?_
 exact kt
theorem own_s23_39_f_23 (rc : Nat) (rs : Nat) (i0_ : Int32) (i1_ : Int32) (o2_ : Addr) (o3_ : Addr) (i4_ : Int32) (i5_ : Int32) (i6_ : Int32) (f_state_o3_ : Int64) (k_ : Int32) (n_o2_ : Int32) (vs_o2_ : List Int32) (i_ : Int32)
   (X0 : Stand p l e (oR 3 rc rs 60) s m args below meth c T0 locs cells slots) (hx : p.tables.exec = Jvm.exec) (hZ : Z.Warmed39 s.vm) (hw : oH a0 Z) (hby : c.code = prog_29_method_19_code) (hml : c.maxLocals = 7) (hown : s.vm.findClass oC0 = some m.cls) (e0 : T0.heap = h0) (N0 : Fr n0 locs) (Z0 : n0 ≤ h0.size) (F_state_o3_ : Fld Z h0 o3_ oC5 "state" "J" (.long f_state_o3_)) (E_o3_ : Exa Z h0 o3_ oC5) (g_o3_ : n0 ≤ o3_) (A_o2_ : own_il Z h0 o2_ n_o2_ vs_o2_) (g_o2_ : n0 ≤ o2_) (hf0 : (0 : Int32) < i4_) (hf1 : ¬ ((lcmpW ((i4_ + (1 : Int32)).toInt64) (0 : Int64)) < (0 : Int32))) (hf2 : ¬ (((i4_ + (1 : Int32)).toInt64) = (0 : Int64))) (hf3 : ((own_r27_f (own_r26_x f_state_o3_) ((i4_ + (1 : Int32)).toInt64)).toInt32) = k_) (hf4 : ¬ (o2_ = o3_)) (hf5 : ¬ (i4_ < 0)) (hf6 : i4_ < n_o2_) (hf7 : ¬ (k_ < 0)) (hf8 : k_ < n_o2_) (hf9 : (i4_).toNatClampNeg < vs_o2_.length) (hf10 : (k_).toNatClampNeg < (vs_o2_.set (i4_).toNatClampNeg (vs_o2_.getD (k_).toNatClampNeg 0)).length) (hf11 : (i4_ + (-1 : Int32)) = i_) (hf12 : ¬ (o3_ = o2_)) (hc : cells + (0) ≤ rc) (hs : slots + (0) ≤ rs) :
   ∃ (T' : State) (locs' : List Loc), Stand p l e (oR 3 rc rs 60) s m args below meth c T' locs' cells slots ∧ Fr n0 locs' ∧ Keep h0 T'.heap [o3_, o2_] ∧ Exa Z T'.heap o3_ oC5 ∧ Fld Z T'.heap o3_ oC5 "state" "J" (.long (f_state_o3_ + (-7046029254386353131 : Int64))) ∧ own_il Z T'.heap o2_ n_o2_ ((vs_o2_.set (i4_).toNatClampNeg (vs_o2_.getD (k_).toNatClampNeg 0)).set (k_).toNatClampNeg (vs_o2_.getD (i4_).toNatClampNeg 0)) ∧
     ∀ target, Steps p.tables e below (T'.setTop (mkF m 39 #[oI i0_, oI i1_, oA o2_, oA o3_, oI i_, oI k_, oI (vs_o2_.getD (i4_).toNatClampNeg 0)] [])) target → Steps p.tables e below (T0.setTop (mkF m 39 #[oI i0_, oI i1_, oA o2_, oA o3_, oI i4_, oI i5_, oI i6_] [])) target := by
 obtain ⟨cq1, kq1, q1a, q1b, q1c⟩ := isOf hZ e0 E_o3_
 obtain ⟨_, _, ⟨T1, L1, k1, n1⟩, -, X1, ⟨Lc1, hQ1, l1, y1, z1⟩, st1⟩ := X0.virtualBack hx (y := oM13) (z := oM13) hown (mvT hZ (oW hw 157 rfl)) (mvT hZ (oW hw 158 rfl)) (notFace_of_selects (args := #[]) (mvT hZ (oW hw 160 rfl))) (mvT hZ (oW hw 160 rfl)) (mvT hZ (oW hw 159 rfl)) (by decide) (backOf (W := 0) (own_b26_x l Z a0 hw [] o3_ f_state_o3_ h0 n0 Z0 F_state_o3_ E_o3_ g_o3_) hZ (oW hw 161 rfl) (oW hw 146 rfl) (Nat.le_of_ble_eq_true rfl) (Nat.le_of_ble_eq_true rfl)) q1a q1c (g := (mkF m 45 #[oI i0_, oI i1_, oA o2_, oA o3_, oI i4_, oI i5_, oI i6_] [(.ref o3_)])) rfl (by rw [hml]; rfl) (Steps.refl _) (argsL := []) (rest := []) (lenOf own_pd6 rfl) rfl (by show 2 * 0 + _ ≤ _; exact Nat.le_of_eq rfl) (oG hby d23 27 rfl) (fun _ _ => ⟨rfl, e0, (show cells + 0 ≤ rc from by omega), (show slots + 0 ≤ rs from by omega)⟩)
 dsimp only [Pt.U, Pt.locs, Pt.cells, Pt.slots] at X1 l1 y1 z1 st1 hQ1
 subst l1; rw [y1, z1] at X1
 obtain ⟨rfl, N1q, Kq1, Q1_0, Q1_1⟩ := hQ1
 have N1 := Fr.app N0 N1q
 have K1 : Keep h0 T1.heap [o3_, o2_] := (Keep.refl h0 [o3_, o2_]).trans Kq1 (own_a1 (Or.inl (oX 0 rfl)))
 obtain ⟨_, _, ⟨T2, L2, k2, n2⟩, -, X2, ⟨Lc2, hQ2, l2, y2, z2⟩, st2⟩ := Jvm.LawKit.callS X1 hx (y := oM24) hown (mvT hZ (oW hw 164 rfl)) (mvT hZ (oW hw 165 rfl)) (mvT hZ (oW hw 166 rfl)) (mvT hZ (oW hw 167 rfl)) (by decide) (backOf (W := 0) (own_b27_f l Z a0 hw [] (own_r26_x f_state_o3_) ((i4_ + (1 : Int32)).toInt64) T1.heap n0 (Nat.le_trans Z0 K1.1) hf1 hf2) hZ (oW hw 167 rfl) (oW hw 166 rfl) (Nat.le_of_ble_eq_true rfl) (Nat.le_of_ble_eq_true rfl)) (g := (mkF m 53 #[oI i0_, oI i1_, oA o2_, oA o3_, oI i4_, oI i5_, oI i6_] [(.long ((i4_ + (1 : Int32)).toInt64)), (.long (own_r26_x f_state_o3_))])) rfl (by rw [hml]; rfl) (argsL := [(.long (own_r26_x f_state_o3_)), (.long ((i4_ + (1 : Int32)).toInt64))]) (rest := []) (lenOf own_pd7 rfl) rfl (by show 2 * 0 + _ ≤ _; exact Nat.le_of_eq rfl) (oG hby d23 32 rfl) (fun _ _ => ⟨rfl, rfl, (show cells + 0 ≤ rc from by omega), (show slots + 0 ≤ rs from by omega)⟩)
 dsimp only [Pt.U, Pt.locs, Pt.cells, Pt.slots] at X2 l2 y2 z2 st2 hQ2
 subst l2; rw [y2, z2] at X2
 obtain ⟨rfl, N2q, e2⟩ := hQ2
 have N2 := Fr.app N1 N2q
 have f3_o2_ := (A_o2_.keep Kq1 (own_n1 hf4))
 obtain ⟨c4, A4, hin4, hat4⟩ := own_il_at (j := i4_) f3_o2_ hf5 hf6
 have hat4' : c4.slots[(i4_).toNatClampNeg]? = some (.int (vs_o2_.getD (i4_).toNatClampNeg 0)) := hat4
 obtain ⟨c5, A5, hin5, hat5⟩ := own_il_at (j := k_) f3_o2_ hf7 hf8
 have hat5' : c5.slots[(k_).toNatClampNeg]? = some (.int (vs_o2_.getD (k_).toNatClampNeg 0)) := hat5
 obtain ⟨c6, A6, hin6, -⟩ := own_il_at (j := i4_) f3_o2_ hf5 hf6
 obtain ⟨T7, h7, X7, e7, W7, st7⟩ := stI X2 hx hZ e2 A6 (j := i4_) hin6 (g := (mkF m 72 #[oI i0_, oI i1_, oA o2_, oA o3_, oI i4_, oI k_, oI (vs_o2_.getD (i4_).toNatClampNeg 0)] [(.int (vs_o2_.getD (k_).toNatClampNeg 0)), (.int i4_), (.ref o2_)])) rfl rfl (oG hby d23 44 rfl)
 have V7 : own_il Z h7 o2_ n_o2_ (vs_o2_.set (i4_).toNatClampNeg (vs_o2_.getD (k_).toNatClampNeg 0)) := own_il_st f3_o2_ hf5 hf6 W7 hf9
 have K7 : Keep h0 h7 [o3_, o2_] := K1.wr W7 (Or.inl (oX 1 rfl))
 have N7 := Fr.snoc X7 N2 g_o2_
 obtain ⟨c8, A8, hin8, -⟩ := own_il_at (j := k_) V7 hf7 hf8
 obtain ⟨T9, h9, X9, e9, W9, st9⟩ := stI X7 hx hZ e7 A8 (j := k_) hin8 (g := (mkF m 78 #[oI i0_, oI i1_, oA o2_, oA o3_, oI i4_, oI k_, oI (vs_o2_.getD (i4_).toNatClampNeg 0)] [(.int (vs_o2_.getD (i4_).toNatClampNeg 0)), (.int k_), (.ref o2_)])) rfl rfl (oG hby d23 48 rfl)
 have V9 : own_il Z h9 o2_ n_o2_ ((vs_o2_.set (i4_).toNatClampNeg (vs_o2_.getD (k_).toNatClampNeg 0)).set (k_).toNatClampNeg (vs_o2_.getD (i4_).toNatClampNeg 0)) := own_il_st V7 hf7 hf8 W9 hf10
 have K9 : Keep h0 h9 [o3_, o2_] := K7.wr W9 (Or.inl (oX 1 rfl))
 have N9 := Fr.snoc X9 N7 g_o2_
 have f10_o3_ := ((Q1_1.wr W7).wr W9)
 have f11_o3__state := ((Q1_0.other W7 (Or.inl hf12)).other W9 (Or.inl hf12))
 subst e9
 refine ⟨T9, _, X9, N9, K9, f10_o3_, f11_o3__state, V9, fun target kt => ?_⟩
 show oZ p e below T0 (mkF m 39 #[oI i0_, oI i1_, oA o2_, oA o3_, oI i4_, oI i5_, oI i6_] []) _
 refine XS.iload X0.here hx rfl (oG hby d23 24 rfl) rfl ?_
 refine XS.ifNo X0.here hx rfl (oG hby d23 25 rfl) rfl ((if0 _ _).trans (tlt hf0).2.2.2) ?_
 refine XS.aloadN X0.here hx rfl (oG hby d23 26 rfl) rfl rfl ?_
 refine st1.trans ?_
 refine XS.iload X1.here hx rfl (oG hby d23 28 rfl) rfl ?_
 refine XS.iconst X1.here hx rfl (oG hby d23 29 rfl) ?_
 refine XS.iadd X1.here hx rfl (oG hby d23 30 rfl) rfl ?_
 refine XS.i2l X1.here hx rfl (oG hby d23 31 rfl) rfl ?_
 refine st2 _ ?_
 refine XS.l2i X2.here hx rfl (oG hby d23 33 rfl) rfl ?_
 show oZ p e below T2 (mkF m 57 #[oI i0_, oI i1_, oA o2_, oA o3_, oI i4_, oI i5_, oI i6_] [(.int ((own_r27_f (own_r26_x f_state_o3_) ((i4_ + (1 : Int32)).toInt64)).toInt32))]) _
 rw [hf3]
 refine XS.istore X2.here hx rfl (oG hby d23 34 rfl) rfl (l' := #[oI i0_, oI i1_, oA o2_, oA o3_, oI i4_, oI k_, oI i6_]) rfl ?_
 refine XS.aloadN X2.here hx rfl (oG hby d23 35 rfl) rfl rfl ?_
 refine XS.iload X2.here hx rfl (oG hby d23 36 rfl) rfl ?_
 refine X2.iaload hx (j := i4_) (v := (.int (vs_o2_.getD (i4_).toNatClampNeg 0))) (by rw [e2]; exact A4.1) (State.isArrayOf_alike hZ.alike A4.2.1) A4.2.2 hin4 hat4' (g := (mkF m 62 #[oI i0_, oI i1_, oA o2_, oA o3_, oI i4_, oI k_, oI i6_] [(.int i4_), (.ref o2_)])) rfl rfl (oG hby d23 37 rfl) _ ?_
 refine XS.istore X2.here hx rfl (oG hby d23 38 rfl) rfl (l' := #[oI i0_, oI i1_, oA o2_, oA o3_, oI i4_, oI k_, oI (vs_o2_.getD (i4_).toNatClampNeg 0)]) rfl ?_
 refine XS.aloadN X2.here hx rfl (oG hby d23 39 rfl) rfl rfl ?_
 refine XS.iload X2.here hx rfl (oG hby d23 40 rfl) rfl ?_
 refine XS.aloadN X2.here hx rfl (oG hby d23 41 rfl) rfl rfl ?_
 refine XS.iload X2.here hx rfl (oG hby d23 42 rfl) rfl ?_
 refine X2.iaload hx (j := k_) (v := (.int (vs_o2_.getD (k_).toNatClampNeg 0))) (by rw [e2]; exact A5.1) (State.isArrayOf_alike hZ.alike A5.2.1) A5.2.2 hin5 hat5' (g := (mkF m 71 #[oI i0_, oI i1_, oA o2_, oA o3_, oI i4_, oI k_, oI (vs_o2_.getD (i4_).toNatClampNeg 0)] [(.int k_), (.ref o2_), (.int i4_), (.ref o2_)])) rfl rfl (oG hby d23 43 rfl) _ ?_
 show oZ p e below T2 (mkF m 72 #[oI i0_, oI i1_, oA o2_, oA o3_, oI i4_, oI k_, oI (vs_o2_.getD (i4_).toNatClampNeg 0)] [(.int (vs_o2_.getD (k_).toNatClampNeg 0)), (.int i4_), (.ref o2_)]) _
 refine st7 _ ?_
 refine XS.aloadN X7.here hx rfl (oG hby d23 45 rfl) rfl rfl ?_
 refine XS.iload X7.here hx rfl (oG hby d23 46 rfl) rfl ?_
 refine XS.iload X7.here hx rfl (oG hby d23 47 rfl) rfl ?_
 refine st9 _ ?_
 refine XS.iinc X9.here hx rfl (oG hby d23 49 rfl) rfl (l' := #[oI i0_, oI i1_, oA o2_, oA o3_, oI (i4_ + (-1 : Int32)), oI k_, oI (vs_o2_.getD (i4_).toNatClampNeg 0)]) rfl ?_
 show oZ p e below T9 (mkF m 82 #[oI i0_, oI i1_, oA o2_, oA o3_, oI (i4_ + (-1 : Int32)), oI k_, oI (vs_o2_.getD (i4_).toNatClampNeg 0)] []) _
 rw [hf11]
 refine XS.goto X9.here hx rfl (pc0 := 82) (pc' := 39) rfl (oG hby d23 50 rfl) (by decide) (by decide) ?_
 exact kt
def Qown_b23_tt_0_0_24 (Z : State)  (h0 : Heap) (n0 : Nat) (v : Option Value) (h : Heap) (L : List Loc) : Prop := ∃ b1 : Addr, v = some (.ref b1) ∧ Fr n0 L ∧ Keep h0 h [] ∧ h0.size ≤ b1 ∧ Exa Z h b1 "[I" ∧ own_il Z h b1 (10 : Int32) ([6, 3, 2, 9, 8, 1, 4, 7, 0, 5] : List Int32)
theorem own_b23_tt_0_0_24 (l : Launch) (Z : State) (a0 : Array Value) (hw : oH a0 Z) (ws : List Jvm.Cond)  (h0 : Heap) (n0 : Nat) (Z0 : n0 ≤ h0.size) :
   oMet l oM6 prog_29_method_19_code 7 (some (.array .int)) ws (oR 3 2 11 60) Z h0 #[(.int 0), (.int 0)] (Qown_b23_tt_0_0_24 Z  h0 n0) := by
 refine oBd n0 (plainFor_of_name own_pn4) ?_
 intro p e s m below meth c s₁ Bd hx hZ hby hml hown hnm X0 e0 N0
 obtain ⟨T1, h1, k1, X1, e1, E1, A1, B1, st1⟩ := newPE X0 hx hZ (oW hw 85 rfl) e0 (g := (mkF m 2 #[oI 0, oI 0, .unset, .unset, .unset, .unset, .unset] [(.int 10)])) rfl (oG hby d23 1 rfl) rfl (by decide) (cap := 10) (by decide) (by decide) (by decide) (by decide) (ad := "[I") rfl
 obtain ⟨b1, g1⟩ : ∃ z, z = h0.size := ⟨_, rfl⟩
 rw [← g1] at A1 B1 st1
 have lo_b1 : h0.size ≤ b1 := Nat.le_of_eq g1.symm
 have sz_b1 : h0.size ≤ b1 := Nat.le_trans (Keep.refl h0 []).1 lo_b1
 have g_b1 : n0 ≤ b1 := Nat.le_trans Z0 sz_b1
 have K1 : Keep h0 h1 [] := (Keep.refl h0 []).ext E1
 have V1 : own_il Z h1 b1 (10 : Int32) ([0, 0, 0, 0, 0, 0, 0, 0, 0, 0] : List Int32) := own_il_new (m := 10) A1 (by decide)
 obtain ⟨T2, L2, X2, N2, Kq2, Q2_0, st2⟩ := own_s23_7_f_17 2 11 (0 : Int32) (0 : Int32) b1 (0 : Int32) (10 : Int32) ([0, 0, 0, 0, 0, 0, 0, 0, 0, 0] : List Int32) (1 : Int32) X1 hx hZ hw hby hml hown e1 N0 (Nat.le_trans Z0 K1.1) V1 g_b1 (by decide +kernel) (by decide +kernel) (by decide +kernel) (by decide +kernel) (by decide +kernel) (by decide : 1 + (0) ≤ _) (by decide : 10 + (0) ≤ _)
 have K2 : Keep h0 T2.heap [] := K1.trans Kq2 (own_a1 (Or.inr sz_b1))
 have Q2_0' := own_il_eq Q2_0 (vs' := ([0, 0, 0, 0, 0, 0, 0, 0, 0, 0] : List Int32)) (by decide +kernel)
 have f4_b1 := (B1.keep Kq2)
 obtain ⟨T3, L3, X3, N3, Kq3, Q3_0, st3⟩ := own_s23_7_f_17 2 11 (0 : Int32) (0 : Int32) b1 (1 : Int32) (10 : Int32) ([0, 0, 0, 0, 0, 0, 0, 0, 0, 0] : List Int32) (2 : Int32) X2 hx hZ hw hby hml hown rfl N2 (Nat.le_trans Z0 K2.1) Q2_0' g_b1 (by decide +kernel) (by decide +kernel) (by decide +kernel) (by decide +kernel) (by decide +kernel) (by decide : 1 + (0) ≤ _) (by decide : 10 + (0) ≤ _)
 have K3 : Keep h0 T3.heap [] := K2.trans Kq3 (own_a1 (Or.inr sz_b1))
 have Q3_0' := own_il_eq Q3_0 (vs' := ([0, 1, 0, 0, 0, 0, 0, 0, 0, 0] : List Int32)) (by decide +kernel)
 have f6_b1 := (f4_b1.keep Kq3)
 obtain ⟨T5, L5, X5, N5, Kq5, Q5_0, st5⟩ := own_s23_7_f_17 2 11 (0 : Int32) (0 : Int32) b1 (2 : Int32) (10 : Int32) ([0, 1, 0, 0, 0, 0, 0, 0, 0, 0] : List Int32) (3 : Int32) X3 hx hZ hw hby hml hown rfl N3 (Nat.le_trans Z0 K3.1) Q3_0' g_b1 (by decide +kernel) (by decide +kernel) (by decide +kernel) (by decide +kernel) (by decide +kernel) (by decide : 1 + (0) ≤ _) (by decide : 10 + (0) ≤ _)
 have K5 : Keep h0 T5.heap [] := K3.trans Kq5 (own_a1 (Or.inr sz_b1))
 have Q5_0' := own_il_eq Q5_0 (vs' := ([0, 1, 2, 0, 0, 0, 0, 0, 0, 0] : List Int32)) (by decide +kernel)
 have f8_b1 := (f6_b1.keep Kq5)
 obtain ⟨T7, L7, X7, N7, Kq7, Q7_0, st7⟩ := own_s23_7_f_17 2 11 (0 : Int32) (0 : Int32) b1 (3 : Int32) (10 : Int32) ([0, 1, 2, 0, 0, 0, 0, 0, 0, 0] : List Int32) (4 : Int32) X5 hx hZ hw hby hml hown rfl N5 (Nat.le_trans Z0 K5.1) Q5_0' g_b1 (by decide +kernel) (by decide +kernel) (by decide +kernel) (by decide +kernel) (by decide +kernel) (by decide : 1 + (0) ≤ _) (by decide : 10 + (0) ≤ _)
 have K7 : Keep h0 T7.heap [] := K5.trans Kq7 (own_a1 (Or.inr sz_b1))
 have Q7_0' := own_il_eq Q7_0 (vs' := ([0, 1, 2, 3, 0, 0, 0, 0, 0, 0] : List Int32)) (by decide +kernel)
 have f10_b1 := (f8_b1.keep Kq7)
 obtain ⟨T9, L9, X9, N9, Kq9, Q9_0, st9⟩ := own_s23_7_f_17 2 11 (0 : Int32) (0 : Int32) b1 (4 : Int32) (10 : Int32) ([0, 1, 2, 3, 0, 0, 0, 0, 0, 0] : List Int32) (5 : Int32) X7 hx hZ hw hby hml hown rfl N7 (Nat.le_trans Z0 K7.1) Q7_0' g_b1 (by decide +kernel) (by decide +kernel) (by decide +kernel) (by decide +kernel) (by decide +kernel) (by decide : 1 + (0) ≤ _) (by decide : 10 + (0) ≤ _)
 have K9 : Keep h0 T9.heap [] := K7.trans Kq9 (own_a1 (Or.inr sz_b1))
 have Q9_0' := own_il_eq Q9_0 (vs' := ([0, 1, 2, 3, 4, 0, 0, 0, 0, 0] : List Int32)) (by decide +kernel)
 have f12_b1 := (f10_b1.keep Kq9)
 obtain ⟨T11, L11, X11, N11, Kq11, Q11_0, st11⟩ := own_s23_7_f_17 2 11 (0 : Int32) (0 : Int32) b1 (5 : Int32) (10 : Int32) ([0, 1, 2, 3, 4, 0, 0, 0, 0, 0] : List Int32) (6 : Int32) X9 hx hZ hw hby hml hown rfl N9 (Nat.le_trans Z0 K9.1) Q9_0' g_b1 (by decide +kernel) (by decide +kernel) (by decide +kernel) (by decide +kernel) (by decide +kernel) (by decide : 1 + (0) ≤ _) (by decide : 10 + (0) ≤ _)
 have K11 : Keep h0 T11.heap [] := K9.trans Kq11 (own_a1 (Or.inr sz_b1))
 have Q11_0' := own_il_eq Q11_0 (vs' := ([0, 1, 2, 3, 4, 5, 0, 0, 0, 0] : List Int32)) (by decide +kernel)
 have f14_b1 := (f12_b1.keep Kq11)
 obtain ⟨T13, L13, X13, N13, Kq13, Q13_0, st13⟩ := own_s23_7_f_17 2 11 (0 : Int32) (0 : Int32) b1 (6 : Int32) (10 : Int32) ([0, 1, 2, 3, 4, 5, 0, 0, 0, 0] : List Int32) (7 : Int32) X11 hx hZ hw hby hml hown rfl N11 (Nat.le_trans Z0 K11.1) Q11_0' g_b1 (by decide +kernel) (by decide +kernel) (by decide +kernel) (by decide +kernel) (by decide +kernel) (by decide : 1 + (0) ≤ _) (by decide : 10 + (0) ≤ _)
 have K13 : Keep h0 T13.heap [] := K11.trans Kq13 (own_a1 (Or.inr sz_b1))
 have Q13_0' := own_il_eq Q13_0 (vs' := ([0, 1, 2, 3, 4, 5, 6, 0, 0, 0] : List Int32)) (by decide +kernel)
 have f16_b1 := (f14_b1.keep Kq13)
 obtain ⟨T15, L15, X15, N15, Kq15, Q15_0, st15⟩ := own_s23_7_f_17 2 11 (0 : Int32) (0 : Int32) b1 (7 : Int32) (10 : Int32) ([0, 1, 2, 3, 4, 5, 6, 0, 0, 0] : List Int32) (8 : Int32) X13 hx hZ hw hby hml hown rfl N13 (Nat.le_trans Z0 K13.1) Q13_0' g_b1 (by decide +kernel) (by decide +kernel) (by decide +kernel) (by decide +kernel) (by decide +kernel) (by decide : 1 + (0) ≤ _) (by decide : 10 + (0) ≤ _)
 have K15 : Keep h0 T15.heap [] := K13.trans Kq15 (own_a1 (Or.inr sz_b1))
 have Q15_0' := own_il_eq Q15_0 (vs' := ([0, 1, 2, 3, 4, 5, 6, 7, 0, 0] : List Int32)) (by decide +kernel)
 have f18_b1 := (f16_b1.keep Kq15)
 obtain ⟨T17, L17, X17, N17, Kq17, Q17_0, st17⟩ := own_s23_7_f_17 2 11 (0 : Int32) (0 : Int32) b1 (8 : Int32) (10 : Int32) ([0, 1, 2, 3, 4, 5, 6, 7, 0, 0] : List Int32) (9 : Int32) X15 hx hZ hw hby hml hown rfl N15 (Nat.le_trans Z0 K15.1) Q15_0' g_b1 (by decide +kernel) (by decide +kernel) (by decide +kernel) (by decide +kernel) (by decide +kernel) (by decide : 1 + (0) ≤ _) (by decide : 10 + (0) ≤ _)
 have K17 : Keep h0 T17.heap [] := K15.trans Kq17 (own_a1 (Or.inr sz_b1))
 have Q17_0' := own_il_eq Q17_0 (vs' := ([0, 1, 2, 3, 4, 5, 6, 7, 8, 0] : List Int32)) (by decide +kernel)
 have f20_b1 := (f18_b1.keep Kq17)
 obtain ⟨T19, L19, X19, N19, Kq19, Q19_0, st19⟩ := own_s23_7_f_17 2 11 (0 : Int32) (0 : Int32) b1 (9 : Int32) (10 : Int32) ([0, 1, 2, 3, 4, 5, 6, 7, 8, 0] : List Int32) (10 : Int32) X17 hx hZ hw hby hml hown rfl N17 (Nat.le_trans Z0 K17.1) Q17_0' g_b1 (by decide +kernel) (by decide +kernel) (by decide +kernel) (by decide +kernel) (by decide +kernel) (by decide : 1 + (0) ≤ _) (by decide : 10 + (0) ≤ _)
 have K19 : Keep h0 T19.heap [] := K17.trans Kq19 (own_a1 (Or.inr sz_b1))
 have Q19_0' := own_il_eq Q19_0 (vs' := ([0, 1, 2, 3, 4, 5, 6, 7, 8, 9] : List Int32)) (by decide +kernel)
 obtain ⟨_, _, ⟨T21, L21, k21, n21⟩, -, X21, ⟨Lc21, hQ21, l21, y21, z21⟩, st21⟩ := Jvm.LawKit.callS X19 hx (y := oM4) hown (mvT hZ (oW hw 144 rfl)) (mvT hZ (oW hw 145 rfl)) (mvT hZ (oW hw 146 rfl)) (mvT hZ (oW hw 147 rfl)) (by decide) (backOf (W := 0) (own_b24_x_19 l Z a0 hw [] (0 : Int64) (0 : Int64) T19.heap n0 (Nat.le_trans Z0 K19.1) ) hZ (oW hw 147 rfl) (oW hw 146 rfl) (by decide) (by decide)) (g := (mkF m 31 #[oI 0, oI 0, oA b1, oI 10, .unset, .unset, .unset] [(.long 0), (.long 0)])) rfl (by rw [hml]; rfl) (argsL := [(.long 0), (.long 0)]) (rest := []) (lenOf own_pd5 rfl) rfl (by show 2 * 0 + _ ≤ _; exact Nat.le_of_eq rfl) (oG hby d23 20 rfl) (fun _ _ => ⟨rfl, rfl, (by decide : 1 + 1 ≤ _), (by decide : 10 + 1 ≤ _)⟩)
 dsimp only [Pt.U, Pt.locs, Pt.cells, Pt.slots] at X21 l21 y21 z21 st21 hQ21
 subst l21 y21 z21
 obtain ⟨r21_b1, rfl, N21q, Kq21, lo_r21_b1, Q21_0, Q21_1⟩ := hQ21
 have N21 := Fr.app N19 N21q
 have f22_b1 := (f20_b1.keep Kq19)
 have ne_b1_r21_b1 : b1 ≠ r21_b1 := oV f22_b1.lt lo_r21_b1
 have sz_r21_b1 : h0.size ≤ r21_b1 := Nat.le_trans K19.1 lo_r21_b1
 have g_r21_b1 : n0 ≤ r21_b1 := Nat.le_trans Z0 sz_r21_b1
 have K21 : Keep h0 T21.heap [] := K19.trans Kq21 own_a0
 have f24_b1 := (Q19_0'.keep Kq21 (own_n0 _))
 have f25_b1 := (f22_b1.keep Kq21)
 obtain ⟨T23, L23, X23, N23, Kq23, Q23_0, Q23_1, Q23_2, st23⟩ := own_s23_39_f_22 2 11 (0 : Int32) (0 : Int32) b1 r21_b1 (9 : Int32) ((0 : Int64) + ((0 : Int64) * (-7046029254386353131 : Int64))) (5 : Int32) (10 : Int32) ([0, 1, 2, 3, 4, 5, 6, 7, 8, 9] : List Int32) (8 : Int32) X21 hx hZ hw hby hml hown rfl N21 (Nat.le_trans Z0 K21.1) Q21_1 Q21_0 g_r21_b1 f24_b1 g_b1 (by decide +kernel) (by decide +kernel) (by decide +kernel) (by decide +kernel) ne_b1_r21_b1 (by decide +kernel) (by decide +kernel) (by decide +kernel) (by decide +kernel) (by decide +kernel) (by decide +kernel) (by decide +kernel) (Ne.symm ne_b1_r21_b1) (by decide : 2 + (0) ≤ _) (by decide : 11 + (0) ≤ _)
 have K23 : Keep h0 T23.heap [] := K21.trans Kq23 (own_a2 (Or.inr sz_r21_b1) (Or.inr sz_b1))
 have Q23_2' := own_il_eq Q23_2 (vs' := ([0, 1, 2, 3, 4, 9, 6, 7, 8, 5] : List Int32)) (by decide +kernel)
 have f27_b1 := (f25_b1.keep Kq23)
 obtain ⟨T26, L26, X26, N26, Kq26, Q26_0, Q26_1, Q26_2, st26⟩ := own_s23_39_f_23 2 11 (0 : Int32) (0 : Int32) b1 r21_b1 (8 : Int32) (5 : Int32) (([0, 1, 2, 3, 4, 5, 6, 7, 8, 9] : List Int32).getD ((9 : Int32)).toNatClampNeg 0) (((0 : Int64) + ((0 : Int64) * (-7046029254386353131 : Int64))) + (-7046029254386353131 : Int64)) (0 : Int32) (10 : Int32) ([0, 1, 2, 3, 4, 9, 6, 7, 8, 5] : List Int32) (7 : Int32) X23 hx hZ hw hby hml hown rfl N23 (Nat.le_trans Z0 K23.1) Q23_1 Q23_0 g_r21_b1 Q23_2' g_b1 (by decide +kernel) (by decide +kernel) (by decide +kernel) (by decide +kernel) ne_b1_r21_b1 (by decide +kernel) (by decide +kernel) (by decide +kernel) (by decide +kernel) (by decide +kernel) (by decide +kernel) (by decide +kernel) (Ne.symm ne_b1_r21_b1) (by decide : 2 + (0) ≤ _) (by decide : 11 + (0) ≤ _)
 have K26 : Keep h0 T26.heap [] := K23.trans Kq26 (own_a2 (Or.inr sz_r21_b1) (Or.inr sz_b1))
 have Q26_2' := own_il_eq Q26_2 (vs' := ([8, 1, 2, 3, 4, 9, 6, 7, 0, 5] : List Int32)) (by decide +kernel)
 have f29_b1 := (f27_b1.keep Kq26)
 obtain ⟨T28, L28, X28, N28, Kq28, Q28_0, Q28_1, Q28_2, st28⟩ := own_s23_39_f_23 2 11 (0 : Int32) (0 : Int32) b1 r21_b1 (7 : Int32) (0 : Int32) (([0, 1, 2, 3, 4, 9, 6, 7, 8, 5] : List Int32).getD ((8 : Int32)).toNatClampNeg 0) ((((0 : Int64) + ((0 : Int64) * (-7046029254386353131 : Int64))) + (-7046029254386353131 : Int64)) + (-7046029254386353131 : Int64)) (7 : Int32) (10 : Int32) ([8, 1, 2, 3, 4, 9, 6, 7, 0, 5] : List Int32) (6 : Int32) X26 hx hZ hw hby hml hown rfl N26 (Nat.le_trans Z0 K26.1) Q26_1 Q26_0 g_r21_b1 Q26_2' g_b1 (by decide +kernel) (by decide +kernel) (by decide +kernel) (by decide +kernel) ne_b1_r21_b1 (by decide +kernel) (by decide +kernel) (by decide +kernel) (by decide +kernel) (by decide +kernel) (by decide +kernel) (by decide +kernel) (Ne.symm ne_b1_r21_b1) (by decide : 2 + (0) ≤ _) (by decide : 11 + (0) ≤ _)
 have K28 : Keep h0 T28.heap [] := K26.trans Kq28 (own_a2 (Or.inr sz_r21_b1) (Or.inr sz_b1))
 have Q28_2' := own_il_eq Q28_2 (vs' := ([8, 1, 2, 3, 4, 9, 6, 7, 0, 5] : List Int32)) (by decide +kernel)
 have f31_b1 := (f29_b1.keep Kq28)
 obtain ⟨T30, L30, X30, N30, Kq30, Q30_0, Q30_1, Q30_2, st30⟩ := own_s23_39_f_23 2 11 (0 : Int32) (0 : Int32) b1 r21_b1 (6 : Int32) (7 : Int32) (([8, 1, 2, 3, 4, 9, 6, 7, 0, 5] : List Int32).getD ((7 : Int32)).toNatClampNeg 0) (((((0 : Int64) + ((0 : Int64) * (-7046029254386353131 : Int64))) + (-7046029254386353131 : Int64)) + (-7046029254386353131 : Int64)) + (-7046029254386353131 : Int64)) (4 : Int32) (10 : Int32) ([8, 1, 2, 3, 4, 9, 6, 7, 0, 5] : List Int32) (5 : Int32) X28 hx hZ hw hby hml hown rfl N28 (Nat.le_trans Z0 K28.1) Q28_1 Q28_0 g_r21_b1 Q28_2' g_b1 (by decide +kernel) (by decide +kernel) (by decide +kernel) (by decide +kernel) ne_b1_r21_b1 (by decide +kernel) (by decide +kernel) (by decide +kernel) (by decide +kernel) (by decide +kernel) (by decide +kernel) (by decide +kernel) (Ne.symm ne_b1_r21_b1) (by decide : 2 + (0) ≤ _) (by decide : 11 + (0) ≤ _)
 have K30 : Keep h0 T30.heap [] := K28.trans Kq30 (own_a2 (Or.inr sz_r21_b1) (Or.inr sz_b1))
 have Q30_2' := own_il_eq Q30_2 (vs' := ([8, 1, 2, 3, 6, 9, 4, 7, 0, 5] : List Int32)) (by decide +kernel)
 have f33_b1 := (f31_b1.keep Kq30)
 obtain ⟨T32, L32, X32, N32, Kq32, Q32_0, Q32_1, Q32_2, st32⟩ := own_s23_39_f_23 2 11 (0 : Int32) (0 : Int32) b1 r21_b1 (5 : Int32) (4 : Int32) (([8, 1, 2, 3, 4, 9, 6, 7, 0, 5] : List Int32).getD ((6 : Int32)).toNatClampNeg 0) ((((((0 : Int64) + ((0 : Int64) * (-7046029254386353131 : Int64))) + (-7046029254386353131 : Int64)) + (-7046029254386353131 : Int64)) + (-7046029254386353131 : Int64)) + (-7046029254386353131 : Int64)) (1 : Int32) (10 : Int32) ([8, 1, 2, 3, 6, 9, 4, 7, 0, 5] : List Int32) (4 : Int32) X30 hx hZ hw hby hml hown rfl N30 (Nat.le_trans Z0 K30.1) Q30_1 Q30_0 g_r21_b1 Q30_2' g_b1 (by decide +kernel) (by decide +kernel) (by decide +kernel) (by decide +kernel) ne_b1_r21_b1 (by decide +kernel) (by decide +kernel) (by decide +kernel) (by decide +kernel) (by decide +kernel) (by decide +kernel) (by decide +kernel) (Ne.symm ne_b1_r21_b1) (by decide : 2 + (0) ≤ _) (by decide : 11 + (0) ≤ _)
 have K32 : Keep h0 T32.heap [] := K30.trans Kq32 (own_a2 (Or.inr sz_r21_b1) (Or.inr sz_b1))
 have Q32_2' := own_il_eq Q32_2 (vs' := ([8, 9, 2, 3, 6, 1, 4, 7, 0, 5] : List Int32)) (by decide +kernel)
 have f35_b1 := (f33_b1.keep Kq32)
 obtain ⟨T34, L34, X34, N34, Kq34, Q34_0, Q34_1, Q34_2, st34⟩ := own_s23_39_f_23 2 11 (0 : Int32) (0 : Int32) b1 r21_b1 (4 : Int32) (1 : Int32) (([8, 1, 2, 3, 6, 9, 4, 7, 0, 5] : List Int32).getD ((5 : Int32)).toNatClampNeg 0) (((((((0 : Int64) + ((0 : Int64) * (-7046029254386353131 : Int64))) + (-7046029254386353131 : Int64)) + (-7046029254386353131 : Int64)) + (-7046029254386353131 : Int64)) + (-7046029254386353131 : Int64)) + (-7046029254386353131 : Int64)) (0 : Int32) (10 : Int32) ([8, 9, 2, 3, 6, 1, 4, 7, 0, 5] : List Int32) (3 : Int32) X32 hx hZ hw hby hml hown rfl N32 (Nat.le_trans Z0 K32.1) Q32_1 Q32_0 g_r21_b1 Q32_2' g_b1 (by decide +kernel) (by decide +kernel) (by decide +kernel) (by decide +kernel) ne_b1_r21_b1 (by decide +kernel) (by decide +kernel) (by decide +kernel) (by decide +kernel) (by decide +kernel) (by decide +kernel) (by decide +kernel) (Ne.symm ne_b1_r21_b1) (by decide : 2 + (0) ≤ _) (by decide : 11 + (0) ≤ _)
 have K34 : Keep h0 T34.heap [] := K32.trans Kq34 (own_a2 (Or.inr sz_r21_b1) (Or.inr sz_b1))
 have Q34_2' := own_il_eq Q34_2 (vs' := ([6, 9, 2, 3, 8, 1, 4, 7, 0, 5] : List Int32)) (by decide +kernel)
 have f37_b1 := (f35_b1.keep Kq34)
 obtain ⟨T36, L36, X36, N36, Kq36, Q36_0, Q36_1, Q36_2, st36⟩ := own_s23_39_f_23 2 11 (0 : Int32) (0 : Int32) b1 r21_b1 (3 : Int32) (0 : Int32) (([8, 9, 2, 3, 6, 1, 4, 7, 0, 5] : List Int32).getD ((4 : Int32)).toNatClampNeg 0) ((((((((0 : Int64) + ((0 : Int64) * (-7046029254386353131 : Int64))) + (-7046029254386353131 : Int64)) + (-7046029254386353131 : Int64)) + (-7046029254386353131 : Int64)) + (-7046029254386353131 : Int64)) + (-7046029254386353131 : Int64)) + (-7046029254386353131 : Int64)) (1 : Int32) (10 : Int32) ([6, 9, 2, 3, 8, 1, 4, 7, 0, 5] : List Int32) (2 : Int32) X34 hx hZ hw hby hml hown rfl N34 (Nat.le_trans Z0 K34.1) Q34_1 Q34_0 g_r21_b1 Q34_2' g_b1 (by decide +kernel) (by decide +kernel) (by decide +kernel) (by decide +kernel) ne_b1_r21_b1 (by decide +kernel) (by decide +kernel) (by decide +kernel) (by decide +kernel) (by decide +kernel) (by decide +kernel) (by decide +kernel) (Ne.symm ne_b1_r21_b1) (by decide : 2 + (0) ≤ _) (by decide : 11 + (0) ≤ _)
 have K36 : Keep h0 T36.heap [] := K34.trans Kq36 (own_a2 (Or.inr sz_r21_b1) (Or.inr sz_b1))
 have Q36_2' := own_il_eq Q36_2 (vs' := ([6, 3, 2, 9, 8, 1, 4, 7, 0, 5] : List Int32)) (by decide +kernel)
 have f39_b1 := (f37_b1.keep Kq36)
 obtain ⟨T38, L38, X38, N38, Kq38, Q38_0, Q38_1, Q38_2, st38⟩ := own_s23_39_f_23 2 11 (0 : Int32) (0 : Int32) b1 r21_b1 (2 : Int32) (1 : Int32) (([6, 9, 2, 3, 8, 1, 4, 7, 0, 5] : List Int32).getD ((3 : Int32)).toNatClampNeg 0) (((((((((0 : Int64) + ((0 : Int64) * (-7046029254386353131 : Int64))) + (-7046029254386353131 : Int64)) + (-7046029254386353131 : Int64)) + (-7046029254386353131 : Int64)) + (-7046029254386353131 : Int64)) + (-7046029254386353131 : Int64)) + (-7046029254386353131 : Int64)) + (-7046029254386353131 : Int64)) (2 : Int32) (10 : Int32) ([6, 3, 2, 9, 8, 1, 4, 7, 0, 5] : List Int32) (1 : Int32) X36 hx hZ hw hby hml hown rfl N36 (Nat.le_trans Z0 K36.1) Q36_1 Q36_0 g_r21_b1 Q36_2' g_b1 (by decide +kernel) (by decide +kernel) (by decide +kernel) (by decide +kernel) ne_b1_r21_b1 (by decide +kernel) (by decide +kernel) (by decide +kernel) (by decide +kernel) (by decide +kernel) (by decide +kernel) (by decide +kernel) (Ne.symm ne_b1_r21_b1) (by decide : 2 + (0) ≤ _) (by decide : 11 + (0) ≤ _)
 have K38 : Keep h0 T38.heap [] := K36.trans Kq38 (own_a2 (Or.inr sz_r21_b1) (Or.inr sz_b1))
 have Q38_2' := own_il_eq Q38_2 (vs' := ([6, 3, 2, 9, 8, 1, 4, 7, 0, 5] : List Int32)) (by decide +kernel)
 have f41_b1 := (f39_b1.keep Kq38)
 obtain ⟨T40, L40, X40, N40, Kq40, Q40_0, Q40_1, Q40_2, st40⟩ := own_s23_39_f_23 2 11 (0 : Int32) (0 : Int32) b1 r21_b1 (1 : Int32) (2 : Int32) (([6, 3, 2, 9, 8, 1, 4, 7, 0, 5] : List Int32).getD ((2 : Int32)).toNatClampNeg 0) ((((((((((0 : Int64) + ((0 : Int64) * (-7046029254386353131 : Int64))) + (-7046029254386353131 : Int64)) + (-7046029254386353131 : Int64)) + (-7046029254386353131 : Int64)) + (-7046029254386353131 : Int64)) + (-7046029254386353131 : Int64)) + (-7046029254386353131 : Int64)) + (-7046029254386353131 : Int64)) + (-7046029254386353131 : Int64)) (1 : Int32) (10 : Int32) ([6, 3, 2, 9, 8, 1, 4, 7, 0, 5] : List Int32) (0 : Int32) X38 hx hZ hw hby hml hown rfl N38 (Nat.le_trans Z0 K38.1) Q38_1 Q38_0 g_r21_b1 Q38_2' g_b1 (by decide +kernel) (by decide +kernel) (by decide +kernel) (by decide +kernel) ne_b1_r21_b1 (by decide +kernel) (by decide +kernel) (by decide +kernel) (by decide +kernel) (by decide +kernel) (by decide +kernel) (by decide +kernel) (Ne.symm ne_b1_r21_b1) (by decide : 2 + (0) ≤ _) (by decide : 11 + (0) ≤ _)
 have K40 : Keep h0 T40.heap [] := K38.trans Kq40 (own_a2 (Or.inr sz_r21_b1) (Or.inr sz_b1))
 have Q40_2' := own_il_eq Q40_2 (vs' := ([6, 3, 2, 9, 8, 1, 4, 7, 0, 5] : List Int32)) (by decide +kernel)
 have f42_b1 := (f41_b1.keep Kq40)
 obtain ⟨fs, hr, hrun, hended, hW, hsame⟩ := X40.leave (v := some (.ref b1)) (fun h => by rw [Bd.returns] at h; cases h)
 refine ⟨_, _, castTop (own_ef11 m (0 : Int32) (0 : Int32)) ?_, hrun, hended, _, _, rfl, ?_, ⟨_, rfl⟩, hW, (hsame.mono (by decide) (by decide))⟩
 · show oZ p e below s₁ (mkF m 0 #[oI 0, oI 0, .unset, .unset, .unset, .unset, .unset] []) _
   refine XS.bipush X0.here hx rfl (oG hby d23 0 rfl) ?_
   refine st1 _ ?_
   refine XS.astoreN X1.here hx rfl (oG hby d23 2 rfl) rfl rfl (l' := #[oI 0, oI 0, oA b1, .unset, .unset, .unset, .unset]) rfl ?_
   refine XS.iconst X1.here hx rfl (oG hby d23 3 rfl) ?_
   refine XS.istoreN X1.here hx rfl (oG hby d23 4 rfl) rfl (l' := #[oI 0, oI 0, oA b1, oI 0, .unset, .unset, .unset]) rfl ?_
   refine st2 _ ?_
   refine st3 _ ?_
   refine st5 _ ?_
   refine st7 _ ?_
   refine st9 _ ?_
   refine st11 _ ?_
   show oZ p e below T11 (mkF m 7 #[oI 0, oI 0, oA b1, oI 6, .unset, .unset, .unset] []) _
   refine st13 _ ?_
   refine st15 _ ?_
   refine st17 _ ?_
   refine st19 _ ?_
   refine XS.iloadN X19.here hx rfl (oG hby d23 5 rfl) rfl ?_
   refine XS.bipush X19.here hx rfl (oG hby d23 6 rfl) ?_
   refine XS.icmpYes X19.here hx rfl (pc0 := 10) (pc' := 23) rfl (oG hby d23 7 rfl) rfl (flt (by decide +kernel : ¬ ((10 : Int32) < (10 : Int32)))).2.1 (by decide) (by decide) ?_
   refine XS.iloadN X19.here hx rfl (oG hby d23 14 rfl) rfl ?_
   refine XS.i2l X19.here hx rfl (oG hby d23 15 rfl) rfl ?_
   show oZ p e below T19 (mkF m 25 #[oI 0, oI 0, oA b1, oI 10, .unset, .unset, .unset] [(.long ((0 : Int32).toInt64))]) _
   rw [(by decide +kernel : ((0 : Int32).toInt64) = (0 : Int64))]
   refine XS.iloadN X19.here hx rfl (oG hby d23 16 rfl) rfl ?_
   refine XS.i2l X19.here hx rfl (oG hby d23 17 rfl) rfl ?_
   show oZ p e below T19 (mkF m 27 #[oI 0, oI 0, oA b1, oI 10, .unset, .unset, .unset] [(.long ((0 : Int32).toInt64)), (.long 0)]) _
   rw [(by decide +kernel : ((0 : Int32).toInt64) = (0 : Int64))]
   refine X19.ldc2Long hx hown (mvT hZ (oW hw 143 rfl)) (g := (mkF m 27 #[oI 0, oI 0, oA b1, oI 10, .unset, .unset, .unset] [(.long 0), (.long 0)])) rfl (oG hby d23 18 rfl) _ ?_
   refine XS.lmul X19.here hx rfl (oG hby d23 19 rfl) rfl ?_
   show oZ p e below T19 (mkF m 31 #[oI 0, oI 0, oA b1, oI 10, .unset, .unset, .unset] [(.long ((0 : Int64) * (9 : Int64))), (.long 0)]) _
   rw [(by decide +kernel : ((0 : Int64) * (9 : Int64)) = (0 : Int64))]
   refine st21 _ ?_
   refine XS.astoreN X21.here hx rfl (oG hby d23 21 rfl) rfl rfl (l' := #[oI 0, oI 0, oA b1, oA r21_b1, .unset, .unset, .unset]) rfl ?_
   refine XS.bipush X21.here hx rfl (oG hby d23 22 rfl) ?_
   refine XS.istore X21.here hx rfl (oG hby d23 23 rfl) rfl (l' := #[oI 0, oI 0, oA b1, oA r21_b1, oI 9, .unset, .unset]) rfl ?_
   refine st23 _ ?_
   refine st26 _ ?_
   refine st28 _ ?_
   refine st30 _ ?_
   refine st32 _ ?_
   refine st34 _ ?_
   show oZ p e below T34 (mkF m 39 #[oI 0, oI 0, oA b1, oA r21_b1, oI 3, oI 0, oI (([8, 9, 2, 3, 6, 1, 4, 7, 0, 5] : List Int32).getD ((4 : Int32)).toNatClampNeg 0)] []) _
   refine st36 _ ?_
   refine st38 _ ?_
   refine st40 _ ?_
   refine XS.iload X40.here hx rfl (oG hby d23 24 rfl) rfl ?_
   refine XS.ifYes X40.here hx rfl (pc0 := 41) (pc' := 85) rfl (oG hby d23 25 rfl) rfl ((if0 _ _).trans (flt (by decide +kernel : ¬ ((0 : Int32) < (0 : Int32)))).2.2.2) (by decide) (by decide) ?_
   refine XS.aloadN X40.here hx rfl (oG hby d23 51 rfl) rfl rfl ?_
   show oZ p e below T40 (mkF m 86 #[oI 0, oI 0, oA b1, oA r21_b1, oI 0, oI 1, oI (([6, 3, 2, 9, 8, 1, 4, 7, 0, 5] : List Int32).getD ((1 : Int32)).toNatClampNeg 0)] [(.ref b1)]) _
   jvm_step X40.here [X40.here.top, hx, (oG hby d23 52 rfl), X40.method', Bd.returns, Value.isRef, FieldType.isReference]
   first | (intro acts; rw [hr _ acts rfl rfl rfl]) | rw [hr _ _ rfl rfl rfl]
   exact Steps.refl _
 · show Qown_b23_tt_0_0_24 Z  h0 n0 _ T40.heap _
   exact ⟨b1, rfl, N40, K40, sz_b1, f42_b1, Q40_2'⟩
def Qown_b23_tt_0_1_25 (Z : State)  (h0 : Heap) (n0 : Nat) (v : Option Value) (h : Heap) (L : List Loc) : Prop := ∃ b1 : Addr, v = some (.ref b1) ∧ Fr n0 L ∧ Keep h0 h [] ∧ h0.size ≤ b1 ∧ Exa Z h b1 "[I" ∧ own_il Z h b1 (10 : Int32) ([7, 4, 9, 5, 2, 3, 8, 6, 1, 0] : List Int32)
theorem own_b23_tt_0_1_25 (l : Launch) (Z : State) (a0 : Array Value) (hw : oH a0 Z) (ws : List Jvm.Cond)  (h0 : Heap) (n0 : Nat) (Z0 : n0 ≤ h0.size) :
   oMet l oM6 prog_29_method_19_code 7 (some (.array .int)) ws (oR 3 2 11 60) Z h0 #[(.int 0), (.int 1)] (Qown_b23_tt_0_1_25 Z  h0 n0) := by
 refine oBd n0 (plainFor_of_name own_pn4) ?_
 intro p e s m below meth c s₁ Bd hx hZ hby hml hown hnm X0 e0 N0
 obtain ⟨T1, h1, k1, X1, e1, E1, A1, B1, st1⟩ := newPE X0 hx hZ (oW hw 85 rfl) e0 (g := (mkF m 2 #[oI 0, oI 1, .unset, .unset, .unset, .unset, .unset] [(.int 10)])) rfl (oG hby d23 1 rfl) rfl (by decide) (cap := 10) (by decide) (by decide) (by decide) (by decide) (ad := "[I") rfl
 obtain ⟨b1, g1⟩ : ∃ z, z = h0.size := ⟨_, rfl⟩
 rw [← g1] at A1 B1 st1
 have lo_b1 : h0.size ≤ b1 := Nat.le_of_eq g1.symm
 have sz_b1 : h0.size ≤ b1 := Nat.le_trans (Keep.refl h0 []).1 lo_b1
 have g_b1 : n0 ≤ b1 := Nat.le_trans Z0 sz_b1
 have K1 : Keep h0 h1 [] := (Keep.refl h0 []).ext E1
 have V1 : own_il Z h1 b1 (10 : Int32) ([0, 0, 0, 0, 0, 0, 0, 0, 0, 0] : List Int32) := own_il_new (m := 10) A1 (by decide)
 obtain ⟨T2, L2, X2, N2, Kq2, Q2_0, st2⟩ := own_s23_7_f_17 2 11 (0 : Int32) (1 : Int32) b1 (0 : Int32) (10 : Int32) ([0, 0, 0, 0, 0, 0, 0, 0, 0, 0] : List Int32) (1 : Int32) X1 hx hZ hw hby hml hown e1 N0 (Nat.le_trans Z0 K1.1) V1 g_b1 (by decide +kernel) (by decide +kernel) (by decide +kernel) (by decide +kernel) (by decide +kernel) (by decide : 1 + (0) ≤ _) (by decide : 10 + (0) ≤ _)
 have K2 : Keep h0 T2.heap [] := K1.trans Kq2 (own_a1 (Or.inr sz_b1))
 have Q2_0' := own_il_eq Q2_0 (vs' := ([0, 0, 0, 0, 0, 0, 0, 0, 0, 0] : List Int32)) (by decide +kernel)
 have f4_b1 := (B1.keep Kq2)
 obtain ⟨T3, L3, X3, N3, Kq3, Q3_0, st3⟩ := own_s23_7_f_17 2 11 (0 : Int32) (1 : Int32) b1 (1 : Int32) (10 : Int32) ([0, 0, 0, 0, 0, 0, 0, 0, 0, 0] : List Int32) (2 : Int32) X2 hx hZ hw hby hml hown rfl N2 (Nat.le_trans Z0 K2.1) Q2_0' g_b1 (by decide +kernel) (by decide +kernel) (by decide +kernel) (by decide +kernel) (by decide +kernel) (by decide : 1 + (0) ≤ _) (by decide : 10 + (0) ≤ _)
 have K3 : Keep h0 T3.heap [] := K2.trans Kq3 (own_a1 (Or.inr sz_b1))
 have Q3_0' := own_il_eq Q3_0 (vs' := ([0, 1, 0, 0, 0, 0, 0, 0, 0, 0] : List Int32)) (by decide +kernel)
 have f6_b1 := (f4_b1.keep Kq3)
 obtain ⟨T5, L5, X5, N5, Kq5, Q5_0, st5⟩ := own_s23_7_f_17 2 11 (0 : Int32) (1 : Int32) b1 (2 : Int32) (10 : Int32) ([0, 1, 0, 0, 0, 0, 0, 0, 0, 0] : List Int32) (3 : Int32) X3 hx hZ hw hby hml hown rfl N3 (Nat.le_trans Z0 K3.1) Q3_0' g_b1 (by decide +kernel) (by decide +kernel) (by decide +kernel) (by decide +kernel) (by decide +kernel) (by decide : 1 + (0) ≤ _) (by decide : 10 + (0) ≤ _)
 have K5 : Keep h0 T5.heap [] := K3.trans Kq5 (own_a1 (Or.inr sz_b1))
 have Q5_0' := own_il_eq Q5_0 (vs' := ([0, 1, 2, 0, 0, 0, 0, 0, 0, 0] : List Int32)) (by decide +kernel)
 have f8_b1 := (f6_b1.keep Kq5)
 obtain ⟨T7, L7, X7, N7, Kq7, Q7_0, st7⟩ := own_s23_7_f_17 2 11 (0 : Int32) (1 : Int32) b1 (3 : Int32) (10 : Int32) ([0, 1, 2, 0, 0, 0, 0, 0, 0, 0] : List Int32) (4 : Int32) X5 hx hZ hw hby hml hown rfl N5 (Nat.le_trans Z0 K5.1) Q5_0' g_b1 (by decide +kernel) (by decide +kernel) (by decide +kernel) (by decide +kernel) (by decide +kernel) (by decide : 1 + (0) ≤ _) (by decide : 10 + (0) ≤ _)
 have K7 : Keep h0 T7.heap [] := K5.trans Kq7 (own_a1 (Or.inr sz_b1))
 have Q7_0' := own_il_eq Q7_0 (vs' := ([0, 1, 2, 3, 0, 0, 0, 0, 0, 0] : List Int32)) (by decide +kernel)
 have f10_b1 := (f8_b1.keep Kq7)
 obtain ⟨T9, L9, X9, N9, Kq9, Q9_0, st9⟩ := own_s23_7_f_17 2 11 (0 : Int32) (1 : Int32) b1 (4 : Int32) (10 : Int32) ([0, 1, 2, 3, 0, 0, 0, 0, 0, 0] : List Int32) (5 : Int32) X7 hx hZ hw hby hml hown rfl N7 (Nat.le_trans Z0 K7.1) Q7_0' g_b1 (by decide +kernel) (by decide +kernel) (by decide +kernel) (by decide +kernel) (by decide +kernel) (by decide : 1 + (0) ≤ _) (by decide : 10 + (0) ≤ _)
 have K9 : Keep h0 T9.heap [] := K7.trans Kq9 (own_a1 (Or.inr sz_b1))
 have Q9_0' := own_il_eq Q9_0 (vs' := ([0, 1, 2, 3, 4, 0, 0, 0, 0, 0] : List Int32)) (by decide +kernel)
 have f12_b1 := (f10_b1.keep Kq9)
 obtain ⟨T11, L11, X11, N11, Kq11, Q11_0, st11⟩ := own_s23_7_f_17 2 11 (0 : Int32) (1 : Int32) b1 (5 : Int32) (10 : Int32) ([0, 1, 2, 3, 4, 0, 0, 0, 0, 0] : List Int32) (6 : Int32) X9 hx hZ hw hby hml hown rfl N9 (Nat.le_trans Z0 K9.1) Q9_0' g_b1 (by decide +kernel) (by decide +kernel) (by decide +kernel) (by decide +kernel) (by decide +kernel) (by decide : 1 + (0) ≤ _) (by decide : 10 + (0) ≤ _)
 have K11 : Keep h0 T11.heap [] := K9.trans Kq11 (own_a1 (Or.inr sz_b1))
 have Q11_0' := own_il_eq Q11_0 (vs' := ([0, 1, 2, 3, 4, 5, 0, 0, 0, 0] : List Int32)) (by decide +kernel)
 have f14_b1 := (f12_b1.keep Kq11)
 obtain ⟨T13, L13, X13, N13, Kq13, Q13_0, st13⟩ := own_s23_7_f_17 2 11 (0 : Int32) (1 : Int32) b1 (6 : Int32) (10 : Int32) ([0, 1, 2, 3, 4, 5, 0, 0, 0, 0] : List Int32) (7 : Int32) X11 hx hZ hw hby hml hown rfl N11 (Nat.le_trans Z0 K11.1) Q11_0' g_b1 (by decide +kernel) (by decide +kernel) (by decide +kernel) (by decide +kernel) (by decide +kernel) (by decide : 1 + (0) ≤ _) (by decide : 10 + (0) ≤ _)
 have K13 : Keep h0 T13.heap [] := K11.trans Kq13 (own_a1 (Or.inr sz_b1))
 have Q13_0' := own_il_eq Q13_0 (vs' := ([0, 1, 2, 3, 4, 5, 6, 0, 0, 0] : List Int32)) (by decide +kernel)
 have f16_b1 := (f14_b1.keep Kq13)
 obtain ⟨T15, L15, X15, N15, Kq15, Q15_0, st15⟩ := own_s23_7_f_17 2 11 (0 : Int32) (1 : Int32) b1 (7 : Int32) (10 : Int32) ([0, 1, 2, 3, 4, 5, 6, 0, 0, 0] : List Int32) (8 : Int32) X13 hx hZ hw hby hml hown rfl N13 (Nat.le_trans Z0 K13.1) Q13_0' g_b1 (by decide +kernel) (by decide +kernel) (by decide +kernel) (by decide +kernel) (by decide +kernel) (by decide : 1 + (0) ≤ _) (by decide : 10 + (0) ≤ _)
 have K15 : Keep h0 T15.heap [] := K13.trans Kq15 (own_a1 (Or.inr sz_b1))
 have Q15_0' := own_il_eq Q15_0 (vs' := ([0, 1, 2, 3, 4, 5, 6, 7, 0, 0] : List Int32)) (by decide +kernel)
 have f18_b1 := (f16_b1.keep Kq15)
 obtain ⟨T17, L17, X17, N17, Kq17, Q17_0, st17⟩ := own_s23_7_f_17 2 11 (0 : Int32) (1 : Int32) b1 (8 : Int32) (10 : Int32) ([0, 1, 2, 3, 4, 5, 6, 7, 0, 0] : List Int32) (9 : Int32) X15 hx hZ hw hby hml hown rfl N15 (Nat.le_trans Z0 K15.1) Q15_0' g_b1 (by decide +kernel) (by decide +kernel) (by decide +kernel) (by decide +kernel) (by decide +kernel) (by decide : 1 + (0) ≤ _) (by decide : 10 + (0) ≤ _)
 have K17 : Keep h0 T17.heap [] := K15.trans Kq17 (own_a1 (Or.inr sz_b1))
 have Q17_0' := own_il_eq Q17_0 (vs' := ([0, 1, 2, 3, 4, 5, 6, 7, 8, 0] : List Int32)) (by decide +kernel)
 have f20_b1 := (f18_b1.keep Kq17)
 obtain ⟨T19, L19, X19, N19, Kq19, Q19_0, st19⟩ := own_s23_7_f_17 2 11 (0 : Int32) (1 : Int32) b1 (9 : Int32) (10 : Int32) ([0, 1, 2, 3, 4, 5, 6, 7, 8, 0] : List Int32) (10 : Int32) X17 hx hZ hw hby hml hown rfl N17 (Nat.le_trans Z0 K17.1) Q17_0' g_b1 (by decide +kernel) (by decide +kernel) (by decide +kernel) (by decide +kernel) (by decide +kernel) (by decide : 1 + (0) ≤ _) (by decide : 10 + (0) ≤ _)
 have K19 : Keep h0 T19.heap [] := K17.trans Kq19 (own_a1 (Or.inr sz_b1))
 have Q19_0' := own_il_eq Q19_0 (vs' := ([0, 1, 2, 3, 4, 5, 6, 7, 8, 9] : List Int32)) (by decide +kernel)
 obtain ⟨_, _, ⟨T21, L21, k21, n21⟩, -, X21, ⟨Lc21, hQ21, l21, y21, z21⟩, st21⟩ := Jvm.LawKit.callS X19 hx (y := oM4) hown (mvT hZ (oW hw 144 rfl)) (mvT hZ (oW hw 145 rfl)) (mvT hZ (oW hw 146 rfl)) (mvT hZ (oW hw 147 rfl)) (by decide) (backOf (W := 0) (own_b24_x_19 l Z a0 hw [] (0 : Int64) (9 : Int64) T19.heap n0 (Nat.le_trans Z0 K19.1) ) hZ (oW hw 147 rfl) (oW hw 146 rfl) (by decide) (by decide)) (g := (mkF m 31 #[oI 0, oI 1, oA b1, oI 10, .unset, .unset, .unset] [(.long 9), (.long 0)])) rfl (by rw [hml]; rfl) (argsL := [(.long 0), (.long 9)]) (rest := []) (lenOf own_pd5 rfl) rfl (by show 2 * 0 + _ ≤ _; exact Nat.le_of_eq rfl) (oG hby d23 20 rfl) (fun _ _ => ⟨rfl, rfl, (by decide : 1 + 1 ≤ _), (by decide : 10 + 1 ≤ _)⟩)
 dsimp only [Pt.U, Pt.locs, Pt.cells, Pt.slots] at X21 l21 y21 z21 st21 hQ21
 subst l21 y21 z21
 obtain ⟨r21_b1, rfl, N21q, Kq21, lo_r21_b1, Q21_0, Q21_1⟩ := hQ21
 have N21 := Fr.app N19 N21q
 have f22_b1 := (f20_b1.keep Kq19)
 have ne_b1_r21_b1 : b1 ≠ r21_b1 := oV f22_b1.lt lo_r21_b1
 have sz_r21_b1 : h0.size ≤ r21_b1 := Nat.le_trans K19.1 lo_r21_b1
 have g_r21_b1 : n0 ≤ r21_b1 := Nat.le_trans Z0 sz_r21_b1
 have K21 : Keep h0 T21.heap [] := K19.trans Kq21 own_a0
 have f24_b1 := (Q19_0'.keep Kq21 (own_n0 _))
 have f25_b1 := (f22_b1.keep Kq21)
 obtain ⟨T23, L23, X23, N23, Kq23, Q23_0, Q23_1, Q23_2, st23⟩ := own_s23_39_f_22 2 11 (0 : Int32) (1 : Int32) b1 r21_b1 (9 : Int32) ((0 : Int64) + ((9 : Int64) * (-7046029254386353131 : Int64))) (0 : Int32) (10 : Int32) ([0, 1, 2, 3, 4, 5, 6, 7, 8, 9] : List Int32) (8 : Int32) X21 hx hZ hw hby hml hown rfl N21 (Nat.le_trans Z0 K21.1) Q21_1 Q21_0 g_r21_b1 f24_b1 g_b1 (by decide +kernel) (by decide +kernel) (by decide +kernel) (by decide +kernel) ne_b1_r21_b1 (by decide +kernel) (by decide +kernel) (by decide +kernel) (by decide +kernel) (by decide +kernel) (by decide +kernel) (by decide +kernel) (Ne.symm ne_b1_r21_b1) (by decide : 2 + (0) ≤ _) (by decide : 11 + (0) ≤ _)
 have K23 : Keep h0 T23.heap [] := K21.trans Kq23 (own_a2 (Or.inr sz_r21_b1) (Or.inr sz_b1))
 have Q23_2' := own_il_eq Q23_2 (vs' := ([9, 1, 2, 3, 4, 5, 6, 7, 8, 0] : List Int32)) (by decide +kernel)
 have f27_b1 := (f25_b1.keep Kq23)
 obtain ⟨T26, L26, X26, N26, Kq26, Q26_0, Q26_1, Q26_2, st26⟩ := own_s23_39_f_23 2 11 (0 : Int32) (1 : Int32) b1 r21_b1 (8 : Int32) (0 : Int32) (([0, 1, 2, 3, 4, 5, 6, 7, 8, 9] : List Int32).getD ((9 : Int32)).toNatClampNeg 0) (((0 : Int64) + ((9 : Int64) * (-7046029254386353131 : Int64))) + (-7046029254386353131 : Int64)) (1 : Int32) (10 : Int32) ([9, 1, 2, 3, 4, 5, 6, 7, 8, 0] : List Int32) (7 : Int32) X23 hx hZ hw hby hml hown rfl N23 (Nat.le_trans Z0 K23.1) Q23_1 Q23_0 g_r21_b1 Q23_2' g_b1 (by decide +kernel) (by decide +kernel) (by decide +kernel) (by decide +kernel) ne_b1_r21_b1 (by decide +kernel) (by decide +kernel) (by decide +kernel) (by decide +kernel) (by decide +kernel) (by decide +kernel) (by decide +kernel) (Ne.symm ne_b1_r21_b1) (by decide : 2 + (0) ≤ _) (by decide : 11 + (0) ≤ _)
 have K26 : Keep h0 T26.heap [] := K23.trans Kq26 (own_a2 (Or.inr sz_r21_b1) (Or.inr sz_b1))
 have Q26_2' := own_il_eq Q26_2 (vs' := ([9, 8, 2, 3, 4, 5, 6, 7, 1, 0] : List Int32)) (by decide +kernel)
 have f29_b1 := (f27_b1.keep Kq26)
 obtain ⟨T28, L28, X28, N28, Kq28, Q28_0, Q28_1, Q28_2, st28⟩ := own_s23_39_f_23 2 11 (0 : Int32) (1 : Int32) b1 r21_b1 (7 : Int32) (1 : Int32) (([9, 1, 2, 3, 4, 5, 6, 7, 8, 0] : List Int32).getD ((8 : Int32)).toNatClampNeg 0) ((((0 : Int64) + ((9 : Int64) * (-7046029254386353131 : Int64))) + (-7046029254386353131 : Int64)) + (-7046029254386353131 : Int64)) (6 : Int32) (10 : Int32) ([9, 8, 2, 3, 4, 5, 6, 7, 1, 0] : List Int32) (6 : Int32) X26 hx hZ hw hby hml hown rfl N26 (Nat.le_trans Z0 K26.1) Q26_1 Q26_0 g_r21_b1 Q26_2' g_b1 (by decide +kernel) (by decide +kernel) (by decide +kernel) (by decide +kernel) ne_b1_r21_b1 (by decide +kernel) (by decide +kernel) (by decide +kernel) (by decide +kernel) (by decide +kernel) (by decide +kernel) (by decide +kernel) (Ne.symm ne_b1_r21_b1) (by decide : 2 + (0) ≤ _) (by decide : 11 + (0) ≤ _)
 have K28 : Keep h0 T28.heap [] := K26.trans Kq28 (own_a2 (Or.inr sz_r21_b1) (Or.inr sz_b1))
 have Q28_2' := own_il_eq Q28_2 (vs' := ([9, 8, 2, 3, 4, 5, 7, 6, 1, 0] : List Int32)) (by decide +kernel)
 have f31_b1 := (f29_b1.keep Kq28)
 obtain ⟨T30, L30, X30, N30, Kq30, Q30_0, Q30_1, Q30_2, st30⟩ := own_s23_39_f_23 2 11 (0 : Int32) (1 : Int32) b1 r21_b1 (6 : Int32) (6 : Int32) (([9, 8, 2, 3, 4, 5, 6, 7, 1, 0] : List Int32).getD ((7 : Int32)).toNatClampNeg 0) (((((0 : Int64) + ((9 : Int64) * (-7046029254386353131 : Int64))) + (-7046029254386353131 : Int64)) + (-7046029254386353131 : Int64)) + (-7046029254386353131 : Int64)) (1 : Int32) (10 : Int32) ([9, 8, 2, 3, 4, 5, 7, 6, 1, 0] : List Int32) (5 : Int32) X28 hx hZ hw hby hml hown rfl N28 (Nat.le_trans Z0 K28.1) Q28_1 Q28_0 g_r21_b1 Q28_2' g_b1 (by decide +kernel) (by decide +kernel) (by decide +kernel) (by decide +kernel) ne_b1_r21_b1 (by decide +kernel) (by decide +kernel) (by decide +kernel) (by decide +kernel) (by decide +kernel) (by decide +kernel) (by decide +kernel) (Ne.symm ne_b1_r21_b1) (by decide : 2 + (0) ≤ _) (by decide : 11 + (0) ≤ _)
 have K30 : Keep h0 T30.heap [] := K28.trans Kq30 (own_a2 (Or.inr sz_r21_b1) (Or.inr sz_b1))
 have Q30_2' := own_il_eq Q30_2 (vs' := ([9, 7, 2, 3, 4, 5, 8, 6, 1, 0] : List Int32)) (by decide +kernel)
 have f33_b1 := (f31_b1.keep Kq30)
 obtain ⟨T32, L32, X32, N32, Kq32, Q32_0, Q32_1, Q32_2, st32⟩ := own_s23_39_f_23 2 11 (0 : Int32) (1 : Int32) b1 r21_b1 (5 : Int32) (1 : Int32) (([9, 8, 2, 3, 4, 5, 7, 6, 1, 0] : List Int32).getD ((6 : Int32)).toNatClampNeg 0) ((((((0 : Int64) + ((9 : Int64) * (-7046029254386353131 : Int64))) + (-7046029254386353131 : Int64)) + (-7046029254386353131 : Int64)) + (-7046029254386353131 : Int64)) + (-7046029254386353131 : Int64)) (3 : Int32) (10 : Int32) ([9, 7, 2, 3, 4, 5, 8, 6, 1, 0] : List Int32) (4 : Int32) X30 hx hZ hw hby hml hown rfl N30 (Nat.le_trans Z0 K30.1) Q30_1 Q30_0 g_r21_b1 Q30_2' g_b1 (by decide +kernel) (by decide +kernel) (by decide +kernel) (by decide +kernel) ne_b1_r21_b1 (by decide +kernel) (by decide +kernel) (by decide +kernel) (by decide +kernel) (by decide +kernel) (by decide +kernel) (by decide +kernel) (Ne.symm ne_b1_r21_b1) (by decide : 2 + (0) ≤ _) (by decide : 11 + (0) ≤ _)
 have K32 : Keep h0 T32.heap [] := K30.trans Kq32 (own_a2 (Or.inr sz_r21_b1) (Or.inr sz_b1))
 have Q32_2' := own_il_eq Q32_2 (vs' := ([9, 7, 2, 5, 4, 3, 8, 6, 1, 0] : List Int32)) (by decide +kernel)
 have f35_b1 := (f33_b1.keep Kq32)
 obtain ⟨T34, L34, X34, N34, Kq34, Q34_0, Q34_1, Q34_2, st34⟩ := own_s23_39_f_23 2 11 (0 : Int32) (1 : Int32) b1 r21_b1 (4 : Int32) (3 : Int32) (([9, 7, 2, 3, 4, 5, 8, 6, 1, 0] : List Int32).getD ((5 : Int32)).toNatClampNeg 0) (((((((0 : Int64) + ((9 : Int64) * (-7046029254386353131 : Int64))) + (-7046029254386353131 : Int64)) + (-7046029254386353131 : Int64)) + (-7046029254386353131 : Int64)) + (-7046029254386353131 : Int64)) + (-7046029254386353131 : Int64)) (2 : Int32) (10 : Int32) ([9, 7, 2, 5, 4, 3, 8, 6, 1, 0] : List Int32) (3 : Int32) X32 hx hZ hw hby hml hown rfl N32 (Nat.le_trans Z0 K32.1) Q32_1 Q32_0 g_r21_b1 Q32_2' g_b1 (by decide +kernel) (by decide +kernel) (by decide +kernel) (by decide +kernel) ne_b1_r21_b1 (by decide +kernel) (by decide +kernel) (by decide +kernel) (by decide +kernel) (by decide +kernel) (by decide +kernel) (by decide +kernel) (Ne.symm ne_b1_r21_b1) (by decide : 2 + (0) ≤ _) (by decide : 11 + (0) ≤ _)
 have K34 : Keep h0 T34.heap [] := K32.trans Kq34 (own_a2 (Or.inr sz_r21_b1) (Or.inr sz_b1))
 have Q34_2' := own_il_eq Q34_2 (vs' := ([9, 7, 4, 5, 2, 3, 8, 6, 1, 0] : List Int32)) (by decide +kernel)
 have f37_b1 := (f35_b1.keep Kq34)
 obtain ⟨T36, L36, X36, N36, Kq36, Q36_0, Q36_1, Q36_2, st36⟩ := own_s23_39_f_23 2 11 (0 : Int32) (1 : Int32) b1 r21_b1 (3 : Int32) (2 : Int32) (([9, 7, 2, 5, 4, 3, 8, 6, 1, 0] : List Int32).getD ((4 : Int32)).toNatClampNeg 0) ((((((((0 : Int64) + ((9 : Int64) * (-7046029254386353131 : Int64))) + (-7046029254386353131 : Int64)) + (-7046029254386353131 : Int64)) + (-7046029254386353131 : Int64)) + (-7046029254386353131 : Int64)) + (-7046029254386353131 : Int64)) + (-7046029254386353131 : Int64)) (3 : Int32) (10 : Int32) ([9, 7, 4, 5, 2, 3, 8, 6, 1, 0] : List Int32) (2 : Int32) X34 hx hZ hw hby hml hown rfl N34 (Nat.le_trans Z0 K34.1) Q34_1 Q34_0 g_r21_b1 Q34_2' g_b1 (by decide +kernel) (by decide +kernel) (by decide +kernel) (by decide +kernel) ne_b1_r21_b1 (by decide +kernel) (by decide +kernel) (by decide +kernel) (by decide +kernel) (by decide +kernel) (by decide +kernel) (by decide +kernel) (Ne.symm ne_b1_r21_b1) (by decide : 2 + (0) ≤ _) (by decide : 11 + (0) ≤ _)
 have K36 : Keep h0 T36.heap [] := K34.trans Kq36 (own_a2 (Or.inr sz_r21_b1) (Or.inr sz_b1))
 have Q36_2' := own_il_eq Q36_2 (vs' := ([9, 7, 4, 5, 2, 3, 8, 6, 1, 0] : List Int32)) (by decide +kernel)
 have f39_b1 := (f37_b1.keep Kq36)
 obtain ⟨T38, L38, X38, N38, Kq38, Q38_0, Q38_1, Q38_2, st38⟩ := own_s23_39_f_23 2 11 (0 : Int32) (1 : Int32) b1 r21_b1 (2 : Int32) (3 : Int32) (([9, 7, 4, 5, 2, 3, 8, 6, 1, 0] : List Int32).getD ((3 : Int32)).toNatClampNeg 0) (((((((((0 : Int64) + ((9 : Int64) * (-7046029254386353131 : Int64))) + (-7046029254386353131 : Int64)) + (-7046029254386353131 : Int64)) + (-7046029254386353131 : Int64)) + (-7046029254386353131 : Int64)) + (-7046029254386353131 : Int64)) + (-7046029254386353131 : Int64)) + (-7046029254386353131 : Int64)) (0 : Int32) (10 : Int32) ([9, 7, 4, 5, 2, 3, 8, 6, 1, 0] : List Int32) (1 : Int32) X36 hx hZ hw hby hml hown rfl N36 (Nat.le_trans Z0 K36.1) Q36_1 Q36_0 g_r21_b1 Q36_2' g_b1 (by decide +kernel) (by decide +kernel) (by decide +kernel) (by decide +kernel) ne_b1_r21_b1 (by decide +kernel) (by decide +kernel) (by decide +kernel) (by decide +kernel) (by decide +kernel) (by decide +kernel) (by decide +kernel) (Ne.symm ne_b1_r21_b1) (by decide : 2 + (0) ≤ _) (by decide : 11 + (0) ≤ _)
 have K38 : Keep h0 T38.heap [] := K36.trans Kq38 (own_a2 (Or.inr sz_r21_b1) (Or.inr sz_b1))
 have Q38_2' := own_il_eq Q38_2 (vs' := ([4, 7, 9, 5, 2, 3, 8, 6, 1, 0] : List Int32)) (by decide +kernel)
 have f41_b1 := (f39_b1.keep Kq38)
 obtain ⟨T40, L40, X40, N40, Kq40, Q40_0, Q40_1, Q40_2, st40⟩ := own_s23_39_f_23 2 11 (0 : Int32) (1 : Int32) b1 r21_b1 (1 : Int32) (0 : Int32) (([9, 7, 4, 5, 2, 3, 8, 6, 1, 0] : List Int32).getD ((2 : Int32)).toNatClampNeg 0) ((((((((((0 : Int64) + ((9 : Int64) * (-7046029254386353131 : Int64))) + (-7046029254386353131 : Int64)) + (-7046029254386353131 : Int64)) + (-7046029254386353131 : Int64)) + (-7046029254386353131 : Int64)) + (-7046029254386353131 : Int64)) + (-7046029254386353131 : Int64)) + (-7046029254386353131 : Int64)) + (-7046029254386353131 : Int64)) (0 : Int32) (10 : Int32) ([4, 7, 9, 5, 2, 3, 8, 6, 1, 0] : List Int32) (0 : Int32) X38 hx hZ hw hby hml hown rfl N38 (Nat.le_trans Z0 K38.1) Q38_1 Q38_0 g_r21_b1 Q38_2' g_b1 (by decide +kernel) (by decide +kernel) (by decide +kernel) (by decide +kernel) ne_b1_r21_b1 (by decide +kernel) (by decide +kernel) (by decide +kernel) (by decide +kernel) (by decide +kernel) (by decide +kernel) (by decide +kernel) (Ne.symm ne_b1_r21_b1) (by decide : 2 + (0) ≤ _) (by decide : 11 + (0) ≤ _)
 have K40 : Keep h0 T40.heap [] := K38.trans Kq40 (own_a2 (Or.inr sz_r21_b1) (Or.inr sz_b1))
 have Q40_2' := own_il_eq Q40_2 (vs' := ([7, 4, 9, 5, 2, 3, 8, 6, 1, 0] : List Int32)) (by decide +kernel)
 have f42_b1 := (f41_b1.keep Kq40)
 obtain ⟨fs, hr, hrun, hended, hW, hsame⟩ := X40.leave (v := some (.ref b1)) (fun h => by rw [Bd.returns] at h; cases h)
 refine ⟨_, _, castTop (own_ef11 m (0 : Int32) (1 : Int32)) ?_, hrun, hended, _, _, rfl, ?_, ⟨_, rfl⟩, hW, (hsame.mono (by decide) (by decide))⟩
 · show oZ p e below s₁ (mkF m 0 #[oI 0, oI 1, .unset, .unset, .unset, .unset, .unset] []) _
   refine XS.bipush X0.here hx rfl (oG hby d23 0 rfl) ?_
   refine st1 _ ?_
   refine XS.astoreN X1.here hx rfl (oG hby d23 2 rfl) rfl rfl (l' := #[oI 0, oI 1, oA b1, .unset, .unset, .unset, .unset]) rfl ?_
   refine XS.iconst X1.here hx rfl (oG hby d23 3 rfl) ?_
   refine XS.istoreN X1.here hx rfl (oG hby d23 4 rfl) rfl (l' := #[oI 0, oI 1, oA b1, oI 0, .unset, .unset, .unset]) rfl ?_
   refine st2 _ ?_
   refine st3 _ ?_
   refine st5 _ ?_
   refine st7 _ ?_
   refine st9 _ ?_
   refine st11 _ ?_
   show oZ p e below T11 (mkF m 7 #[oI 0, oI 1, oA b1, oI 6, .unset, .unset, .unset] []) _
   refine st13 _ ?_
   refine st15 _ ?_
   refine st17 _ ?_
   refine st19 _ ?_
   refine XS.iloadN X19.here hx rfl (oG hby d23 5 rfl) rfl ?_
   refine XS.bipush X19.here hx rfl (oG hby d23 6 rfl) ?_
   refine XS.icmpYes X19.here hx rfl (pc0 := 10) (pc' := 23) rfl (oG hby d23 7 rfl) rfl (flt (by decide +kernel : ¬ ((10 : Int32) < (10 : Int32)))).2.1 (by decide) (by decide) ?_
   refine XS.iloadN X19.here hx rfl (oG hby d23 14 rfl) rfl ?_
   refine XS.i2l X19.here hx rfl (oG hby d23 15 rfl) rfl ?_
   show oZ p e below T19 (mkF m 25 #[oI 0, oI 1, oA b1, oI 10, .unset, .unset, .unset] [(.long ((0 : Int32).toInt64))]) _
   rw [(by decide +kernel : ((0 : Int32).toInt64) = (0 : Int64))]
   refine XS.iloadN X19.here hx rfl (oG hby d23 16 rfl) rfl ?_
   refine XS.i2l X19.here hx rfl (oG hby d23 17 rfl) rfl ?_
   show oZ p e below T19 (mkF m 27 #[oI 0, oI 1, oA b1, oI 10, .unset, .unset, .unset] [(.long ((1 : Int32).toInt64)), (.long 0)]) _
   rw [(by decide +kernel : ((1 : Int32).toInt64) = (1 : Int64))]
   refine X19.ldc2Long hx hown (mvT hZ (oW hw 143 rfl)) (g := (mkF m 27 #[oI 0, oI 1, oA b1, oI 10, .unset, .unset, .unset] [(.long 1), (.long 0)])) rfl (oG hby d23 18 rfl) _ ?_
   refine XS.lmul X19.here hx rfl (oG hby d23 19 rfl) rfl ?_
   show oZ p e below T19 (mkF m 31 #[oI 0, oI 1, oA b1, oI 10, .unset, .unset, .unset] [(.long ((1 : Int64) * (9 : Int64))), (.long 0)]) _
   rw [(by decide +kernel : ((1 : Int64) * (9 : Int64)) = (9 : Int64))]
   refine st21 _ ?_
   refine XS.astoreN X21.here hx rfl (oG hby d23 21 rfl) rfl rfl (l' := #[oI 0, oI 1, oA b1, oA r21_b1, .unset, .unset, .unset]) rfl ?_
   refine XS.bipush X21.here hx rfl (oG hby d23 22 rfl) ?_
   refine XS.istore X21.here hx rfl (oG hby d23 23 rfl) rfl (l' := #[oI 0, oI 1, oA b1, oA r21_b1, oI 9, .unset, .unset]) rfl ?_
   refine st23 _ ?_
   refine st26 _ ?_
   refine st28 _ ?_
   refine st30 _ ?_
   refine st32 _ ?_
   refine st34 _ ?_
   show oZ p e below T34 (mkF m 39 #[oI 0, oI 1, oA b1, oA r21_b1, oI 3, oI 2, oI (([9, 7, 2, 5, 4, 3, 8, 6, 1, 0] : List Int32).getD ((4 : Int32)).toNatClampNeg 0)] []) _
   refine st36 _ ?_
   refine st38 _ ?_
   refine st40 _ ?_
   refine XS.iload X40.here hx rfl (oG hby d23 24 rfl) rfl ?_
   refine XS.ifYes X40.here hx rfl (pc0 := 41) (pc' := 85) rfl (oG hby d23 25 rfl) rfl ((if0 _ _).trans (flt (by decide +kernel : ¬ ((0 : Int32) < (0 : Int32)))).2.2.2) (by decide) (by decide) ?_
   refine XS.aloadN X40.here hx rfl (oG hby d23 51 rfl) rfl rfl ?_
   show oZ p e below T40 (mkF m 86 #[oI 0, oI 1, oA b1, oA r21_b1, oI 0, oI 0, oI (([4, 7, 9, 5, 2, 3, 8, 6, 1, 0] : List Int32).getD ((1 : Int32)).toNatClampNeg 0)] [(.ref b1)]) _
   jvm_step X40.here [X40.here.top, hx, (oG hby d23 52 rfl), X40.method', Bd.returns, Value.isRef, FieldType.isReference]
   first | (intro acts; rw [hr _ acts rfl rfl rfl]) | rw [hr _ _ rfl rfl rfl]
   exact Steps.refl _
 · show Qown_b23_tt_0_1_25 Z  h0 n0 _ T40.heap _
   exact ⟨b1, rfl, N40, K40, sz_b1, f42_b1, Q40_2'⟩
def Qown_b23_tt_0_2_26 (Z : State)  (h0 : Heap) (n0 : Nat) (v : Option Value) (h : Heap) (L : List Loc) : Prop := ∃ b1 : Addr, v = some (.ref b1) ∧ Fr n0 L ∧ Keep h0 h [] ∧ h0.size ≤ b1 ∧ Exa Z h b1 "[I" ∧ own_il Z h b1 (10 : Int32) ([6, 4, 9, 1, 5, 0, 3, 8, 7, 2] : List Int32)
theorem own_b23_tt_0_2_26 (l : Launch) (Z : State) (a0 : Array Value) (hw : oH a0 Z) (ws : List Jvm.Cond)  (h0 : Heap) (n0 : Nat) (Z0 : n0 ≤ h0.size) :
   oMet l oM6 prog_29_method_19_code 7 (some (.array .int)) ws (oR 3 2 11 60) Z h0 #[(.int 0), (.int 2)] (Qown_b23_tt_0_2_26 Z  h0 n0) := by
 refine oBd n0 (plainFor_of_name own_pn4) ?_
 intro p e s m below meth c s₁ Bd hx hZ hby hml hown hnm X0 e0 N0
 obtain ⟨T1, h1, k1, X1, e1, E1, A1, B1, st1⟩ := newPE X0 hx hZ (oW hw 85 rfl) e0 (g := (mkF m 2 #[oI 0, oI 2, .unset, .unset, .unset, .unset, .unset] [(.int 10)])) rfl (oG hby d23 1 rfl) rfl (by decide) (cap := 10) (by decide) (by decide) (by decide) (by decide) (ad := "[I") rfl
 obtain ⟨b1, g1⟩ : ∃ z, z = h0.size := ⟨_, rfl⟩
 rw [← g1] at A1 B1 st1
 have lo_b1 : h0.size ≤ b1 := Nat.le_of_eq g1.symm
 have sz_b1 : h0.size ≤ b1 := Nat.le_trans (Keep.refl h0 []).1 lo_b1
 have g_b1 : n0 ≤ b1 := Nat.le_trans Z0 sz_b1
 have K1 : Keep h0 h1 [] := (Keep.refl h0 []).ext E1
 have V1 : own_il Z h1 b1 (10 : Int32) ([0, 0, 0, 0, 0, 0, 0, 0, 0, 0] : List Int32) := own_il_new (m := 10) A1 (by decide)
 obtain ⟨T2, L2, X2, N2, Kq2, Q2_0, st2⟩ := own_s23_7_f_17 2 11 (0 : Int32) (2 : Int32) b1 (0 : Int32) (10 : Int32) ([0, 0, 0, 0, 0, 0, 0, 0, 0, 0] : List Int32) (1 : Int32) X1 hx hZ hw hby hml hown e1 N0 (Nat.le_trans Z0 K1.1) V1 g_b1 (by decide +kernel) (by decide +kernel) (by decide +kernel) (by decide +kernel) (by decide +kernel) (by decide : 1 + (0) ≤ _) (by decide : 10 + (0) ≤ _)
 have K2 : Keep h0 T2.heap [] := K1.trans Kq2 (own_a1 (Or.inr sz_b1))
 have Q2_0' := own_il_eq Q2_0 (vs' := ([0, 0, 0, 0, 0, 0, 0, 0, 0, 0] : List Int32)) (by decide +kernel)
 have f4_b1 := (B1.keep Kq2)
 obtain ⟨T3, L3, X3, N3, Kq3, Q3_0, st3⟩ := own_s23_7_f_17 2 11 (0 : Int32) (2 : Int32) b1 (1 : Int32) (10 : Int32) ([0, 0, 0, 0, 0, 0, 0, 0, 0, 0] : List Int32) (2 : Int32) X2 hx hZ hw hby hml hown rfl N2 (Nat.le_trans Z0 K2.1) Q2_0' g_b1 (by decide +kernel) (by decide +kernel) (by decide +kernel) (by decide +kernel) (by decide +kernel) (by decide : 1 + (0) ≤ _) (by decide : 10 + (0) ≤ _)
 have K3 : Keep h0 T3.heap [] := K2.trans Kq3 (own_a1 (Or.inr sz_b1))
 have Q3_0' := own_il_eq Q3_0 (vs' := ([0, 1, 0, 0, 0, 0, 0, 0, 0, 0] : List Int32)) (by decide +kernel)
 have f6_b1 := (f4_b1.keep Kq3)
 obtain ⟨T5, L5, X5, N5, Kq5, Q5_0, st5⟩ := own_s23_7_f_17 2 11 (0 : Int32) (2 : Int32) b1 (2 : Int32) (10 : Int32) ([0, 1, 0, 0, 0, 0, 0, 0, 0, 0] : List Int32) (3 : Int32) X3 hx hZ hw hby hml hown rfl N3 (Nat.le_trans Z0 K3.1) Q3_0' g_b1 (by decide +kernel) (by decide +kernel) (by decide +kernel) (by decide +kernel) (by decide +kernel) (by decide : 1 + (0) ≤ _) (by decide : 10 + (0) ≤ _)
 have K5 : Keep h0 T5.heap [] := K3.trans Kq5 (own_a1 (Or.inr sz_b1))
 have Q5_0' := own_il_eq Q5_0 (vs' := ([0, 1, 2, 0, 0, 0, 0, 0, 0, 0] : List Int32)) (by decide +kernel)
 have f8_b1 := (f6_b1.keep Kq5)
 obtain ⟨T7, L7, X7, N7, Kq7, Q7_0, st7⟩ := own_s23_7_f_17 2 11 (0 : Int32) (2 : Int32) b1 (3 : Int32) (10 : Int32) ([0, 1, 2, 0, 0, 0, 0, 0, 0, 0] : List Int32) (4 : Int32) X5 hx hZ hw hby hml hown rfl N5 (Nat.le_trans Z0 K5.1) Q5_0' g_b1 (by decide +kernel) (by decide +kernel) (by decide +kernel) (by decide +kernel) (by decide +kernel) (by decide : 1 + (0) ≤ _) (by decide : 10 + (0) ≤ _)
 have K7 : Keep h0 T7.heap [] := K5.trans Kq7 (own_a1 (Or.inr sz_b1))
 have Q7_0' := own_il_eq Q7_0 (vs' := ([0, 1, 2, 3, 0, 0, 0, 0, 0, 0] : List Int32)) (by decide +kernel)
 have f10_b1 := (f8_b1.keep Kq7)
 obtain ⟨T9, L9, X9, N9, Kq9, Q9_0, st9⟩ := own_s23_7_f_17 2 11 (0 : Int32) (2 : Int32) b1 (4 : Int32) (10 : Int32) ([0, 1, 2, 3, 0, 0, 0, 0, 0, 0] : List Int32) (5 : Int32) X7 hx hZ hw hby hml hown rfl N7 (Nat.le_trans Z0 K7.1) Q7_0' g_b1 (by decide +kernel) (by decide +kernel) (by decide +kernel) (by decide +kernel) (by decide +kernel) (by decide : 1 + (0) ≤ _) (by decide : 10 + (0) ≤ _)
 have K9 : Keep h0 T9.heap [] := K7.trans Kq9 (own_a1 (Or.inr sz_b1))
 have Q9_0' := own_il_eq Q9_0 (vs' := ([0, 1, 2, 3, 4, 0, 0, 0, 0, 0] : List Int32)) (by decide +kernel)
 have f12_b1 := (f10_b1.keep Kq9)
 obtain ⟨T11, L11, X11, N11, Kq11, Q11_0, st11⟩ := own_s23_7_f_17 2 11 (0 : Int32) (2 : Int32) b1 (5 : Int32) (10 : Int32) ([0, 1, 2, 3, 4, 0, 0, 0, 0, 0] : List Int32) (6 : Int32) X9 hx hZ hw hby hml hown rfl N9 (Nat.le_trans Z0 K9.1) Q9_0' g_b1 (by decide +kernel) (by decide +kernel) (by decide +kernel) (by decide +kernel) (by decide +kernel) (by decide : 1 + (0) ≤ _) (by decide : 10 + (0) ≤ _)
 have K11 : Keep h0 T11.heap [] := K9.trans Kq11 (own_a1 (Or.inr sz_b1))
 have Q11_0' := own_il_eq Q11_0 (vs' := ([0, 1, 2, 3, 4, 5, 0, 0, 0, 0] : List Int32)) (by decide +kernel)
 have f14_b1 := (f12_b1.keep Kq11)
 obtain ⟨T13, L13, X13, N13, Kq13, Q13_0, st13⟩ := own_s23_7_f_17 2 11 (0 : Int32) (2 : Int32) b1 (6 : Int32) (10 : Int32) ([0, 1, 2, 3, 4, 5, 0, 0, 0, 0] : List Int32) (7 : Int32) X11 hx hZ hw hby hml hown rfl N11 (Nat.le_trans Z0 K11.1) Q11_0' g_b1 (by decide +kernel) (by decide +kernel) (by decide +kernel) (by decide +kernel) (by decide +kernel) (by decide : 1 + (0) ≤ _) (by decide : 10 + (0) ≤ _)
 have K13 : Keep h0 T13.heap [] := K11.trans Kq13 (own_a1 (Or.inr sz_b1))
 have Q13_0' := own_il_eq Q13_0 (vs' := ([0, 1, 2, 3, 4, 5, 6, 0, 0, 0] : List Int32)) (by decide +kernel)
 have f16_b1 := (f14_b1.keep Kq13)
 obtain ⟨T15, L15, X15, N15, Kq15, Q15_0, st15⟩ := own_s23_7_f_17 2 11 (0 : Int32) (2 : Int32) b1 (7 : Int32) (10 : Int32) ([0, 1, 2, 3, 4, 5, 6, 0, 0, 0] : List Int32) (8 : Int32) X13 hx hZ hw hby hml hown rfl N13 (Nat.le_trans Z0 K13.1) Q13_0' g_b1 (by decide +kernel) (by decide +kernel) (by decide +kernel) (by decide +kernel) (by decide +kernel) (by decide : 1 + (0) ≤ _) (by decide : 10 + (0) ≤ _)
 have K15 : Keep h0 T15.heap [] := K13.trans Kq15 (own_a1 (Or.inr sz_b1))
 have Q15_0' := own_il_eq Q15_0 (vs' := ([0, 1, 2, 3, 4, 5, 6, 7, 0, 0] : List Int32)) (by decide +kernel)
 have f18_b1 := (f16_b1.keep Kq15)
 obtain ⟨T17, L17, X17, N17, Kq17, Q17_0, st17⟩ := own_s23_7_f_17 2 11 (0 : Int32) (2 : Int32) b1 (8 : Int32) (10 : Int32) ([0, 1, 2, 3, 4, 5, 6, 7, 0, 0] : List Int32) (9 : Int32) X15 hx hZ hw hby hml hown rfl N15 (Nat.le_trans Z0 K15.1) Q15_0' g_b1 (by decide +kernel) (by decide +kernel) (by decide +kernel) (by decide +kernel) (by decide +kernel) (by decide : 1 + (0) ≤ _) (by decide : 10 + (0) ≤ _)
 have K17 : Keep h0 T17.heap [] := K15.trans Kq17 (own_a1 (Or.inr sz_b1))
 have Q17_0' := own_il_eq Q17_0 (vs' := ([0, 1, 2, 3, 4, 5, 6, 7, 8, 0] : List Int32)) (by decide +kernel)
 have f20_b1 := (f18_b1.keep Kq17)
 obtain ⟨T19, L19, X19, N19, Kq19, Q19_0, st19⟩ := own_s23_7_f_17 2 11 (0 : Int32) (2 : Int32) b1 (9 : Int32) (10 : Int32) ([0, 1, 2, 3, 4, 5, 6, 7, 8, 0] : List Int32) (10 : Int32) X17 hx hZ hw hby hml hown rfl N17 (Nat.le_trans Z0 K17.1) Q17_0' g_b1 (by decide +kernel) (by decide +kernel) (by decide +kernel) (by decide +kernel) (by decide +kernel) (by decide : 1 + (0) ≤ _) (by decide : 10 + (0) ≤ _)
 have K19 : Keep h0 T19.heap [] := K17.trans Kq19 (own_a1 (Or.inr sz_b1))
 have Q19_0' := own_il_eq Q19_0 (vs' := ([0, 1, 2, 3, 4, 5, 6, 7, 8, 9] : List Int32)) (by decide +kernel)
 obtain ⟨_, _, ⟨T21, L21, k21, n21⟩, -, X21, ⟨Lc21, hQ21, l21, y21, z21⟩, st21⟩ := Jvm.LawKit.callS X19 hx (y := oM4) hown (mvT hZ (oW hw 144 rfl)) (mvT hZ (oW hw 145 rfl)) (mvT hZ (oW hw 146 rfl)) (mvT hZ (oW hw 147 rfl)) (by decide) (backOf (W := 0) (own_b24_x_19 l Z a0 hw [] (0 : Int64) (18 : Int64) T19.heap n0 (Nat.le_trans Z0 K19.1) ) hZ (oW hw 147 rfl) (oW hw 146 rfl) (by decide) (by decide)) (g := (mkF m 31 #[oI 0, oI 2, oA b1, oI 10, .unset, .unset, .unset] [(.long 18), (.long 0)])) rfl (by rw [hml]; rfl) (argsL := [(.long 0), (.long 18)]) (rest := []) (lenOf own_pd5 rfl) rfl (by show 2 * 0 + _ ≤ _; exact Nat.le_of_eq rfl) (oG hby d23 20 rfl) (fun _ _ => ⟨rfl, rfl, (by decide : 1 + 1 ≤ _), (by decide : 10 + 1 ≤ _)⟩)
 dsimp only [Pt.U, Pt.locs, Pt.cells, Pt.slots] at X21 l21 y21 z21 st21 hQ21
 subst l21 y21 z21
 obtain ⟨r21_b1, rfl, N21q, Kq21, lo_r21_b1, Q21_0, Q21_1⟩ := hQ21
 have N21 := Fr.app N19 N21q
 have f22_b1 := (f20_b1.keep Kq19)
 have ne_b1_r21_b1 : b1 ≠ r21_b1 := oV f22_b1.lt lo_r21_b1
 have sz_r21_b1 : h0.size ≤ r21_b1 := Nat.le_trans K19.1 lo_r21_b1
 have g_r21_b1 : n0 ≤ r21_b1 := Nat.le_trans Z0 sz_r21_b1
 have K21 : Keep h0 T21.heap [] := K19.trans Kq21 own_a0
 have f24_b1 := (Q19_0'.keep Kq21 (own_n0 _))
 have f25_b1 := (f22_b1.keep Kq21)
 obtain ⟨T23, L23, X23, N23, Kq23, Q23_0, Q23_1, Q23_2, st23⟩ := own_s23_39_f_22 2 11 (0 : Int32) (2 : Int32) b1 r21_b1 (9 : Int32) ((0 : Int64) + ((18 : Int64) * (-7046029254386353131 : Int64))) (2 : Int32) (10 : Int32) ([0, 1, 2, 3, 4, 5, 6, 7, 8, 9] : List Int32) (8 : Int32) X21 hx hZ hw hby hml hown rfl N21 (Nat.le_trans Z0 K21.1) Q21_1 Q21_0 g_r21_b1 f24_b1 g_b1 (by decide +kernel) (by decide +kernel) (by decide +kernel) (by decide +kernel) ne_b1_r21_b1 (by decide +kernel) (by decide +kernel) (by decide +kernel) (by decide +kernel) (by decide +kernel) (by decide +kernel) (by decide +kernel) (Ne.symm ne_b1_r21_b1) (by decide : 2 + (0) ≤ _) (by decide : 11 + (0) ≤ _)
 have K23 : Keep h0 T23.heap [] := K21.trans Kq23 (own_a2 (Or.inr sz_r21_b1) (Or.inr sz_b1))
 have Q23_2' := own_il_eq Q23_2 (vs' := ([0, 1, 9, 3, 4, 5, 6, 7, 8, 2] : List Int32)) (by decide +kernel)
 have f27_b1 := (f25_b1.keep Kq23)
 obtain ⟨T26, L26, X26, N26, Kq26, Q26_0, Q26_1, Q26_2, st26⟩ := own_s23_39_f_23 2 11 (0 : Int32) (2 : Int32) b1 r21_b1 (8 : Int32) (2 : Int32) (([0, 1, 2, 3, 4, 5, 6, 7, 8, 9] : List Int32).getD ((9 : Int32)).toNatClampNeg 0) (((0 : Int64) + ((18 : Int64) * (-7046029254386353131 : Int64))) + (-7046029254386353131 : Int64)) (7 : Int32) (10 : Int32) ([0, 1, 9, 3, 4, 5, 6, 7, 8, 2] : List Int32) (7 : Int32) X23 hx hZ hw hby hml hown rfl N23 (Nat.le_trans Z0 K23.1) Q23_1 Q23_0 g_r21_b1 Q23_2' g_b1 (by decide +kernel) (by decide +kernel) (by decide +kernel) (by decide +kernel) ne_b1_r21_b1 (by decide +kernel) (by decide +kernel) (by decide +kernel) (by decide +kernel) (by decide +kernel) (by decide +kernel) (by decide +kernel) (Ne.symm ne_b1_r21_b1) (by decide : 2 + (0) ≤ _) (by decide : 11 + (0) ≤ _)
 have K26 : Keep h0 T26.heap [] := K23.trans Kq26 (own_a2 (Or.inr sz_r21_b1) (Or.inr sz_b1))
 have Q26_2' := own_il_eq Q26_2 (vs' := ([0, 1, 9, 3, 4, 5, 6, 8, 7, 2] : List Int32)) (by decide +kernel)
 have f29_b1 := (f27_b1.keep Kq26)
 obtain ⟨T28, L28, X28, N28, Kq28, Q28_0, Q28_1, Q28_2, st28⟩ := own_s23_39_f_23 2 11 (0 : Int32) (2 : Int32) b1 r21_b1 (7 : Int32) (7 : Int32) (([0, 1, 9, 3, 4, 5, 6, 7, 8, 2] : List Int32).getD ((8 : Int32)).toNatClampNeg 0) ((((0 : Int64) + ((18 : Int64) * (-7046029254386353131 : Int64))) + (-7046029254386353131 : Int64)) + (-7046029254386353131 : Int64)) (7 : Int32) (10 : Int32) ([0, 1, 9, 3, 4, 5, 6, 8, 7, 2] : List Int32) (6 : Int32) X26 hx hZ hw hby hml hown rfl N26 (Nat.le_trans Z0 K26.1) Q26_1 Q26_0 g_r21_b1 Q26_2' g_b1 (by decide +kernel) (by decide +kernel) (by decide +kernel) (by decide +kernel) ne_b1_r21_b1 (by decide +kernel) (by decide +kernel) (by decide +kernel) (by decide +kernel) (by decide +kernel) (by decide +kernel) (by decide +kernel) (Ne.symm ne_b1_r21_b1) (by decide : 2 + (0) ≤ _) (by decide : 11 + (0) ≤ _)
 have K28 : Keep h0 T28.heap [] := K26.trans Kq28 (own_a2 (Or.inr sz_r21_b1) (Or.inr sz_b1))
 have Q28_2' := own_il_eq Q28_2 (vs' := ([0, 1, 9, 3, 4, 5, 6, 8, 7, 2] : List Int32)) (by decide +kernel)
 have f31_b1 := (f29_b1.keep Kq28)
 obtain ⟨T30, L30, X30, N30, Kq30, Q30_0, Q30_1, Q30_2, st30⟩ := own_s23_39_f_23 2 11 (0 : Int32) (2 : Int32) b1 r21_b1 (6 : Int32) (7 : Int32) (([0, 1, 9, 3, 4, 5, 6, 8, 7, 2] : List Int32).getD ((7 : Int32)).toNatClampNeg 0) (((((0 : Int64) + ((18 : Int64) * (-7046029254386353131 : Int64))) + (-7046029254386353131 : Int64)) + (-7046029254386353131 : Int64)) + (-7046029254386353131 : Int64)) (3 : Int32) (10 : Int32) ([0, 1, 9, 3, 4, 5, 6, 8, 7, 2] : List Int32) (5 : Int32) X28 hx hZ hw hby hml hown rfl N28 (Nat.le_trans Z0 K28.1) Q28_1 Q28_0 g_r21_b1 Q28_2' g_b1 (by decide +kernel) (by decide +kernel) (by decide +kernel) (by decide +kernel) ne_b1_r21_b1 (by decide +kernel) (by decide +kernel) (by decide +kernel) (by decide +kernel) (by decide +kernel) (by decide +kernel) (by decide +kernel) (Ne.symm ne_b1_r21_b1) (by decide : 2 + (0) ≤ _) (by decide : 11 + (0) ≤ _)
 have K30 : Keep h0 T30.heap [] := K28.trans Kq30 (own_a2 (Or.inr sz_r21_b1) (Or.inr sz_b1))
 have Q30_2' := own_il_eq Q30_2 (vs' := ([0, 1, 9, 6, 4, 5, 3, 8, 7, 2] : List Int32)) (by decide +kernel)
 have f33_b1 := (f31_b1.keep Kq30)
 obtain ⟨T32, L32, X32, N32, Kq32, Q32_0, Q32_1, Q32_2, st32⟩ := own_s23_39_f_23 2 11 (0 : Int32) (2 : Int32) b1 r21_b1 (5 : Int32) (3 : Int32) (([0, 1, 9, 3, 4, 5, 6, 8, 7, 2] : List Int32).getD ((6 : Int32)).toNatClampNeg 0) ((((((0 : Int64) + ((18 : Int64) * (-7046029254386353131 : Int64))) + (-7046029254386353131 : Int64)) + (-7046029254386353131 : Int64)) + (-7046029254386353131 : Int64)) + (-7046029254386353131 : Int64)) (0 : Int32) (10 : Int32) ([0, 1, 9, 6, 4, 5, 3, 8, 7, 2] : List Int32) (4 : Int32) X30 hx hZ hw hby hml hown rfl N30 (Nat.le_trans Z0 K30.1) Q30_1 Q30_0 g_r21_b1 Q30_2' g_b1 (by decide +kernel) (by decide +kernel) (by decide +kernel) (by decide +kernel) ne_b1_r21_b1 (by decide +kernel) (by decide +kernel) (by decide +kernel) (by decide +kernel) (by decide +kernel) (by decide +kernel) (by decide +kernel) (Ne.symm ne_b1_r21_b1) (by decide : 2 + (0) ≤ _) (by decide : 11 + (0) ≤ _)
 have K32 : Keep h0 T32.heap [] := K30.trans Kq32 (own_a2 (Or.inr sz_r21_b1) (Or.inr sz_b1))
 have Q32_2' := own_il_eq Q32_2 (vs' := ([5, 1, 9, 6, 4, 0, 3, 8, 7, 2] : List Int32)) (by decide +kernel)
 have f35_b1 := (f33_b1.keep Kq32)
 obtain ⟨T34, L34, X34, N34, Kq34, Q34_0, Q34_1, Q34_2, st34⟩ := own_s23_39_f_23 2 11 (0 : Int32) (2 : Int32) b1 r21_b1 (4 : Int32) (0 : Int32) (([0, 1, 9, 6, 4, 5, 3, 8, 7, 2] : List Int32).getD ((5 : Int32)).toNatClampNeg 0) (((((((0 : Int64) + ((18 : Int64) * (-7046029254386353131 : Int64))) + (-7046029254386353131 : Int64)) + (-7046029254386353131 : Int64)) + (-7046029254386353131 : Int64)) + (-7046029254386353131 : Int64)) + (-7046029254386353131 : Int64)) (0 : Int32) (10 : Int32) ([5, 1, 9, 6, 4, 0, 3, 8, 7, 2] : List Int32) (3 : Int32) X32 hx hZ hw hby hml hown rfl N32 (Nat.le_trans Z0 K32.1) Q32_1 Q32_0 g_r21_b1 Q32_2' g_b1 (by decide +kernel) (by decide +kernel) (by decide +kernel) (by decide +kernel) ne_b1_r21_b1 (by decide +kernel) (by decide +kernel) (by decide +kernel) (by decide +kernel) (by decide +kernel) (by decide +kernel) (by decide +kernel) (Ne.symm ne_b1_r21_b1) (by decide : 2 + (0) ≤ _) (by decide : 11 + (0) ≤ _)
 have K34 : Keep h0 T34.heap [] := K32.trans Kq34 (own_a2 (Or.inr sz_r21_b1) (Or.inr sz_b1))
 have Q34_2' := own_il_eq Q34_2 (vs' := ([4, 1, 9, 6, 5, 0, 3, 8, 7, 2] : List Int32)) (by decide +kernel)
 have f37_b1 := (f35_b1.keep Kq34)
 obtain ⟨T36, L36, X36, N36, Kq36, Q36_0, Q36_1, Q36_2, st36⟩ := own_s23_39_f_23 2 11 (0 : Int32) (2 : Int32) b1 r21_b1 (3 : Int32) (0 : Int32) (([5, 1, 9, 6, 4, 0, 3, 8, 7, 2] : List Int32).getD ((4 : Int32)).toNatClampNeg 0) ((((((((0 : Int64) + ((18 : Int64) * (-7046029254386353131 : Int64))) + (-7046029254386353131 : Int64)) + (-7046029254386353131 : Int64)) + (-7046029254386353131 : Int64)) + (-7046029254386353131 : Int64)) + (-7046029254386353131 : Int64)) + (-7046029254386353131 : Int64)) (1 : Int32) (10 : Int32) ([4, 1, 9, 6, 5, 0, 3, 8, 7, 2] : List Int32) (2 : Int32) X34 hx hZ hw hby hml hown rfl N34 (Nat.le_trans Z0 K34.1) Q34_1 Q34_0 g_r21_b1 Q34_2' g_b1 (by decide +kernel) (by decide +kernel) (by decide +kernel) (by decide +kernel) ne_b1_r21_b1 (by decide +kernel) (by decide +kernel) (by decide +kernel) (by decide +kernel) (by decide +kernel) (by decide +kernel) (by decide +kernel) (Ne.symm ne_b1_r21_b1) (by decide : 2 + (0) ≤ _) (by decide : 11 + (0) ≤ _)
 have K36 : Keep h0 T36.heap [] := K34.trans Kq36 (own_a2 (Or.inr sz_r21_b1) (Or.inr sz_b1))
 have Q36_2' := own_il_eq Q36_2 (vs' := ([4, 6, 9, 1, 5, 0, 3, 8, 7, 2] : List Int32)) (by decide +kernel)
 have f39_b1 := (f37_b1.keep Kq36)
 obtain ⟨T38, L38, X38, N38, Kq38, Q38_0, Q38_1, Q38_2, st38⟩ := own_s23_39_f_23 2 11 (0 : Int32) (2 : Int32) b1 r21_b1 (2 : Int32) (1 : Int32) (([4, 1, 9, 6, 5, 0, 3, 8, 7, 2] : List Int32).getD ((3 : Int32)).toNatClampNeg 0) (((((((((0 : Int64) + ((18 : Int64) * (-7046029254386353131 : Int64))) + (-7046029254386353131 : Int64)) + (-7046029254386353131 : Int64)) + (-7046029254386353131 : Int64)) + (-7046029254386353131 : Int64)) + (-7046029254386353131 : Int64)) + (-7046029254386353131 : Int64)) + (-7046029254386353131 : Int64)) (2 : Int32) (10 : Int32) ([4, 6, 9, 1, 5, 0, 3, 8, 7, 2] : List Int32) (1 : Int32) X36 hx hZ hw hby hml hown rfl N36 (Nat.le_trans Z0 K36.1) Q36_1 Q36_0 g_r21_b1 Q36_2' g_b1 (by decide +kernel) (by decide +kernel) (by decide +kernel) (by decide +kernel) ne_b1_r21_b1 (by decide +kernel) (by decide +kernel) (by decide +kernel) (by decide +kernel) (by decide +kernel) (by decide +kernel) (by decide +kernel) (Ne.symm ne_b1_r21_b1) (by decide : 2 + (0) ≤ _) (by decide : 11 + (0) ≤ _)
 have K38 : Keep h0 T38.heap [] := K36.trans Kq38 (own_a2 (Or.inr sz_r21_b1) (Or.inr sz_b1))
 have Q38_2' := own_il_eq Q38_2 (vs' := ([4, 6, 9, 1, 5, 0, 3, 8, 7, 2] : List Int32)) (by decide +kernel)
 have f41_b1 := (f39_b1.keep Kq38)
 obtain ⟨T40, L40, X40, N40, Kq40, Q40_0, Q40_1, Q40_2, st40⟩ := own_s23_39_f_23 2 11 (0 : Int32) (2 : Int32) b1 r21_b1 (1 : Int32) (2 : Int32) (([4, 6, 9, 1, 5, 0, 3, 8, 7, 2] : List Int32).getD ((2 : Int32)).toNatClampNeg 0) ((((((((((0 : Int64) + ((18 : Int64) * (-7046029254386353131 : Int64))) + (-7046029254386353131 : Int64)) + (-7046029254386353131 : Int64)) + (-7046029254386353131 : Int64)) + (-7046029254386353131 : Int64)) + (-7046029254386353131 : Int64)) + (-7046029254386353131 : Int64)) + (-7046029254386353131 : Int64)) + (-7046029254386353131 : Int64)) (0 : Int32) (10 : Int32) ([4, 6, 9, 1, 5, 0, 3, 8, 7, 2] : List Int32) (0 : Int32) X38 hx hZ hw hby hml hown rfl N38 (Nat.le_trans Z0 K38.1) Q38_1 Q38_0 g_r21_b1 Q38_2' g_b1 (by decide +kernel) (by decide +kernel) (by decide +kernel) (by decide +kernel) ne_b1_r21_b1 (by decide +kernel) (by decide +kernel) (by decide +kernel) (by decide +kernel) (by decide +kernel) (by decide +kernel) (by decide +kernel) (Ne.symm ne_b1_r21_b1) (by decide : 2 + (0) ≤ _) (by decide : 11 + (0) ≤ _)
 have K40 : Keep h0 T40.heap [] := K38.trans Kq40 (own_a2 (Or.inr sz_r21_b1) (Or.inr sz_b1))
 have Q40_2' := own_il_eq Q40_2 (vs' := ([6, 4, 9, 1, 5, 0, 3, 8, 7, 2] : List Int32)) (by decide +kernel)
 have f42_b1 := (f41_b1.keep Kq40)
 obtain ⟨fs, hr, hrun, hended, hW, hsame⟩ := X40.leave (v := some (.ref b1)) (fun h => by rw [Bd.returns] at h; cases h)
 refine ⟨_, _, castTop (own_ef11 m (0 : Int32) (2 : Int32)) ?_, hrun, hended, _, _, rfl, ?_, ⟨_, rfl⟩, hW, (hsame.mono (by decide) (by decide))⟩
 · show oZ p e below s₁ (mkF m 0 #[oI 0, oI 2, .unset, .unset, .unset, .unset, .unset] []) _
   refine XS.bipush X0.here hx rfl (oG hby d23 0 rfl) ?_
   refine st1 _ ?_
   refine XS.astoreN X1.here hx rfl (oG hby d23 2 rfl) rfl rfl (l' := #[oI 0, oI 2, oA b1, .unset, .unset, .unset, .unset]) rfl ?_
   refine XS.iconst X1.here hx rfl (oG hby d23 3 rfl) ?_
   refine XS.istoreN X1.here hx rfl (oG hby d23 4 rfl) rfl (l' := #[oI 0, oI 2, oA b1, oI 0, .unset, .unset, .unset]) rfl ?_
   refine st2 _ ?_
   refine st3 _ ?_
   refine st5 _ ?_
   refine st7 _ ?_
   refine st9 _ ?_
   refine st11 _ ?_
   show oZ p e below T11 (mkF m 7 #[oI 0, oI 2, oA b1, oI 6, .unset, .unset, .unset] []) _
   refine st13 _ ?_
   refine st15 _ ?_
   refine st17 _ ?_
   refine st19 _ ?_
   refine XS.iloadN X19.here hx rfl (oG hby d23 5 rfl) rfl ?_
   refine XS.bipush X19.here hx rfl (oG hby d23 6 rfl) ?_
   refine XS.icmpYes X19.here hx rfl (pc0 := 10) (pc' := 23) rfl (oG hby d23 7 rfl) rfl (flt (by decide +kernel : ¬ ((10 : Int32) < (10 : Int32)))).2.1 (by decide) (by decide) ?_
   refine XS.iloadN X19.here hx rfl (oG hby d23 14 rfl) rfl ?_
   refine XS.i2l X19.here hx rfl (oG hby d23 15 rfl) rfl ?_
   show oZ p e below T19 (mkF m 25 #[oI 0, oI 2, oA b1, oI 10, .unset, .unset, .unset] [(.long ((0 : Int32).toInt64))]) _
   rw [(by decide +kernel : ((0 : Int32).toInt64) = (0 : Int64))]
   refine XS.iloadN X19.here hx rfl (oG hby d23 16 rfl) rfl ?_
   refine XS.i2l X19.here hx rfl (oG hby d23 17 rfl) rfl ?_
   show oZ p e below T19 (mkF m 27 #[oI 0, oI 2, oA b1, oI 10, .unset, .unset, .unset] [(.long ((2 : Int32).toInt64)), (.long 0)]) _
   rw [(by decide +kernel : ((2 : Int32).toInt64) = (2 : Int64))]
   refine X19.ldc2Long hx hown (mvT hZ (oW hw 143 rfl)) (g := (mkF m 27 #[oI 0, oI 2, oA b1, oI 10, .unset, .unset, .unset] [(.long 2), (.long 0)])) rfl (oG hby d23 18 rfl) _ ?_
   refine XS.lmul X19.here hx rfl (oG hby d23 19 rfl) rfl ?_
   show oZ p e below T19 (mkF m 31 #[oI 0, oI 2, oA b1, oI 10, .unset, .unset, .unset] [(.long ((2 : Int64) * (9 : Int64))), (.long 0)]) _
   rw [(by decide +kernel : ((2 : Int64) * (9 : Int64)) = (18 : Int64))]
   refine st21 _ ?_
   refine XS.astoreN X21.here hx rfl (oG hby d23 21 rfl) rfl rfl (l' := #[oI 0, oI 2, oA b1, oA r21_b1, .unset, .unset, .unset]) rfl ?_
   refine XS.bipush X21.here hx rfl (oG hby d23 22 rfl) ?_
   refine XS.istore X21.here hx rfl (oG hby d23 23 rfl) rfl (l' := #[oI 0, oI 2, oA b1, oA r21_b1, oI 9, .unset, .unset]) rfl ?_
   refine st23 _ ?_
   refine st26 _ ?_
   refine st28 _ ?_
   refine st30 _ ?_
   refine st32 _ ?_
   refine st34 _ ?_
   show oZ p e below T34 (mkF m 39 #[oI 0, oI 2, oA b1, oA r21_b1, oI 3, oI 0, oI (([5, 1, 9, 6, 4, 0, 3, 8, 7, 2] : List Int32).getD ((4 : Int32)).toNatClampNeg 0)] []) _
   refine st36 _ ?_
   refine st38 _ ?_
   refine st40 _ ?_
   refine XS.iload X40.here hx rfl (oG hby d23 24 rfl) rfl ?_
   refine XS.ifYes X40.here hx rfl (pc0 := 41) (pc' := 85) rfl (oG hby d23 25 rfl) rfl ((if0 _ _).trans (flt (by decide +kernel : ¬ ((0 : Int32) < (0 : Int32)))).2.2.2) (by decide) (by decide) ?_
   refine XS.aloadN X40.here hx rfl (oG hby d23 51 rfl) rfl rfl ?_
   show oZ p e below T40 (mkF m 86 #[oI 0, oI 2, oA b1, oA r21_b1, oI 0, oI 0, oI (([4, 6, 9, 1, 5, 0, 3, 8, 7, 2] : List Int32).getD ((1 : Int32)).toNatClampNeg 0)] [(.ref b1)]) _
   jvm_step X40.here [X40.here.top, hx, (oG hby d23 52 rfl), X40.method', Bd.returns, Value.isRef, FieldType.isReference]
   first | (intro acts; rw [hr _ acts rfl rfl rfl]) | rw [hr _ _ rfl rfl rfl]
   exact Steps.refl _
 · show Qown_b23_tt_0_2_26 Z  h0 n0 _ T40.heap _
   exact ⟨b1, rfl, N40, K40, sz_b1, f42_b1, Q40_2'⟩
def Qown_b23_tt_0_3_27 (Z : State)  (h0 : Heap) (n0 : Nat) (v : Option Value) (h : Heap) (L : List Loc) : Prop := ∃ b1 : Addr, v = some (.ref b1) ∧ Fr n0 L ∧ Keep h0 h [] ∧ h0.size ≤ b1 ∧ Exa Z h b1 "[I" ∧ own_il Z h b1 (10 : Int32) ([0, 8, 3, 1, 6, 5, 4, 9, 7, 2] : List Int32)
theorem own_b23_tt_0_3_27 (l : Launch) (Z : State) (a0 : Array Value) (hw : oH a0 Z) (ws : List Jvm.Cond)  (h0 : Heap) (n0 : Nat) (Z0 : n0 ≤ h0.size) :
   oMet l oM6 prog_29_method_19_code 7 (some (.array .int)) ws (oR 3 2 11 60) Z h0 #[(.int 0), (.int 3)] (Qown_b23_tt_0_3_27 Z  h0 n0) := by
 refine oBd n0 (plainFor_of_name own_pn4) ?_
 intro p e s m below meth c s₁ Bd hx hZ hby hml hown hnm X0 e0 N0
 obtain ⟨T1, h1, k1, X1, e1, E1, A1, B1, st1⟩ := newPE X0 hx hZ (oW hw 85 rfl) e0 (g := (mkF m 2 #[oI 0, oI 3, .unset, .unset, .unset, .unset, .unset] [(.int 10)])) rfl (oG hby d23 1 rfl) rfl (by decide) (cap := 10) (by decide) (by decide) (by decide) (by decide) (ad := "[I") rfl
 obtain ⟨b1, g1⟩ : ∃ z, z = h0.size := ⟨_, rfl⟩
 rw [← g1] at A1 B1 st1
 have lo_b1 : h0.size ≤ b1 := Nat.le_of_eq g1.symm
 have sz_b1 : h0.size ≤ b1 := Nat.le_trans (Keep.refl h0 []).1 lo_b1
 have g_b1 : n0 ≤ b1 := Nat.le_trans Z0 sz_b1
 have K1 : Keep h0 h1 [] := (Keep.refl h0 []).ext E1
 have V1 : own_il Z h1 b1 (10 : Int32) ([0, 0, 0, 0, 0, 0, 0, 0, 0, 0] : List Int32) := own_il_new (m := 10) A1 (by decide)
 obtain ⟨T2, L2, X2, N2, Kq2, Q2_0, st2⟩ := own_s23_7_f_17 2 11 (0 : Int32) (3 : Int32) b1 (0 : Int32) (10 : Int32) ([0, 0, 0, 0, 0, 0, 0, 0, 0, 0] : List Int32) (1 : Int32) X1 hx hZ hw hby hml hown e1 N0 (Nat.le_trans Z0 K1.1) V1 g_b1 (by decide +kernel) (by decide +kernel) (by decide +kernel) (by decide +kernel) (by decide +kernel) (by decide : 1 + (0) ≤ _) (by decide : 10 + (0) ≤ _)
 have K2 : Keep h0 T2.heap [] := K1.trans Kq2 (own_a1 (Or.inr sz_b1))
 have Q2_0' := own_il_eq Q2_0 (vs' := ([0, 0, 0, 0, 0, 0, 0, 0, 0, 0] : List Int32)) (by decide +kernel)
 have f4_b1 := (B1.keep Kq2)
 obtain ⟨T3, L3, X3, N3, Kq3, Q3_0, st3⟩ := own_s23_7_f_17 2 11 (0 : Int32) (3 : Int32) b1 (1 : Int32) (10 : Int32) ([0, 0, 0, 0, 0, 0, 0, 0, 0, 0] : List Int32) (2 : Int32) X2 hx hZ hw hby hml hown rfl N2 (Nat.le_trans Z0 K2.1) Q2_0' g_b1 (by decide +kernel) (by decide +kernel) (by decide +kernel) (by decide +kernel) (by decide +kernel) (by decide : 1 + (0) ≤ _) (by decide : 10 + (0) ≤ _)
 have K3 : Keep h0 T3.heap [] := K2.trans Kq3 (own_a1 (Or.inr sz_b1))
 have Q3_0' := own_il_eq Q3_0 (vs' := ([0, 1, 0, 0, 0, 0, 0, 0, 0, 0] : List Int32)) (by decide +kernel)
 have f6_b1 := (f4_b1.keep Kq3)
 obtain ⟨T5, L5, X5, N5, Kq5, Q5_0, st5⟩ := own_s23_7_f_17 2 11 (0 : Int32) (3 : Int32) b1 (2 : Int32) (10 : Int32) ([0, 1, 0, 0, 0, 0, 0, 0, 0, 0] : List Int32) (3 : Int32) X3 hx hZ hw hby hml hown rfl N3 (Nat.le_trans Z0 K3.1) Q3_0' g_b1 (by decide +kernel) (by decide +kernel) (by decide +kernel) (by decide +kernel) (by decide +kernel) (by decide : 1 + (0) ≤ _) (by decide : 10 + (0) ≤ _)
 have K5 : Keep h0 T5.heap [] := K3.trans Kq5 (own_a1 (Or.inr sz_b1))
 have Q5_0' := own_il_eq Q5_0 (vs' := ([0, 1, 2, 0, 0, 0, 0, 0, 0, 0] : List Int32)) (by decide +kernel)
 have f8_b1 := (f6_b1.keep Kq5)
 obtain ⟨T7, L7, X7, N7, Kq7, Q7_0, st7⟩ := own_s23_7_f_17 2 11 (0 : Int32) (3 : Int32) b1 (3 : Int32) (10 : Int32) ([0, 1, 2, 0, 0, 0, 0, 0, 0, 0] : List Int32) (4 : Int32) X5 hx hZ hw hby hml hown rfl N5 (Nat.le_trans Z0 K5.1) Q5_0' g_b1 (by decide +kernel) (by decide +kernel) (by decide +kernel) (by decide +kernel) (by decide +kernel) (by decide : 1 + (0) ≤ _) (by decide : 10 + (0) ≤ _)
 have K7 : Keep h0 T7.heap [] := K5.trans Kq7 (own_a1 (Or.inr sz_b1))
 have Q7_0' := own_il_eq Q7_0 (vs' := ([0, 1, 2, 3, 0, 0, 0, 0, 0, 0] : List Int32)) (by decide +kernel)
 have f10_b1 := (f8_b1.keep Kq7)
 obtain ⟨T9, L9, X9, N9, Kq9, Q9_0, st9⟩ := own_s23_7_f_17 2 11 (0 : Int32) (3 : Int32) b1 (4 : Int32) (10 : Int32) ([0, 1, 2, 3, 0, 0, 0, 0, 0, 0] : List Int32) (5 : Int32) X7 hx hZ hw hby hml hown rfl N7 (Nat.le_trans Z0 K7.1) Q7_0' g_b1 (by decide +kernel) (by decide +kernel) (by decide +kernel) (by decide +kernel) (by decide +kernel) (by decide : 1 + (0) ≤ _) (by decide : 10 + (0) ≤ _)
 have K9 : Keep h0 T9.heap [] := K7.trans Kq9 (own_a1 (Or.inr sz_b1))
 have Q9_0' := own_il_eq Q9_0 (vs' := ([0, 1, 2, 3, 4, 0, 0, 0, 0, 0] : List Int32)) (by decide +kernel)
 have f12_b1 := (f10_b1.keep Kq9)
 obtain ⟨T11, L11, X11, N11, Kq11, Q11_0, st11⟩ := own_s23_7_f_17 2 11 (0 : Int32) (3 : Int32) b1 (5 : Int32) (10 : Int32) ([0, 1, 2, 3, 4, 0, 0, 0, 0, 0] : List Int32) (6 : Int32) X9 hx hZ hw hby hml hown rfl N9 (Nat.le_trans Z0 K9.1) Q9_0' g_b1 (by decide +kernel) (by decide +kernel) (by decide +kernel) (by decide +kernel) (by decide +kernel) (by decide : 1 + (0) ≤ _) (by decide : 10 + (0) ≤ _)
 have K11 : Keep h0 T11.heap [] := K9.trans Kq11 (own_a1 (Or.inr sz_b1))
 have Q11_0' := own_il_eq Q11_0 (vs' := ([0, 1, 2, 3, 4, 5, 0, 0, 0, 0] : List Int32)) (by decide +kernel)
 have f14_b1 := (f12_b1.keep Kq11)
 obtain ⟨T13, L13, X13, N13, Kq13, Q13_0, st13⟩ := own_s23_7_f_17 2 11 (0 : Int32) (3 : Int32) b1 (6 : Int32) (10 : Int32) ([0, 1, 2, 3, 4, 5, 0, 0, 0, 0] : List Int32) (7 : Int32) X11 hx hZ hw hby hml hown rfl N11 (Nat.le_trans Z0 K11.1) Q11_0' g_b1 (by decide +kernel) (by decide +kernel) (by decide +kernel) (by decide +kernel) (by decide +kernel) (by decide : 1 + (0) ≤ _) (by decide : 10 + (0) ≤ _)
 have K13 : Keep h0 T13.heap [] := K11.trans Kq13 (own_a1 (Or.inr sz_b1))
 have Q13_0' := own_il_eq Q13_0 (vs' := ([0, 1, 2, 3, 4, 5, 6, 0, 0, 0] : List Int32)) (by decide +kernel)
 have f16_b1 := (f14_b1.keep Kq13)
 obtain ⟨T15, L15, X15, N15, Kq15, Q15_0, st15⟩ := own_s23_7_f_17 2 11 (0 : Int32) (3 : Int32) b1 (7 : Int32) (10 : Int32) ([0, 1, 2, 3, 4, 5, 6, 0, 0, 0] : List Int32) (8 : Int32) X13 hx hZ hw hby hml hown rfl N13 (Nat.le_trans Z0 K13.1) Q13_0' g_b1 (by decide +kernel) (by decide +kernel) (by decide +kernel) (by decide +kernel) (by decide +kernel) (by decide : 1 + (0) ≤ _) (by decide : 10 + (0) ≤ _)
 have K15 : Keep h0 T15.heap [] := K13.trans Kq15 (own_a1 (Or.inr sz_b1))
 have Q15_0' := own_il_eq Q15_0 (vs' := ([0, 1, 2, 3, 4, 5, 6, 7, 0, 0] : List Int32)) (by decide +kernel)
 have f18_b1 := (f16_b1.keep Kq15)
 obtain ⟨T17, L17, X17, N17, Kq17, Q17_0, st17⟩ := own_s23_7_f_17 2 11 (0 : Int32) (3 : Int32) b1 (8 : Int32) (10 : Int32) ([0, 1, 2, 3, 4, 5, 6, 7, 0, 0] : List Int32) (9 : Int32) X15 hx hZ hw hby hml hown rfl N15 (Nat.le_trans Z0 K15.1) Q15_0' g_b1 (by decide +kernel) (by decide +kernel) (by decide +kernel) (by decide +kernel) (by decide +kernel) (by decide : 1 + (0) ≤ _) (by decide : 10 + (0) ≤ _)
 have K17 : Keep h0 T17.heap [] := K15.trans Kq17 (own_a1 (Or.inr sz_b1))
 have Q17_0' := own_il_eq Q17_0 (vs' := ([0, 1, 2, 3, 4, 5, 6, 7, 8, 0] : List Int32)) (by decide +kernel)
 have f20_b1 := (f18_b1.keep Kq17)
 obtain ⟨T19, L19, X19, N19, Kq19, Q19_0, st19⟩ := own_s23_7_f_17 2 11 (0 : Int32) (3 : Int32) b1 (9 : Int32) (10 : Int32) ([0, 1, 2, 3, 4, 5, 6, 7, 8, 0] : List Int32) (10 : Int32) X17 hx hZ hw hby hml hown rfl N17 (Nat.le_trans Z0 K17.1) Q17_0' g_b1 (by decide +kernel) (by decide +kernel) (by decide +kernel) (by decide +kernel) (by decide +kernel) (by decide : 1 + (0) ≤ _) (by decide : 10 + (0) ≤ _)
 have K19 : Keep h0 T19.heap [] := K17.trans Kq19 (own_a1 (Or.inr sz_b1))
 have Q19_0' := own_il_eq Q19_0 (vs' := ([0, 1, 2, 3, 4, 5, 6, 7, 8, 9] : List Int32)) (by decide +kernel)
 obtain ⟨_, _, ⟨T21, L21, k21, n21⟩, -, X21, ⟨Lc21, hQ21, l21, y21, z21⟩, st21⟩ := Jvm.LawKit.callS X19 hx (y := oM4) hown (mvT hZ (oW hw 144 rfl)) (mvT hZ (oW hw 145 rfl)) (mvT hZ (oW hw 146 rfl)) (mvT hZ (oW hw 147 rfl)) (by decide) (backOf (W := 0) (own_b24_x_19 l Z a0 hw [] (0 : Int64) (27 : Int64) T19.heap n0 (Nat.le_trans Z0 K19.1) ) hZ (oW hw 147 rfl) (oW hw 146 rfl) (by decide) (by decide)) (g := (mkF m 31 #[oI 0, oI 3, oA b1, oI 10, .unset, .unset, .unset] [(.long 27), (.long 0)])) rfl (by rw [hml]; rfl) (argsL := [(.long 0), (.long 27)]) (rest := []) (lenOf own_pd5 rfl) rfl (by show 2 * 0 + _ ≤ _; exact Nat.le_of_eq rfl) (oG hby d23 20 rfl) (fun _ _ => ⟨rfl, rfl, (by decide : 1 + 1 ≤ _), (by decide : 10 + 1 ≤ _)⟩)
 dsimp only [Pt.U, Pt.locs, Pt.cells, Pt.slots] at X21 l21 y21 z21 st21 hQ21
 subst l21 y21 z21
 obtain ⟨r21_b1, rfl, N21q, Kq21, lo_r21_b1, Q21_0, Q21_1⟩ := hQ21
 have N21 := Fr.app N19 N21q
 have f22_b1 := (f20_b1.keep Kq19)
 have ne_b1_r21_b1 : b1 ≠ r21_b1 := oV f22_b1.lt lo_r21_b1
 have sz_r21_b1 : h0.size ≤ r21_b1 := Nat.le_trans K19.1 lo_r21_b1
 have g_r21_b1 : n0 ≤ r21_b1 := Nat.le_trans Z0 sz_r21_b1
 have K21 : Keep h0 T21.heap [] := K19.trans Kq21 own_a0
 have f24_b1 := (Q19_0'.keep Kq21 (own_n0 _))
 have f25_b1 := (f22_b1.keep Kq21)
 obtain ⟨T23, L23, X23, N23, Kq23, Q23_0, Q23_1, Q23_2, st23⟩ := own_s23_39_f_22 2 11 (0 : Int32) (3 : Int32) b1 r21_b1 (9 : Int32) ((0 : Int64) + ((27 : Int64) * (-7046029254386353131 : Int64))) (2 : Int32) (10 : Int32) ([0, 1, 2, 3, 4, 5, 6, 7, 8, 9] : List Int32) (8 : Int32) X21 hx hZ hw hby hml hown rfl N21 (Nat.le_trans Z0 K21.1) Q21_1 Q21_0 g_r21_b1 f24_b1 g_b1 (by decide +kernel) (by decide +kernel) (by decide +kernel) (by decide +kernel) ne_b1_r21_b1 (by decide +kernel) (by decide +kernel) (by decide +kernel) (by decide +kernel) (by decide +kernel) (by decide +kernel) (by decide +kernel) (Ne.symm ne_b1_r21_b1) (by decide : 2 + (0) ≤ _) (by decide : 11 + (0) ≤ _)
 have K23 : Keep h0 T23.heap [] := K21.trans Kq23 (own_a2 (Or.inr sz_r21_b1) (Or.inr sz_b1))
 have Q23_2' := own_il_eq Q23_2 (vs' := ([0, 1, 9, 3, 4, 5, 6, 7, 8, 2] : List Int32)) (by decide +kernel)
 have f27_b1 := (f25_b1.keep Kq23)
 obtain ⟨T26, L26, X26, N26, Kq26, Q26_0, Q26_1, Q26_2, st26⟩ := own_s23_39_f_23 2 11 (0 : Int32) (3 : Int32) b1 r21_b1 (8 : Int32) (2 : Int32) (([0, 1, 2, 3, 4, 5, 6, 7, 8, 9] : List Int32).getD ((9 : Int32)).toNatClampNeg 0) (((0 : Int64) + ((27 : Int64) * (-7046029254386353131 : Int64))) + (-7046029254386353131 : Int64)) (7 : Int32) (10 : Int32) ([0, 1, 9, 3, 4, 5, 6, 7, 8, 2] : List Int32) (7 : Int32) X23 hx hZ hw hby hml hown rfl N23 (Nat.le_trans Z0 K23.1) Q23_1 Q23_0 g_r21_b1 Q23_2' g_b1 (by decide +kernel) (by decide +kernel) (by decide +kernel) (by decide +kernel) ne_b1_r21_b1 (by decide +kernel) (by decide +kernel) (by decide +kernel) (by decide +kernel) (by decide +kernel) (by decide +kernel) (by decide +kernel) (Ne.symm ne_b1_r21_b1) (by decide : 2 + (0) ≤ _) (by decide : 11 + (0) ≤ _)
 have K26 : Keep h0 T26.heap [] := K23.trans Kq26 (own_a2 (Or.inr sz_r21_b1) (Or.inr sz_b1))
 have Q26_2' := own_il_eq Q26_2 (vs' := ([0, 1, 9, 3, 4, 5, 6, 8, 7, 2] : List Int32)) (by decide +kernel)
 have f29_b1 := (f27_b1.keep Kq26)
 obtain ⟨T28, L28, X28, N28, Kq28, Q28_0, Q28_1, Q28_2, st28⟩ := own_s23_39_f_23 2 11 (0 : Int32) (3 : Int32) b1 r21_b1 (7 : Int32) (7 : Int32) (([0, 1, 9, 3, 4, 5, 6, 7, 8, 2] : List Int32).getD ((8 : Int32)).toNatClampNeg 0) ((((0 : Int64) + ((27 : Int64) * (-7046029254386353131 : Int64))) + (-7046029254386353131 : Int64)) + (-7046029254386353131 : Int64)) (2 : Int32) (10 : Int32) ([0, 1, 9, 3, 4, 5, 6, 8, 7, 2] : List Int32) (6 : Int32) X26 hx hZ hw hby hml hown rfl N26 (Nat.le_trans Z0 K26.1) Q26_1 Q26_0 g_r21_b1 Q26_2' g_b1 (by decide +kernel) (by decide +kernel) (by decide +kernel) (by decide +kernel) ne_b1_r21_b1 (by decide +kernel) (by decide +kernel) (by decide +kernel) (by decide +kernel) (by decide +kernel) (by decide +kernel) (by decide +kernel) (Ne.symm ne_b1_r21_b1) (by decide : 2 + (0) ≤ _) (by decide : 11 + (0) ≤ _)
 have K28 : Keep h0 T28.heap [] := K26.trans Kq28 (own_a2 (Or.inr sz_r21_b1) (Or.inr sz_b1))
 have Q28_2' := own_il_eq Q28_2 (vs' := ([0, 1, 8, 3, 4, 5, 6, 9, 7, 2] : List Int32)) (by decide +kernel)
 have f31_b1 := (f29_b1.keep Kq28)
 obtain ⟨T30, L30, X30, N30, Kq30, Q30_0, Q30_1, Q30_2, st30⟩ := own_s23_39_f_23 2 11 (0 : Int32) (3 : Int32) b1 r21_b1 (6 : Int32) (2 : Int32) (([0, 1, 9, 3, 4, 5, 6, 8, 7, 2] : List Int32).getD ((7 : Int32)).toNatClampNeg 0) (((((0 : Int64) + ((27 : Int64) * (-7046029254386353131 : Int64))) + (-7046029254386353131 : Int64)) + (-7046029254386353131 : Int64)) + (-7046029254386353131 : Int64)) (4 : Int32) (10 : Int32) ([0, 1, 8, 3, 4, 5, 6, 9, 7, 2] : List Int32) (5 : Int32) X28 hx hZ hw hby hml hown rfl N28 (Nat.le_trans Z0 K28.1) Q28_1 Q28_0 g_r21_b1 Q28_2' g_b1 (by decide +kernel) (by decide +kernel) (by decide +kernel) (by decide +kernel) ne_b1_r21_b1 (by decide +kernel) (by decide +kernel) (by decide +kernel) (by decide +kernel) (by decide +kernel) (by decide +kernel) (by decide +kernel) (Ne.symm ne_b1_r21_b1) (by decide : 2 + (0) ≤ _) (by decide : 11 + (0) ≤ _)
 have K30 : Keep h0 T30.heap [] := K28.trans Kq30 (own_a2 (Or.inr sz_r21_b1) (Or.inr sz_b1))
 have Q30_2' := own_il_eq Q30_2 (vs' := ([0, 1, 8, 3, 6, 5, 4, 9, 7, 2] : List Int32)) (by decide +kernel)
 have f33_b1 := (f31_b1.keep Kq30)
 obtain ⟨T32, L32, X32, N32, Kq32, Q32_0, Q32_1, Q32_2, st32⟩ := own_s23_39_f_23 2 11 (0 : Int32) (3 : Int32) b1 r21_b1 (5 : Int32) (4 : Int32) (([0, 1, 8, 3, 4, 5, 6, 9, 7, 2] : List Int32).getD ((6 : Int32)).toNatClampNeg 0) ((((((0 : Int64) + ((27 : Int64) * (-7046029254386353131 : Int64))) + (-7046029254386353131 : Int64)) + (-7046029254386353131 : Int64)) + (-7046029254386353131 : Int64)) + (-7046029254386353131 : Int64)) (5 : Int32) (10 : Int32) ([0, 1, 8, 3, 6, 5, 4, 9, 7, 2] : List Int32) (4 : Int32) X30 hx hZ hw hby hml hown rfl N30 (Nat.le_trans Z0 K30.1) Q30_1 Q30_0 g_r21_b1 Q30_2' g_b1 (by decide +kernel) (by decide +kernel) (by decide +kernel) (by decide +kernel) ne_b1_r21_b1 (by decide +kernel) (by decide +kernel) (by decide +kernel) (by decide +kernel) (by decide +kernel) (by decide +kernel) (by decide +kernel) (Ne.symm ne_b1_r21_b1) (by decide : 2 + (0) ≤ _) (by decide : 11 + (0) ≤ _)
 have K32 : Keep h0 T32.heap [] := K30.trans Kq32 (own_a2 (Or.inr sz_r21_b1) (Or.inr sz_b1))
 have Q32_2' := own_il_eq Q32_2 (vs' := ([0, 1, 8, 3, 6, 5, 4, 9, 7, 2] : List Int32)) (by decide +kernel)
 have f35_b1 := (f33_b1.keep Kq32)
 obtain ⟨T34, L34, X34, N34, Kq34, Q34_0, Q34_1, Q34_2, st34⟩ := own_s23_39_f_23 2 11 (0 : Int32) (3 : Int32) b1 r21_b1 (4 : Int32) (5 : Int32) (([0, 1, 8, 3, 6, 5, 4, 9, 7, 2] : List Int32).getD ((5 : Int32)).toNatClampNeg 0) (((((((0 : Int64) + ((27 : Int64) * (-7046029254386353131 : Int64))) + (-7046029254386353131 : Int64)) + (-7046029254386353131 : Int64)) + (-7046029254386353131 : Int64)) + (-7046029254386353131 : Int64)) + (-7046029254386353131 : Int64)) (4 : Int32) (10 : Int32) ([0, 1, 8, 3, 6, 5, 4, 9, 7, 2] : List Int32) (3 : Int32) X32 hx hZ hw hby hml hown rfl N32 (Nat.le_trans Z0 K32.1) Q32_1 Q32_0 g_r21_b1 Q32_2' g_b1 (by decide +kernel) (by decide +kernel) (by decide +kernel) (by decide +kernel) ne_b1_r21_b1 (by decide +kernel) (by decide +kernel) (by decide +kernel) (by decide +kernel) (by decide +kernel) (by decide +kernel) (by decide +kernel) (Ne.symm ne_b1_r21_b1) (by decide : 2 + (0) ≤ _) (by decide : 11 + (0) ≤ _)
 have K34 : Keep h0 T34.heap [] := K32.trans Kq34 (own_a2 (Or.inr sz_r21_b1) (Or.inr sz_b1))
 have Q34_2' := own_il_eq Q34_2 (vs' := ([0, 1, 8, 3, 6, 5, 4, 9, 7, 2] : List Int32)) (by decide +kernel)
 have f37_b1 := (f35_b1.keep Kq34)
 obtain ⟨T36, L36, X36, N36, Kq36, Q36_0, Q36_1, Q36_2, st36⟩ := own_s23_39_f_23 2 11 (0 : Int32) (3 : Int32) b1 r21_b1 (3 : Int32) (4 : Int32) (([0, 1, 8, 3, 6, 5, 4, 9, 7, 2] : List Int32).getD ((4 : Int32)).toNatClampNeg 0) ((((((((0 : Int64) + ((27 : Int64) * (-7046029254386353131 : Int64))) + (-7046029254386353131 : Int64)) + (-7046029254386353131 : Int64)) + (-7046029254386353131 : Int64)) + (-7046029254386353131 : Int64)) + (-7046029254386353131 : Int64)) + (-7046029254386353131 : Int64)) (1 : Int32) (10 : Int32) ([0, 1, 8, 3, 6, 5, 4, 9, 7, 2] : List Int32) (2 : Int32) X34 hx hZ hw hby hml hown rfl N34 (Nat.le_trans Z0 K34.1) Q34_1 Q34_0 g_r21_b1 Q34_2' g_b1 (by decide +kernel) (by decide +kernel) (by decide +kernel) (by decide +kernel) ne_b1_r21_b1 (by decide +kernel) (by decide +kernel) (by decide +kernel) (by decide +kernel) (by decide +kernel) (by decide +kernel) (by decide +kernel) (Ne.symm ne_b1_r21_b1) (by decide : 2 + (0) ≤ _) (by decide : 11 + (0) ≤ _)
 have K36 : Keep h0 T36.heap [] := K34.trans Kq36 (own_a2 (Or.inr sz_r21_b1) (Or.inr sz_b1))
 have Q36_2' := own_il_eq Q36_2 (vs' := ([0, 3, 8, 1, 6, 5, 4, 9, 7, 2] : List Int32)) (by decide +kernel)
 have f39_b1 := (f37_b1.keep Kq36)
 obtain ⟨T38, L38, X38, N38, Kq38, Q38_0, Q38_1, Q38_2, st38⟩ := own_s23_39_f_23 2 11 (0 : Int32) (3 : Int32) b1 r21_b1 (2 : Int32) (1 : Int32) (([0, 1, 8, 3, 6, 5, 4, 9, 7, 2] : List Int32).getD ((3 : Int32)).toNatClampNeg 0) (((((((((0 : Int64) + ((27 : Int64) * (-7046029254386353131 : Int64))) + (-7046029254386353131 : Int64)) + (-7046029254386353131 : Int64)) + (-7046029254386353131 : Int64)) + (-7046029254386353131 : Int64)) + (-7046029254386353131 : Int64)) + (-7046029254386353131 : Int64)) + (-7046029254386353131 : Int64)) (1 : Int32) (10 : Int32) ([0, 3, 8, 1, 6, 5, 4, 9, 7, 2] : List Int32) (1 : Int32) X36 hx hZ hw hby hml hown rfl N36 (Nat.le_trans Z0 K36.1) Q36_1 Q36_0 g_r21_b1 Q36_2' g_b1 (by decide +kernel) (by decide +kernel) (by decide +kernel) (by decide +kernel) ne_b1_r21_b1 (by decide +kernel) (by decide +kernel) (by decide +kernel) (by decide +kernel) (by decide +kernel) (by decide +kernel) (by decide +kernel) (Ne.symm ne_b1_r21_b1) (by decide : 2 + (0) ≤ _) (by decide : 11 + (0) ≤ _)
 have K38 : Keep h0 T38.heap [] := K36.trans Kq38 (own_a2 (Or.inr sz_r21_b1) (Or.inr sz_b1))
 have Q38_2' := own_il_eq Q38_2 (vs' := ([0, 8, 3, 1, 6, 5, 4, 9, 7, 2] : List Int32)) (by decide +kernel)
 have f41_b1 := (f39_b1.keep Kq38)
 obtain ⟨T40, L40, X40, N40, Kq40, Q40_0, Q40_1, Q40_2, st40⟩ := own_s23_39_f_23 2 11 (0 : Int32) (3 : Int32) b1 r21_b1 (1 : Int32) (1 : Int32) (([0, 3, 8, 1, 6, 5, 4, 9, 7, 2] : List Int32).getD ((2 : Int32)).toNatClampNeg 0) ((((((((((0 : Int64) + ((27 : Int64) * (-7046029254386353131 : Int64))) + (-7046029254386353131 : Int64)) + (-7046029254386353131 : Int64)) + (-7046029254386353131 : Int64)) + (-7046029254386353131 : Int64)) + (-7046029254386353131 : Int64)) + (-7046029254386353131 : Int64)) + (-7046029254386353131 : Int64)) + (-7046029254386353131 : Int64)) (1 : Int32) (10 : Int32) ([0, 8, 3, 1, 6, 5, 4, 9, 7, 2] : List Int32) (0 : Int32) X38 hx hZ hw hby hml hown rfl N38 (Nat.le_trans Z0 K38.1) Q38_1 Q38_0 g_r21_b1 Q38_2' g_b1 (by decide +kernel) (by decide +kernel) (by decide +kernel) (by decide +kernel) ne_b1_r21_b1 (by decide +kernel) (by decide +kernel) (by decide +kernel) (by decide +kernel) (by decide +kernel) (by decide +kernel) (by decide +kernel) (Ne.symm ne_b1_r21_b1) (by decide : 2 + (0) ≤ _) (by decide : 11 + (0) ≤ _)
 have K40 : Keep h0 T40.heap [] := K38.trans Kq40 (own_a2 (Or.inr sz_r21_b1) (Or.inr sz_b1))
 have Q40_2' := own_il_eq Q40_2 (vs' := ([0, 8, 3, 1, 6, 5, 4, 9, 7, 2] : List Int32)) (by decide +kernel)
 have f42_b1 := (f41_b1.keep Kq40)
 obtain ⟨fs, hr, hrun, hended, hW, hsame⟩ := X40.leave (v := some (.ref b1)) (fun h => by rw [Bd.returns] at h; cases h)
 refine ⟨_, _, castTop (own_ef11 m (0 : Int32) (3 : Int32)) ?_, hrun, hended, _, _, rfl, ?_, ⟨_, rfl⟩, hW, (hsame.mono (by decide) (by decide))⟩
 · show oZ p e below s₁ (mkF m 0 #[oI 0, oI 3, .unset, .unset, .unset, .unset, .unset] []) _
   refine XS.bipush X0.here hx rfl (oG hby d23 0 rfl) ?_
   refine st1 _ ?_
   refine XS.astoreN X1.here hx rfl (oG hby d23 2 rfl) rfl rfl (l' := #[oI 0, oI 3, oA b1, .unset, .unset, .unset, .unset]) rfl ?_
   refine XS.iconst X1.here hx rfl (oG hby d23 3 rfl) ?_
   refine XS.istoreN X1.here hx rfl (oG hby d23 4 rfl) rfl (l' := #[oI 0, oI 3, oA b1, oI 0, .unset, .unset, .unset]) rfl ?_
   refine st2 _ ?_
   refine st3 _ ?_
   refine st5 _ ?_
   refine st7 _ ?_
   refine st9 _ ?_
   refine st11 _ ?_
   show oZ p e below T11 (mkF m 7 #[oI 0, oI 3, oA b1, oI 6, .unset, .unset, .unset] []) _
   refine st13 _ ?_
   refine st15 _ ?_
   refine st17 _ ?_
   refine st19 _ ?_
   refine XS.iloadN X19.here hx rfl (oG hby d23 5 rfl) rfl ?_
   refine XS.bipush X19.here hx rfl (oG hby d23 6 rfl) ?_
   refine XS.icmpYes X19.here hx rfl (pc0 := 10) (pc' := 23) rfl (oG hby d23 7 rfl) rfl (flt (by decide +kernel : ¬ ((10 : Int32) < (10 : Int32)))).2.1 (by decide) (by decide) ?_
   refine XS.iloadN X19.here hx rfl (oG hby d23 14 rfl) rfl ?_
   refine XS.i2l X19.here hx rfl (oG hby d23 15 rfl) rfl ?_
   show oZ p e below T19 (mkF m 25 #[oI 0, oI 3, oA b1, oI 10, .unset, .unset, .unset] [(.long ((0 : Int32).toInt64))]) _
   rw [(by decide +kernel : ((0 : Int32).toInt64) = (0 : Int64))]
   refine XS.iloadN X19.here hx rfl (oG hby d23 16 rfl) rfl ?_
   refine XS.i2l X19.here hx rfl (oG hby d23 17 rfl) rfl ?_
   show oZ p e below T19 (mkF m 27 #[oI 0, oI 3, oA b1, oI 10, .unset, .unset, .unset] [(.long ((3 : Int32).toInt64)), (.long 0)]) _
   rw [(by decide +kernel : ((3 : Int32).toInt64) = (3 : Int64))]
   refine X19.ldc2Long hx hown (mvT hZ (oW hw 143 rfl)) (g := (mkF m 27 #[oI 0, oI 3, oA b1, oI 10, .unset, .unset, .unset] [(.long 3), (.long 0)])) rfl (oG hby d23 18 rfl) _ ?_
   refine XS.lmul X19.here hx rfl (oG hby d23 19 rfl) rfl ?_
   show oZ p e below T19 (mkF m 31 #[oI 0, oI 3, oA b1, oI 10, .unset, .unset, .unset] [(.long ((3 : Int64) * (9 : Int64))), (.long 0)]) _
   rw [(by decide +kernel : ((3 : Int64) * (9 : Int64)) = (27 : Int64))]
   refine st21 _ ?_
   refine XS.astoreN X21.here hx rfl (oG hby d23 21 rfl) rfl rfl (l' := #[oI 0, oI 3, oA b1, oA r21_b1, .unset, .unset, .unset]) rfl ?_
   refine XS.bipush X21.here hx rfl (oG hby d23 22 rfl) ?_
   refine XS.istore X21.here hx rfl (oG hby d23 23 rfl) rfl (l' := #[oI 0, oI 3, oA b1, oA r21_b1, oI 9, .unset, .unset]) rfl ?_
   refine st23 _ ?_
   refine st26 _ ?_
   refine st28 _ ?_
   refine st30 _ ?_
   refine st32 _ ?_
   refine st34 _ ?_
   show oZ p e below T34 (mkF m 39 #[oI 0, oI 3, oA b1, oA r21_b1, oI 3, oI 4, oI (([0, 1, 8, 3, 6, 5, 4, 9, 7, 2] : List Int32).getD ((4 : Int32)).toNatClampNeg 0)] []) _
   refine st36 _ ?_
   refine st38 _ ?_
   refine st40 _ ?_
   refine XS.iload X40.here hx rfl (oG hby d23 24 rfl) rfl ?_
   refine XS.ifYes X40.here hx rfl (pc0 := 41) (pc' := 85) rfl (oG hby d23 25 rfl) rfl ((if0 _ _).trans (flt (by decide +kernel : ¬ ((0 : Int32) < (0 : Int32)))).2.2.2) (by decide) (by decide) ?_
   refine XS.aloadN X40.here hx rfl (oG hby d23 51 rfl) rfl rfl ?_
   show oZ p e below T40 (mkF m 86 #[oI 0, oI 3, oA b1, oA r21_b1, oI 0, oI 1, oI (([0, 8, 3, 1, 6, 5, 4, 9, 7, 2] : List Int32).getD ((1 : Int32)).toNatClampNeg 0)] [(.ref b1)]) _
   jvm_step X40.here [X40.here.top, hx, (oG hby d23 52 rfl), X40.method', Bd.returns, Value.isRef, FieldType.isReference]
   first | (intro acts; rw [hr _ acts rfl rfl rfl]) | rw [hr _ _ rfl rfl rfl]
   exact Steps.refl _
 · show Qown_b23_tt_0_3_27 Z  h0 n0 _ T40.heap _
   exact ⟨b1, rfl, N40, K40, sz_b1, f42_b1, Q40_2'⟩
def own_sh (lot : Int32) : List Int32 := if lot = 0 then ([6, 3, 2, 9, 8, 1, 4, 7, 0, 5] : List Int32) else if lot = 1 then ([7, 4, 9, 5, 2, 3, 8, 6, 1, 0] : List Int32) else if lot = 2 then ([6, 4, 9, 1, 5, 0, 3, 8, 7, 2] : List Int32) else ([0, 8, 3, 1, 6, 5, 4, 9, 7, 2] : List Int32)
def own_QS (Z : State) (lot : Int32) (h0 : Heap) (n0 : Nat) (v : Option Value) (h : Heap) (L : List Loc) : Prop := ∃ r : Addr, v = some (.ref r) ∧ Fr n0 L ∧ Keep h0 h [] ∧ h0.size ≤ r ∧ own_il Z h r (10 : Int32) (own_sh lot)
theorem own_shuf (l : Launch) (Z : State) (a0 : Array Value) (hw : oH a0 Z) (ws : List Jvm.Cond) (lot : Int32) (h0 : Heap) (n0 : Nat) (Z0 : n0 ≤ h0.size) (hl : lot = 0 ∨ lot = 1 ∨ lot = 2 ∨ lot = 3) :
   oMet l oM6 prog_29_method_19_code 7 (some (.array .int)) ws (oR 3 2 11 60) Z h0 #[(.int 0), (.int lot)] (own_QS Z lot h0 n0) := by
 rcases hl with rfl | rfl | rfl | rfl
 · exact own_mono (own_b23_tt_0_0_24 l Z a0 hw ws h0 n0 Z0) fun v h L ⟨r, a1, a2, a3, a4, b0, b1⟩ => ⟨r, a1, a2, a3, a4, b1⟩
 · exact own_mono (own_b23_tt_0_1_25 l Z a0 hw ws h0 n0 Z0) fun v h L ⟨r, a1, a2, a3, a4, b0, b1⟩ => ⟨r, a1, a2, a3, a4, b1⟩
 · exact own_mono (own_b23_tt_0_2_26 l Z a0 hw ws h0 n0 Z0) fun v h L ⟨r, a1, a2, a3, a4, b0, b1⟩ => ⟨r, a1, a2, a3, a4, b1⟩
 · exact own_mono (own_b23_tt_0_3_27 l Z a0 hw ws h0 n0 Z0) fun v h L ⟨r, a1, a2, a3, a4, b0, b1⟩ => ⟨r, a1, a2, a3, a4, b1⟩
def Qown_b22_t_0_28 (Z : State) (a0_ : Addr) (p2_ : Int32) (p3_ : Int32) (f_backends_a0_ : Int32) (h0 : Heap) (n0 : Nat) (v : Option Value) (h : Heap) (L : List Loc) : Prop := v = some (.int (-1 : Int32)) ∧ Fr n0 L ∧ Keep h0 h []
theorem own_b22_t_0_28 (l : Launch) (Z : State) (a0 : Array Value) (hw : oH a0 Z) (ws : List Jvm.Cond) (a0_ : Addr) (p2_ : Int32) (p3_ : Int32) (f_backends_a0_ : Int32) (h0 : Heap) (n0 : Nat) (Z0 : n0 ≤ h0.size) (F_backends_a0_ : Fld Z h0 a0_ oC0 "backends" "I" (.int f_backends_a0_)) (hf0 : p2_ = 0 ∨ p2_ = 1 ∨ p2_ = 2 ∨ p2_ = 3) (hf1 : ¬ (p3_ < 0)) (hf2 : p3_ < (10 : Int32)) (hf3 : ¬ ((lcmpW (((p2_.toInt64) * (10 : Int64)) + (((own_sh p2_).getD (p3_).toNatClampNeg 0).toInt64)) (f_backends_a0_.toInt64)) < (0 : Int32))) :
   oMet l oM2 prog_29_method_14_code 6 (some .int) ws (oR 4 2 11 100) Z h0 #[(.ref a0_), (.int 0), (.int p2_), (.int p3_)] (Qown_b22_t_0_28 Z a0_ p2_ p3_ f_backends_a0_ h0 n0) := by
 refine oBd n0 (plainFor_of_name own_pn4) ?_
 intro p e s m below meth c s₁ Bd hx hZ hby hml hown hnm X0 e0 N0
 obtain ⟨_, _, ⟨T1, L1, k1, n1⟩, -, X1, ⟨Lc1, hQ1, l1, y1, z1⟩, st1⟩ := Jvm.LawKit.callS X0 hx (y := oM6) hown (mvT hZ (oW hw 140 rfl)) (mvT hZ (oW hw 141 rfl)) (mvT hZ (oW hw 16 rfl)) (mvT hZ (oW hw 142 rfl)) (by decide) (backOf (W := 2) (own_shuf l Z a0 hw [] p2_ h0 n0 Z0 hf0) hZ (oW hw 142 rfl) (oW hw 16 rfl) (by decide) (by decide)) (g := (mkF m 8 #[oA a0_, oI 0, oI p2_, oI p3_, .unset, .unset] [(.int p2_), (.int 0), (.long ((p2_.toInt64) * (10 : Int64)))])) rfl (by rw [hml]; rfl) (argsL := [(.int 0), (.int p2_)]) (rest := [(.long ((p2_.toInt64) * (10 : Int64)))]) (lenOf own_pd8 rfl) rfl (by show 2 * 0 + _ ≤ _; exact Nat.le_of_eq rfl) (oG hby d22 6 rfl) (fun _ _ => ⟨rfl, e0, (by decide : 0 + 2 ≤ _), (by decide : 0 + 11 ≤ _)⟩)
 dsimp only [Pt.U, Pt.locs, Pt.cells, Pt.slots] at X1 l1 y1 z1 st1 hQ1
 subst l1 y1 z1
 obtain ⟨r1_r, rfl, N1q, Kq1, lo_r1_r, Q1_0⟩ := hQ1
 have N1 := Fr.app N0 N1q
 have sz_r1_r : h0.size ≤ r1_r := Nat.le_trans (Keep.refl h0 []).1 lo_r1_r
 have g_r1_r : n0 ≤ r1_r := Nat.le_trans Z0 sz_r1_r
 have K1 : Keep h0 T1.heap [] := (Keep.refl h0 []).trans Kq1 own_a0
 obtain ⟨c2, A2, hin2, hat2⟩ := own_il_at (j := p3_) Q1_0 hf1 hf2
 have hat2' : c2.slots[(p3_).toNatClampNeg]? = some (.int ((own_sh p2_).getD (p3_).toNatClampNeg 0)) := hat2
 have f3_a0__backends := (F_backends_a0_.keep Kq1 (own_n0 _))
 obtain ⟨T4, X4, e4, st4⟩ := getF X1 hx hZ hown (host := "") (Or.inl (oW hw 24 rfl)) Via.refl rfl f3_a0__backends (g := (mkF m 20 #[oA a0_, oI 0, oI p2_, oI p3_, oJ (((p2_.toInt64) * (10 : Int64)) + (((own_sh p2_).getD (p3_).toNatClampNeg 0).toInt64)), .second] [(.ref a0_), (.long (((p2_.toInt64) * (10 : Int64)) + (((own_sh p2_).getD (p3_).toNatClampNeg 0).toInt64)))])) rfl rfl (oG hby d22 14 rfl)
 obtain ⟨fs, hr, hrun, hended, hW, hsame⟩ := X4.leave (v := some (.int (-1 : Int32))) (fun h => by rw [Bd.returns] at h; cases h)
 refine ⟨_, _, castTop (own_ef12 m a0_ (0 : Int32) p2_ p3_) ?_, hrun, hended, _, _, rfl, ?_, ⟨_, rfl⟩, hW, (hsame.mono (by decide) (by decide))⟩
 · show oZ p e below s₁ (mkF m 0 #[oA a0_, oI 0, oI p2_, oI p3_, .unset, .unset] []) _
   refine XS.iloadN X0.here hx rfl (oG hby d22 0 rfl) rfl ?_
   refine XS.i2l X0.here hx rfl (oG hby d22 1 rfl) rfl ?_
   refine X0.ldc2Long hx hown (mvT hZ (oW hw 90 rfl)) (g := (mkF m 2 #[oA a0_, oI 0, oI p2_, oI p3_, .unset, .unset] [(.long (p2_.toInt64))])) rfl (oG hby d22 2 rfl) _ ?_
   refine XS.lmul X0.here hx rfl (oG hby d22 3 rfl) rfl ?_
   refine XS.iloadN X0.here hx rfl (oG hby d22 4 rfl) rfl ?_
   refine XS.iloadN X0.here hx rfl (oG hby d22 5 rfl) rfl ?_
   refine st1 _ ?_
   refine XS.iloadN X1.here hx rfl (oG hby d22 7 rfl) rfl ?_
   refine X1.iaload hx (j := p3_) (v := (.int ((own_sh p2_).getD (p3_).toNatClampNeg 0))) A2.1 (State.isArrayOf_alike hZ.alike A2.2.1) A2.2.2 hin2 hat2' (g := (mkF m 12 #[oA a0_, oI 0, oI p2_, oI p3_, .unset, .unset] [(.int p3_), (.ref r1_r), (.long ((p2_.toInt64) * (10 : Int64)))])) rfl rfl (oG hby d22 8 rfl) _ ?_
   refine XS.i2l X1.here hx rfl (oG hby d22 9 rfl) rfl ?_
   refine XS.ladd X1.here hx rfl (oG hby d22 10 rfl) rfl ?_
   show oZ p e below T1 (mkF m 15 #[oA a0_, oI 0, oI p2_, oI p3_, .unset, .unset] [(.long (((p2_.toInt64) * (10 : Int64)) + (((own_sh p2_).getD (p3_).toNatClampNeg 0).toInt64)))]) _
   refine XS.lstore X1.here hx rfl (oG hby d22 11 rfl) rfl (l' := #[oA a0_, oI 0, oI p2_, oI p3_, oJ (((p2_.toInt64) * (10 : Int64)) + (((own_sh p2_).getD (p3_).toNatClampNeg 0).toInt64)), .second]) rfl ?_
   refine XS.lload X1.here hx rfl (oG hby d22 12 rfl) rfl ?_
   refine XS.aloadN X1.here hx rfl (oG hby d22 13 rfl) rfl rfl ?_
   refine st4 _ ?_
   refine XS.i2l X4.here hx rfl (oG hby d22 15 rfl) rfl ?_
   refine XS.lcmp X4.here hx rfl (oG hby d22 16 rfl) rfl ?_
   refine XS.ifYes X4.here hx rfl (pc0 := 25) (pc' := 34) rfl (oG hby d22 17 rfl) rfl ((if0 _ _).trans (flt hf3).2.1) (by decide) (by decide) ?_
   refine XS.iconst X4.here hx rfl (oG hby d22 21 rfl) ?_
   show oZ p e below T4 (mkF m 35 #[oA a0_, oI 0, oI p2_, oI p3_, oJ (((p2_.toInt64) * (10 : Int64)) + (((own_sh p2_).getD (p3_).toNatClampNeg 0).toInt64)), .second] [(.int (-1 : Int32))]) _
   exact retI X4 hx Bd.returns (oG hby d22 22 rfl) hr
 · show Qown_b22_t_0_28 Z a0_ p2_ p3_ f_backends_a0_ h0 n0 _ T4.heap _
   rw [e4]
   exact ⟨rfl, N1, K1⟩
def own_r22_f_0_29 (p2_ : Int32) (p3_ : Int32) : Int32 := ((((p2_.toInt64) * (10 : Int64)) + (((own_sh p2_).getD (p3_).toNatClampNeg 0).toInt64)).toInt32)
def Qown_b22_f_0_29 (Z : State) (a0_ : Addr) (p2_ : Int32) (p3_ : Int32) (f_backends_a0_ : Int32) (h0 : Heap) (n0 : Nat) (v : Option Value) (h : Heap) (L : List Loc) : Prop := v = some (.int (own_r22_f_0_29 p2_ p3_)) ∧ Fr n0 L ∧ Keep h0 h []
theorem own_b22_f_0_29 (l : Launch) (Z : State) (a0 : Array Value) (hw : oH a0 Z) (ws : List Jvm.Cond) (a0_ : Addr) (p2_ : Int32) (p3_ : Int32) (f_backends_a0_ : Int32) (h0 : Heap) (n0 : Nat) (Z0 : n0 ≤ h0.size) (F_backends_a0_ : Fld Z h0 a0_ oC0 "backends" "I" (.int f_backends_a0_)) (hf0 : p2_ = 0 ∨ p2_ = 1 ∨ p2_ = 2 ∨ p2_ = 3) (hf1 : ¬ (p3_ < 0)) (hf2 : p3_ < (10 : Int32)) (hf3 : (lcmpW (((p2_.toInt64) * (10 : Int64)) + (((own_sh p2_).getD (p3_).toNatClampNeg 0).toInt64)) (f_backends_a0_.toInt64)) < (0 : Int32)) :
   oMet l oM2 prog_29_method_14_code 6 (some .int) ws (oR 4 2 11 100) Z h0 #[(.ref a0_), (.int 0), (.int p2_), (.int p3_)] (Qown_b22_f_0_29 Z a0_ p2_ p3_ f_backends_a0_ h0 n0) := by
 refine oBd n0 (plainFor_of_name own_pn4) ?_
 intro p e s m below meth c s₁ Bd hx hZ hby hml hown hnm X0 e0 N0
 obtain ⟨_, _, ⟨T1, L1, k1, n1⟩, -, X1, ⟨Lc1, hQ1, l1, y1, z1⟩, st1⟩ := Jvm.LawKit.callS X0 hx (y := oM6) hown (mvT hZ (oW hw 140 rfl)) (mvT hZ (oW hw 141 rfl)) (mvT hZ (oW hw 16 rfl)) (mvT hZ (oW hw 142 rfl)) (by decide) (backOf (W := 2) (own_shuf l Z a0 hw [] p2_ h0 n0 Z0 hf0) hZ (oW hw 142 rfl) (oW hw 16 rfl) (by decide) (by decide)) (g := (mkF m 8 #[oA a0_, oI 0, oI p2_, oI p3_, .unset, .unset] [(.int p2_), (.int 0), (.long ((p2_.toInt64) * (10 : Int64)))])) rfl (by rw [hml]; rfl) (argsL := [(.int 0), (.int p2_)]) (rest := [(.long ((p2_.toInt64) * (10 : Int64)))]) (lenOf own_pd8 rfl) rfl (by show 2 * 0 + _ ≤ _; exact Nat.le_of_eq rfl) (oG hby d22 6 rfl) (fun _ _ => ⟨rfl, e0, (by decide : 0 + 2 ≤ _), (by decide : 0 + 11 ≤ _)⟩)
 dsimp only [Pt.U, Pt.locs, Pt.cells, Pt.slots] at X1 l1 y1 z1 st1 hQ1
 subst l1 y1 z1
 obtain ⟨r1_r, rfl, N1q, Kq1, lo_r1_r, Q1_0⟩ := hQ1
 have N1 := Fr.app N0 N1q
 have sz_r1_r : h0.size ≤ r1_r := Nat.le_trans (Keep.refl h0 []).1 lo_r1_r
 have g_r1_r : n0 ≤ r1_r := Nat.le_trans Z0 sz_r1_r
 have K1 : Keep h0 T1.heap [] := (Keep.refl h0 []).trans Kq1 own_a0
 obtain ⟨c2, A2, hin2, hat2⟩ := own_il_at (j := p3_) Q1_0 hf1 hf2
 have hat2' : c2.slots[(p3_).toNatClampNeg]? = some (.int ((own_sh p2_).getD (p3_).toNatClampNeg 0)) := hat2
 have f3_a0__backends := (F_backends_a0_.keep Kq1 (own_n0 _))
 obtain ⟨T4, X4, e4, st4⟩ := getF X1 hx hZ hown (host := "") (Or.inl (oW hw 24 rfl)) Via.refl rfl f3_a0__backends (g := (mkF m 20 #[oA a0_, oI 0, oI p2_, oI p3_, oJ (((p2_.toInt64) * (10 : Int64)) + (((own_sh p2_).getD (p3_).toNatClampNeg 0).toInt64)), .second] [(.ref a0_), (.long (((p2_.toInt64) * (10 : Int64)) + (((own_sh p2_).getD (p3_).toNatClampNeg 0).toInt64)))])) rfl rfl (oG hby d22 14 rfl)
 obtain ⟨fs, hr, hrun, hended, hW, hsame⟩ := X4.leave (v := some (.int ((((p2_.toInt64) * (10 : Int64)) + (((own_sh p2_).getD (p3_).toNatClampNeg 0).toInt64)).toInt32))) (fun h => by rw [Bd.returns] at h; cases h)
 refine ⟨_, _, castTop (own_ef12 m a0_ (0 : Int32) p2_ p3_) ?_, hrun, hended, _, _, rfl, ?_, ⟨_, rfl⟩, hW, (hsame.mono (by decide) (by decide))⟩
 · show oZ p e below s₁ (mkF m 0 #[oA a0_, oI 0, oI p2_, oI p3_, .unset, .unset] []) _
   refine XS.iloadN X0.here hx rfl (oG hby d22 0 rfl) rfl ?_
   refine XS.i2l X0.here hx rfl (oG hby d22 1 rfl) rfl ?_
   refine X0.ldc2Long hx hown (mvT hZ (oW hw 90 rfl)) (g := (mkF m 2 #[oA a0_, oI 0, oI p2_, oI p3_, .unset, .unset] [(.long (p2_.toInt64))])) rfl (oG hby d22 2 rfl) _ ?_
   refine XS.lmul X0.here hx rfl (oG hby d22 3 rfl) rfl ?_
   refine XS.iloadN X0.here hx rfl (oG hby d22 4 rfl) rfl ?_
   refine XS.iloadN X0.here hx rfl (oG hby d22 5 rfl) rfl ?_
   refine st1 _ ?_
   refine XS.iloadN X1.here hx rfl (oG hby d22 7 rfl) rfl ?_
   refine X1.iaload hx (j := p3_) (v := (.int ((own_sh p2_).getD (p3_).toNatClampNeg 0))) A2.1 (State.isArrayOf_alike hZ.alike A2.2.1) A2.2.2 hin2 hat2' (g := (mkF m 12 #[oA a0_, oI 0, oI p2_, oI p3_, .unset, .unset] [(.int p3_), (.ref r1_r), (.long ((p2_.toInt64) * (10 : Int64)))])) rfl rfl (oG hby d22 8 rfl) _ ?_
   refine XS.i2l X1.here hx rfl (oG hby d22 9 rfl) rfl ?_
   refine XS.ladd X1.here hx rfl (oG hby d22 10 rfl) rfl ?_
   show oZ p e below T1 (mkF m 15 #[oA a0_, oI 0, oI p2_, oI p3_, .unset, .unset] [(.long (((p2_.toInt64) * (10 : Int64)) + (((own_sh p2_).getD (p3_).toNatClampNeg 0).toInt64)))]) _
   refine XS.lstore X1.here hx rfl (oG hby d22 11 rfl) rfl (l' := #[oA a0_, oI 0, oI p2_, oI p3_, oJ (((p2_.toInt64) * (10 : Int64)) + (((own_sh p2_).getD (p3_).toNatClampNeg 0).toInt64)), .second]) rfl ?_
   refine XS.lload X1.here hx rfl (oG hby d22 12 rfl) rfl ?_
   refine XS.aloadN X1.here hx rfl (oG hby d22 13 rfl) rfl rfl ?_
   refine st4 _ ?_
   refine XS.i2l X4.here hx rfl (oG hby d22 15 rfl) rfl ?_
   refine XS.lcmp X4.here hx rfl (oG hby d22 16 rfl) rfl ?_
   refine XS.ifNo X4.here hx rfl (oG hby d22 17 rfl) rfl ((if0 _ _).trans (tlt hf3).2.1) ?_
   refine XS.lload X4.here hx rfl (oG hby d22 18 rfl) rfl ?_
   refine XS.l2i X4.here hx rfl (oG hby d22 19 rfl) rfl ?_
   refine XS.goto X4.here hx rfl (pc0 := 31) (pc' := 35) rfl (oG hby d22 20 rfl) (by decide) (by decide) ?_
   show oZ p e below T4 (mkF m 35 #[oA a0_, oI 0, oI p2_, oI p3_, oJ (((p2_.toInt64) * (10 : Int64)) + (((own_sh p2_).getD (p3_).toNatClampNeg 0).toInt64)), .second] [(.int ((((p2_.toInt64) * (10 : Int64)) + (((own_sh p2_).getD (p3_).toNatClampNeg 0).toInt64)).toInt32))]) _
   exact retI X4 hx Bd.returns (oG hby d22 22 rfl) hr
 · show Qown_b22_f_0_29 Z a0_ p2_ p3_ f_backends_a0_ h0 n0 _ T4.heap _
   rw [e4]
   exact ⟨rfl, N1, K1⟩
def own_bx (lot row : Int32) : Int64 := (((lot.toInt64) * (10 : Int64)) + (((own_sh lot).getD (row).toNatClampNeg 0).toInt64))
def own_bk (b lot row : Int32) : Int32 := if own_bx lot row < b.toInt64 then (own_bx lot row).toInt32 else -1
def own_QB (r : Int32) (h0 : Heap) (n0 : Nat) (v : Option Value) (h : Heap) (L : List Loc) : Prop := v = some (.int r) ∧ Fr n0 L ∧ Keep h0 h []
theorem own_lcA (x y : Int64) : ((0 : Int32) < lcmpW x y) ↔ y < x := by rw [lcW]; exact lc_gt x y
theorem own_lcB (x y : Int64) : (lcmpW x y < (0 : Int32)) ↔ x < y := by rw [lcW]; exact lc_lt x y
theorem own_back (l : Launch) (Z : State) (a0 : Array Value) (hw : oH a0 Z) (ws : List Jvm.Cond) (a0_ : Addr) (lot row b : Int32) (h0 : Heap) (n0 : Nat) (Z0 : n0 ≤ h0.size) (F : Fld Z h0 a0_ oC0 "backends" "I" (.int b)) (hl : lot = 0 ∨ lot = 1 ∨ lot = 2 ∨ lot = 3) (h1 : ¬ (row < 0)) (h2 : row < (10 : Int32)) :
   oMet l oM2 prog_29_method_14_code 6 (some .int) ws (oR 4 2 11 100) Z h0 #[(.ref a0_), (.int 0), (.int lot), (.int row)] (own_QB (own_bk b lot row) h0 n0) := by
 by_cases hb : own_bx lot row < b.toInt64
 · have e : own_bk b lot row = (own_bx lot row).toInt32 := if_pos hb
   rw [e]
   refine own_mono (own_b22_f_0_29 l Z a0 hw ws a0_ lot row b h0 n0 Z0 F hl h1 h2 ((own_lcB _ _).mpr hb)) ?_
   rintro v h L ⟨rfl, N, K⟩
   exact ⟨rfl, N, K⟩
 · have e : own_bk b lot row = -1 := if_neg hb
   rw [e]
   refine own_mono (own_b22_t_0_28 l Z a0 hw ws a0_ lot row b h0 n0 Z0 F hl h1 h2 (fun q => hb ((own_lcB _ _).mp q))) ?_
   rintro v h L ⟨rfl, N, K⟩
   exact ⟨rfl, N, K⟩
theorem own_o_S (rc : Nat) (rs : Nat) (o0_ : Addr) (o1_ : Addr) (i2_ : Int32) (o3_ : Addr) (w_START_ROWS : Addr) (n_w_START_ROWS : Int32) (vs_w_START_ROWS : List Int32)
   (X0 : Stand p l e (oR 6 rc rs 140) s m args below meth c T0 locs cells slots) (hx : p.tables.exec = Jvm.exec) (hZ : Z.Warmed39 s.vm) (hw : oH a0 Z) (hby : c.code = prog_29_method_10_code) (hml : c.maxLocals = 10) (hown : s.vm.findClass oC0 = some m.cls) (e0 : T0.heap = h0) (N0 : Fr n0 locs) (Z0 : n0 ≤ h0.size) (S_START_ROWS : Sta Z h0 oC0 "START_ROWS" "[I" (.ref w_START_ROWS)) (A_w_START_ROWS : own_il Z h0 w_START_ROWS n_w_START_ROWS vs_w_START_ROWS) (hc : cells + (0) ≤ rc) (hs : slots + (0) ≤ rs) :
   ∃ (T' : State) (locs' : List Loc), Stand p l e (oR 6 rc rs 140) s m args below meth c T' locs' cells slots ∧ Fr n0 locs' ∧ T'.heap = h0 ∧
     ∀ target, Steps p.tables e below (T'.setTop (mkF m 13 #[oA o0_, oA o1_, oI i2_, oA o3_, oA w_START_ROWS, oI n_w_START_ROWS, oI 0, .unset, .unset, .unset] [])) target → Steps p.tables e below (T0.setTop (mkF m 0 #[oA o0_, oA o1_, oI i2_, oA o3_, .unset, .unset, .unset, .unset, .unset, .unset] [])) target := by
 obtain ⟨T1, X1, e1, st1⟩ := getS2 X0 hx hZ hown (host := "") (Or.inl (oW hw 134 rfl)) Via.refl e0 S_START_ROWS (g := (mkF m 0 #[oA o0_, oA o1_, oI i2_, oA o3_, .unset, .unset, .unset, .unset, .unset, .unset] [])) rfl (oG hby d21 0 rfl)
 obtain ⟨c2, A2, S2, M2⟩ := own_il_cell A_w_START_ROWS
 refine ⟨T1, _, X1, N0, e1, fun target kt => ?_⟩
 show oZ p e below T0 (mkF m 0 #[oA o0_, oA o1_, oI i2_, oA o3_, .unset, .unset, .unset, .unset, .unset, .unset] []) _
 refine st1 _ ?_
 refine XS.astore X1.here hx rfl (oG hby d21 1 rfl) rfl rfl (l' := #[oA o0_, oA o1_, oI i2_, oA o3_, oA w_START_ROWS, .unset, .unset, .unset, .unset, .unset]) rfl ?_
 refine XS.aload X1.here hx rfl (oG hby d21 2 rfl) rfl rfl ?_
 refine X1.arraylength hx (by rw [e1]; exact A2.1) (State.isArrayOf_alike hZ.alike A2.2.1) (g := (mkF m 7 #[oA o0_, oA o1_, oI i2_, oA o3_, oA w_START_ROWS, .unset, .unset, .unset, .unset, .unset] [(.ref w_START_ROWS)])) rfl rfl (oG hby d21 3 rfl) _ ?_
 rw [len_of S2 M2]
 refine XS.istore X1.here hx rfl (oG hby d21 4 rfl) rfl (l' := #[oA o0_, oA o1_, oI i2_, oA o3_, oA w_START_ROWS, oI n_w_START_ROWS, .unset, .unset, .unset, .unset]) rfl ?_
 refine XS.iconst X1.here hx rfl (oG hby d21 5 rfl) ?_
 refine XS.istore X1.here hx rfl (oG hby d21 6 rfl) rfl (l' := #[oA o0_, oA o1_, oI i2_, oA o3_, oA w_START_ROWS, oI n_w_START_ROWS, oI 0, .unset, .unset, .unset]) rfl ?_
 exact kt
theorem own_o_A (rc : Nat) (rs : Nat) (o0_ : Addr) (o1_ : Addr) (i2_ : Int32) (o3_ : Addr) (o4_ : Addr) (i5_ : Int32) (i6_ : Int32) (s7_ : Slot) (s8_ : Slot) (s9_ : Slot) (n_o4_ : Int32) (vs_o4_ : List Int32) (r_ : Int32)
   (X0 : Stand p l e (oR 6 rc rs 140) s m args below meth c T0 locs cells slots) (hx : p.tables.exec = Jvm.exec) (hZ : Z.Warmed39 s.vm) (hw : oH a0 Z) (hby : c.code = prog_29_method_10_code) (hml : c.maxLocals = 10) (hown : s.vm.findClass oC0 = some m.cls) (e0 : T0.heap = h0) (N0 : Fr n0 locs) (Z0 : n0 ≤ h0.size) (A_o4_ : own_il Z h0 o4_ n_o4_ vs_o4_) (H_s7_ : (s7_ = .unset ∨ ∃ z : Int32, s7_ = oI z)) (H_s8_ : (s8_ = .unset ∨ ∃ z : Int32, s8_ = oI z)) (hf0 : i6_ < i5_) (hf1 : ¬ (i6_ < 0)) (hf2 : i6_ < n_o4_) (hf3 : (vs_o4_.getD (i6_).toNatClampNeg 0) = r_) (hc : cells + (0) ≤ rc) (hs : slots + (0) ≤ rs) :
   ∃ (T' : State) (locs' : List Loc), Stand p l e (oR 6 rc rs 140) s m args below meth c T' locs' cells slots ∧ Fr n0 locs' ∧ T'.heap = h0 ∧
     ∀ target, Steps p.tables e below (T'.setTop (mkF m 30 #[oA o0_, oA o1_, oI i2_, oA o3_, oA o4_, oI i5_, oI i6_, oI r_, oI 0, s9_] [])) target → Steps p.tables e below (T0.setTop (mkF m 13 #[oA o0_, oA o1_, oI i2_, oA o3_, oA o4_, oI i5_, oI i6_, s7_, s8_, s9_] [])) target := by
 obtain ⟨c1, A1, hin1, hat1⟩ := own_il_at (j := i6_) A_o4_ hf1 hf2
 have hat1' : c1.slots[(i6_).toNatClampNeg]? = some (.int (vs_o4_.getD (i6_).toNatClampNeg 0)) := hat1
 refine ⟨T0, _, X0, N0, e0, fun target kt => ?_⟩
 show oZ p e below T0 (mkF m 13 #[oA o0_, oA o1_, oI i2_, oA o3_, oA o4_, oI i5_, oI i6_, s7_, s8_, s9_] []) _
 refine XS.iload X0.here hx rfl (oG hby d21 7 rfl) rfl ?_
 refine XS.iload X0.here hx rfl (oG hby d21 8 rfl) rfl ?_
 refine XS.icmpNo X0.here hx rfl (oG hby d21 9 rfl) rfl (tlt hf0).2.1 ?_
 refine XS.aload X0.here hx rfl (oG hby d21 10 rfl) rfl rfl ?_
 refine XS.iload X0.here hx rfl (oG hby d21 11 rfl) rfl ?_
 refine X0.iaload hx (j := i6_) (v := (.int (vs_o4_.getD (i6_).toNatClampNeg 0))) (by rw [e0]; exact A1.1) (State.isArrayOf_alike hZ.alike A1.2.1) A1.2.2 hin1 hat1' (g := (mkF m 24 #[oA o0_, oA o1_, oI i2_, oA o3_, oA o4_, oI i5_, oI i6_, s7_, s8_, s9_] [(.int i6_), (.ref o4_)])) rfl rfl (oG hby d21 12 rfl) _ ?_
 show oZ p e below T0 (mkF m 25 #[oA o0_, oA o1_, oI i2_, oA o3_, oA o4_, oI i5_, oI i6_, s7_, s8_, s9_] [(.int (vs_o4_.getD (i6_).toNatClampNeg 0))]) _
 rw [hf3]
 refine XS.istore X0.here hx rfl (oG hby d21 13 rfl) rfl (l' := #[oA o0_, oA o1_, oI i2_, oA o3_, oA o4_, oI i5_, oI i6_, oI r_, s8_, s9_]) (by rcases H_s7_ with rfl | ⟨_, rfl⟩ <;> rfl) ?_
 refine XS.iconst X0.here hx rfl (oG hby d21 14 rfl) ?_
 refine XS.istore X0.here hx rfl (oG hby d21 15 rfl) rfl (l' := #[oA o0_, oA o1_, oI i2_, oA o3_, oA o4_, oI i5_, oI i6_, oI r_, oI 0, s9_]) (by rcases H_s8_ with rfl | ⟨_, rfl⟩ <;> rfl) ?_
 exact kt
theorem own_o_X (rc : Nat) (rs : Nat) (o0_ : Addr) (o1_ : Addr) (i2_ : Int32) (o3_ : Addr) (o4_ : Addr) (i5_ : Int32) (i6_ : Int32) (s7_ : Slot) (s8_ : Slot) (s9_ : Slot) 
   (X0 : Stand p l e (oR 6 rc rs 140) s m args below meth c T0 locs cells slots) (hx : p.tables.exec = Jvm.exec) (hZ : Z.Warmed39 s.vm) (hw : oH a0 Z) (hby : c.code = prog_29_method_10_code) (hml : c.maxLocals = 10) (hown : s.vm.findClass oC0 = some m.cls) (e0 : T0.heap = h0) (N0 : Fr n0 locs) (Z0 : n0 ≤ h0.size) (hf0 : ¬ (i6_ < i5_)) (hc : cells + (0) ≤ rc) (hs : slots + (0) ≤ rs) :
   ∃ (T' : State) (locs' : List Loc), Stand p l e (oR 6 rc rs 140) s m args below meth c T' locs' cells slots ∧ Fr n0 locs' ∧ T'.heap = h0 ∧
     ∀ target, Steps p.tables e below (T'.setTop (mkF m 77 #[oA o0_, oA o1_, oI i2_, oA o3_, oA o4_, oI i5_, oI i6_, s7_, s8_, s9_] [])) target → Steps p.tables e below (T0.setTop (mkF m 13 #[oA o0_, oA o1_, oI i2_, oA o3_, oA o4_, oI i5_, oI i6_, s7_, s8_, s9_] [])) target := by
 refine ⟨T0, _, X0, N0, e0, fun target kt => ?_⟩
 show oZ p e below T0 (mkF m 13 #[oA o0_, oA o1_, oI i2_, oA o3_, oA o4_, oI i5_, oI i6_, s7_, s8_, s9_] []) _
 refine XS.iload X0.here hx rfl (oG hby d21 7 rfl) rfl ?_
 refine XS.iload X0.here hx rfl (oG hby d21 8 rfl) rfl ?_
 refine XS.icmpYes X0.here hx rfl (pc0 := 17) (pc' := 77) rfl (oG hby d21 9 rfl) rfl (flt hf0).2.1 (by decide) (by decide) ?_
 exact kt
theorem own_o_B (rc : Nat) (rs : Nat) (o0_ : Addr) (o1_ : Addr) (i2_ : Int32) (o3_ : Addr) (o4_ : Addr) (i5_ : Int32) (i6_ : Int32) (s7_ : Slot) (s8_ : Slot) (s9_ : Slot) (j_ : Int32)
   (X0 : Stand p l e (oR 6 rc rs 140) s m args below meth c T0 locs cells slots) (hx : p.tables.exec = Jvm.exec) (hZ : Z.Warmed39 s.vm) (hw : oH a0 Z) (hby : c.code = prog_29_method_10_code) (hml : c.maxLocals = 10) (hown : s.vm.findClass oC0 = some m.cls) (e0 : T0.heap = h0) (N0 : Fr n0 locs) (Z0 : n0 ≤ h0.size) (hf0 : (i6_ + (1 : Int32)) = j_) (hc : cells + (0) ≤ rc) (hs : slots + (0) ≤ rs) :
   ∃ (T' : State) (locs' : List Loc), Stand p l e (oR 6 rc rs 140) s m args below meth c T' locs' cells slots ∧ Fr n0 locs' ∧ T'.heap = h0 ∧
     ∀ target, Steps p.tables e below (T'.setTop (mkF m 13 #[oA o0_, oA o1_, oI i2_, oA o3_, oA o4_, oI i5_, oI j_, s7_, s8_, s9_] [])) target → Steps p.tables e below (T0.setTop (mkF m 71 #[oA o0_, oA o1_, oI i2_, oA o3_, oA o4_, oI i5_, oI i6_, s7_, s8_, s9_] [])) target := by
 refine ⟨T0, _, X0, N0, e0, fun target kt => ?_⟩
 show oZ p e below T0 (mkF m 71 #[oA o0_, oA o1_, oI i2_, oA o3_, oA o4_, oI i5_, oI i6_, s7_, s8_, s9_] []) _
 refine XS.iinc X0.here hx rfl (oG hby d21 37 rfl) rfl (l' := #[oA o0_, oA o1_, oI i2_, oA o3_, oA o4_, oI i5_, oI (i6_ + (1 : Int32)), s7_, s8_, s9_]) rfl ?_
 show oZ p e below T0 (mkF m 74 #[oA o0_, oA o1_, oI i2_, oA o3_, oA o4_, oI i5_, oI (i6_ + (1 : Int32)), s7_, s8_, s9_] []) _
 rw [hf0]
 refine XS.goto X0.here hx rfl (pc0 := 74) (pc' := 13) rfl (oG hby d21 38 rfl) (by decide) (by decide) ?_
 exact kt
theorem own_in_P (rc : Nat) (rs : Nat) (o0_ : Addr) (o1_ : Addr) (i2_ : Int32) (o3_ : Addr) (o4_ : Addr) (i5_ : Int32) (i6_ : Int32) (i7_ : Int32) (i8_ : Int32) (s9_ : Slot) (n_o1_ : Int32) (vs_o1_ : List Int32) (f_backends_o0_ : Int32) (x_ : Int32) (j_ : Int32)
   (X0 : Stand p l e (oR 6 rc rs 140) s m args below meth c T0 locs cells slots) (hx : p.tables.exec = Jvm.exec) (hZ : Z.Warmed39 s.vm) (hw : oH a0 Z) (hby : c.code = prog_29_method_10_code) (hml : c.maxLocals = 10) (hown : s.vm.findClass oC0 = some m.cls) (e0 : T0.heap = h0) (N0 : Fr n0 locs) (Z0 : n0 ≤ h0.size) (A_o1_ : own_il Z h0 o1_ n_o1_ vs_o1_) (F_backends_o0_ : Fld Z h0 o0_ oC0 "backends" "I" (.int f_backends_o0_)) (E_o0_ : Exa Z h0 o0_ oC0) (H_s9_ : (s9_ = .unset ∨ ∃ z : Int32, s9_ = oI z)) (hf0 : i8_ < i2_) (hf1 : ¬ (i8_ < 0)) (hf2 : i8_ < n_o1_) (hf3 : (vs_o1_.getD (i8_).toNatClampNeg 0) = 0 ∨ (vs_o1_.getD (i8_).toNatClampNeg 0) = 1 ∨ (vs_o1_.getD (i8_).toNatClampNeg 0) = 2 ∨ (vs_o1_.getD (i8_).toNatClampNeg 0) = 3) (hf4 : ¬ (i7_ < 0)) (hf5 : i7_ < (10 : Int32)) (hf6 : (own_bk f_backends_o0_ (vs_o1_.getD (i8_).toNatClampNeg 0) i7_) = x_) (hf7 : x_ < (0 : Int32)) (hf8 : (i8_ + (1 : Int32)) = j_) (hc : cells + (2) ≤ rc) (hs : slots + (11) ≤ rs) :
   ∃ (T' : State) (locs' : List Loc), Stand p l e (oR 6 rc rs 140) s m args below meth c T' locs' (cells + 2) (slots + 11) ∧ Fr n0 locs' ∧ Keep h0 T'.heap [] ∧
     ∀ target, Steps p.tables e below (T'.setTop (mkF m 30 #[oA o0_, oA o1_, oI i2_, oA o3_, oA o4_, oI i5_, oI i6_, oI i7_, oI j_, oI x_] [])) target → Steps p.tables e below (T0.setTop (mkF m 30 #[oA o0_, oA o1_, oI i2_, oA o3_, oA o4_, oI i5_, oI i6_, oI i7_, oI i8_, s9_] [])) target := by
 obtain ⟨c1, A1, hin1, hat1⟩ := own_il_at (j := i8_) A_o1_ hf1 hf2
 have hat1' : c1.slots[(i8_).toNatClampNeg]? = some (.int (vs_o1_.getD (i8_).toNatClampNeg 0)) := hat1
 obtain ⟨cq2, q2, q2'⟩ := E_o0_.cell
 obtain ⟨_, _, ⟨T2, L2, k2, n2⟩, -, X2, ⟨Lc2, hQ2, l2, y2, z2⟩, st2⟩ := X0.privateBack hx (y := oM2) hown (mvT hZ (oW hw 136 rfl)) (mvT hZ (oW hw 137 rfl)) (own_selp (mvT hZ (oW hw 19 rfl)) (mvP hZ (oW hw 138 rfl) (args := #[])) (mvT hZ (oW hw 137 rfl)) (by decide)) (Cond.privateMethod_at (mvP hZ (oW hw 138 rfl) (args := #[]))) (mvT hZ (oW hw 139 rfl)) (by decide) (backOf (W := 0) (own_back l Z a0 hw [] o0_ (vs_o1_.getD (i8_).toNatClampNeg 0) i7_ f_backends_o0_ h0 n0 Z0 F_backends_o0_ hf3 hf4 hf5) hZ (oW hw 139 rfl) (oW hw 16 rfl) (Nat.le_of_ble_eq_true rfl) (Nat.le_of_ble_eq_true rfl)) (g := (mkF m 44 #[oA o0_, oA o1_, oI i2_, oA o3_, oA o4_, oI i5_, oI i6_, oI i7_, oI i8_, s9_] [(.int i7_), (.int (vs_o1_.getD (i8_).toNatClampNeg 0)), (.int 0), (.ref o0_)])) rfl (by rw [hml]; rfl) (Steps.refl _) (a := o0_) (by rw [e0]; exact q2) q2' (argsL := [(.int 0), (.int (vs_o1_.getD (i8_).toNatClampNeg 0)), (.int i7_)]) (rest := []) (lenOf own_pd9 rfl) rfl (by show 2 * 0 + _ ≤ _; exact Nat.le_of_eq rfl) (oG hby d21 25 rfl) (fun _ _ => ⟨rfl, e0, (show cells + 2 ≤ rc from by omega), (show slots + 11 ≤ rs from by omega)⟩)
 dsimp only [Pt.U, Pt.locs, Pt.cells, Pt.slots] at X2 l2 y2 z2 st2 hQ2
 subst l2; rw [y2, z2] at X2
 obtain ⟨rfl, N2q, Kq2⟩ := hQ2
 have N2 := Fr.app N0 N2q
 have K2 : Keep h0 T2.heap [] := (Keep.refl h0 []).trans Kq2 own_a0
 refine ⟨T2, _, own_same X2 (by omega) (by omega), N2, K2, fun target kt => ?_⟩
 show oZ p e below T0 (mkF m 30 #[oA o0_, oA o1_, oI i2_, oA o3_, oA o4_, oI i5_, oI i6_, oI i7_, oI i8_, s9_] []) _
 refine XS.iload X0.here hx rfl (oG hby d21 16 rfl) rfl ?_
 refine XS.iloadN X0.here hx rfl (oG hby d21 17 rfl) rfl ?_
 refine XS.icmpNo X0.here hx rfl (oG hby d21 18 rfl) rfl (tlt hf0).2.1 ?_
 refine XS.aloadN X0.here hx rfl (oG hby d21 19 rfl) rfl rfl ?_
 refine XS.iconst X0.here hx rfl (oG hby d21 20 rfl) ?_
 refine XS.aloadN X0.here hx rfl (oG hby d21 21 rfl) rfl rfl ?_
 refine XS.iload X0.here hx rfl (oG hby d21 22 rfl) rfl ?_
 refine X0.iaload hx (j := i8_) (v := (.int (vs_o1_.getD (i8_).toNatClampNeg 0))) (by rw [e0]; exact A1.1) (State.isArrayOf_alike hZ.alike A1.2.1) A1.2.2 hin1 hat1' (g := (mkF m 41 #[oA o0_, oA o1_, oI i2_, oA o3_, oA o4_, oI i5_, oI i6_, oI i7_, oI i8_, s9_] [(.int i8_), (.ref o1_), (.int 0), (.ref o0_)])) rfl rfl (oG hby d21 23 rfl) _ ?_
 refine XS.iload X0.here hx rfl (oG hby d21 24 rfl) rfl ?_
 refine st2.trans ?_
 show oZ p e below T2 (mkF m 47 #[oA o0_, oA o1_, oI i2_, oA o3_, oA o4_, oI i5_, oI i6_, oI i7_, oI i8_, s9_] [(.int (own_bk f_backends_o0_ (vs_o1_.getD (i8_).toNatClampNeg 0) i7_))]) _
 rw [hf6]
 refine XS.istore X2.here hx rfl (oG hby d21 26 rfl) rfl (l' := #[oA o0_, oA o1_, oI i2_, oA o3_, oA o4_, oI i5_, oI i6_, oI i7_, oI i8_, oI x_]) (by rcases H_s9_ with rfl | ⟨_, rfl⟩ <;> rfl) ?_
 refine XS.iload X2.here hx rfl (oG hby d21 27 rfl) rfl ?_
 refine XS.ifYes X2.here hx rfl (pc0 := 51) (pc' := 65) rfl (oG hby d21 28 rfl) rfl ((if0 _ _).trans (tlt hf7).1) (by decide) (by decide) ?_
 refine XS.iinc X2.here hx rfl (oG hby d21 35 rfl) rfl (l' := #[oA o0_, oA o1_, oI i2_, oA o3_, oA o4_, oI i5_, oI i6_, oI i7_, oI (i8_ + (1 : Int32)), oI x_]) rfl ?_
 show oZ p e below T2 (mkF m 68 #[oA o0_, oA o1_, oI i2_, oA o3_, oA o4_, oI i5_, oI i6_, oI i7_, oI (i8_ + (1 : Int32)), oI x_] []) _
 rw [hf8]
 refine XS.goto X2.here hx rfl (pc0 := 68) (pc' := 30) rfl (oG hby d21 36 rfl) (by decide) (by decide) ?_
 exact kt
theorem own_in_O (rc : Nat) (rs : Nat) (o0_ : Addr) (o1_ : Addr) (i2_ : Int32) (o3_ : Addr) (o4_ : Addr) (i5_ : Int32) (i6_ : Int32) (i7_ : Int32) (i8_ : Int32) (s9_ : Slot) (n_o1_ : Int32) (vs_o1_ : List Int32) (f_backends_o0_ : Int32) (x_ : Int32) (ch_ : Addr) (bs_ : Addr) (wd_ : Addr) (n_ : Int32) (us_ : Value) (st_ : own_St) (j_ : Int32)
   (X0 : Stand p l e (oR 6 rc rs 140) s m args below meth c T0 locs cells slots) (hx : p.tables.exec = Jvm.exec) (hZ : Z.Warmed39 s.vm) (hw : oH a0 Z) (hby : c.code = prog_29_method_10_code) (hml : c.maxLocals = 10) (hown : s.vm.findClass oC0 = some m.cls) (e0 : T0.heap = h0) (N0 : Fr n0 locs) (Z0 : n0 ≤ h0.size) (A_o1_ : own_il Z h0 o1_ n_o1_ vs_o1_) (F_backends_o0_ : Fld Z h0 o0_ oC0 "backends" "I" (.int f_backends_o0_)) (E_o0_ : Exa Z h0 o0_ oC0) (H_s9_ : (s9_ = .unset ∨ ∃ z : Int32, s9_ = oI z)) (P_str : own_STR Z h0 o3_ ch_ bs_ wd_ n_ us_ st_) (D_ : own_four n0 o3_ ch_ bs_ wd_) (S__assertionsDisabled : Sta Z h0 oC2 "$assertionsDisabled" "Z" (.int 1)) (g_o3_ : n0 ≤ o3_) (g_ch_ : n0 ≤ ch_) (g_bs_ : n0 ≤ bs_) (g_wd_ : n0 ≤ wd_) (hf0 : i8_ < i2_) (hf1 : ¬ (i8_ < 0)) (hf2 : i8_ < n_o1_) (hf3 : (vs_o1_.getD (i8_).toNatClampNeg 0) = 0 ∨ (vs_o1_.getD (i8_).toNatClampNeg 0) = 1 ∨ (vs_o1_.getD (i8_).toNatClampNeg 0) = 2 ∨ (vs_o1_.getD (i8_).toNatClampNeg 0) = 3) (hf4 : ¬ (i7_ < 0)) (hf5 : i7_ < (10 : Int32)) (hf6 : (own_bk f_backends_o0_ (vs_o1_.getD (i8_).toNatClampNeg 0) i7_) = x_) (hf7 : ¬ (x_ < (0 : Int32))) (hf8 : (x_ >>> ((6 : Int32) &&& 31)) = (0 : Int32)) (hf9 : ¬ (st_.2.1 < 0)) (hf10 : st_.2.1 < n_) (hf11 : st_.2.2.1 = 0 ∨ st_.2.2.1 = 1) (hf12 : (own_off n_ x_ st_).2 = (0 : Int32)) (hf13 : (i8_ + (1 : Int32)) = j_) (hc : cells + (2) ≤ rc) (hs : slots + (11) ≤ rs) :
   ∃ (T' : State) (locs' : List Loc), Stand p l e (oR 6 rc rs 140) s m args below meth c T' locs' (cells + 2) (slots + 11) ∧ Fr n0 locs' ∧ Keep h0 T'.heap [o3_, ch_, bs_, wd_] ∧ own_STR Z T'.heap o3_ ch_ bs_ wd_ n_ us_ (own_off n_ x_ st_).1 ∧
     ∀ target, Steps p.tables e below (T'.setTop (mkF m 30 #[oA o0_, oA o1_, oI i2_, oA o3_, oA o4_, oI i5_, oI i6_, oI i7_, oI j_, oI x_] [])) target → Steps p.tables e below (T0.setTop (mkF m 30 #[oA o0_, oA o1_, oI i2_, oA o3_, oA o4_, oI i5_, oI i6_, oI i7_, oI i8_, s9_] [])) target := by
 obtain ⟨c1, A1, hin1, hat1⟩ := own_il_at (j := i8_) A_o1_ hf1 hf2
 have hat1' : c1.slots[(i8_).toNatClampNeg]? = some (.int (vs_o1_.getD (i8_).toNatClampNeg 0)) := hat1
 obtain ⟨cq2, q2, q2'⟩ := E_o0_.cell
 obtain ⟨_, _, ⟨T2, L2, k2, n2⟩, -, X2, ⟨Lc2, hQ2, l2, y2, z2⟩, st2⟩ := X0.privateBack hx (y := oM2) hown (mvT hZ (oW hw 136 rfl)) (mvT hZ (oW hw 137 rfl)) (own_selp (mvT hZ (oW hw 19 rfl)) (mvP hZ (oW hw 138 rfl) (args := #[])) (mvT hZ (oW hw 137 rfl)) (by decide)) (Cond.privateMethod_at (mvP hZ (oW hw 138 rfl) (args := #[]))) (mvT hZ (oW hw 139 rfl)) (by decide) (backOf (W := 0) (own_back l Z a0 hw [] o0_ (vs_o1_.getD (i8_).toNatClampNeg 0) i7_ f_backends_o0_ h0 n0 Z0 F_backends_o0_ hf3 hf4 hf5) hZ (oW hw 139 rfl) (oW hw 16 rfl) (Nat.le_of_ble_eq_true rfl) (Nat.le_of_ble_eq_true rfl)) (g := (mkF m 44 #[oA o0_, oA o1_, oI i2_, oA o3_, oA o4_, oI i5_, oI i6_, oI i7_, oI i8_, s9_] [(.int i7_), (.int (vs_o1_.getD (i8_).toNatClampNeg 0)), (.int 0), (.ref o0_)])) rfl (by rw [hml]; rfl) (Steps.refl _) (a := o0_) (by rw [e0]; exact q2) q2' (argsL := [(.int 0), (.int (vs_o1_.getD (i8_).toNatClampNeg 0)), (.int i7_)]) (rest := []) (lenOf own_pd9 rfl) rfl (by show 2 * 0 + _ ≤ _; exact Nat.le_of_eq rfl) (oG hby d21 25 rfl) (fun _ _ => ⟨rfl, e0, (show cells + 2 ≤ rc from by omega), (show slots + 11 ≤ rs from by omega)⟩)
 dsimp only [Pt.U, Pt.locs, Pt.cells, Pt.slots] at X2 l2 y2 z2 st2 hQ2
 subst l2; rw [y2, z2] at X2
 obtain ⟨rfl, N2q, Kq2⟩ := hQ2
 have N2 := Fr.app N0 N2q
 have K2 : Keep h0 T2.heap [o3_, ch_, bs_, wd_] := (Keep.refl h0 [o3_, ch_, bs_, wd_]).trans Kq2 own_a0
 have f4_str := (P_str.ext (own_ext Kq2))
 have f5_java_util_BitSet__assert := (own_sta_k S__assertionsDisabled Kq2 (own_a0 ))
 obtain ⟨cq3, kq3, q3a, q3b, q3c⟩ := isOf hZ rfl f4_str.1
 obtain ⟨_, _, ⟨T3, L3, k3, n3⟩, -, X3, ⟨Lc3, hQ3, l3, y3, z3⟩, st3⟩ := X2.virtualBack hx (y := oM0) (z := oM0) hown (mvT hZ (oW hw 169 rfl)) (mvT hZ (oW hw 170 rfl)) (notFace_of_selects (args := #[]) (mvT hZ (oW hw 172 rfl))) (mvT hZ (oW hw 172 rfl)) (mvT hZ (oW hw 171 rfl)) (by decide) (backOf (W := 0) (own_offer l Z a0 hw [] o3_ x_ ch_ bs_ wd_ n_ us_ st_ T2.heap n0 (Nat.le_trans Z0 K2.1) f4_str D_ f5_java_util_BitSet__assert hf7 hf8 hf9 hf10 hf11) hZ (oW hw 173 rfl) (oW hw 97 rfl) (Nat.le_of_ble_eq_true rfl) (Nat.le_of_ble_eq_true rfl)) q3a q3c (g := (mkF m 57 #[oA o0_, oA o1_, oI i2_, oA o3_, oA o4_, oI i5_, oI i6_, oI i7_, oI i8_, oI x_] [(.int x_), (.ref o3_)])) rfl (by rw [hml]; rfl) (Steps.refl _) (argsL := [(.int x_)]) (rest := []) (lenOf own_pd2 rfl) rfl (by show 2 * 0 + _ ≤ _; exact Nat.le_of_eq rfl) (oG hby d21 31 rfl) (fun _ _ => ⟨rfl, rfl, (show cells + 2 + 0 ≤ rc from by omega), (show slots + 11 + 0 ≤ rs from by omega)⟩)
 dsimp only [Pt.U, Pt.locs, Pt.cells, Pt.slots] at X3 l3 y3 z3 st3 hQ3
 subst l3; rw [y3, z3] at X3
 obtain ⟨rfl, N3q, Kq3, Q3_0⟩ := hQ3
 have N3 := Fr.app N2 N3q
 have K3 : Keep h0 T3.heap [o3_, ch_, bs_, wd_] := K2.trans Kq3 (own_a4 (Or.inl (oX 0 rfl)) (Or.inl (oX 1 rfl)) (Or.inl (oX 2 rfl)) (Or.inl (oX 3 rfl)))
 refine ⟨T3, _, own_same X3 (by omega) (by omega), N3, K3, Q3_0, fun target kt => ?_⟩
 show oZ p e below T0 (mkF m 30 #[oA o0_, oA o1_, oI i2_, oA o3_, oA o4_, oI i5_, oI i6_, oI i7_, oI i8_, s9_] []) _
 refine XS.iload X0.here hx rfl (oG hby d21 16 rfl) rfl ?_
 refine XS.iloadN X0.here hx rfl (oG hby d21 17 rfl) rfl ?_
 refine XS.icmpNo X0.here hx rfl (oG hby d21 18 rfl) rfl (tlt hf0).2.1 ?_
 refine XS.aloadN X0.here hx rfl (oG hby d21 19 rfl) rfl rfl ?_
 refine XS.iconst X0.here hx rfl (oG hby d21 20 rfl) ?_
 refine XS.aloadN X0.here hx rfl (oG hby d21 21 rfl) rfl rfl ?_
 refine XS.iload X0.here hx rfl (oG hby d21 22 rfl) rfl ?_
 refine X0.iaload hx (j := i8_) (v := (.int (vs_o1_.getD (i8_).toNatClampNeg 0))) (by rw [e0]; exact A1.1) (State.isArrayOf_alike hZ.alike A1.2.1) A1.2.2 hin1 hat1' (g := (mkF m 41 #[oA o0_, oA o1_, oI i2_, oA o3_, oA o4_, oI i5_, oI i6_, oI i7_, oI i8_, s9_] [(.int i8_), (.ref o1_), (.int 0), (.ref o0_)])) rfl rfl (oG hby d21 23 rfl) _ ?_
 refine XS.iload X0.here hx rfl (oG hby d21 24 rfl) rfl ?_
 refine st2.trans ?_
 show oZ p e below T2 (mkF m 47 #[oA o0_, oA o1_, oI i2_, oA o3_, oA o4_, oI i5_, oI i6_, oI i7_, oI i8_, s9_] [(.int (own_bk f_backends_o0_ (vs_o1_.getD (i8_).toNatClampNeg 0) i7_))]) _
 rw [hf6]
 refine XS.istore X2.here hx rfl (oG hby d21 26 rfl) rfl (l' := #[oA o0_, oA o1_, oI i2_, oA o3_, oA o4_, oI i5_, oI i6_, oI i7_, oI i8_, oI x_]) (by rcases H_s9_ with rfl | ⟨_, rfl⟩ <;> rfl) ?_
 refine XS.iload X2.here hx rfl (oG hby d21 27 rfl) rfl ?_
 refine XS.ifNo X2.here hx rfl (oG hby d21 28 rfl) rfl ((if0 _ _).trans (flt hf7).1) ?_
 refine XS.aloadN X2.here hx rfl (oG hby d21 29 rfl) rfl rfl ?_
 refine XS.iload X2.here hx rfl (oG hby d21 30 rfl) rfl ?_
 refine st3.trans ?_
 refine XS.ifYes X3.here hx rfl (pc0 := 60) (pc' := 65) rfl (oG hby d21 32 rfl) rfl ((if0 _ _).trans (teq hf12).1) (by decide) (by decide) ?_
 refine XS.iinc X3.here hx rfl (oG hby d21 35 rfl) rfl (l' := #[oA o0_, oA o1_, oI i2_, oA o3_, oA o4_, oI i5_, oI i6_, oI i7_, oI (i8_ + (1 : Int32)), oI x_]) rfl ?_
 show oZ p e below T3 (mkF m 68 #[oA o0_, oA o1_, oI i2_, oA o3_, oA o4_, oI i5_, oI i6_, oI i7_, oI (i8_ + (1 : Int32)), oI x_] []) _
 rw [hf13]
 refine XS.goto X3.here hx rfl (pc0 := 68) (pc' := 30) rfl (oG hby d21 36 rfl) (by decide) (by decide) ?_
 exact kt
theorem own_in_F (rc : Nat) (rs : Nat) (o0_ : Addr) (o1_ : Addr) (i2_ : Int32) (o3_ : Addr) (o4_ : Addr) (i5_ : Int32) (i6_ : Int32) (i7_ : Int32) (i8_ : Int32) (s9_ : Slot) (n_o1_ : Int32) (vs_o1_ : List Int32) (f_backends_o0_ : Int32) (x_ : Int32) (ch_ : Addr) (bs_ : Addr) (wd_ : Addr) (n_ : Int32) (us_ : Value) (st_ : own_St)
   (X0 : Stand p l e (oR 6 rc rs 140) s m args below meth c T0 locs cells slots) (hx : p.tables.exec = Jvm.exec) (hZ : Z.Warmed39 s.vm) (hw : oH a0 Z) (hby : c.code = prog_29_method_10_code) (hml : c.maxLocals = 10) (hown : s.vm.findClass oC0 = some m.cls) (e0 : T0.heap = h0) (N0 : Fr n0 locs) (Z0 : n0 ≤ h0.size) (A_o1_ : own_il Z h0 o1_ n_o1_ vs_o1_) (F_backends_o0_ : Fld Z h0 o0_ oC0 "backends" "I" (.int f_backends_o0_)) (E_o0_ : Exa Z h0 o0_ oC0) (H_s9_ : (s9_ = .unset ∨ ∃ z : Int32, s9_ = oI z)) (P_str : own_STR Z h0 o3_ ch_ bs_ wd_ n_ us_ st_) (D_ : own_four n0 o3_ ch_ bs_ wd_) (S__assertionsDisabled : Sta Z h0 oC2 "$assertionsDisabled" "Z" (.int 1)) (g_o3_ : n0 ≤ o3_) (g_ch_ : n0 ≤ ch_) (g_bs_ : n0 ≤ bs_) (g_wd_ : n0 ≤ wd_) (hf0 : i8_ < i2_) (hf1 : ¬ (i8_ < 0)) (hf2 : i8_ < n_o1_) (hf3 : (vs_o1_.getD (i8_).toNatClampNeg 0) = 0 ∨ (vs_o1_.getD (i8_).toNatClampNeg 0) = 1 ∨ (vs_o1_.getD (i8_).toNatClampNeg 0) = 2 ∨ (vs_o1_.getD (i8_).toNatClampNeg 0) = 3) (hf4 : ¬ (i7_ < 0)) (hf5 : i7_ < (10 : Int32)) (hf6 : (own_bk f_backends_o0_ (vs_o1_.getD (i8_).toNatClampNeg 0) i7_) = x_) (hf7 : ¬ (x_ < (0 : Int32))) (hf8 : (x_ >>> ((6 : Int32) &&& 31)) = (0 : Int32)) (hf9 : ¬ (st_.2.1 < 0)) (hf10 : st_.2.1 < n_) (hf11 : st_.2.2.1 = 0 ∨ st_.2.2.1 = 1) (hf12 : ¬ ((own_off n_ x_ st_).2 = (0 : Int32))) (hc : cells + (2) ≤ rc) (hs : slots + (11) ≤ rs) :
   ∃ (T' : State) (locs' : List Loc), Stand p l e (oR 6 rc rs 140) s m args below meth c T' locs' (cells + 2) (slots + 11) ∧ Fr n0 locs' ∧ Keep h0 T'.heap [o3_, ch_, bs_, wd_] ∧ own_STR Z T'.heap o3_ ch_ bs_ wd_ n_ us_ (own_off n_ x_ st_).1 ∧
     ∀ target, Steps p.tables e below (T'.setTop (mkF m 63 #[oA o0_, oA o1_, oI i2_, oA o3_, oA o4_, oI i5_, oI i6_, oI i7_, oI i8_, oI x_] [])) target → Steps p.tables e below (T0.setTop (mkF m 30 #[oA o0_, oA o1_, oI i2_, oA o3_, oA o4_, oI i5_, oI i6_, oI i7_, oI i8_, s9_] [])) target := by
 obtain ⟨c1, A1, hin1, hat1⟩ := own_il_at (j := i8_) A_o1_ hf1 hf2
 have hat1' : c1.slots[(i8_).toNatClampNeg]? = some (.int (vs_o1_.getD (i8_).toNatClampNeg 0)) := hat1
 obtain ⟨cq2, q2, q2'⟩ := E_o0_.cell
 obtain ⟨_, _, ⟨T2, L2, k2, n2⟩, -, X2, ⟨Lc2, hQ2, l2, y2, z2⟩, st2⟩ := X0.privateBack hx (y := oM2) hown (mvT hZ (oW hw 136 rfl)) (mvT hZ (oW hw 137 rfl)) (own_selp (mvT hZ (oW hw 19 rfl)) (mvP hZ (oW hw 138 rfl) (args := #[])) (mvT hZ (oW hw 137 rfl)) (by decide)) (Cond.privateMethod_at (mvP hZ (oW hw 138 rfl) (args := #[]))) (mvT hZ (oW hw 139 rfl)) (by decide) (backOf (W := 0) (own_back l Z a0 hw [] o0_ (vs_o1_.getD (i8_).toNatClampNeg 0) i7_ f_backends_o0_ h0 n0 Z0 F_backends_o0_ hf3 hf4 hf5) hZ (oW hw 139 rfl) (oW hw 16 rfl) (Nat.le_of_ble_eq_true rfl) (Nat.le_of_ble_eq_true rfl)) (g := (mkF m 44 #[oA o0_, oA o1_, oI i2_, oA o3_, oA o4_, oI i5_, oI i6_, oI i7_, oI i8_, s9_] [(.int i7_), (.int (vs_o1_.getD (i8_).toNatClampNeg 0)), (.int 0), (.ref o0_)])) rfl (by rw [hml]; rfl) (Steps.refl _) (a := o0_) (by rw [e0]; exact q2) q2' (argsL := [(.int 0), (.int (vs_o1_.getD (i8_).toNatClampNeg 0)), (.int i7_)]) (rest := []) (lenOf own_pd9 rfl) rfl (by show 2 * 0 + _ ≤ _; exact Nat.le_of_eq rfl) (oG hby d21 25 rfl) (fun _ _ => ⟨rfl, e0, (show cells + 2 ≤ rc from by omega), (show slots + 11 ≤ rs from by omega)⟩)
 dsimp only [Pt.U, Pt.locs, Pt.cells, Pt.slots] at X2 l2 y2 z2 st2 hQ2
 subst l2; rw [y2, z2] at X2
 obtain ⟨rfl, N2q, Kq2⟩ := hQ2
 have N2 := Fr.app N0 N2q
 have K2 : Keep h0 T2.heap [o3_, ch_, bs_, wd_] := (Keep.refl h0 [o3_, ch_, bs_, wd_]).trans Kq2 own_a0
 have f4_str := (P_str.ext (own_ext Kq2))
 have f5_java_util_BitSet__assert := (own_sta_k S__assertionsDisabled Kq2 (own_a0 ))
 obtain ⟨cq3, kq3, q3a, q3b, q3c⟩ := isOf hZ rfl f4_str.1
 obtain ⟨_, _, ⟨T3, L3, k3, n3⟩, -, X3, ⟨Lc3, hQ3, l3, y3, z3⟩, st3⟩ := X2.virtualBack hx (y := oM0) (z := oM0) hown (mvT hZ (oW hw 169 rfl)) (mvT hZ (oW hw 170 rfl)) (notFace_of_selects (args := #[]) (mvT hZ (oW hw 172 rfl))) (mvT hZ (oW hw 172 rfl)) (mvT hZ (oW hw 171 rfl)) (by decide) (backOf (W := 0) (own_offer l Z a0 hw [] o3_ x_ ch_ bs_ wd_ n_ us_ st_ T2.heap n0 (Nat.le_trans Z0 K2.1) f4_str D_ f5_java_util_BitSet__assert hf7 hf8 hf9 hf10 hf11) hZ (oW hw 173 rfl) (oW hw 97 rfl) (Nat.le_of_ble_eq_true rfl) (Nat.le_of_ble_eq_true rfl)) q3a q3c (g := (mkF m 57 #[oA o0_, oA o1_, oI i2_, oA o3_, oA o4_, oI i5_, oI i6_, oI i7_, oI i8_, oI x_] [(.int x_), (.ref o3_)])) rfl (by rw [hml]; rfl) (Steps.refl _) (argsL := [(.int x_)]) (rest := []) (lenOf own_pd2 rfl) rfl (by show 2 * 0 + _ ≤ _; exact Nat.le_of_eq rfl) (oG hby d21 31 rfl) (fun _ _ => ⟨rfl, rfl, (show cells + 2 + 0 ≤ rc from by omega), (show slots + 11 + 0 ≤ rs from by omega)⟩)
 dsimp only [Pt.U, Pt.locs, Pt.cells, Pt.slots] at X3 l3 y3 z3 st3 hQ3
 subst l3; rw [y3, z3] at X3
 obtain ⟨rfl, N3q, Kq3, Q3_0⟩ := hQ3
 have N3 := Fr.app N2 N3q
 have K3 : Keep h0 T3.heap [o3_, ch_, bs_, wd_] := K2.trans Kq3 (own_a4 (Or.inl (oX 0 rfl)) (Or.inl (oX 1 rfl)) (Or.inl (oX 2 rfl)) (Or.inl (oX 3 rfl)))
 refine ⟨T3, _, own_same X3 (by omega) (by omega), N3, K3, Q3_0, fun target kt => ?_⟩
 show oZ p e below T0 (mkF m 30 #[oA o0_, oA o1_, oI i2_, oA o3_, oA o4_, oI i5_, oI i6_, oI i7_, oI i8_, s9_] []) _
 refine XS.iload X0.here hx rfl (oG hby d21 16 rfl) rfl ?_
 refine XS.iloadN X0.here hx rfl (oG hby d21 17 rfl) rfl ?_
 refine XS.icmpNo X0.here hx rfl (oG hby d21 18 rfl) rfl (tlt hf0).2.1 ?_
 refine XS.aloadN X0.here hx rfl (oG hby d21 19 rfl) rfl rfl ?_
 refine XS.iconst X0.here hx rfl (oG hby d21 20 rfl) ?_
 refine XS.aloadN X0.here hx rfl (oG hby d21 21 rfl) rfl rfl ?_
 refine XS.iload X0.here hx rfl (oG hby d21 22 rfl) rfl ?_
 refine X0.iaload hx (j := i8_) (v := (.int (vs_o1_.getD (i8_).toNatClampNeg 0))) (by rw [e0]; exact A1.1) (State.isArrayOf_alike hZ.alike A1.2.1) A1.2.2 hin1 hat1' (g := (mkF m 41 #[oA o0_, oA o1_, oI i2_, oA o3_, oA o4_, oI i5_, oI i6_, oI i7_, oI i8_, s9_] [(.int i8_), (.ref o1_), (.int 0), (.ref o0_)])) rfl rfl (oG hby d21 23 rfl) _ ?_
 refine XS.iload X0.here hx rfl (oG hby d21 24 rfl) rfl ?_
 refine st2.trans ?_
 show oZ p e below T2 (mkF m 47 #[oA o0_, oA o1_, oI i2_, oA o3_, oA o4_, oI i5_, oI i6_, oI i7_, oI i8_, s9_] [(.int (own_bk f_backends_o0_ (vs_o1_.getD (i8_).toNatClampNeg 0) i7_))]) _
 rw [hf6]
 refine XS.istore X2.here hx rfl (oG hby d21 26 rfl) rfl (l' := #[oA o0_, oA o1_, oI i2_, oA o3_, oA o4_, oI i5_, oI i6_, oI i7_, oI i8_, oI x_]) (by rcases H_s9_ with rfl | ⟨_, rfl⟩ <;> rfl) ?_
 refine XS.iload X2.here hx rfl (oG hby d21 27 rfl) rfl ?_
 refine XS.ifNo X2.here hx rfl (oG hby d21 28 rfl) rfl ((if0 _ _).trans (flt hf7).1) ?_
 refine XS.aloadN X2.here hx rfl (oG hby d21 29 rfl) rfl rfl ?_
 refine XS.iload X2.here hx rfl (oG hby d21 30 rfl) rfl ?_
 refine st3.trans ?_
 refine XS.ifNo X3.here hx rfl (oG hby d21 32 rfl) rfl ((if0 _ _).trans (feq hf12).1) ?_
 exact kt
theorem own_in_X (rc : Nat) (rs : Nat) (o0_ : Addr) (o1_ : Addr) (i2_ : Int32) (o3_ : Addr) (o4_ : Addr) (i5_ : Int32) (i6_ : Int32) (i7_ : Int32) (i8_ : Int32) (s9_ : Slot) 
   (X0 : Stand p l e (oR 6 rc rs 140) s m args below meth c T0 locs cells slots) (hx : p.tables.exec = Jvm.exec) (hZ : Z.Warmed39 s.vm) (hw : oH a0 Z) (hby : c.code = prog_29_method_10_code) (hml : c.maxLocals = 10) (hown : s.vm.findClass oC0 = some m.cls) (e0 : T0.heap = h0) (N0 : Fr n0 locs) (Z0 : n0 ≤ h0.size) (hf0 : ¬ (i8_ < i2_)) (hc : cells + (0) ≤ rc) (hs : slots + (0) ≤ rs) :
   ∃ (T' : State) (locs' : List Loc), Stand p l e (oR 6 rc rs 140) s m args below meth c T' locs' cells slots ∧ Fr n0 locs' ∧ T'.heap = h0 ∧
     ∀ target, Steps p.tables e below (T'.setTop (mkF m 71 #[oA o0_, oA o1_, oI i2_, oA o3_, oA o4_, oI i5_, oI i6_, oI i7_, oI i8_, s9_] [])) target → Steps p.tables e below (T0.setTop (mkF m 30 #[oA o0_, oA o1_, oI i2_, oA o3_, oA o4_, oI i5_, oI i6_, oI i7_, oI i8_, s9_] [])) target := by
 refine ⟨T0, _, X0, N0, e0, fun target kt => ?_⟩
 show oZ p e below T0 (mkF m 30 #[oA o0_, oA o1_, oI i2_, oA o3_, oA o4_, oI i5_, oI i6_, oI i7_, oI i8_, s9_] []) _
 refine XS.iload X0.here hx rfl (oG hby d21 16 rfl) rfl ?_
 refine XS.iloadN X0.here hx rfl (oG hby d21 17 rfl) rfl ?_
 refine XS.icmpYes X0.here hx rfl (pc0 := 33) (pc' := 71) rfl (oG hby d21 18 rfl) rfl (flt hf0).2.1 (by decide) (by decide) ?_
 exact kt
section OwnInner
theorem own_ofNat_toInt {i : Nat} (h : i < 2 ^ 31) : (Int32.ofNat i).toInt = i := Int32.toInt_ofNat_small h
theorem own_ofNat_lt {i c : Nat} (h : i < c) (hc : c < 2 ^ 31) : Int32.ofNat i < Int32.ofNat c := by
 rw [Int32.lt_iff_toInt_lt, own_ofNat_toInt (by omega), own_ofNat_toInt hc]; omega
theorem own_ofNat_nlt {i c : Nat} (h : c ≤ i) (hc : i < 2 ^ 31) : ¬ (Int32.ofNat i < Int32.ofNat c) := by
 rw [Int32.lt_iff_toInt_lt, own_ofNat_toInt (by omega), own_ofNat_toInt (by omega)]; omega
theorem own_ofNat_nneg {i : Nat} (h : i < 2 ^ 31) : ¬ (Int32.ofNat i < 0) := by
 rw [Int32.lt_iff_toInt_lt, own_ofNat_toInt h, Int32.toInt_zero]; omega
theorem own_ofNat_nat {i : Nat} (h : i < 2 ^ 31) : (Int32.ofNat i).toNatClampNeg = i := by
 show (Int32.ofNat i).toInt.toNat = i
 rw [own_ofNat_toInt h]; simp
theorem own_ofNat_succ (i : Nat) : (Int32.ofNat i + (1 : Int32)) = Int32.ofNat (i + 1) := by
 rw [Int32.ofNat_add]; rfl
def own_in (b n row : Int32) (vs : List Int32) : Nat → Nat → own_St → own_St × Int32 × Nat
 | 0, _, st => (st, 0, 0)
 | k + 1, i, st =>
   if own_bk b (vs.getD i 0) row < (0 : Int32) then ((own_in b n row vs k (i + 1) st).1, (own_in b n row vs k (i + 1) st).2.1, (own_in b n row vs k (i + 1) st).2.2 + 1)
   else if (own_off n (own_bk b (vs.getD i 0) row) st).2 = (0 : Int32) then ((own_in b n row vs k (i + 1) (own_off n (own_bk b (vs.getD i 0) row) st).1).1, (own_in b n row vs k (i + 1) (own_off n (own_bk b (vs.getD i 0) row) st).1).2.1, (own_in b n row vs k (i + 1) (own_off n (own_bk b (vs.getD i 0) row) st).1).2.2 + 1)
   else ((own_off n (own_bk b (vs.getD i 0) row) st).1, 1, 1)
def own_lots (vs : List Int32) : Prop := ∀ i, vs.getD i 0 = 0 ∨ vs.getD i 0 = 1 ∨ vs.getD i 0 = 2 ∨ vs.getD i 0 = 3
def own_ok (n : Int32) (st : own_St) : Prop := ¬ (st.2.1 < 0) ∧ st.2.1 < n ∧ (st.2.2.1 = 0 ∨ st.2.2.1 = 1)
theorem own_off_ok {n x : Int32} {st : own_St} (h : own_ok n st) (h0 : (own_off n x st).2 = (0 : Int32)) : own_ok n (own_off n x st).1 := by
 obtain ⟨sk, tk, u, w⟩ := st
 obtain ⟨h1, h2, h3⟩ := h
 dsimp only at h1 h2 h3
 unfold own_off at h0 ⊢
 split
 · exact ⟨h1, h2, h3⟩
 · rename_i q1
   rw [if_neg q1] at h0
   split
   · exact ⟨h1, h2, h3⟩
   · rename_i q2
     rw [if_neg q2] at h0
     by_cases q : tk + 1 = n
     · rw [if_pos q] at h0; exact absurd (show (1 : Int32) = 0 from h0) (by decide)
     · have b1 := n.toInt_lt
       rw [Int32.lt_iff_toInt_lt] at h1 h2
       rw [Int32.toInt_zero] at h1
       have e1 : (1 : Int32).toInt = 1 := by decide
       have e2 := Jvm.Kit.i32_add (p := tk) (q := 1) (by omega) (by omega)
       have e3 : (tk + 1).toInt ≠ n.toInt := fun z => q (Int32.toInt_inj.mp z)
       refine ⟨?_, ?_, Or.inr rfl⟩
       · show ¬ (tk + 1 < 0)
         rw [Int32.lt_iff_toInt_lt, Int32.toInt_zero]; omega
       · show tk + 1 < n
         rw [Int32.lt_iff_toInt_lt]; omega
theorem own_bk6 {b lot row : Int32} (hl : lot = 0 ∨ lot = 1 ∨ lot = 2 ∨ lot = 3) (h1 : ¬ (row < 0)) (h2 : row < (10 : Int32)) (hb : ¬ (own_bk b lot row < (0 : Int32))) : (own_bk b lot row >>> ((6 : Int32) &&& 31)) = (0 : Int32) := by
 have hk : row.toNatClampNeg < 10 := by
   show row.toInt.toNat < 10
   rw [Int32.lt_iff_toInt_lt] at h1 h2
   have e : (10 : Int32).toInt = 10 := by decide
   rw [Int32.toInt_zero] at h1
   omega
 have q : (own_bx lot row).toInt32 >>> ((6 : Int32) &&& 31) = (0 : Int32) := by
   unfold own_bx
   generalize row.toNatClampNeg = k at hk
   have : k = 0 ∨ k = 1 ∨ k = 2 ∨ k = 3 ∨ k = 4 ∨ k = 5 ∨ k = 6 ∨ k = 7 ∨ k = 8 ∨ k = 9 := by omega
   rcases hl with rfl | rfl | rfl | rfl <;> rcases this with rfl | rfl | rfl | rfl | rfl | rfl | rfl | rfl | rfl | rfl <;> decide +kernel
 unfold own_bk at hb ⊢
 split
 · exact q
 · rename_i r
   rw [if_neg r] at hb; exact absurd hb (by decide)
def own_CTX (Z : State) (h : Heap) (o0 o1 o4 : Addr) (b : Int32) (nn : Int32) (vs : List Int32) : Prop :=
 Exa Z h o0 oC0 ∧ Fld Z h o0 oC0 "backends" "I" (.int b) ∧ own_il Z h o1 nn vs ∧ own_il Z h o4 10 [0, 8, 2, 4, 6, 1, 9, 5, 3, 7] ∧ Sta Z h oC2 "$assertionsDisabled" "Z" (.int 1)
variable {Z : State} {h h' : Heap} {o0 o1 o4 sp ch bs wd : Addr} {b nn n : Int32} {vs : List Int32} {us : Value} {st : own_St}
def own_dis (o0 o1 o4 sp ch bs wd : Addr) : Prop := o0 ∉ [sp, ch, bs, wd] ∧ o1 ∉ [sp, ch, bs, wd] ∧ o4 ∉ [sp, ch, bs, wd]
theorem own_CTX.ext (X : own_CTX Z h o0 o1 o4 b nn vs) (E : Ext h h') : own_CTX Z h' o0 o1 o4 b nn vs := by
 obtain ⟨a1, a2, a3, a4, a5⟩ := X; exact ⟨a1.ext E, a2.ext E, a3.ext E, a4.ext E, a5.ext E⟩
theorem own_STR.ns (S : own_STR Z h sp ch bs wd n us st) : ∀ a ∈ [sp, ch, bs, wd], own_ns h a := own_a4 (own_ns_E S.1) (own_ns_ia S.2.2.2.2.2.1) (own_ns_E S.2.2.2.2.2.2.1) (own_ns_jl S.2.2.2.2.2.2.2.2.2.2)
theorem own_CTX.keep (X : own_CTX Z h o0 o1 o4 b nn vs) (K : Keep h h' [sp, ch, bs, wd]) (S : own_STR Z h sp ch bs wd n us st) (d : own_dis o0 o1 o4 sp ch bs wd) : own_CTX Z h' o0 o1 o4 b nn vs := by
 obtain ⟨a1, a2, a3, a4, a5⟩ := X
 exact ⟨a1.keep K, a2.keep K d.1, a3.keep K d.2.1, a4.keep K d.2.2, own_sta_k a5 K S.ns⟩
theorem own_keep_step {h1 h2 : Heap} {W W1 : List Addr} (K : Keep h h1 W1) (K' : Keep h1 h2 W) (q : ∀ x ∈ W1, x ∈ W) : Keep h h2 W := (own_keep_mono K q).trans K' fun x hx => Or.inl hx
theorem own_inner {p : Program} {l : Launch} {e : Env} {s : State} {m : MethodId} {args : Array Value} {below : List Frame} {meth : Method} {c : Code} {Z : State} {a0 : Array Value} {n0 : Nat} {rc rs : Nat} {o0 o1 o3 o4 ch bs wd : Addr} {i5 i6 row b n : Int32} {us : Value} {vs : List Int32} {nn cnt : Nat}
   (hx : p.tables.exec = Jvm.exec) (hZ : Z.Warmed39 s.vm) (hw : oH a0 Z) (hby : c.code = prog_29_method_10_code) (hml : c.maxLocals = 10) (hown : s.vm.findClass oC0 = some m.cls)
   (D : own_four n0 o3 ch bs wd) (d : own_dis o0 o1 o4 o3 ch bs wd) (hvs : own_lots vs) (hr0 : ¬ (row < 0)) (hr1 : row < (10 : Int32)) (hcn : cnt ≤ nn) (hnn : nn < 1000) :
   ∀ (k i : Nat) (st : own_St) (s9 : Slot) (T0 : State) (locs : List Loc) (cells slots : Nat), i + k = cnt → (s9 = .unset ∨ ∃ z : Int32, s9 = oI z) → own_ok n st →
     Stand p l e (oR 6 rc rs 140) s m args below meth c T0 locs cells slots → Fr n0 locs → n0 ≤ T0.heap.size → own_CTX Z T0.heap o0 o1 o4 b (Int32.ofNat nn) vs → own_STR Z T0.heap o3 ch bs wd n us st →
     cells + 2 * (own_in b n row vs k i st).2.2 ≤ rc → slots + 11 * (own_in b n row vs k i st).2.2 ≤ rs →
     ∃ (T' : State) (locs' : List Loc) (z8 : Int32) (s9' : Slot), Stand p l e (oR 6 rc rs 140) s m args below meth c T' locs' (cells + 2 * (own_in b n row vs k i st).2.2) (slots + 11 * (own_in b n row vs k i st).2.2) ∧ Fr n0 locs' ∧ Keep T0.heap T'.heap [o3, ch, bs, wd] ∧ own_STR Z T'.heap o3 ch bs wd n us (own_in b n row vs k i st).1 ∧ (s9' = .unset ∨ ∃ z : Int32, s9' = oI z) ∧ ((own_in b n row vs k i st).2.1 = 0 → own_ok n (own_in b n row vs k i st).1) ∧ ((own_in b n row vs k i st).2.1 = 0 ∨ (own_in b n row vs k i st).2.1 = 1) ∧
     ∀ target, Steps p.tables e below (T'.setTop (mkF m (if (own_in b n row vs k i st).2.1 = 0 then 71 else 63) #[oA o0, oA o1, oI (Int32.ofNat cnt), oA o3, oA o4, oI i5, oI i6, oI row, oI z8, s9'] [])) target →
       Steps p.tables e below (T0.setTop (mkF m 30 #[oA o0, oA o1, oI (Int32.ofNat cnt), oA o3, oA o4, oI i5, oI i6, oI row, oI (Int32.ofNat i), s9] [])) target := by
 intro k
 induction k with
 | zero =>
   intro i st s9 T0 locs cells slots hik h9 hok X N Z0 C S hc hs
   have hf := own_ofNat_nlt (i := i) (c := cnt) (by omega) (by omega)
   obtain ⟨T', L', X', N', e', st'⟩ := own_in_X (s9_ := s9) (i8_ := Int32.ofNat i) (i2_ := Int32.ofNat cnt) (o0_ := o0) (o1_ := o1) (o3_ := o3) (o4_ := o4) (i5_ := i5) (i6_ := i6) (i7_ := row) rc rs X hx hZ hw hby hml hown rfl N Z0 hf (by simpa [own_in] using hc) (by simpa [own_in] using hs)
   refine ⟨T', L', Int32.ofNat i, s9, own_same X' (by simp [own_in]) (by simp [own_in]), N', by rw [e']; exact Keep.refl _ _, by rw [e']; exact S, h9, fun _ => hok, Or.inl rfl, ?_⟩
   intro target kt; exact st' target (by simpa [own_in] using kt)
 | succ k ih =>
   intro i st s9 T0 locs cells slots hik h9 hok X N Z0 C S hc hs
   have hi : i < 2 ^ 31 := by omega
   have hf1 := own_ofNat_lt (i := i) (c := cnt) (by omega) (by omega)
   have hf2 := own_ofNat_nneg hi
   have hf3 := own_ofNat_lt (i := i) (c := nn) (by omega) (by omega)
   have hv : vs.getD (Int32.ofNat i).toNatClampNeg 0 = vs.getD i 0 := by rw [own_ofNat_nat hi]
   have hlot : vs.getD (Int32.ofNat i).toNatClampNeg 0 = 0 ∨ vs.getD (Int32.ofNat i).toNatClampNeg 0 = 1 ∨ vs.getD (Int32.ofNat i).toNatClampNeg 0 = 2 ∨ vs.getD (Int32.ofNat i).toNatClampNeg 0 = 3 := by rw [hv]; exact hvs i
   have hxx : own_bk b (vs.getD (Int32.ofNat i).toNatClampNeg 0) row = own_bk b (vs.getD i 0) row := by rw [hv]
   have hD := D.1
   by_cases q1 : own_bk b (vs.getD i 0) row < (0 : Int32)
   · have eqk : own_in b n row vs (k + 1) i st = ((own_in b n row vs k (i + 1) st).1, (own_in b n row vs k (i + 1) st).2.1, (own_in b n row vs k (i + 1) st).2.2 + 1) := by rw [own_in, if_pos q1]
     rw [eqk] at hc hs ⊢
     dsimp only at hc hs ⊢
     obtain ⟨T1, L1, X1, N1, K1, st1⟩ : ∃ (T1 : State) (L1 : List Loc), Stand p l e (oR 6 rc rs 140) s m args below meth c T1 L1 (cells + 2) (slots + 11) ∧ Fr n0 L1 ∧ Keep T0.heap T1.heap [] ∧ ∀ target, Steps p.tables e below (T1.setTop (mkF m 30 #[oA o0, oA o1, oI (Int32.ofNat cnt), oA o3, oA o4, oI i5, oI i6, oI row, oI (Int32.ofNat (i + 1)), oI (own_bk b (vs.getD i 0) row)] [])) target → Steps p.tables e below (T0.setTop (mkF m 30 #[oA o0, oA o1, oI (Int32.ofNat cnt), oA o3, oA o4, oI i5, oI i6, oI row, oI (Int32.ofNat i), s9] [])) target := by
       exact own_in_P (s9_ := s9) (i8_ := Int32.ofNat i) (i2_ := Int32.ofNat cnt) (o0_ := o0) (o1_ := o1) (o3_ := o3) (o4_ := o4) (i5_ := i5) (i6_ := i6) (i7_ := row) (n_o1_ := Int32.ofNat nn) (vs_o1_ := vs) (f_backends_o0_ := b) (x_ := own_bk b (vs.getD i 0) row) (j_ := Int32.ofNat (i + 1)) rc rs X hx hZ hw hby hml hown rfl N Z0 C.2.2.1 C.2.1 C.1 h9 hf1 hf2 hf3 hlot hr0 hr1 hxx q1 (own_ofNat_succ i) (by omega) (by omega)
     obtain ⟨T', L', z8, s9', X', N', K', S', h9', ok', fl', st'⟩ := ih (i + 1) st (oI (own_bk b (vs.getD i 0) row)) T1 L1 (cells + 2) (slots + 11) (by omega) (Or.inr ⟨_, rfl⟩) hok X1 N1 (Nat.le_trans Z0 K1.1) (C.ext (own_ext K1)) (S.ext (own_ext K1)) (by omega) (by omega)
     exact ⟨T', L', z8, s9', own_same X' (by omega) (by omega), N', own_keep_step K1 K' (by simp), S', h9', ok', fl', fun target kt => st1 _ (st' _ kt)⟩
   · have q6 := own_bk6 (b := b) (hvs i) hr0 hr1 q1
     by_cases q2 : (own_off n (own_bk b (vs.getD i 0) row) st).2 = (0 : Int32)
     · have eqk : own_in b n row vs (k + 1) i st = ((own_in b n row vs k (i + 1) (own_off n (own_bk b (vs.getD i 0) row) st).1).1, (own_in b n row vs k (i + 1) (own_off n (own_bk b (vs.getD i 0) row) st).1).2.1, (own_in b n row vs k (i + 1) (own_off n (own_bk b (vs.getD i 0) row) st).1).2.2 + 1) := by rw [own_in, if_neg q1, if_pos q2]
       rw [eqk] at hc hs ⊢
       dsimp only at hc hs ⊢
       obtain ⟨T1, L1, X1, N1, K1, S1, st1⟩ : ∃ (T1 : State) (L1 : List Loc), Stand p l e (oR 6 rc rs 140) s m args below meth c T1 L1 (cells + 2) (slots + 11) ∧ Fr n0 L1 ∧ Keep T0.heap T1.heap [o3, ch, bs, wd] ∧ own_STR Z T1.heap o3 ch bs wd n us (own_off n (own_bk b (vs.getD i 0) row) st).1 ∧ ∀ target, Steps p.tables e below (T1.setTop (mkF m 30 #[oA o0, oA o1, oI (Int32.ofNat cnt), oA o3, oA o4, oI i5, oI i6, oI row, oI (Int32.ofNat (i + 1)), oI (own_bk b (vs.getD i 0) row)] [])) target → Steps p.tables e below (T0.setTop (mkF m 30 #[oA o0, oA o1, oI (Int32.ofNat cnt), oA o3, oA o4, oI i5, oI i6, oI row, oI (Int32.ofNat i), s9] [])) target := by
         exact own_in_O (s9_ := s9) (i8_ := Int32.ofNat i) (i2_ := Int32.ofNat cnt) (o0_ := o0) (o1_ := o1) (o3_ := o3) (o4_ := o4) (i5_ := i5) (i6_ := i6) (i7_ := row) (n_o1_ := Int32.ofNat nn) (vs_o1_ := vs) (f_backends_o0_ := b) (x_ := own_bk b (vs.getD i 0) row) (ch_ := ch) (bs_ := bs) (wd_ := wd) (n_ := n) (us_ := us) (st_ := st) (j_ := Int32.ofNat (i + 1)) rc rs X hx hZ hw hby hml hown rfl N Z0 C.2.2.1 C.2.1 C.1 h9 S D C.2.2.2.2 hD.1 hD.2.1 hD.2.2.1 hD.2.2.2 hf1 hf2 hf3 hlot hr0 hr1 hxx q1 q6 hok.1 hok.2.1 hok.2.2 q2 (own_ofNat_succ i) (by omega) (by omega)
       obtain ⟨T', L', z8, s9', X', N', K', S', h9', ok', fl', st'⟩ := ih (i + 1) _ (oI (own_bk b (vs.getD i 0) row)) T1 L1 (cells + 2) (slots + 11) (by omega) (Or.inr ⟨_, rfl⟩) (own_off_ok hok q2) X1 N1 (Nat.le_trans Z0 K1.1) (C.keep K1 S d) S1 (by omega) (by omega)
       exact ⟨T', L', z8, s9', own_same X' (by omega) (by omega), N', own_keep_step K1 K' (fun x hx => hx), S', h9', ok', fl', fun target kt => st1 _ (st' _ kt)⟩
     · have eqk : own_in b n row vs (k + 1) i st = ((own_off n (own_bk b (vs.getD i 0) row) st).1, 1, 1) := by rw [own_in, if_neg q1, if_neg q2]
       rw [eqk] at hc hs ⊢
       dsimp only at hc hs ⊢
       obtain ⟨T1, L1, X1, N1, K1, S1, st1⟩ := own_in_F (s9_ := s9) (i8_ := Int32.ofNat i) (i2_ := Int32.ofNat cnt) (o0_ := o0) (o1_ := o1) (o3_ := o3) (o4_ := o4) (i5_ := i5) (i6_ := i6) (i7_ := row) (n_o1_ := Int32.ofNat nn) (vs_o1_ := vs) (f_backends_o0_ := b) (x_ := own_bk b (vs.getD i 0) row) (ch_ := ch) (bs_ := bs) (wd_ := wd) (n_ := n) (us_ := us) (st_ := st) rc rs X hx hZ hw hby hml hown rfl N Z0 C.2.2.1 C.2.1 C.1 h9 S D C.2.2.2.2 hD.1 hD.2.1 hD.2.2.1 hD.2.2.2 hf1 hf2 hf3 hlot hr0 hr1 hxx q1 q6 hok.1 hok.2.1 hok.2.2 q2 (by omega) (by omega)
       exact ⟨T1, L1, _, _, X1, N1, K1, S1, Or.inr ⟨_, rfl⟩, fun q => absurd q (by decide), Or.inr rfl, fun target kt => st1 _ kt⟩
end OwnInner

section OwnOuter
abbrev own_rowsL : List Int32 := [0, 8, 2, 4, 6, 1, 9, 5, 3, 7]
theorem own_row_ok (i : Nat) : ¬ (own_rowsL.getD i 0 < 0) ∧ own_rowsL.getD i 0 < (10 : Int32) := by
 by_cases h : i < 10
 · have : i = 0 ∨ i = 1 ∨ i = 2 ∨ i = 3 ∨ i = 4 ∨ i = 5 ∨ i = 6 ∨ i = 7 ∨ i = 8 ∨ i = 9 := by omega
   rcases this with rfl | rfl | rfl | rfl | rfl | rfl | rfl | rfl | rfl | rfl <;> decide
 · have e : own_rowsL.getD i 0 = 0 := by
     rw [List.getD_eq_getElem?_getD, List.getElem?_eq_none (by show 10 ≤ i; omega)]; rfl
   rw [e]; decide
def own_out (b n : Int32) (vs : List Int32) (cnt : Nat) : Nat → Nat → own_St → own_St × Int32 × Nat
 | 0, _, st => (st, 0, 0)
 | k + 1, i, st =>
   if (own_in b n (own_rowsL.getD i 0) vs cnt 0 st).2.1 = 0 then ((own_out b n vs cnt k (i + 1) (own_in b n (own_rowsL.getD i 0) vs cnt 0 st).1).1, (own_out b n vs cnt k (i + 1) (own_in b n (own_rowsL.getD i 0) vs cnt 0 st).1).2.1, (own_in b n (own_rowsL.getD i 0) vs cnt 0 st).2.2 + (own_out b n vs cnt k (i + 1) (own_in b n (own_rowsL.getD i 0) vs cnt 0 st).1).2.2)
   else ((own_in b n (own_rowsL.getD i 0) vs cnt 0 st).1, 1, (own_in b n (own_rowsL.getD i 0) vs cnt 0 st).2.2)
theorem own_outer {p : Program} {l : Launch} {e : Env} {s : State} {m : MethodId} {args : Array Value} {below : List Frame} {meth : Method} {c : Code} {Z : State} {a0 : Array Value} {n0 : Nat} {rc rs : Nat} {o0 o1 o3 o4 ch bs wd : Addr} {b n : Int32} {us : Value} {vs : List Int32} {nn cnt : Nat}
   (hx : p.tables.exec = Jvm.exec) (hZ : Z.Warmed39 s.vm) (hw : oH a0 Z) (hby : c.code = prog_29_method_10_code) (hml : c.maxLocals = 10) (hown : s.vm.findClass oC0 = some m.cls)
   (D : own_four n0 o3 ch bs wd) (d : own_dis o0 o1 o4 o3 ch bs wd) (hvs : own_lots vs) (hcn : cnt ≤ nn) (hnn : nn < 1000) :
   ∀ (k i : Nat) (st : own_St) (s7 s8 s9 : Slot) (T0 : State) (locs : List Loc) (cells slots : Nat), i + k = 10 → (s7 = .unset ∨ ∃ z : Int32, s7 = oI z) → (s8 = .unset ∨ ∃ z : Int32, s8 = oI z) → (s9 = .unset ∨ ∃ z : Int32, s9 = oI z) → own_ok n st →
     Stand p l e (oR 6 rc rs 140) s m args below meth c T0 locs cells slots → Fr n0 locs → n0 ≤ T0.heap.size → own_CTX Z T0.heap o0 o1 o4 b (Int32.ofNat nn) vs → own_STR Z T0.heap o3 ch bs wd n us st →
     cells + 2 * (own_out b n vs cnt k i st).2.2 ≤ rc → slots + 11 * (own_out b n vs cnt k i st).2.2 ≤ rs →
     ∃ (T' : State) (locs' : List Loc) (Ls' : Array Slot), Stand p l e (oR 6 rc rs 140) s m args below meth c T' locs' (cells + 2 * (own_out b n vs cnt k i st).2.2) (slots + 11 * (own_out b n vs cnt k i st).2.2) ∧ Fr n0 locs' ∧ Keep T0.heap T'.heap [o3, ch, bs, wd] ∧ own_STR Z T'.heap o3 ch bs wd n us (own_out b n vs cnt k i st).1 ∧ ((own_out b n vs cnt k i st).2.1 = 0 → own_ok n (own_out b n vs cnt k i st).1) ∧ ((own_out b n vs cnt k i st).2.1 = 0 ∨ (own_out b n vs cnt k i st).2.1 = 1) ∧
     ∀ target, Steps p.tables e below (T'.setTop (mkF m (if (own_out b n vs cnt k i st).2.1 = 0 then 77 else 63) Ls' [])) target →
       Steps p.tables e below (T0.setTop (mkF m 13 #[oA o0, oA o1, oI (Int32.ofNat cnt), oA o3, oA o4, oI 10, oI (Int32.ofNat i), s7, s8, s9] [])) target := by
 intro k
 induction k with
 | zero =>
   intro i st s7 s8 s9 T0 locs cells slots hik h7 h8 h9 hok X N Z0 C S hc hs
   have hf : ¬ (Int32.ofNat i < (10 : Int32)) := own_ofNat_nlt (i := i) (c := 10) (by omega) (by omega)
   obtain ⟨T', L', X', N', e', st'⟩ := own_o_X (i6_ := Int32.ofNat i) (i2_ := Int32.ofNat cnt) (o0_ := o0) (o1_ := o1) (o3_ := o3) (o4_ := o4) (i5_ := 10) (s7_ := s7) (s8_ := s8) (s9_ := s9) rc rs X hx hZ hw hby hml hown rfl N Z0 hf (by simpa [own_out] using hc) (by simpa [own_out] using hs)
   refine ⟨T', L', #[oA o0, oA o1, oI (Int32.ofNat cnt), oA o3, oA o4, oI 10, oI (Int32.ofNat i), s7, s8, s9], own_same X' (by simp [own_out]) (by simp [own_out]), N', by rw [e']; exact Keep.refl _ _, by rw [e']; exact S, fun _ => hok, Or.inl rfl, ?_⟩
   intro target kt; exact st' target (by simpa [own_out] using kt)
 | succ k ih =>
   intro i st s7 s8 s9 T0 locs cells slots hik h7 h8 h9 hok X N Z0 C S hc hs
   have hi : i < 2 ^ 31 := by omega
   have hf1 : Int32.ofNat i < (10 : Int32) := own_ofNat_lt (i := i) (c := 10) (by omega) (by omega)
   have hf2 := own_ofNat_nneg hi
   have hv : own_rowsL.getD (Int32.ofNat i).toNatClampNeg 0 = own_rowsL.getD i 0 := by rw [own_ofNat_nat hi]
   obtain ⟨hr0, hr1⟩ := own_row_ok i
   have hle : (own_in b n (own_rowsL.getD i 0) vs cnt 0 st).2.2 ≤ (own_out b n vs cnt (k + 1) i st).2.2 := by
     rw [own_out]; split
     · exact Nat.le_add_right _ _
     · exact Nat.le_refl _
   obtain ⟨T1, L1, X1, N1, e1, st1⟩ : ∃ (T1 : State) (L1 : List Loc), Stand p l e (oR 6 rc rs 140) s m args below meth c T1 L1 cells slots ∧ Fr n0 L1 ∧ T1.heap = T0.heap ∧ ∀ target, Steps p.tables e below (T1.setTop (mkF m 30 #[oA o0, oA o1, oI (Int32.ofNat cnt), oA o3, oA o4, oI 10, oI (Int32.ofNat i), oI (own_rowsL.getD i 0), oI 0, s9] [])) target → Steps p.tables e below (T0.setTop (mkF m 13 #[oA o0, oA o1, oI (Int32.ofNat cnt), oA o3, oA o4, oI 10, oI (Int32.ofNat i), s7, s8, s9] [])) target := by
     exact own_o_A (i6_ := Int32.ofNat i) (i2_ := Int32.ofNat cnt) (o0_ := o0) (o1_ := o1) (o3_ := o3) (o4_ := o4) (i5_ := 10) (s7_ := s7) (s8_ := s8) (s9_ := s9) (n_o4_ := 10) (vs_o4_ := own_rowsL) (r_ := own_rowsL.getD i 0) rc rs X hx hZ hw hby hml hown rfl N Z0 C.2.2.2.1 h7 h8 hf1 hf2 hf1 hv (by omega) (by omega)
   obtain ⟨T2, L2, z8, s9', X2, N2, K2, S2, h92, ok2, fl2, st2⟩ := own_inner (i5 := 10) (i6 := Int32.ofNat i) (us := us) hx hZ hw hby hml hown D d hvs hr0 hr1 hcn hnn cnt 0 st s9 T1 L1 cells slots (by omega) h9 hok X1 N1 (by rw [e1]; exact Z0) (by rw [e1]; exact C) (by rw [e1]; exact S) (by omega) (by omega)
   rw [e1] at K2
   by_cases q : (own_in b n (own_rowsL.getD i 0) vs cnt 0 st).2.1 = 0
   · have eqk : own_out b n vs cnt (k + 1) i st = ((own_out b n vs cnt k (i + 1) (own_in b n (own_rowsL.getD i 0) vs cnt 0 st).1).1, (own_out b n vs cnt k (i + 1) (own_in b n (own_rowsL.getD i 0) vs cnt 0 st).1).2.1, (own_in b n (own_rowsL.getD i 0) vs cnt 0 st).2.2 + (own_out b n vs cnt k (i + 1) (own_in b n (own_rowsL.getD i 0) vs cnt 0 st).1).2.2) := by rw [own_out, if_pos q]
     rw [eqk] at hc hs ⊢
     dsimp only at hc hs ⊢
     rw [if_pos q] at st2
     obtain ⟨T3, L3, X3, N3, e3, st3⟩ := own_o_B (i6_ := Int32.ofNat i) (i2_ := Int32.ofNat cnt) (o0_ := o0) (o1_ := o1) (o3_ := o3) (o4_ := o4) (i5_ := 10) (s7_ := oI (own_rowsL.getD i 0)) (s8_ := oI z8) (s9_ := s9') (j_ := Int32.ofNat (i + 1)) rc rs X2 hx hZ hw hby hml hown rfl N2 (Nat.le_trans Z0 K2.1) (own_ofNat_succ i) (by omega) (by omega)
     obtain ⟨T', L', Ls', X', N', K', S', ok', fl', st'⟩ := ih (i + 1) _ (oI (own_rowsL.getD i 0)) (oI z8) s9' T3 L3 _ _ (by omega) (Or.inr ⟨_, rfl⟩) (Or.inr ⟨_, rfl⟩) h92 (ok2 q) X3 N3 (by rw [e3]; exact Nat.le_trans Z0 K2.1) (by rw [e3]; exact C.keep K2 S d) (by rw [e3]; exact S2) (by omega) (by omega)
     rw [e3] at K'
     refine ⟨T', L', Ls', own_same X' (by omega) (by omega), N', own_keep_step K2 K' (fun x hx => hx), S', ok', fl', fun target kt => st1 _ (st2 _ (st3 _ (st' _ kt)))⟩
   · have eqk : own_out b n vs cnt (k + 1) i st = ((own_in b n (own_rowsL.getD i 0) vs cnt 0 st).1, 1, (own_in b n (own_rowsL.getD i 0) vs cnt 0 st).2.2) := by rw [own_out, if_neg q]
     rw [eqk] at hc hs ⊢
     dsimp only at hc hs ⊢
     rw [if_neg q] at st2
     exact ⟨T2, L2, _, X2, N2, K2, S2, fun r => absurd r (by decide), Or.inr rfl, fun target kt => st1 _ (st2 _ kt)⟩
theorem own_rowsC (l : Launch) (Z : State) (a0 : Array Value) (hw : oH a0 Z) (ws : List Jvm.Cond) (rc rs : Nat) (o0 o1 : Addr) (cnt : Nat) (o3 ch bs wd o4 : Addr) (b n : Int32) (us : Value) (st : own_St) (vs : List Int32) (nn : Nat) (h0 : Heap) (n0 : Nat) (Z0 : n0 ≤ h0.size)
   (SR : Sta Z h0 oC0 "START_ROWS" "[I" (.ref o4)) (C : own_CTX Z h0 o0 o1 o4 b (Int32.ofNat nn) vs) (S : own_STR Z h0 o3 ch bs wd n us st) (D : own_four n0 o3 ch bs wd) (d : own_dis o0 o1 o4 o3 ch bs wd) (hvs : own_lots vs) (hcn : cnt ≤ nn) (hnn : nn < 1000) (hok : own_ok n st) (hc : 2 * (own_out b n vs cnt 10 0 st).2.2 ≤ rc) (hs : 11 * (own_out b n vs cnt 10 0 st).2.2 ≤ rs) :
   oMet l oM7 prog_29_method_10_code 10 (some .boolean) ws (oR 6 rc rs 140) Z h0 #[(.ref o0), (.ref o1), (.int (Int32.ofNat cnt)), (.ref o3)] (own_QO Z o3 ch bs wd n us (own_out b n vs cnt 10 0 st).1 (own_out b n vs cnt 10 0 st).2.1 h0 n0) := by
 refine oBd n0 (plainFor_of_name own_pn4) ?_
 intro p e s m below meth c s₁ Bd hx hZ hby hml hown hnm X0 e0 N0
 obtain ⟨T1, L1, X1, N1, e1, st1⟩ := own_o_S (o0_ := o0) (o1_ := o1) (i2_ := Int32.ofNat cnt) (o3_ := o3) (w_START_ROWS := o4) (n_w_START_ROWS := 10) (vs_w_START_ROWS := own_rowsL) rc rs X0 hx hZ hw hby hml hown e0 N0 Z0 SR C.2.2.2.1 (by omega) (by omega)
 obtain ⟨T2, L2, Ls2, X2, N2, K2, S2, ok2, fl2, st2⟩ := own_outer (us := us) hx hZ hw hby hml hown D d hvs hcn hnn 10 0 st .unset .unset .unset T1 L1 0 0 (by omega) (Or.inl rfl) (Or.inl rfl) (Or.inl rfl) hok X1 N1 (by rw [e1]; exact Z0) (by rw [e1]; exact C) (by rw [e1]; exact S) (by omega) (by omega)
 rw [e1] at K2
 rcases fl2 with q | q
 · rw [q] at st2 ⊢
   obtain ⟨fs, hr, hrun, hended, hW, hsame⟩ := X2.leave (v := some (.int 0)) (fun h => by rw [Bd.returns] at h; cases h)
   refine ⟨_, _, castTop (own_ef13 m o0 o1 (Int32.ofNat cnt) o3) (st1 _ (st2 _ ?_)), hrun, hended, _, _, rfl, ⟨rfl, N2, K2, S2⟩, ⟨_, rfl⟩, hW, hsame.mono (show 0 + 2 * (own_out b n vs cnt 10 0 st).2.2 ≤ rc by omega) (show 0 + 11 * (own_out b n vs cnt 10 0 st).2.2 ≤ rs by omega)⟩
   show oZ p e below T2 (mkF m 77 Ls2 []) _
   refine XS.iconst X2.here hx rfl (oG hby d21 39 rfl) ?_
   show oZ p e below T2 (mkF m 78 Ls2 [(.int 0)]) _
   exact retN X2 hx (t := .boolean) Bd.returns (by simp) (oG hby d21 40 rfl) hr
 · rw [q] at st2 ⊢
   obtain ⟨fs, hr, hrun, hended, hW, hsame⟩ := X2.leave (v := some (.int 1)) (fun h => by rw [Bd.returns] at h; cases h)
   refine ⟨_, _, castTop (own_ef13 m o0 o1 (Int32.ofNat cnt) o3) (st1 _ (st2 _ ?_)), hrun, hended, _, _, rfl, ⟨rfl, N2, K2, S2⟩, ⟨_, rfl⟩, hW, hsame.mono (show 0 + 2 * (own_out b n vs cnt 10 0 st).2.2 ≤ rc by omega) (show 0 + 11 * (own_out b n vs cnt 10 0 st).2.2 ≤ rs by omega)⟩
   show oZ p e below T2 (mkF m 63 Ls2 []) _
   refine XS.iconst X2.here hx rfl (oG hby d21 33 rfl) ?_
   show oZ p e below T2 (mkF m 64 Ls2 [(.int 1)]) _
   exact retN X2 hx (t := .boolean) Bd.returns (by simp) (oG hby d21 34 rfl) hr
end OwnOuter

section OwnRounds
variable {Z : State} {h h' : Heap} {n0 : Nat} {o0 o1 o4 sp ch bs wd : Addr} {b nn n : Int32} {vs : List Int32} {us : Value} {st : own_St} {cnt : Nat}
def own_RW (Z : State) (h : Heap) (n0 : Nat) (o0 o1 o4 sp ch bs wd : Addr) (b : Int32) (vs : List Int32) (cnt : Nat) : Prop :=
 Sta Z h oC0 "START_ROWS" "[I" (.ref o4) ∧ own_CTX Z h o0 o1 o4 b (Int32.ofNat cnt) vs ∧ own_four n0 sp ch bs wd ∧ own_dis o0 o1 o4 sp ch bs wd ∧ own_lots vs ∧ cnt < 1000
theorem own_RW.keep (X : own_RW Z h n0 o0 o1 o4 sp ch bs wd b vs cnt) (K : Keep h h' [sp, ch, bs, wd]) (S : own_STR Z h sp ch bs wd n us st) : own_RW Z h' n0 o0 o1 o4 sp ch bs wd b vs cnt :=
 ⟨own_sta_k X.1 K S.ns, X.2.1.keep K S X.2.2.2.1, X.2.2⟩
theorem own_rowsD (l : Launch) (Z : State) (a0 : Array Value) (hw : oH a0 Z) (ws : List Jvm.Cond) (o0 o1 : Addr) (p2 : Int32) (o3 ch bs wd : Addr) (n : Int32) (us : Value) (st : own_St) (o4 : Addr) (b : Int32) (vs : List Int32) (cnt : Nat) (h0 : Heap) (n0 : Nat) (Z0 : n0 ≤ h0.size)
   (S : own_STR Z h0 o3 ch bs wd n us st) (Y : own_RW Z h0 n0 o0 o1 o4 o3 ch bs wd b vs cnt) (hok : own_ok n st) (hp : p2 = Int32.ofNat cnt) :
   oMet l oM7 prog_29_method_10_code 10 (some .boolean) ws (oR 6 (2 * (own_out b n vs cnt 10 0 st).2.2) (11 * (own_out b n vs cnt 10 0 st).2.2) 140) Z h0 #[(.ref o0), (.ref o1), (.int p2), (.ref o3)] (own_QO Z o3 ch bs wd n us (own_out b n vs cnt 10 0 st).1 (own_out b n vs cnt 10 0 st).2.1 h0 n0) := by
 subst hp
 exact own_rowsC l Z a0 hw ws _ _ o0 o1 cnt o3 ch bs wd o4 b n us st vs cnt h0 n0 Z0 Y.1 Y.2.1 S Y.2.2.1 Y.2.2.2.1 Y.2.2.2.2.1 (Nat.le_refl _) Y.2.2.2.2.2 hok (Nat.le_refl _) (Nat.le_refl _)
end OwnRounds

theorem own_lh_S (o0_ : Addr) (o1_ : Addr) (j2_ : Int64) 
   (X0 : Stand p l e (oR 0 0 0 0) s m args below meth c T0 locs cells slots) (hx : p.tables.exec = Jvm.exec) (hZ : Z.Warmed39 s.vm) (hw : oH a0 Z) (hby : c.code = prog_29_method_11_code) (hml : c.maxLocals = 8) (hown : s.vm.findClass oC0 = some m.cls) (e0 : T0.heap = h0) (N0 : Fr n0 locs) (Z0 : n0 ≤ h0.size) (hc : cells + (0) ≤ 0) (hs : slots + (0) ≤ 0) :
   ∃ (T' : State) (locs' : List Loc), Stand p l e (oR 0 0 0 0) s m args below meth c T' locs' cells slots ∧ Fr n0 locs' ∧ T'.heap = h0 ∧
     ∀ target, Steps p.tables e below (T'.setTop (mkF m 6 #[oA o0_, oA o1_, oJ j2_, .second, oI 0, oJ 0, .second, .unset] [])) target → Steps p.tables e below (T0.setTop (mkF m 0 #[oA o0_, oA o1_, oJ j2_, .second, .unset, .unset, .unset, .unset] [])) target := by
 refine ⟨T0, _, X0, N0, e0, fun target kt => ?_⟩
 show oZ p e below T0 (mkF m 0 #[oA o0_, oA o1_, oJ j2_, .second, .unset, .unset, .unset, .unset] []) _
 refine XS.iconst X0.here hx rfl (oG hby d16 0 rfl) ?_
 refine XS.istore X0.here hx rfl (oG hby d16 1 rfl) rfl (l' := #[oA o0_, oA o1_, oJ j2_, .second, oI 0, .unset, .unset, .unset]) rfl ?_
 refine XS.lconst X0.here hx rfl (oG hby d16 2 rfl) ?_
 show oZ p e below T0 (mkF m 4 #[oA o0_, oA o1_, oJ j2_, .second, oI 0, .unset, .unset, .unset] [(.long 0)]) _
 refine XS.lstore X0.here hx rfl (oG hby d16 3 rfl) rfl (l' := #[oA o0_, oA o1_, oJ j2_, .second, oI 0, oJ 0, .second, .unset]) rfl ?_
 exact kt
theorem own_lh_N (o0_ : Addr) (o1_ : Addr) (j2_ : Int64) (i4_ : Int32) (j5_ : Int64) (s7_ : Slot) (n_o1_ : Int32) (vs_o1_ : List Int32) (f_lots_o0_ : Int32) (k_ : Int32)
   (X0 : Stand p l e (oR 0 0 0 0) s m args below meth c T0 locs cells slots) (hx : p.tables.exec = Jvm.exec) (hZ : Z.Warmed39 s.vm) (hw : oH a0 Z) (hby : c.code = prog_29_method_11_code) (hml : c.maxLocals = 8) (hown : s.vm.findClass oC0 = some m.cls) (e0 : T0.heap = h0) (N0 : Fr n0 locs) (Z0 : n0 ≤ h0.size) (A_o1_ : own_il Z h0 o1_ n_o1_ vs_o1_) (H_s7_ : (s7_ = .unset ∨ ∃ z : Int32, s7_ = oI z)) (F_lots_o0_ : Fld Z h0 o0_ oC0 "lots" "I" (.int f_lots_o0_)) (hf0 : (lcmpW j5_ j2_) < (0 : Int32)) (hf1 : ¬ (i4_ < 0)) (hf2 : i4_ < n_o1_) (hf3 : ¬ ((vs_o1_.getD (i4_).toNatClampNeg 0) = (f_lots_o0_ - (1 : Int32)))) (hf4 : (i4_ + (1 : Int32)) = k_) (hc : cells + (0) ≤ 0) (hs : slots + (0) ≤ 0) :
   ∃ (T' : State) (locs' : List Loc), Stand p l e (oR 0 0 0 0) s m args below meth c T' locs' cells slots ∧ Fr n0 locs' ∧ T'.heap = h0 ∧
     ∀ target, Steps p.tables e below (T'.setTop (mkF m 6 #[oA o0_, oA o1_, oJ j2_, .second, oI k_, oJ (j5_ + (10 : Int64)), .second, oI (vs_o1_.getD (i4_).toNatClampNeg 0)] [])) target → Steps p.tables e below (T0.setTop (mkF m 6 #[oA o0_, oA o1_, oJ j2_, .second, oI i4_, oJ j5_, .second, s7_] [])) target := by
 obtain ⟨c1, A1, hin1, hat1⟩ := own_il_at (j := i4_) A_o1_ hf1 hf2
 have hat1' : c1.slots[(i4_).toNatClampNeg]? = some (.int (vs_o1_.getD (i4_).toNatClampNeg 0)) := hat1
 obtain ⟨T2, X2, e2, st2⟩ := getF X0 hx hZ hown (host := "") (Or.inl (oW hw 28 rfl)) Via.refl e0 F_lots_o0_ (g := (mkF m 24 #[oA o0_, oA o1_, oJ j2_, .second, oI i4_, oJ j5_, .second, oI (vs_o1_.getD (i4_).toNatClampNeg 0)] [(.ref o0_), (.int (vs_o1_.getD (i4_).toNatClampNeg 0)), (.long j5_)])) rfl rfl (oG hby d16 15 rfl)
 refine ⟨T2, _, X2, N0, e2, fun target kt => ?_⟩
 show oZ p e below T0 (mkF m 6 #[oA o0_, oA o1_, oJ j2_, .second, oI i4_, oJ j5_, .second, s7_] []) _
 refine XS.lload X0.here hx rfl (oG hby d16 4 rfl) rfl ?_
 refine XS.lloadN X0.here hx rfl (oG hby d16 5 rfl) rfl ?_
 refine XS.lcmp X0.here hx rfl (oG hby d16 6 rfl) rfl ?_
 refine XS.ifNo X0.here hx rfl (oG hby d16 7 rfl) rfl ((if0 _ _).trans (tlt hf0).2.1) ?_
 refine XS.aloadN X0.here hx rfl (oG hby d16 8 rfl) rfl rfl ?_
 refine XS.iload X0.here hx rfl (oG hby d16 9 rfl) rfl ?_
 refine X0.iaload hx (j := i4_) (v := (.int (vs_o1_.getD (i4_).toNatClampNeg 0))) (by rw [e0]; exact A1.1) (State.isArrayOf_alike hZ.alike A1.2.1) A1.2.2 hin1 hat1' (g := (mkF m 16 #[oA o0_, oA o1_, oJ j2_, .second, oI i4_, oJ j5_, .second, s7_] [(.int i4_), (.ref o1_)])) rfl rfl (oG hby d16 10 rfl) _ ?_
 refine XS.istore X0.here hx rfl (oG hby d16 11 rfl) rfl (l' := #[oA o0_, oA o1_, oJ j2_, .second, oI i4_, oJ j5_, .second, oI (vs_o1_.getD (i4_).toNatClampNeg 0)]) (by rcases H_s7_ with rfl | ⟨_, rfl⟩ <;> rfl) ?_
 refine XS.lload X0.here hx rfl (oG hby d16 12 rfl) rfl ?_
 refine XS.iload X0.here hx rfl (oG hby d16 13 rfl) rfl ?_
 refine XS.aloadN X0.here hx rfl (oG hby d16 14 rfl) rfl rfl ?_
 show oZ p e below T0 (mkF m 24 #[oA o0_, oA o1_, oJ j2_, .second, oI i4_, oJ j5_, .second, oI (vs_o1_.getD (i4_).toNatClampNeg 0)] [(.ref o0_), (.int (vs_o1_.getD (i4_).toNatClampNeg 0)), (.long j5_)]) _
 refine st2 _ ?_
 refine XS.iconst X2.here hx rfl (oG hby d16 16 rfl) ?_
 refine XS.isub X2.here hx rfl (oG hby d16 17 rfl) rfl ?_
 refine XS.icmpYes X2.here hx rfl (pc0 := 29) (pc' := 48) rfl (oG hby d16 18 rfl) rfl (feq hf3).2 (by decide) (by decide) ?_
 refine X2.ldc2Long hx hown (mvT hZ (oW hw 90 rfl)) (g := (mkF m 48 #[oA o0_, oA o1_, oJ j2_, .second, oI i4_, oJ j5_, .second, oI (vs_o1_.getD (i4_).toNatClampNeg 0)] [(.long j5_)])) rfl (oG hby d16 28 rfl) _ ?_
 refine XS.ladd X2.here hx rfl (oG hby d16 29 rfl) rfl ?_
 refine XS.lstore X2.here hx rfl (oG hby d16 30 rfl) rfl (l' := #[oA o0_, oA o1_, oJ j2_, .second, oI i4_, oJ (j5_ + (10 : Int64)), .second, oI (vs_o1_.getD (i4_).toNatClampNeg 0)]) rfl ?_
 refine XS.iinc X2.here hx rfl (oG hby d16 31 rfl) rfl (l' := #[oA o0_, oA o1_, oJ j2_, .second, oI (i4_ + (1 : Int32)), oJ (j5_ + (10 : Int64)), .second, oI (vs_o1_.getD (i4_).toNatClampNeg 0)]) rfl ?_
 show oZ p e below T2 (mkF m 57 #[oA o0_, oA o1_, oJ j2_, .second, oI (i4_ + (1 : Int32)), oJ (j5_ + (10 : Int64)), .second, oI (vs_o1_.getD (i4_).toNatClampNeg 0)] []) _
 rw [hf4]
 refine XS.goto X2.here hx rfl (pc0 := 57) (pc' := 6) rfl (oG hby d16 32 rfl) (by decide) (by decide) ?_
 exact kt
theorem own_lh_Y (o0_ : Addr) (o1_ : Addr) (j2_ : Int64) (i4_ : Int32) (j5_ : Int64) (s7_ : Slot) (n_o1_ : Int32) (vs_o1_ : List Int32) (f_lots_o0_ : Int32) (f_backends_o0_ : Int32) (k_ : Int32)
   (X0 : Stand p l e (oR 0 0 0 0) s m args below meth c T0 locs cells slots) (hx : p.tables.exec = Jvm.exec) (hZ : Z.Warmed39 s.vm) (hw : oH a0 Z) (hby : c.code = prog_29_method_11_code) (hml : c.maxLocals = 8) (hown : s.vm.findClass oC0 = some m.cls) (e0 : T0.heap = h0) (N0 : Fr n0 locs) (Z0 : n0 ≤ h0.size) (A_o1_ : own_il Z h0 o1_ n_o1_ vs_o1_) (H_s7_ : (s7_ = .unset ∨ ∃ z : Int32, s7_ = oI z)) (F_lots_o0_ : Fld Z h0 o0_ oC0 "lots" "I" (.int f_lots_o0_)) (F_backends_o0_ : Fld Z h0 o0_ oC0 "backends" "I" (.int f_backends_o0_)) (hf0 : (lcmpW j5_ j2_) < (0 : Int32)) (hf1 : ¬ (i4_ < 0)) (hf2 : i4_ < n_o1_) (hf3 : (vs_o1_.getD (i4_).toNatClampNeg 0) = (f_lots_o0_ - (1 : Int32))) (hf4 : (i4_ + (1 : Int32)) = k_) (hc : cells + (0) ≤ 0) (hs : slots + (0) ≤ 0) :
   ∃ (T' : State) (locs' : List Loc), Stand p l e (oR 0 0 0 0) s m args below meth c T' locs' cells slots ∧ Fr n0 locs' ∧ T'.heap = h0 ∧
     ∀ target, Steps p.tables e below (T'.setTop (mkF m 6 #[oA o0_, oA o1_, oJ j2_, .second, oI k_, oJ (j5_ + ((f_backends_o0_.toInt64) - (((vs_o1_.getD (i4_).toNatClampNeg 0).toInt64) * (10 : Int64)))), .second, oI (vs_o1_.getD (i4_).toNatClampNeg 0)] [])) target → Steps p.tables e below (T0.setTop (mkF m 6 #[oA o0_, oA o1_, oJ j2_, .second, oI i4_, oJ j5_, .second, s7_] [])) target := by
 obtain ⟨c1, A1, hin1, hat1⟩ := own_il_at (j := i4_) A_o1_ hf1 hf2
 have hat1' : c1.slots[(i4_).toNatClampNeg]? = some (.int (vs_o1_.getD (i4_).toNatClampNeg 0)) := hat1
 obtain ⟨T2, X2, e2, st2⟩ := getF X0 hx hZ hown (host := "") (Or.inl (oW hw 28 rfl)) Via.refl e0 F_lots_o0_ (g := (mkF m 24 #[oA o0_, oA o1_, oJ j2_, .second, oI i4_, oJ j5_, .second, oI (vs_o1_.getD (i4_).toNatClampNeg 0)] [(.ref o0_), (.int (vs_o1_.getD (i4_).toNatClampNeg 0)), (.long j5_)])) rfl rfl (oG hby d16 15 rfl)
 obtain ⟨T3, X3, e3, st3⟩ := getF X2 hx hZ hown (host := "") (Or.inl (oW hw 24 rfl)) Via.refl e2 F_backends_o0_ (g := (mkF m 33 #[oA o0_, oA o1_, oJ j2_, .second, oI i4_, oJ j5_, .second, oI (vs_o1_.getD (i4_).toNatClampNeg 0)] [(.ref o0_), (.long j5_)])) rfl rfl (oG hby d16 20 rfl)
 refine ⟨T3, _, X3, N0, e3, fun target kt => ?_⟩
 show oZ p e below T0 (mkF m 6 #[oA o0_, oA o1_, oJ j2_, .second, oI i4_, oJ j5_, .second, s7_] []) _
 refine XS.lload X0.here hx rfl (oG hby d16 4 rfl) rfl ?_
 refine XS.lloadN X0.here hx rfl (oG hby d16 5 rfl) rfl ?_
 refine XS.lcmp X0.here hx rfl (oG hby d16 6 rfl) rfl ?_
 refine XS.ifNo X0.here hx rfl (oG hby d16 7 rfl) rfl ((if0 _ _).trans (tlt hf0).2.1) ?_
 refine XS.aloadN X0.here hx rfl (oG hby d16 8 rfl) rfl rfl ?_
 refine XS.iload X0.here hx rfl (oG hby d16 9 rfl) rfl ?_
 refine X0.iaload hx (j := i4_) (v := (.int (vs_o1_.getD (i4_).toNatClampNeg 0))) (by rw [e0]; exact A1.1) (State.isArrayOf_alike hZ.alike A1.2.1) A1.2.2 hin1 hat1' (g := (mkF m 16 #[oA o0_, oA o1_, oJ j2_, .second, oI i4_, oJ j5_, .second, s7_] [(.int i4_), (.ref o1_)])) rfl rfl (oG hby d16 10 rfl) _ ?_
 refine XS.istore X0.here hx rfl (oG hby d16 11 rfl) rfl (l' := #[oA o0_, oA o1_, oJ j2_, .second, oI i4_, oJ j5_, .second, oI (vs_o1_.getD (i4_).toNatClampNeg 0)]) (by rcases H_s7_ with rfl | ⟨_, rfl⟩ <;> rfl) ?_
 refine XS.lload X0.here hx rfl (oG hby d16 12 rfl) rfl ?_
 refine XS.iload X0.here hx rfl (oG hby d16 13 rfl) rfl ?_
 refine XS.aloadN X0.here hx rfl (oG hby d16 14 rfl) rfl rfl ?_
 show oZ p e below T0 (mkF m 24 #[oA o0_, oA o1_, oJ j2_, .second, oI i4_, oJ j5_, .second, oI (vs_o1_.getD (i4_).toNatClampNeg 0)] [(.ref o0_), (.int (vs_o1_.getD (i4_).toNatClampNeg 0)), (.long j5_)]) _
 refine st2 _ ?_
 refine XS.iconst X2.here hx rfl (oG hby d16 16 rfl) ?_
 refine XS.isub X2.here hx rfl (oG hby d16 17 rfl) rfl ?_
 refine XS.icmpNo X2.here hx rfl (oG hby d16 18 rfl) rfl (teq hf3).2 ?_
 refine XS.aloadN X2.here hx rfl (oG hby d16 19 rfl) rfl rfl ?_
 refine st3 _ ?_
 refine XS.i2l X3.here hx rfl (oG hby d16 21 rfl) rfl ?_
 refine XS.iload X3.here hx rfl (oG hby d16 22 rfl) rfl ?_
 refine XS.i2l X3.here hx rfl (oG hby d16 23 rfl) rfl ?_
 refine X3.ldc2Long hx hown (mvT hZ (oW hw 90 rfl)) (g := (mkF m 40 #[oA o0_, oA o1_, oJ j2_, .second, oI i4_, oJ j5_, .second, oI (vs_o1_.getD (i4_).toNatClampNeg 0)] [(.long ((vs_o1_.getD (i4_).toNatClampNeg 0).toInt64)), (.long (f_backends_o0_.toInt64)), (.long j5_)])) rfl (oG hby d16 24 rfl) _ ?_
 refine XS.lmul X3.here hx rfl (oG hby d16 25 rfl) rfl ?_
 show oZ p e below T3 (mkF m 44 #[oA o0_, oA o1_, oJ j2_, .second, oI i4_, oJ j5_, .second, oI (vs_o1_.getD (i4_).toNatClampNeg 0)] [(.long (((vs_o1_.getD (i4_).toNatClampNeg 0).toInt64) * (10 : Int64))), (.long (f_backends_o0_.toInt64)), (.long j5_)]) _
 refine XS.lsub X3.here hx rfl (oG hby d16 26 rfl) rfl ?_
 refine XS.goto X3.here hx rfl (pc0 := 45) (pc' := 51) rfl (oG hby d16 27 rfl) (by decide) (by decide) ?_
 refine XS.ladd X3.here hx rfl (oG hby d16 29 rfl) rfl ?_
 refine XS.lstore X3.here hx rfl (oG hby d16 30 rfl) rfl (l' := #[oA o0_, oA o1_, oJ j2_, .second, oI i4_, oJ (j5_ + ((f_backends_o0_.toInt64) - (((vs_o1_.getD (i4_).toNatClampNeg 0).toInt64) * (10 : Int64)))), .second, oI (vs_o1_.getD (i4_).toNatClampNeg 0)]) rfl ?_
 refine XS.iinc X3.here hx rfl (oG hby d16 31 rfl) rfl (l' := #[oA o0_, oA o1_, oJ j2_, .second, oI (i4_ + (1 : Int32)), oJ (j5_ + ((f_backends_o0_.toInt64) - (((vs_o1_.getD (i4_).toNatClampNeg 0).toInt64) * (10 : Int64)))), .second, oI (vs_o1_.getD (i4_).toNatClampNeg 0)]) rfl ?_
 show oZ p e below T3 (mkF m 57 #[oA o0_, oA o1_, oJ j2_, .second, oI (i4_ + (1 : Int32)), oJ (j5_ + ((f_backends_o0_.toInt64) - (((vs_o1_.getD (i4_).toNatClampNeg 0).toInt64) * (10 : Int64)))), .second, oI (vs_o1_.getD (i4_).toNatClampNeg 0)] []) _
 rw [hf4]
 refine XS.goto X3.here hx rfl (pc0 := 57) (pc' := 6) rfl (oG hby d16 32 rfl) (by decide) (by decide) ?_
 exact kt
theorem own_lh_X (o0_ : Addr) (o1_ : Addr) (j2_ : Int64) (i4_ : Int32) (j5_ : Int64) (s7_ : Slot) 
   (X0 : Stand p l e (oR 0 0 0 0) s m args below meth c T0 locs cells slots) (hx : p.tables.exec = Jvm.exec) (hZ : Z.Warmed39 s.vm) (hw : oH a0 Z) (hby : c.code = prog_29_method_11_code) (hml : c.maxLocals = 8) (hown : s.vm.findClass oC0 = some m.cls) (e0 : T0.heap = h0) (N0 : Fr n0 locs) (Z0 : n0 ≤ h0.size) (hf0 : ¬ ((lcmpW j5_ j2_) < (0 : Int32))) (hc : cells + (0) ≤ 0) (hs : slots + (0) ≤ 0) :
   ∃ (T' : State) (locs' : List Loc), Stand p l e (oR 0 0 0 0) s m args below meth c T' locs' cells slots ∧ Fr n0 locs' ∧ T'.heap = h0 ∧
     ∀ target, Steps p.tables e below (T'.setTop (mkF m 60 #[oA o0_, oA o1_, oJ j2_, .second, oI i4_, oJ j5_, .second, s7_] [])) target → Steps p.tables e below (T0.setTop (mkF m 6 #[oA o0_, oA o1_, oJ j2_, .second, oI i4_, oJ j5_, .second, s7_] [])) target := by
 refine ⟨T0, _, X0, N0, e0, fun target kt => ?_⟩
 show oZ p e below T0 (mkF m 6 #[oA o0_, oA o1_, oJ j2_, .second, oI i4_, oJ j5_, .second, s7_] []) _
 refine XS.lload X0.here hx rfl (oG hby d16 4 rfl) rfl ?_
 refine XS.lloadN X0.here hx rfl (oG hby d16 5 rfl) rfl ?_
 refine XS.lcmp X0.here hx rfl (oG hby d16 6 rfl) rfl ?_
 refine XS.ifYes X0.here hx rfl (pc0 := 10) (pc' := 60) rfl (oG hby d16 7 rfl) rfl ((if0 _ _).trans (flt hf0).2.1) (by decide) (by decide) ?_
 exact kt
section OwnHold
def own_QZ (h0 : Heap) (n0 : Nat) (v : Option Value) (h : Heap) (L : List Loc) : Prop := ∃ z : Int32, v = some (.int z) ∧ Fr n0 L ∧ Keep h0 h []
def own_hd (b L : Int32) (vs : List Int32) (w : Int64) : Nat → Nat → Int64 → Bool
 | 0, _, x => decide (¬ (x < w))
 | k + 1, i, x => if x < w then own_hd b L vs w k (i + 1) (if vs.getD i 0 = L - 1 then x + (b.toInt64 - ((vs.getD i 0).toInt64 * 10)) else x + 10) else true
theorem own_hold {p : Program} {l : Launch} {e : Env} {s : State} {m : MethodId} {args : Array Value} {below : List Frame} {meth : Method} {c : Code} {Z : State} {a0 : Array Value} {h0 : Heap} {n0 : Nat} {o0 o1 : Addr} {b L : Int32} {w : Int64} {vs : List Int32} {cnt : Nat}
   (hx : p.tables.exec = Jvm.exec) (hZ : Z.Warmed39 s.vm) (hw : oH a0 Z) (hby : c.code = prog_29_method_11_code) (hml : c.maxLocals = 8) (hown : s.vm.findClass oC0 = some m.cls) (Z0 : n0 ≤ h0.size)
   (A : own_il Z h0 o1 (Int32.ofNat cnt) vs) (F1 : Fld Z h0 o0 oC0 "lots" "I" (.int L)) (F2 : Fld Z h0 o0 oC0 "backends" "I" (.int b)) (hc : cnt < 1000) :
   ∀ (k i : Nat) (x : Int64) (s7 : Slot) (T0 : State) (locs : List Loc), i + k = cnt → (s7 = .unset ∨ ∃ z : Int32, s7 = oI z) → own_hd b L vs w k i x = true →
     Stand p l e (oR 0 0 0 0) s m args below meth c T0 locs 0 0 → Fr n0 locs → T0.heap = h0 →
     ∃ (T' : State) (locs' : List Loc) (i' : Int32) (x' : Int64) (s7' : Slot), Stand p l e (oR 0 0 0 0) s m args below meth c T' locs' 0 0 ∧ Fr n0 locs' ∧ T'.heap = h0 ∧
     ∀ target, Steps p.tables e below (T'.setTop (mkF m 60 #[oA o0, oA o1, oJ w, .second, oI i', oJ x', .second, s7'] [])) target →
       Steps p.tables e below (T0.setTop (mkF m 6 #[oA o0, oA o1, oJ w, .second, oI (Int32.ofNat i), oJ x, .second, s7] [])) target := by
 have out : ∀ (i : Nat) (x : Int64) (s7 : Slot) (T0 : State) (locs : List Loc), ¬ (x < w) → 
     Stand p l e (oR 0 0 0 0) s m args below meth c T0 locs 0 0 → Fr n0 locs → T0.heap = h0 →
     ∃ (T' : State) (locs' : List Loc) (i' : Int32) (x' : Int64) (s7' : Slot), Stand p l e (oR 0 0 0 0) s m args below meth c T' locs' 0 0 ∧ Fr n0 locs' ∧ T'.heap = h0 ∧
     ∀ target, Steps p.tables e below (T'.setTop (mkF m 60 #[oA o0, oA o1, oJ w, .second, oI i', oJ x', .second, s7'] [])) target →
       Steps p.tables e below (T0.setTop (mkF m 6 #[oA o0, oA o1, oJ w, .second, oI (Int32.ofNat i), oJ x, .second, s7] [])) target := by
   intro i x s7 T0 locs q X N e0
   obtain ⟨T', L', X', N', e', st'⟩ := own_lh_X (o0_ := o0) (o1_ := o1) (j2_ := w) (i4_ := Int32.ofNat i) (j5_ := x) (s7_ := s7) X hx hZ hw hby hml hown e0 N Z0 (fun r => q ((own_lcB _ _).mp r)) (by omega) (by omega)
   exact ⟨T', L', _, _, _, X', N', e', st'⟩
 intro k
 induction k with
 | zero =>
   intro i x s7 T0 locs hik h7 hh X N e0
   exact out i x s7 T0 locs (by simpa [own_hd] using hh) X N e0
 | succ k ih =>
   intro i x s7 T0 locs hik h7 hh X N e0
   by_cases q : x < w
   · have hi : i < 2 ^ 31 := by omega
     have hf2 := own_ofNat_nneg hi
     have hf3 := own_ofNat_lt (i := i) (c := cnt) (by omega) (by omega)
     have hv : vs.getD (Int32.ofNat i).toNatClampNeg 0 = vs.getD i 0 := by rw [own_ofNat_nat hi]
     rw [own_hd, if_pos q] at hh
     by_cases q2 : vs.getD i 0 = L - 1
     · rw [if_pos q2] at hh
       obtain ⟨T1, L1, X1, N1, e1, st1⟩ := own_lh_Y (o0_ := o0) (o1_ := o1) (j2_ := w) (i4_ := Int32.ofNat i) (j5_ := x) (s7_ := s7) (n_o1_ := Int32.ofNat cnt) (vs_o1_ := vs) (f_lots_o0_ := L) (f_backends_o0_ := b) (k_ := Int32.ofNat (i + 1)) X hx hZ hw hby hml hown e0 N Z0 A h7 F1 F2 ((own_lcB _ _).mpr q) hf2 hf3 (by rw [hv]; exact q2) (own_ofNat_succ i) (by omega) (by omega)
       rw [hv] at st1
       obtain ⟨T', L', i', x', s7', X', N', e', st'⟩ := ih (i + 1) _ (oI (vs.getD i 0)) T1 L1 (by omega) (Or.inr ⟨_, rfl⟩) hh X1 N1 e1
       exact ⟨T', L', i', x', s7', X', N', e', fun target kt => st1 _ (st' _ kt)⟩
     · rw [if_neg q2] at hh
       obtain ⟨T1, L1, X1, N1, e1, st1⟩ := own_lh_N (o0_ := o0) (o1_ := o1) (j2_ := w) (i4_ := Int32.ofNat i) (j5_ := x) (s7_ := s7) (n_o1_ := Int32.ofNat cnt) (vs_o1_ := vs) (f_lots_o0_ := L) (k_ := Int32.ofNat (i + 1)) X hx hZ hw hby hml hown e0 N Z0 A h7 F1 ((own_lcB _ _).mpr q) hf2 hf3 (by rw [hv]; exact q2) (own_ofNat_succ i) (by omega) (by omega)
       rw [hv] at st1
       obtain ⟨T', L', i', x', s7', X', N', e', st'⟩ := ih (i + 1) _ (oI (vs.getD i 0)) T1 L1 (by omega) (Or.inr ⟨_, rfl⟩) hh X1 N1 e1
       exact ⟨T', L', i', x', s7', X', N', e', fun target kt => st1 _ (st' _ kt)⟩
   · exact out i x s7 T0 locs q X N e0
theorem own_lhC (l : Launch) (Z : State) (a0 : Array Value) (hw : oH a0 Z) (ws : List Jvm.Cond) (o0 o1 : Addr) (w : Int64) (b L : Int32) (vs : List Int32) (n1 : Int32) (cnt : Nat) (h0 : Heap) (n0 : Nat) (Z0 : n0 ≤ h0.size)
   (A : own_il Z h0 o1 n1 vs) (F1 : Fld Z h0 o0 oC0 "lots" "I" (.int L)) (F2 : Fld Z h0 o0 oC0 "backends" "I" (.int b)) (hn : n1 = Int32.ofNat cnt) (hc : cnt < 1000) (hh : own_hd b L vs w cnt 0 0 = true) :
   oMet l oM27 prog_29_method_11_code 8 (some .int) ws (oR 0 0 0 0) Z h0 #[(.ref o0), (.ref o1), (.long w)] (own_QZ h0 n0) := by
 subst hn
 refine oBd n0 (plainFor_of_name own_pn4) ?_
 intro p e s m below meth c s₁ Bd hx hZ hby hml hown hnm X0 e0 N0
 obtain ⟨T1, L1, X1, N1, e1, st1⟩ := own_lh_S (o0_ := o0) (o1_ := o1) (j2_ := w) X0 hx hZ hw hby hml hown e0 N0 Z0 (by omega) (by omega)
 obtain ⟨T2, L2, i2, x2, s2, X2, N2, e2, st2⟩ := own_hold (b := b) (L := L) (w := w) hx hZ hw hby hml hown Z0 A F1 F2 hc cnt 0 0 .unset T1 L1 (by omega) (Or.inl rfl) hh X1 N1 e1
 obtain ⟨fs, hr, hrun, hended, hW, hsame⟩ := X2.leave (v := some (.int i2)) (fun h => by rw [Bd.returns] at h; cases h)
 refine ⟨_, _, castTop (own_ef14 m o0 o1 w) (st1 _ (st2 _ ?_)), hrun, hended, _, _, rfl, ⟨i2, rfl, N2, ?_⟩, ⟨_, rfl⟩, hW, hsame.mono (by decide) (by decide)⟩
 · refine XS.iload X2.here hx rfl (oG hby d16 33 rfl) rfl ?_
   show oZ p e below T2 (mkF m 62 #[oA o0, oA o1, oJ w, .second, oI i2, oJ x2, .second, s2] [(.int i2)]) _
   exact retI X2 hx Bd.returns (oG hby d16 34 rfl) hr
 · show Keep h0 T2.heap []
   rw [e2]; exact Keep.refl _ _
end OwnHold

def own_r13_x (p0_ : Int32) : Int32 := ((((p0_ <<< ((24 : Int32) &&& 31)) ||| ((p0_ &&& (65280 : Int32)) <<< ((8 : Int32) &&& 31))) ||| ((own_us p0_ (8 : Int32)) &&& (65280 : Int32))) ||| (own_us p0_ (24 : Int32)))
theorem own_b13_x (l : Launch) (Z : State) (a0 : Array Value) (hw : oH a0 Z) (ws : List Jvm.Cond) (p0_ : Int32) (h0 : Heap) (n0 : Nat) (Z0 : n0 ≤ h0.size) :
   oMet l oM37 jdk_33_method_57_code 1 (some .int) ws (oR 0 0 0 0) Z h0 #[(.int p0_)] (own_QP (some (.int (own_r13_x p0_))) h0 n0) := by
 refine oBd n0 (plainFor_of_name own_pn5) ?_
 intro p e s m below meth c s₁ Bd hx hZ hby hml hown hnm X0 e0 N0
 obtain ⟨fs, hr, hrun, hended, hW, hsame⟩ := X0.leave (v := some (.int ((((p0_ <<< ((24 : Int32) &&& 31)) ||| ((p0_ &&& (65280 : Int32)) <<< ((8 : Int32) &&& 31))) ||| ((own_us p0_ (8 : Int32)) &&& (65280 : Int32))) ||| (own_us p0_ (24 : Int32))))) (fun h => by rw [Bd.returns] at h; cases h)
 refine ⟨_, _, castTop (own_ef15 m p0_) ?_, hrun, hended, _, _, rfl, ?_, ⟨_, rfl⟩, hW, (hsame.mono (by decide) (by decide))⟩
 · show oZ p e below s₁ (mkF m 0 #[oI p0_] []) _
   refine XS.iloadN X0.here hx rfl (oG hby d13 0 rfl) rfl ?_
   refine XS.bipush X0.here hx rfl (oG hby d13 1 rfl) ?_
   refine XS.ishl X0.here hx rfl (oG hby d13 2 rfl) rfl ?_
   refine XS.iloadN X0.here hx rfl (oG hby d13 3 rfl) rfl ?_
   refine X0.ldcwInt hx hown (mvT hZ (oW hw 80 rfl)) (g := (mkF m 5 #[oI p0_] [(.int p0_), (.int (p0_ <<< ((24 : Int32) &&& 31)))])) rfl (oG hby d13 4 rfl) _ ?_
   refine XS.iand X0.here hx rfl (oG hby d13 5 rfl) rfl ?_
   refine XS.bipush X0.here hx rfl (oG hby d13 6 rfl) ?_
   refine XS.ishl X0.here hx rfl (oG hby d13 7 rfl) rfl ?_
   refine XS.ior X0.here hx rfl (oG hby d13 8 rfl) rfl ?_
   refine XS.iloadN X0.here hx rfl (oG hby d13 9 rfl) rfl ?_
   refine XS.bipush X0.here hx rfl (oG hby d13 10 rfl) ?_
   show oZ p e below s₁ (mkF m 16 #[oI p0_] [(.int 8), (.int p0_), (.int ((p0_ <<< ((24 : Int32) &&& 31)) ||| ((p0_ &&& (65280 : Int32)) <<< ((8 : Int32) &&& 31))))]) _
   refine XS.iushr X0.here hx rfl (oG hby d13 11 rfl) rfl ?_
   refine X0.ldcwInt hx hown (mvT hZ (oW hw 80 rfl)) (g := (mkF m 17 #[oI p0_] [(.int (own_us p0_ (8 : Int32))), (.int ((p0_ <<< ((24 : Int32) &&& 31)) ||| ((p0_ &&& (65280 : Int32)) <<< ((8 : Int32) &&& 31))))])) rfl (oG hby d13 12 rfl) _ ?_
   refine XS.iand X0.here hx rfl (oG hby d13 13 rfl) rfl ?_
   refine XS.ior X0.here hx rfl (oG hby d13 14 rfl) rfl ?_
   refine XS.iloadN X0.here hx rfl (oG hby d13 15 rfl) rfl ?_
   refine XS.bipush X0.here hx rfl (oG hby d13 16 rfl) ?_
   refine XS.iushr X0.here hx rfl (oG hby d13 17 rfl) rfl ?_
   refine XS.ior X0.here hx rfl (oG hby d13 18 rfl) rfl ?_
   show oZ p e below s₁ (mkF m 27 #[oI p0_] [(.int ((((p0_ <<< ((24 : Int32) &&& 31)) ||| ((p0_ &&& (65280 : Int32)) <<< ((8 : Int32) &&& 31))) ||| ((own_us p0_ (8 : Int32)) &&& (65280 : Int32))) ||| (own_us p0_ (24 : Int32))))]) _
   exact retI X0 hx Bd.returns (oG hby d13 19 rfl) hr
 · show own_QP (some (.int (own_r13_x p0_))) h0 n0 _ s₁.heap _
   exact ⟨rfl, N0, e0⟩
def own_r12_x_31 (p0_ : Int32) : Int32 := (own_r13_x (((((((((p0_ &&& (1431655765 : Int32)) <<< ((1 : Int32) &&& 31)) ||| ((own_us p0_ (1 : Int32)) &&& (1431655765 : Int32))) &&& (858993459 : Int32)) <<< ((2 : Int32) &&& 31)) ||| ((own_us (((p0_ &&& (1431655765 : Int32)) <<< ((1 : Int32) &&& 31)) ||| ((own_us p0_ (1 : Int32)) &&& (1431655765 : Int32))) (2 : Int32)) &&& (858993459 : Int32))) &&& (252645135 : Int32)) <<< ((4 : Int32) &&& 31)) ||| ((own_us ((((((p0_ &&& (1431655765 : Int32)) <<< ((1 : Int32) &&& 31)) ||| ((own_us p0_ (1 : Int32)) &&& (1431655765 : Int32))) &&& (858993459 : Int32)) <<< ((2 : Int32) &&& 31)) ||| ((own_us (((p0_ &&& (1431655765 : Int32)) <<< ((1 : Int32) &&& 31)) ||| ((own_us p0_ (1 : Int32)) &&& (1431655765 : Int32))) (2 : Int32)) &&& (858993459 : Int32))) (4 : Int32)) &&& (252645135 : Int32))))
theorem own_b12_x_31 (l : Launch) (Z : State) (a0 : Array Value) (hw : oH a0 Z) (ws : List Jvm.Cond) (p0_ : Int32) (h0 : Heap) (n0 : Nat) (Z0 : n0 ≤ h0.size) :
   oMet l oM26 jdk_33_method_52_code 1 (some .int) ws (oR 1 0 0 12) Z h0 #[(.int p0_)] (own_QP (some (.int (own_r12_x_31 p0_))) h0 n0) := by
 refine oBd n0 (plainFor_of_name own_pn5) ?_
 intro p e s m below meth c s₁ Bd hx hZ hby hml hown hnm X0 e0 N0
 obtain ⟨_, _, ⟨T1, L1, k1, n1⟩, -, X1, ⟨Lc1, hQ1, l1, y1, z1⟩, st1⟩ := Jvm.LawKit.callS X0 hx (y := oM37) hown (mvT hZ (oW hw 77 rfl)) (mvT hZ (oW hw 78 rfl)) (mvT hZ (oW hw 32 rfl)) (mvT hZ (oW hw 79 rfl)) (by decide) (backOf (W := 0) (own_b13_x l Z a0 hw [] (((((((((p0_ &&& (1431655765 : Int32)) <<< ((1 : Int32) &&& 31)) ||| ((own_us p0_ (1 : Int32)) &&& (1431655765 : Int32))) &&& (858993459 : Int32)) <<< ((2 : Int32) &&& 31)) ||| ((own_us (((p0_ &&& (1431655765 : Int32)) <<< ((1 : Int32) &&& 31)) ||| ((own_us p0_ (1 : Int32)) &&& (1431655765 : Int32))) (2 : Int32)) &&& (858993459 : Int32))) &&& (252645135 : Int32)) <<< ((4 : Int32) &&& 31)) ||| ((own_us ((((((p0_ &&& (1431655765 : Int32)) <<< ((1 : Int32) &&& 31)) ||| ((own_us p0_ (1 : Int32)) &&& (1431655765 : Int32))) &&& (858993459 : Int32)) <<< ((2 : Int32) &&& 31)) ||| ((own_us (((p0_ &&& (1431655765 : Int32)) <<< ((1 : Int32) &&& 31)) ||| ((own_us p0_ (1 : Int32)) &&& (1431655765 : Int32))) (2 : Int32)) &&& (858993459 : Int32))) (4 : Int32)) &&& (252645135 : Int32))) h0 n0 Z0 ) hZ (oW hw 79 rfl) (oW hw 32 rfl) (by decide) (by decide)) (g := (mkF m 49 #[oI (((((((((p0_ &&& (1431655765 : Int32)) <<< ((1 : Int32) &&& 31)) ||| ((own_us p0_ (1 : Int32)) &&& (1431655765 : Int32))) &&& (858993459 : Int32)) <<< ((2 : Int32) &&& 31)) ||| ((own_us (((p0_ &&& (1431655765 : Int32)) <<< ((1 : Int32) &&& 31)) ||| ((own_us p0_ (1 : Int32)) &&& (1431655765 : Int32))) (2 : Int32)) &&& (858993459 : Int32))) &&& (252645135 : Int32)) <<< ((4 : Int32) &&& 31)) ||| ((own_us ((((((p0_ &&& (1431655765 : Int32)) <<< ((1 : Int32) &&& 31)) ||| ((own_us p0_ (1 : Int32)) &&& (1431655765 : Int32))) &&& (858993459 : Int32)) <<< ((2 : Int32) &&& 31)) ||| ((own_us (((p0_ &&& (1431655765 : Int32)) <<< ((1 : Int32) &&& 31)) ||| ((own_us p0_ (1 : Int32)) &&& (1431655765 : Int32))) (2 : Int32)) &&& (858993459 : Int32))) (4 : Int32)) &&& (252645135 : Int32)))] [(.int (((((((((p0_ &&& (1431655765 : Int32)) <<< ((1 : Int32) &&& 31)) ||| ((own_us p0_ (1 : Int32)) &&& (1431655765 : Int32))) &&& (858993459 : Int32)) <<< ((2 : Int32) &&& 31)) ||| ((own_us (((p0_ &&& (1431655765 : Int32)) <<< ((1 : Int32) &&& 31)) ||| ((own_us p0_ (1 : Int32)) &&& (1431655765 : Int32))) (2 : Int32)) &&& (858993459 : Int32))) &&& (252645135 : Int32)) <<< ((4 : Int32) &&& 31)) ||| ((own_us ((((((p0_ &&& (1431655765 : Int32)) <<< ((1 : Int32) &&& 31)) ||| ((own_us p0_ (1 : Int32)) &&& (1431655765 : Int32))) &&& (858993459 : Int32)) <<< ((2 : Int32) &&& 31)) ||| ((own_us (((p0_ &&& (1431655765 : Int32)) <<< ((1 : Int32) &&& 31)) ||| ((own_us p0_ (1 : Int32)) &&& (1431655765 : Int32))) (2 : Int32)) &&& (858993459 : Int32))) (4 : Int32)) &&& (252645135 : Int32))))])) rfl (by rw [hml]; rfl) (argsL := [(.int (((((((((p0_ &&& (1431655765 : Int32)) <<< ((1 : Int32) &&& 31)) ||| ((own_us p0_ (1 : Int32)) &&& (1431655765 : Int32))) &&& (858993459 : Int32)) <<< ((2 : Int32) &&& 31)) ||| ((own_us (((p0_ &&& (1431655765 : Int32)) <<< ((1 : Int32) &&& 31)) ||| ((own_us p0_ (1 : Int32)) &&& (1431655765 : Int32))) (2 : Int32)) &&& (858993459 : Int32))) &&& (252645135 : Int32)) <<< ((4 : Int32) &&& 31)) ||| ((own_us ((((((p0_ &&& (1431655765 : Int32)) <<< ((1 : Int32) &&& 31)) ||| ((own_us p0_ (1 : Int32)) &&& (1431655765 : Int32))) &&& (858993459 : Int32)) <<< ((2 : Int32) &&& 31)) ||| ((own_us (((p0_ &&& (1431655765 : Int32)) <<< ((1 : Int32) &&& 31)) ||| ((own_us p0_ (1 : Int32)) &&& (1431655765 : Int32))) (2 : Int32)) &&& (858993459 : Int32))) (4 : Int32)) &&& (252645135 : Int32))))]) (rest := []) (lenOf own_pd1 rfl) rfl (by show 2 * 0 + _ ≤ _; exact Nat.le_of_eq rfl) (oG hby d12 37 rfl) (fun _ _ => ⟨rfl, e0, (by decide : 0 + 0 ≤ _), (by decide : 0 + 0 ≤ _)⟩)
 dsimp only [Pt.U, Pt.locs, Pt.cells, Pt.slots] at X1 l1 y1 z1 st1 hQ1
 subst l1 y1 z1
 obtain ⟨rfl, N1q, e1⟩ := hQ1
 have N1 := Fr.app N0 N1q
 obtain ⟨fs, hr, hrun, hended, hW, hsame⟩ := X1.leave (v := some (.int (own_r13_x (((((((((p0_ &&& (1431655765 : Int32)) <<< ((1 : Int32) &&& 31)) ||| ((own_us p0_ (1 : Int32)) &&& (1431655765 : Int32))) &&& (858993459 : Int32)) <<< ((2 : Int32) &&& 31)) ||| ((own_us (((p0_ &&& (1431655765 : Int32)) <<< ((1 : Int32) &&& 31)) ||| ((own_us p0_ (1 : Int32)) &&& (1431655765 : Int32))) (2 : Int32)) &&& (858993459 : Int32))) &&& (252645135 : Int32)) <<< ((4 : Int32) &&& 31)) ||| ((own_us ((((((p0_ &&& (1431655765 : Int32)) <<< ((1 : Int32) &&& 31)) ||| ((own_us p0_ (1 : Int32)) &&& (1431655765 : Int32))) &&& (858993459 : Int32)) <<< ((2 : Int32) &&& 31)) ||| ((own_us (((p0_ &&& (1431655765 : Int32)) <<< ((1 : Int32) &&& 31)) ||| ((own_us p0_ (1 : Int32)) &&& (1431655765 : Int32))) (2 : Int32)) &&& (858993459 : Int32))) (4 : Int32)) &&& (252645135 : Int32)))))) (fun h => by rw [Bd.returns] at h; cases h)
 refine ⟨_, _, castTop (own_ef16 m p0_) ?_, hrun, hended, _, _, rfl, ?_, ⟨_, rfl⟩, hW, (hsame.mono (by decide) (by decide))⟩
 · show oZ p e below s₁ (mkF m 0 #[oI p0_] []) _
   refine XS.iloadN X0.here hx rfl (oG hby d12 0 rfl) rfl ?_
   refine X0.ldcwInt hx hown (mvT hZ (oW hw 74 rfl)) (g := (mkF m 1 #[oI p0_] [(.int p0_)])) rfl (oG hby d12 1 rfl) _ ?_
   refine XS.iand X0.here hx rfl (oG hby d12 2 rfl) rfl ?_
   refine XS.iconst X0.here hx rfl (oG hby d12 3 rfl) ?_
   refine XS.ishl X0.here hx rfl (oG hby d12 4 rfl) rfl ?_
   refine XS.iloadN X0.here hx rfl (oG hby d12 5 rfl) rfl ?_
   refine XS.iconst X0.here hx rfl (oG hby d12 6 rfl) ?_
   refine XS.iushr X0.here hx rfl (oG hby d12 7 rfl) rfl ?_
   refine X0.ldcwInt hx hown (mvT hZ (oW hw 74 rfl)) (g := (mkF m 10 #[oI p0_] [(.int (own_us p0_ (1 : Int32))), (.int ((p0_ &&& (1431655765 : Int32)) <<< ((1 : Int32) &&& 31)))])) rfl (oG hby d12 8 rfl) _ ?_
   refine XS.iand X0.here hx rfl (oG hby d12 9 rfl) rfl ?_
   refine XS.ior X0.here hx rfl (oG hby d12 10 rfl) rfl ?_
   show oZ p e below s₁ (mkF m 15 #[oI p0_] [(.int (((p0_ &&& (1431655765 : Int32)) <<< ((1 : Int32) &&& 31)) ||| ((own_us p0_ (1 : Int32)) &&& (1431655765 : Int32))))]) _
   refine XS.istoreN X0.here hx rfl (oG hby d12 11 rfl) rfl (l' := #[oI (((p0_ &&& (1431655765 : Int32)) <<< ((1 : Int32) &&& 31)) ||| ((own_us p0_ (1 : Int32)) &&& (1431655765 : Int32)))]) rfl ?_
   refine XS.iloadN X0.here hx rfl (oG hby d12 12 rfl) rfl ?_
   refine X0.ldcwInt hx hown (mvT hZ (oW hw 75 rfl)) (g := (mkF m 17 #[oI (((p0_ &&& (1431655765 : Int32)) <<< ((1 : Int32) &&& 31)) ||| ((own_us p0_ (1 : Int32)) &&& (1431655765 : Int32)))] [(.int (((p0_ &&& (1431655765 : Int32)) <<< ((1 : Int32) &&& 31)) ||| ((own_us p0_ (1 : Int32)) &&& (1431655765 : Int32))))])) rfl (oG hby d12 13 rfl) _ ?_
   refine XS.iand X0.here hx rfl (oG hby d12 14 rfl) rfl ?_
   refine XS.iconst X0.here hx rfl (oG hby d12 15 rfl) ?_
   refine XS.ishl X0.here hx rfl (oG hby d12 16 rfl) rfl ?_
   refine XS.iloadN X0.here hx rfl (oG hby d12 17 rfl) rfl ?_
   refine XS.iconst X0.here hx rfl (oG hby d12 18 rfl) ?_
   refine XS.iushr X0.here hx rfl (oG hby d12 19 rfl) rfl ?_
   refine X0.ldcwInt hx hown (mvT hZ (oW hw 75 rfl)) (g := (mkF m 26 #[oI (((p0_ &&& (1431655765 : Int32)) <<< ((1 : Int32) &&& 31)) ||| ((own_us p0_ (1 : Int32)) &&& (1431655765 : Int32)))] [(.int (own_us (((p0_ &&& (1431655765 : Int32)) <<< ((1 : Int32) &&& 31)) ||| ((own_us p0_ (1 : Int32)) &&& (1431655765 : Int32))) (2 : Int32))), (.int (((((p0_ &&& (1431655765 : Int32)) <<< ((1 : Int32) &&& 31)) ||| ((own_us p0_ (1 : Int32)) &&& (1431655765 : Int32))) &&& (858993459 : Int32)) <<< ((2 : Int32) &&& 31)))])) rfl (oG hby d12 20 rfl) _ ?_
   refine XS.iand X0.here hx rfl (oG hby d12 21 rfl) rfl ?_
   show oZ p e below s₁ (mkF m 30 #[oI (((p0_ &&& (1431655765 : Int32)) <<< ((1 : Int32) &&& 31)) ||| ((own_us p0_ (1 : Int32)) &&& (1431655765 : Int32)))] [(.int ((own_us (((p0_ &&& (1431655765 : Int32)) <<< ((1 : Int32) &&& 31)) ||| ((own_us p0_ (1 : Int32)) &&& (1431655765 : Int32))) (2 : Int32)) &&& (858993459 : Int32))), (.int (((((p0_ &&& (1431655765 : Int32)) <<< ((1 : Int32) &&& 31)) ||| ((own_us p0_ (1 : Int32)) &&& (1431655765 : Int32))) &&& (858993459 : Int32)) <<< ((2 : Int32) &&& 31)))]) _
   refine XS.ior X0.here hx rfl (oG hby d12 22 rfl) rfl ?_
   refine XS.istoreN X0.here hx rfl (oG hby d12 23 rfl) rfl (l' := #[oI ((((((p0_ &&& (1431655765 : Int32)) <<< ((1 : Int32) &&& 31)) ||| ((own_us p0_ (1 : Int32)) &&& (1431655765 : Int32))) &&& (858993459 : Int32)) <<< ((2 : Int32) &&& 31)) ||| ((own_us (((p0_ &&& (1431655765 : Int32)) <<< ((1 : Int32) &&& 31)) ||| ((own_us p0_ (1 : Int32)) &&& (1431655765 : Int32))) (2 : Int32)) &&& (858993459 : Int32)))]) rfl ?_
   refine XS.iloadN X0.here hx rfl (oG hby d12 24 rfl) rfl ?_
   refine X0.ldcwInt hx hown (mvT hZ (oW hw 76 rfl)) (g := (mkF m 33 #[oI ((((((p0_ &&& (1431655765 : Int32)) <<< ((1 : Int32) &&& 31)) ||| ((own_us p0_ (1 : Int32)) &&& (1431655765 : Int32))) &&& (858993459 : Int32)) <<< ((2 : Int32) &&& 31)) ||| ((own_us (((p0_ &&& (1431655765 : Int32)) <<< ((1 : Int32) &&& 31)) ||| ((own_us p0_ (1 : Int32)) &&& (1431655765 : Int32))) (2 : Int32)) &&& (858993459 : Int32)))] [(.int ((((((p0_ &&& (1431655765 : Int32)) <<< ((1 : Int32) &&& 31)) ||| ((own_us p0_ (1 : Int32)) &&& (1431655765 : Int32))) &&& (858993459 : Int32)) <<< ((2 : Int32) &&& 31)) ||| ((own_us (((p0_ &&& (1431655765 : Int32)) <<< ((1 : Int32) &&& 31)) ||| ((own_us p0_ (1 : Int32)) &&& (1431655765 : Int32))) (2 : Int32)) &&& (858993459 : Int32))))])) rfl (oG hby d12 25 rfl) _ ?_
   refine XS.iand X0.here hx rfl (oG hby d12 26 rfl) rfl ?_
   refine XS.iconst X0.here hx rfl (oG hby d12 27 rfl) ?_
   refine XS.ishl X0.here hx rfl (oG hby d12 28 rfl) rfl ?_
   refine XS.iloadN X0.here hx rfl (oG hby d12 29 rfl) rfl ?_
   refine XS.iconst X0.here hx rfl (oG hby d12 30 rfl) ?_
   refine XS.iushr X0.here hx rfl (oG hby d12 31 rfl) rfl ?_
   refine X0.ldcwInt hx hown (mvT hZ (oW hw 76 rfl)) (g := (mkF m 42 #[oI ((((((p0_ &&& (1431655765 : Int32)) <<< ((1 : Int32) &&& 31)) ||| ((own_us p0_ (1 : Int32)) &&& (1431655765 : Int32))) &&& (858993459 : Int32)) <<< ((2 : Int32) &&& 31)) ||| ((own_us (((p0_ &&& (1431655765 : Int32)) <<< ((1 : Int32) &&& 31)) ||| ((own_us p0_ (1 : Int32)) &&& (1431655765 : Int32))) (2 : Int32)) &&& (858993459 : Int32)))] [(.int (own_us ((((((p0_ &&& (1431655765 : Int32)) <<< ((1 : Int32) &&& 31)) ||| ((own_us p0_ (1 : Int32)) &&& (1431655765 : Int32))) &&& (858993459 : Int32)) <<< ((2 : Int32) &&& 31)) ||| ((own_us (((p0_ &&& (1431655765 : Int32)) <<< ((1 : Int32) &&& 31)) ||| ((own_us p0_ (1 : Int32)) &&& (1431655765 : Int32))) (2 : Int32)) &&& (858993459 : Int32))) (4 : Int32))), (.int ((((((((p0_ &&& (1431655765 : Int32)) <<< ((1 : Int32) &&& 31)) ||| ((own_us p0_ (1 : Int32)) &&& (1431655765 : Int32))) &&& (858993459 : Int32)) <<< ((2 : Int32) &&& 31)) ||| ((own_us (((p0_ &&& (1431655765 : Int32)) <<< ((1 : Int32) &&& 31)) ||| ((own_us p0_ (1 : Int32)) &&& (1431655765 : Int32))) (2 : Int32)) &&& (858993459 : Int32))) &&& (252645135 : Int32)) <<< ((4 : Int32) &&& 31)))])) rfl (oG hby d12 32 rfl) _ ?_
   show oZ p e below s₁ (mkF m 45 #[oI ((((((p0_ &&& (1431655765 : Int32)) <<< ((1 : Int32) &&& 31)) ||| ((own_us p0_ (1 : Int32)) &&& (1431655765 : Int32))) &&& (858993459 : Int32)) <<< ((2 : Int32) &&& 31)) ||| ((own_us (((p0_ &&& (1431655765 : Int32)) <<< ((1 : Int32) &&& 31)) ||| ((own_us p0_ (1 : Int32)) &&& (1431655765 : Int32))) (2 : Int32)) &&& (858993459 : Int32)))] [(.int 252645135), (.int (own_us ((((((p0_ &&& (1431655765 : Int32)) <<< ((1 : Int32) &&& 31)) ||| ((own_us p0_ (1 : Int32)) &&& (1431655765 : Int32))) &&& (858993459 : Int32)) <<< ((2 : Int32) &&& 31)) ||| ((own_us (((p0_ &&& (1431655765 : Int32)) <<< ((1 : Int32) &&& 31)) ||| ((own_us p0_ (1 : Int32)) &&& (1431655765 : Int32))) (2 : Int32)) &&& (858993459 : Int32))) (4 : Int32))), (.int ((((((((p0_ &&& (1431655765 : Int32)) <<< ((1 : Int32) &&& 31)) ||| ((own_us p0_ (1 : Int32)) &&& (1431655765 : Int32))) &&& (858993459 : Int32)) <<< ((2 : Int32) &&& 31)) ||| ((own_us (((p0_ &&& (1431655765 : Int32)) <<< ((1 : Int32) &&& 31)) ||| ((own_us p0_ (1 : Int32)) &&& (1431655765 : Int32))) (2 : Int32)) &&& (858993459 : Int32))) &&& (252645135 : Int32)) <<< ((4 : Int32) &&& 31)))]) _
   refine XS.iand X0.here hx rfl (oG hby d12 33 rfl) rfl ?_
   refine XS.ior X0.here hx rfl (oG hby d12 34 rfl) rfl ?_
   refine XS.istoreN X0.here hx rfl (oG hby d12 35 rfl) rfl (l' := #[oI (((((((((p0_ &&& (1431655765 : Int32)) <<< ((1 : Int32) &&& 31)) ||| ((own_us p0_ (1 : Int32)) &&& (1431655765 : Int32))) &&& (858993459 : Int32)) <<< ((2 : Int32) &&& 31)) ||| ((own_us (((p0_ &&& (1431655765 : Int32)) <<< ((1 : Int32) &&& 31)) ||| ((own_us p0_ (1 : Int32)) &&& (1431655765 : Int32))) (2 : Int32)) &&& (858993459 : Int32))) &&& (252645135 : Int32)) <<< ((4 : Int32) &&& 31)) ||| ((own_us ((((((p0_ &&& (1431655765 : Int32)) <<< ((1 : Int32) &&& 31)) ||| ((own_us p0_ (1 : Int32)) &&& (1431655765 : Int32))) &&& (858993459 : Int32)) <<< ((2 : Int32) &&& 31)) ||| ((own_us (((p0_ &&& (1431655765 : Int32)) <<< ((1 : Int32) &&& 31)) ||| ((own_us p0_ (1 : Int32)) &&& (1431655765 : Int32))) (2 : Int32)) &&& (858993459 : Int32))) (4 : Int32)) &&& (252645135 : Int32)))]) rfl ?_
   refine XS.iloadN X0.here hx rfl (oG hby d12 36 rfl) rfl ?_
   refine st1 _ ?_
   show oZ p e below T1 (mkF m 52 #[oI (((((((((p0_ &&& (1431655765 : Int32)) <<< ((1 : Int32) &&& 31)) ||| ((own_us p0_ (1 : Int32)) &&& (1431655765 : Int32))) &&& (858993459 : Int32)) <<< ((2 : Int32) &&& 31)) ||| ((own_us (((p0_ &&& (1431655765 : Int32)) <<< ((1 : Int32) &&& 31)) ||| ((own_us p0_ (1 : Int32)) &&& (1431655765 : Int32))) (2 : Int32)) &&& (858993459 : Int32))) &&& (252645135 : Int32)) <<< ((4 : Int32) &&& 31)) ||| ((own_us ((((((p0_ &&& (1431655765 : Int32)) <<< ((1 : Int32) &&& 31)) ||| ((own_us p0_ (1 : Int32)) &&& (1431655765 : Int32))) &&& (858993459 : Int32)) <<< ((2 : Int32) &&& 31)) ||| ((own_us (((p0_ &&& (1431655765 : Int32)) <<< ((1 : Int32) &&& 31)) ||| ((own_us p0_ (1 : Int32)) &&& (1431655765 : Int32))) (2 : Int32)) &&& (858993459 : Int32))) (4 : Int32)) &&& (252645135 : Int32)))] [(.int (own_r13_x (((((((((p0_ &&& (1431655765 : Int32)) <<< ((1 : Int32) &&& 31)) ||| ((own_us p0_ (1 : Int32)) &&& (1431655765 : Int32))) &&& (858993459 : Int32)) <<< ((2 : Int32) &&& 31)) ||| ((own_us (((p0_ &&& (1431655765 : Int32)) <<< ((1 : Int32) &&& 31)) ||| ((own_us p0_ (1 : Int32)) &&& (1431655765 : Int32))) (2 : Int32)) &&& (858993459 : Int32))) &&& (252645135 : Int32)) <<< ((4 : Int32) &&& 31)) ||| ((own_us ((((((p0_ &&& (1431655765 : Int32)) <<< ((1 : Int32) &&& 31)) ||| ((own_us p0_ (1 : Int32)) &&& (1431655765 : Int32))) &&& (858993459 : Int32)) <<< ((2 : Int32) &&& 31)) ||| ((own_us (((p0_ &&& (1431655765 : Int32)) <<< ((1 : Int32) &&& 31)) ||| ((own_us p0_ (1 : Int32)) &&& (1431655765 : Int32))) (2 : Int32)) &&& (858993459 : Int32))) (4 : Int32)) &&& (252645135 : Int32)))))]) _
   exact retI X1 hx Bd.returns (oG hby d12 38 rfl) hr
 · show own_QP (some (.int (own_r12_x_31 p0_))) h0 n0 _ T1.heap _
   exact ⟨rfl, N1, e1⟩
theorem own_b14_x (l : Launch) (Z : State) (a0 : Array Value) (hw : oH a0 Z) (ws : List Jvm.Cond) (p0_ : Int32) (h0 : Heap) (n0 : Nat) (Z0 : n0 ≤ h0.size) :
   oMet l oM35 jdk_33_method_42_code 1 (some .long) ws (oR 0 0 0 0) Z h0 #[(.int p0_)] (own_QP (some (.long ((p0_.toInt64) &&& (4294967295 : Int64)))) h0 n0) := by
 refine oBd n0 (plainFor_of_name own_pn5) ?_
 intro p e s m below meth c s₁ Bd hx hZ hby hml hown hnm X0 e0 N0
 obtain ⟨fs, hr, hrun, hended, hW, hsame⟩ := X0.leave (v := some (.long ((p0_.toInt64) &&& (4294967295 : Int64)))) (fun h => by rw [Bd.returns] at h; cases h)
 refine ⟨_, _, castTop (own_ef17 m p0_) ?_, hrun, hended, _, _, rfl, ?_, ⟨_, rfl⟩, hW, (hsame.mono (by decide) (by decide))⟩
 · show oZ p e below s₁ (mkF m 0 #[oI p0_] []) _
   refine XS.iloadN X0.here hx rfl (oG hby d14 0 rfl) rfl ?_
   refine XS.i2l X0.here hx rfl (oG hby d14 1 rfl) rfl ?_
   refine X0.ldc2Long hx hown (mvT hZ (oW hw 84 rfl)) (g := (mkF m 2 #[oI p0_] [(.long (p0_.toInt64))])) rfl (oG hby d14 2 rfl) _ ?_
   refine XS.land X0.here hx rfl (oG hby d14 3 rfl) rfl ?_
   show oZ p e below s₁ (mkF m 6 #[oI p0_] [(.long ((p0_.toInt64) &&& (4294967295 : Int64)))]) _
   exact X0.lreturnOut hx Bd.returns (oG hby d14 4 rfl) hr
 · show own_QP (some (.long ((p0_.toInt64) &&& (4294967295 : Int64)))) h0 n0 _ s₁.heap _
   exact ⟨rfl, N0, e0⟩
def own_r11_x_33 (p1_ : Int32) (f_ringBits_a0_ : Int32) : Int32 := ((own_usl (((((own_r12_x_31 p1_).toInt64) &&& (4294967295 : Int64)) + (own_sl (1 : Int64) ((32 : Int32) - f_ringBits_a0_))) - (1 : Int64)) ((32 : Int32) - f_ringBits_a0_)).toInt32)
theorem own_b11_x_33 (l : Launch) (Z : State) (a0 : Array Value) (hw : oH a0 Z) (ws : List Jvm.Cond) (a0_ : Addr) (p1_ : Int32) (f_ringBits_a0_ : Int32) (h0 : Heap) (n0 : Nat) (Z0 : n0 ≤ h0.size) (F_ringBits_a0_ : Fld Z h0 a0_ oC0 "ringBits" "I" (.int f_ringBits_a0_)) :
   oMet l oM10 prog_29_method_17_code 5 (some .int) ws (oR 2 0 0 24) Z h0 #[(.ref a0_), (.int p1_)] (own_QP (some (.int (own_r11_x_33 p1_ f_ringBits_a0_))) h0 n0) := by
 refine oBd n0 (plainFor_of_name own_pn4) ?_
 intro p e s m below meth c s₁ Bd hx hZ hby hml hown hnm X0 e0 N0
 obtain ⟨_, _, ⟨T1, L1, k1, n1⟩, -, X1, ⟨Lc1, hQ1, l1, y1, z1⟩, st1⟩ := Jvm.LawKit.callS X0 hx (y := oM26) hown (mvT hZ (oW hw 71 rfl)) (mvT hZ (oW hw 72 rfl)) (mvT hZ (oW hw 32 rfl)) (mvT hZ (oW hw 73 rfl)) (by decide) (backOf (W := 0) (own_b12_x_31 l Z a0 hw [] p1_ h0 n0 Z0 ) hZ (oW hw 73 rfl) (oW hw 32 rfl) (by decide) (by decide)) (g := (mkF m 1 #[oA a0_, oI p1_, .unset, .unset, .unset] [(.int p1_)])) rfl (by rw [hml]; rfl) (argsL := [(.int p1_)]) (rest := []) (lenOf own_pd1 rfl) rfl (by show 2 * 0 + _ ≤ _; exact Nat.le_of_eq rfl) (oG hby d11 1 rfl) (fun _ _ => ⟨rfl, e0, (by decide : 0 + 0 ≤ _), (by decide : 0 + 0 ≤ _)⟩)
 dsimp only [Pt.U, Pt.locs, Pt.cells, Pt.slots] at X1 l1 y1 z1 st1 hQ1
 subst l1 y1 z1
 obtain ⟨rfl, N1q, e1⟩ := hQ1
 have N1 := Fr.app N0 N1q
 obtain ⟨_, _, ⟨T2, L2, k2, n2⟩, -, X2, ⟨Lc2, hQ2, l2, y2, z2⟩, st2⟩ := Jvm.LawKit.callS X1 hx (y := oM35) hown (mvT hZ (oW hw 81 rfl)) (mvT hZ (oW hw 82 rfl)) (mvT hZ (oW hw 32 rfl)) (mvT hZ (oW hw 83 rfl)) (by decide) (backOf (W := 0) (own_b14_x l Z a0 hw [] (own_r12_x_31 p1_) h0 n0 Z0 ) hZ (oW hw 83 rfl) (oW hw 32 rfl) (by decide) (by decide)) (g := (mkF m 4 #[oA a0_, oI p1_, .unset, .unset, .unset] [(.int (own_r12_x_31 p1_))])) rfl (by rw [hml]; rfl) (argsL := [(.int (own_r12_x_31 p1_))]) (rest := []) (lenOf own_pd10 rfl) rfl (by show 2 * 0 + _ ≤ _; exact Nat.le_of_eq rfl) (oG hby d11 2 rfl) (fun _ _ => ⟨rfl, e1, (by decide : 0 + 0 ≤ _), (by decide : 0 + 0 ≤ _)⟩)
 dsimp only [Pt.U, Pt.locs, Pt.cells, Pt.slots] at X2 l2 y2 z2 st2 hQ2
 subst l2 y2 z2
 obtain ⟨rfl, N2q, e2⟩ := hQ2
 have N2 := Fr.app N1 N2q
 obtain ⟨T3, X3, e3, st3⟩ := getF X2 hx hZ hown (host := "") (Or.inl (oW hw 35 rfl)) Via.refl e2 F_ringBits_a0_ (g := (mkF m 11 #[oA a0_, oI p1_, oJ (((own_r12_x_31 p1_).toInt64) &&& (4294967295 : Int64)), .second, .unset] [(.ref a0_), (.int 32)])) rfl rfl (oG hby d11 6 rfl)
 obtain ⟨fs, hr, hrun, hended, hW, hsame⟩ := X3.leave (v := some (.int ((own_usl (((((own_r12_x_31 p1_).toInt64) &&& (4294967295 : Int64)) + (own_sl (1 : Int64) ((32 : Int32) - f_ringBits_a0_))) - (1 : Int64)) ((32 : Int32) - f_ringBits_a0_)).toInt32))) (fun h => by rw [Bd.returns] at h; cases h)
 refine ⟨_, _, castTop (own_ef18 m a0_ p1_) ?_, hrun, hended, _, _, rfl, ?_, ⟨_, rfl⟩, hW, (hsame.mono (by decide) (by decide))⟩
 · show oZ p e below s₁ (mkF m 0 #[oA a0_, oI p1_, .unset, .unset, .unset] []) _
   refine XS.iloadN X0.here hx rfl (oG hby d11 0 rfl) rfl ?_
   refine st1 _ ?_
   refine st2 _ ?_
   refine XS.lstoreN X2.here hx rfl (oG hby d11 3 rfl) rfl (l' := #[oA a0_, oI p1_, oJ (((own_r12_x_31 p1_).toInt64) &&& (4294967295 : Int64)), .second, .unset]) rfl ?_
   refine XS.bipush X2.here hx rfl (oG hby d11 4 rfl) ?_
   refine XS.aloadN X2.here hx rfl (oG hby d11 5 rfl) rfl rfl ?_
   refine st3 _ ?_
   refine XS.isub X3.here hx rfl (oG hby d11 7 rfl) rfl ?_
   refine XS.istore X3.here hx rfl (oG hby d11 8 rfl) rfl (l' := #[oA a0_, oI p1_, oJ (((own_r12_x_31 p1_).toInt64) &&& (4294967295 : Int64)), .second, oI ((32 : Int32) - f_ringBits_a0_)]) rfl ?_
   refine XS.lloadN X3.here hx rfl (oG hby d11 9 rfl) rfl ?_
   refine XS.lconst X3.here hx rfl (oG hby d11 10 rfl) ?_
   show oZ p e below T3 (mkF m 19 #[oA a0_, oI p1_, oJ (((own_r12_x_31 p1_).toInt64) &&& (4294967295 : Int64)), .second, oI ((32 : Int32) - f_ringBits_a0_)] [(.long 1), (.long (((own_r12_x_31 p1_).toInt64) &&& (4294967295 : Int64)))]) _
   refine XS.iload X3.here hx rfl (oG hby d11 11 rfl) rfl ?_
   refine XS.lshl X3.here hx rfl (oG hby d11 12 rfl) rfl ?_
   refine XS.ladd X3.here hx rfl (oG hby d11 13 rfl) rfl ?_
   refine XS.lconst X3.here hx rfl (oG hby d11 14 rfl) ?_
   show oZ p e below T3 (mkF m 24 #[oA a0_, oI p1_, oJ (((own_r12_x_31 p1_).toInt64) &&& (4294967295 : Int64)), .second, oI ((32 : Int32) - f_ringBits_a0_)] [(.long 1), (.long ((((own_r12_x_31 p1_).toInt64) &&& (4294967295 : Int64)) + (own_sl (1 : Int64) ((32 : Int32) - f_ringBits_a0_))))]) _
   refine XS.lsub X3.here hx rfl (oG hby d11 15 rfl) rfl ?_
   refine XS.iload X3.here hx rfl (oG hby d11 16 rfl) rfl ?_
   refine XS.lushr X3.here hx rfl (oG hby d11 17 rfl) rfl ?_
   refine XS.l2i X3.here hx rfl (oG hby d11 18 rfl) rfl ?_
   show oZ p e below T3 (mkF m 29 #[oA a0_, oI p1_, oJ (((own_r12_x_31 p1_).toInt64) &&& (4294967295 : Int64)), .second, oI ((32 : Int32) - f_ringBits_a0_)] [(.int ((own_usl (((((own_r12_x_31 p1_).toInt64) &&& (4294967295 : Int64)) + (own_sl (1 : Int64) ((32 : Int32) - f_ringBits_a0_))) - (1 : Int64)) ((32 : Int32) - f_ringBits_a0_)).toInt32))]) _
   exact retI X3 hx Bd.returns (oG hby d11 19 rfl) hr
 · show own_QP (some (.int (own_r11_x_33 p1_ f_ringBits_a0_))) h0 n0 _ T3.heap _
   exact ⟨rfl, N2, e3⟩
theorem own_b15_x_34 (l : Launch) (Z : State) (a0 : Array Value) (hw : oH a0 Z) (ws : List Jvm.Cond) (a0_ : Addr) (p1_ : Int32) (f_ringBits_a0_ : Int32) (h0 : Heap) (n0 : Nat) (Z0 : n0 ≤ h0.size) (F_ringBits_a0_ : Fld Z h0 a0_ oC0 "ringBits" "I" (.int f_ringBits_a0_)) :
   oMet l oM23 prog_29_method_18_code 2 (some .int) ws (oR 2 0 0 24) Z h0 #[(.ref a0_), (.int p1_)] (own_QP (some (.int (own_us (own_r12_x_31 p1_) ((32 : Int32) - f_ringBits_a0_)))) h0 n0) := by
 refine oBd n0 (plainFor_of_name own_pn4) ?_
 intro p e s m below meth c s₁ Bd hx hZ hby hml hown hnm X0 e0 N0
 obtain ⟨_, _, ⟨T1, L1, k1, n1⟩, -, X1, ⟨Lc1, hQ1, l1, y1, z1⟩, st1⟩ := Jvm.LawKit.callS X0 hx (y := oM26) hown (mvT hZ (oW hw 71 rfl)) (mvT hZ (oW hw 72 rfl)) (mvT hZ (oW hw 32 rfl)) (mvT hZ (oW hw 73 rfl)) (by decide) (backOf (W := 0) (own_b12_x_31 l Z a0 hw [] p1_ h0 n0 Z0 ) hZ (oW hw 73 rfl) (oW hw 32 rfl) (by decide) (by decide)) (g := (mkF m 1 #[oA a0_, oI p1_] [(.int p1_)])) rfl (by rw [hml]; rfl) (argsL := [(.int p1_)]) (rest := []) (lenOf own_pd1 rfl) rfl (by show 2 * 0 + _ ≤ _; exact Nat.le_of_eq rfl) (oG hby d15 1 rfl) (fun _ _ => ⟨rfl, e0, (by decide : 0 + 0 ≤ _), (by decide : 0 + 0 ≤ _)⟩)
 dsimp only [Pt.U, Pt.locs, Pt.cells, Pt.slots] at X1 l1 y1 z1 st1 hQ1
 subst l1 y1 z1
 obtain ⟨rfl, N1q, e1⟩ := hQ1
 have N1 := Fr.app N0 N1q
 obtain ⟨T2, X2, e2, st2⟩ := getF X1 hx hZ hown (host := "") (Or.inl (oW hw 35 rfl)) Via.refl e1 F_ringBits_a0_ (g := (mkF m 7 #[oA a0_, oI p1_] [(.ref a0_), (.int 32), (.int (own_r12_x_31 p1_))])) rfl rfl (oG hby d15 4 rfl)
 obtain ⟨fs, hr, hrun, hended, hW, hsame⟩ := X2.leave (v := some (.int (own_us (own_r12_x_31 p1_) ((32 : Int32) - f_ringBits_a0_)))) (fun h => by rw [Bd.returns] at h; cases h)
 refine ⟨_, _, castTop (own_ef19 m a0_ p1_) ?_, hrun, hended, _, _, rfl, ?_, ⟨_, rfl⟩, hW, (hsame.mono (by decide) (by decide))⟩
 · show oZ p e below s₁ (mkF m 0 #[oA a0_, oI p1_] []) _
   refine XS.iloadN X0.here hx rfl (oG hby d15 0 rfl) rfl ?_
   refine st1 _ ?_
   refine XS.bipush X1.here hx rfl (oG hby d15 2 rfl) ?_
   refine XS.aloadN X1.here hx rfl (oG hby d15 3 rfl) rfl rfl ?_
   refine st2 _ ?_
   refine XS.isub X2.here hx rfl (oG hby d15 5 rfl) rfl ?_
   refine XS.iushr X2.here hx rfl (oG hby d15 6 rfl) rfl ?_
   show oZ p e below T2 (mkF m 12 #[oA a0_, oI p1_] [(.int (own_us (own_r12_x_31 p1_) ((32 : Int32) - f_ringBits_a0_)))]) _
   exact retI X2 hx Bd.returns (oG hby d15 7 rfl) hr
 · show own_QP (some (.int (own_us (own_r12_x_31 p1_) ((32 : Int32) - f_ringBits_a0_)))) h0 n0 _ T2.heap _
   exact ⟨rfl, N1, e2⟩
theorem own_s10_25_ff_35 (rc : Nat) (rs : Nat) (o0_ : Addr) (i1_ : Int32) (i2_ : Int32) (i3_ : Int32) (i4_ : Int32) (o5_ : Addr) (i6_ : Int32) (i7_ : Int32) (f_ringBits_o0_ : Int32) (f_lots_o0_ : Int32) (n_o5_ : Int32) (vs_o5_ : List Int32) (x_ : Int32) (y_ : Int32)
   (X0 : Stand p l e (oR 5 rc rs 100) s m args below meth c T0 locs cells slots) (hx : p.tables.exec = Jvm.exec) (hZ : Z.Warmed39 s.vm) (hw : oH a0 Z) (hby : c.code = prog_29_method_13_code) (hml : c.maxLocals = 9) (hown : s.vm.findClass oC0 = some m.cls) (e0 : T0.heap = h0) (N0 : Fr n0 locs) (Z0 : n0 ≤ h0.size) (F_ringBits_o0_ : Fld Z h0 o0_ oC0 "ringBits" "I" (.int f_ringBits_o0_)) (E_o0_ : Exa Z h0 o0_ oC0) (F_lots_o0_ : Fld Z h0 o0_ oC0 "lots" "I" (.int f_lots_o0_)) (A_o5_ : own_il Z h0 o5_ n_o5_ vs_o5_) (g_o5_ : n0 ≤ o5_) (hf0 : i6_ < i2_) (hf1 : (own_us (own_r12_x_31 ((i4_ + i7_) &&& (i3_ - (1 : Int32)))) ((32 : Int32) - f_ringBits_o0_)) < f_lots_o0_) (hf2 : ¬ (i6_ < 0)) (hf3 : i6_ < n_o5_) (hf4 : (i6_).toNatClampNeg < vs_o5_.length) (hf5 : (i6_ + (1 : Int32)) = x_) (hf6 : (i7_ + (1 : Int32)) = y_) (hc : cells + (0) ≤ rc) (hs : slots + (0) ≤ rs) :
   ∃ (T' : State) (locs' : List Loc), Stand p l e (oR 5 rc rs 100) s m args below meth c T' locs' cells slots ∧ Fr n0 locs' ∧ Keep h0 T'.heap [o5_] ∧ own_il Z T'.heap o5_ n_o5_ (vs_o5_.set (i6_).toNatClampNeg (own_us (own_r12_x_31 ((i4_ + i7_) &&& (i3_ - (1 : Int32)))) ((32 : Int32) - f_ringBits_o0_))) ∧
     ∀ target, Steps p.tables e below (T'.setTop (mkF m 25 #[oA o0_, oI i1_, oI i2_, oI i3_, oI i4_, oA o5_, oI x_, oI y_, oI (own_us (own_r12_x_31 ((i4_ + i7_) &&& (i3_ - (1 : Int32)))) ((32 : Int32) - f_ringBits_o0_))] [])) target → Steps p.tables e below (T0.setTop (mkF m 25 #[oA o0_, oI i1_, oI i2_, oI i3_, oI i4_, oA o5_, oI i6_, oI i7_, .unset] [])) target := by
 obtain ⟨cq1, q1, q1'⟩ := E_o0_.cell
 obtain ⟨_, _, ⟨T1, L1, k1, n1⟩, -, X1, ⟨Lc1, hQ1, l1, y1, z1⟩, st1⟩ := X0.privateBack hx (y := oM23) hown (mvT hZ (oW hw 86 rfl)) (mvT hZ (oW hw 87 rfl)) (own_selp (mvT hZ (oW hw 19 rfl)) (mvP hZ (oW hw 88 rfl) (args := #[])) (mvT hZ (oW hw 87 rfl)) (by decide)) (Cond.privateMethod_at (mvP hZ (oW hw 88 rfl) (args := #[]))) (mvT hZ (oW hw 89 rfl)) (by decide) (backOf (W := 0) (own_b15_x_34 l Z a0 hw [] o0_ ((i4_ + i7_) &&& (i3_ - (1 : Int32))) f_ringBits_o0_ h0 n0 Z0 F_ringBits_o0_) hZ (oW hw 89 rfl) (oW hw 16 rfl) (Nat.le_of_ble_eq_true rfl) (Nat.le_of_ble_eq_true rfl)) (g := (mkF m 41 #[oA o0_, oI i1_, oI i2_, oI i3_, oI i4_, oA o5_, oI i6_, oI i7_, .unset] [(.int ((i4_ + i7_) &&& (i3_ - (1 : Int32)))), (.ref o0_)])) rfl (by rw [hml]; rfl) (Steps.refl _) (a := o0_) (by rw [e0]; exact q1) q1' (argsL := [(.int ((i4_ + i7_) &&& (i3_ - (1 : Int32))))]) (rest := []) (lenOf own_pd1 rfl) rfl (by show 2 * 0 + _ ≤ _; exact Nat.le_of_eq rfl) (oG hby d10 27 rfl) (fun _ _ => ⟨rfl, e0, (show cells + 0 ≤ rc from by omega), (show slots + 0 ≤ rs from by omega)⟩)
 dsimp only [Pt.U, Pt.locs, Pt.cells, Pt.slots] at X1 l1 y1 z1 st1 hQ1
 subst l1; rw [y1, z1] at X1
 obtain ⟨rfl, N1q, e1⟩ := hQ1
 have N1 := Fr.app N0 N1q
 obtain ⟨T2, X2, e2, st2⟩ := getF X1 hx hZ hown (host := "") (Or.inl (oW hw 28 rfl)) Via.refl e1 F_lots_o0_ (g := (mkF m 49 #[oA o0_, oI i1_, oI i2_, oI i3_, oI i4_, oA o5_, oI i6_, oI i7_, oI (own_us (own_r12_x_31 ((i4_ + i7_) &&& (i3_ - (1 : Int32)))) ((32 : Int32) - f_ringBits_o0_))] [(.ref o0_), (.int (own_us (own_r12_x_31 ((i4_ + i7_) &&& (i3_ - (1 : Int32)))) ((32 : Int32) - f_ringBits_o0_)))])) rfl rfl (oG hby d10 31 rfl)
 obtain ⟨c3, A3, hin3, -⟩ := own_il_at (j := i6_) A_o5_ hf2 hf3
 obtain ⟨T4, h4, X4, e4, W4, st4⟩ := stI X2 hx hZ e2 A3 (j := i6_) hin3 (g := (mkF m 61 #[oA o0_, oI i1_, oI i2_, oI i3_, oI i4_, oA o5_, oI i6_, oI i7_, oI (own_us (own_r12_x_31 ((i4_ + i7_) &&& (i3_ - (1 : Int32)))) ((32 : Int32) - f_ringBits_o0_))] [(.int (own_us (own_r12_x_31 ((i4_ + i7_) &&& (i3_ - (1 : Int32)))) ((32 : Int32) - f_ringBits_o0_))), (.int i6_), (.ref o5_)])) rfl rfl (oG hby d10 36 rfl)
 have V4 : own_il Z h4 o5_ n_o5_ (vs_o5_.set (i6_).toNatClampNeg (own_us (own_r12_x_31 ((i4_ + i7_) &&& (i3_ - (1 : Int32)))) ((32 : Int32) - f_ringBits_o0_))) := own_il_st A_o5_ hf2 hf3 W4 hf4
 have K4 : Keep h0 h4 [o5_] := (Keep.refl h0 [o5_]).wr W4 (Or.inl (oX 0 rfl))
 have N4 := Fr.snoc X4 N1 g_o5_
 subst e4
 refine ⟨T4, _, X4, N4, K4, V4, fun target kt => ?_⟩
 show oZ p e below T0 (mkF m 25 #[oA o0_, oI i1_, oI i2_, oI i3_, oI i4_, oA o5_, oI i6_, oI i7_, .unset] []) _
 refine XS.iload X0.here hx rfl (oG hby d10 16 rfl) rfl ?_
 refine XS.iloadN X0.here hx rfl (oG hby d10 17 rfl) rfl ?_
 refine XS.icmpNo X0.here hx rfl (oG hby d10 18 rfl) rfl (tlt hf0).2.1 ?_
 refine XS.aloadN X0.here hx rfl (oG hby d10 19 rfl) rfl rfl ?_
 refine XS.iload X0.here hx rfl (oG hby d10 20 rfl) rfl ?_
 refine XS.iload X0.here hx rfl (oG hby d10 21 rfl) rfl ?_
 refine XS.iadd X0.here hx rfl (oG hby d10 22 rfl) rfl ?_
 refine XS.iloadN X0.here hx rfl (oG hby d10 23 rfl) rfl ?_
 refine XS.iconst X0.here hx rfl (oG hby d10 24 rfl) ?_
 refine XS.isub X0.here hx rfl (oG hby d10 25 rfl) rfl ?_
 refine XS.iand X0.here hx rfl (oG hby d10 26 rfl) rfl ?_
 show oZ p e below T0 (mkF m 41 #[oA o0_, oI i1_, oI i2_, oI i3_, oI i4_, oA o5_, oI i6_, oI i7_, .unset] [(.int ((i4_ + i7_) &&& (i3_ - (1 : Int32)))), (.ref o0_)]) _
 refine st1.trans ?_
 refine XS.istore X1.here hx rfl (oG hby d10 28 rfl) rfl (l' := #[oA o0_, oI i1_, oI i2_, oI i3_, oI i4_, oA o5_, oI i6_, oI i7_, oI (own_us (own_r12_x_31 ((i4_ + i7_) &&& (i3_ - (1 : Int32)))) ((32 : Int32) - f_ringBits_o0_))]) rfl ?_
 refine XS.iload X1.here hx rfl (oG hby d10 29 rfl) rfl ?_
 refine XS.aloadN X1.here hx rfl (oG hby d10 30 rfl) rfl rfl ?_
 refine st2 _ ?_
 refine XS.icmpNo X2.here hx rfl (oG hby d10 32 rfl) rfl (tlt hf1).2.1 ?_
 refine XS.aload X2.here hx rfl (oG hby d10 33 rfl) rfl rfl ?_
 refine XS.iload X2.here hx rfl (oG hby d10 34 rfl) rfl ?_
 refine XS.iload X2.here hx rfl (oG hby d10 35 rfl) rfl ?_
 refine st4 _ ?_
 refine XS.iinc X4.here hx rfl (oG hby d10 37 rfl) rfl (l' := #[oA o0_, oI i1_, oI i2_, oI i3_, oI i4_, oA o5_, oI (i6_ + (1 : Int32)), oI i7_, oI (own_us (own_r12_x_31 ((i4_ + i7_) &&& (i3_ - (1 : Int32)))) ((32 : Int32) - f_ringBits_o0_))]) rfl ?_
 show oZ p e below T4 (mkF m 65 #[oA o0_, oI i1_, oI i2_, oI i3_, oI i4_, oA o5_, oI (i6_ + (1 : Int32)), oI i7_, oI (own_us (own_r12_x_31 ((i4_ + i7_) &&& (i3_ - (1 : Int32)))) ((32 : Int32) - f_ringBits_o0_))] []) _
 rw [hf5]
 refine XS.iinc X4.here hx rfl (oG hby d10 38 rfl) rfl (l' := #[oA o0_, oI i1_, oI i2_, oI i3_, oI i4_, oA o5_, oI x_, oI (i7_ + (1 : Int32)), oI (own_us (own_r12_x_31 ((i4_ + i7_) &&& (i3_ - (1 : Int32)))) ((32 : Int32) - f_ringBits_o0_))]) rfl ?_
 show oZ p e below T4 (mkF m 68 #[oA o0_, oI i1_, oI i2_, oI i3_, oI i4_, oA o5_, oI x_, oI (i7_ + (1 : Int32)), oI (own_us (own_r12_x_31 ((i4_ + i7_) &&& (i3_ - (1 : Int32)))) ((32 : Int32) - f_ringBits_o0_))] []) _
 rw [hf6]
 refine XS.goto X4.here hx rfl (pc0 := 68) (pc' := 25) rfl (oG hby d10 39 rfl) (by decide) (by decide) ?_
 exact kt
def Qown_b10_r1l1t_0_1_36 (Z : State) (a0_ : Addr) (h0 : Heap) (n0 : Nat) (v : Option Value) (h : Heap) (L : List Loc) : Prop := ∃ b3 : Addr, v = some (.ref b3) ∧ Fr n0 L ∧ Keep h0 h [] ∧ h0.size ≤ b3 ∧ Exa Z h b3 "[I" ∧ own_il Z h b3 (1 : Int32) ([0] : List Int32)
theorem own_b10_r1l1t_0_1_36 (l : Launch) (Z : State) (a0 : Array Value) (hw : oH a0 Z) (ws : List Jvm.Cond) (a0_ : Addr) (h0 : Heap) (n0 : Nat) (Z0 : n0 ≤ h0.size) (F_ringBits_a0_ : Fld Z h0 a0_ oC0 "ringBits" "I" (.int 1)) (E_a0_ : Exa Z h0 a0_ oC0) (F_lots_a0_ : Fld Z h0 a0_ oC0 "lots" "I" (.int 1)) :
   oMet l oM5 prog_29_method_13_code 9 (some (.array .int)) ws (oR 5 1 4 100) Z h0 #[(.ref a0_), (.int 0), (.int 1)] (Qown_b10_r1l1t_0_1_36 Z a0_ h0 n0) := by
 refine oBd n0 (plainFor_of_name own_pn4) ?_
 intro p e s m below meth c s₁ Bd hx hZ hby hml hown hnm X0 e0 N0
 obtain ⟨T1, X1, e1, st1⟩ := getF X0 hx hZ hown (host := "") (Or.inl (oW hw 35 rfl)) Via.refl e0 F_ringBits_a0_ (g := (mkF m 2 #[oA a0_, oI 0, oI 1, .unset, .unset, .unset, .unset, .unset, .unset] [(.ref a0_), (.int 1)])) rfl rfl (oG hby d10 2 rfl)
 obtain ⟨cq2, q2, q2'⟩ := E_a0_.cell
 obtain ⟨_, _, ⟨T2, L2, k2, n2⟩, -, X2, ⟨Lc2, hQ2, l2, y2, z2⟩, st2⟩ := X1.privateBack hx (y := oM10) hown (mvT hZ (oW hw 67 rfl)) (mvT hZ (oW hw 68 rfl)) (own_selp (mvT hZ (oW hw 19 rfl)) (mvP hZ (oW hw 69 rfl) (args := #[])) (mvT hZ (oW hw 68 rfl)) (by decide)) (Cond.privateMethod_at (mvP hZ (oW hw 69 rfl) (args := #[]))) (mvT hZ (oW hw 70 rfl)) (by decide) (backOf (W := 0) (own_b11_x_33 l Z a0 hw [] a0_ (0 : Int32) (1 : Int32) h0 n0 Z0 F_ringBits_a0_) hZ (oW hw 70 rfl) (oW hw 16 rfl) (by decide) (by decide)) (g := (mkF m 9 #[oA a0_, oI 0, oI 1, oI 2, .unset, .unset, .unset, .unset, .unset] [(.int 0), (.ref a0_)])) rfl (by rw [hml]; rfl) (Steps.refl _) (a := a0_) (by rw [e1]; exact q2) q2' (argsL := [(.int 0)]) (rest := []) (lenOf own_pd1 rfl) rfl (by show 2 * 0 + _ ≤ _; exact Nat.le_of_eq rfl) (oG hby d10 7 rfl) (fun _ _ => ⟨rfl, e1, (by decide : 0 + 0 ≤ _), (by decide : 0 + 0 ≤ _)⟩)
 dsimp only [Pt.U, Pt.locs, Pt.cells, Pt.slots] at X2 l2 y2 z2 st2 hQ2
 subst l2 y2 z2
 obtain ⟨rfl, N2q, e2⟩ := hQ2
 have N2 := Fr.app N0 N2q
 obtain ⟨T3, h3, k3, X3, e3, E3, A3, B3, st3⟩ := newPE X2 hx hZ (oW hw 85 rfl) e2 (g := (mkF m 15 #[oA a0_, oI 0, oI 1, oI 2, oI 0, .unset, .unset, .unset, .unset] [(.int 1)])) rfl (oG hby d10 10 rfl) rfl (by decide) (cap := 1) (by decide) (by decide) (by decide) (by decide) (ad := "[I") rfl
 obtain ⟨b3, g3⟩ : ∃ z, z = h0.size := ⟨_, rfl⟩
 rw [← g3] at A3 B3 st3
 have lo_b3 : h0.size ≤ b3 := Nat.le_of_eq g3.symm
 have ne_a0__b3 : a0_ ≠ b3 := oV F_ringBits_a0_.lt lo_b3
 have sz_b3 : h0.size ≤ b3 := Nat.le_trans (Keep.refl h0 []).1 lo_b3
 have g_b3 : n0 ≤ b3 := Nat.le_trans Z0 sz_b3
 have K3 : Keep h0 h3 [] := (Keep.refl h0 []).ext E3
 have V3 : own_il Z h3 b3 (1 : Int32) ([0] : List Int32) := own_il_new (m := 1) A3 (by decide)
 have f5_a0__ringBits := (F_ringBits_a0_.ext E3)
 have f6_a0_ := (E_a0_.ext E3)
 have f7_a0__lots := (F_lots_a0_.ext E3)
 obtain ⟨T4, L4, X4, N4, Kq4, Q4_0, st4⟩ := own_s10_25_ff_35 1 4 a0_ (0 : Int32) (1 : Int32) (2 : Int32) (0 : Int32) b3 (0 : Int32) (0 : Int32) (1 : Int32) (1 : Int32) (1 : Int32) ([0] : List Int32) (1 : Int32) (1 : Int32) X3 hx hZ hw hby hml hown e3 N2 (Nat.le_trans Z0 K3.1) f5_a0__ringBits f6_a0_ f7_a0__lots V3 g_b3 (by decide +kernel) (by decide +kernel) (by decide +kernel) (by decide +kernel) (by decide +kernel) (by decide +kernel) (by decide +kernel) (by decide : 1 + (0) ≤ _) (by decide : 1 + (0) ≤ _)
 have K4 : Keep h0 T4.heap [] := K3.trans Kq4 (own_a1 (Or.inr sz_b3))
 have Q4_0' := own_il_eq Q4_0 (vs' := ([0] : List Int32)) (by decide +kernel)
 have f8_b3 := (B3.keep Kq4)
 obtain ⟨fs, hr, hrun, hended, hW, hsame⟩ := X4.leave (v := some (.ref b3)) (fun h => by rw [Bd.returns] at h; cases h)
 refine ⟨_, _, castTop (own_ef20 m a0_ (0 : Int32) (1 : Int32)) ?_, hrun, hended, _, _, rfl, ?_, ⟨_, rfl⟩, hW, (hsame.mono (by decide) (by decide))⟩
 · show oZ p e below s₁ (mkF m 0 #[oA a0_, oI 0, oI 1, .unset, .unset, .unset, .unset, .unset, .unset] []) _
   refine XS.iconst X0.here hx rfl (oG hby d10 0 rfl) ?_
   refine XS.aloadN X0.here hx rfl (oG hby d10 1 rfl) rfl rfl ?_
   refine st1 _ ?_
   refine XS.ishl X1.here hx rfl (oG hby d10 3 rfl) rfl ?_
   show oZ p e below T1 (mkF m 6 #[oA a0_, oI 0, oI 1, .unset, .unset, .unset, .unset, .unset, .unset] [(.int ((1 : Int32) <<< ((1 : Int32) &&& 31)))]) _
   rw [(by decide +kernel : ((1 : Int32) <<< ((1 : Int32) &&& 31)) = (2 : Int32))]
   refine XS.istoreN X1.here hx rfl (oG hby d10 4 rfl) rfl (l' := #[oA a0_, oI 0, oI 1, oI 2, .unset, .unset, .unset, .unset, .unset]) rfl ?_
   refine XS.aloadN X1.here hx rfl (oG hby d10 5 rfl) rfl rfl ?_
   refine XS.iloadN X1.here hx rfl (oG hby d10 6 rfl) rfl ?_
   refine st2.trans ?_
   show oZ p e below T2 (mkF m 12 #[oA a0_, oI 0, oI 1, oI 2, .unset, .unset, .unset, .unset, .unset] [(.int (own_r11_x_33 (0 : Int32) (1 : Int32)))]) _
   rw [(by decide +kernel : (own_r11_x_33 (0 : Int32) (1 : Int32)) = (0 : Int32))]
   refine XS.istore X2.here hx rfl (oG hby d10 8 rfl) rfl (l' := #[oA a0_, oI 0, oI 1, oI 2, oI 0, .unset, .unset, .unset, .unset]) rfl ?_
   refine XS.iloadN X2.here hx rfl (oG hby d10 9 rfl) rfl ?_
   refine st3 _ ?_
   refine XS.astore X3.here hx rfl (oG hby d10 11 rfl) rfl rfl (l' := #[oA a0_, oI 0, oI 1, oI 2, oI 0, oA b3, .unset, .unset, .unset]) rfl ?_
   refine XS.iconst X3.here hx rfl (oG hby d10 12 rfl) ?_
   refine XS.istore X3.here hx rfl (oG hby d10 13 rfl) rfl (l' := #[oA a0_, oI 0, oI 1, oI 2, oI 0, oA b3, oI 0, .unset, .unset]) rfl ?_
   refine XS.iconst X3.here hx rfl (oG hby d10 14 rfl) ?_
   refine XS.istore X3.here hx rfl (oG hby d10 15 rfl) rfl (l' := #[oA a0_, oI 0, oI 1, oI 2, oI 0, oA b3, oI 0, oI 0, .unset]) rfl ?_
   refine st4 _ ?_
   refine XS.iload X4.here hx rfl (oG hby d10 16 rfl) rfl ?_
   show oZ p e below T4 (mkF m 27 #[oA a0_, oI 0, oI 1, oI 2, oI 0, oA b3, oI 1, oI 1, oI (own_us (own_r12_x_31 (((0 : Int32) + (0 : Int32)) &&& ((2 : Int32) - (1 : Int32)))) ((32 : Int32) - (1 : Int32)))] [(.int 1)]) _
   refine XS.iloadN X4.here hx rfl (oG hby d10 17 rfl) rfl ?_
   refine XS.icmpYes X4.here hx rfl (pc0 := 28) (pc' := 71) rfl (oG hby d10 18 rfl) rfl (flt (by decide +kernel : ¬ ((1 : Int32) < (1 : Int32)))).2.1 (by decide) (by decide) ?_
   refine XS.aload X4.here hx rfl (oG hby d10 40 rfl) rfl rfl ?_
   show oZ p e below T4 (mkF m 73 #[oA a0_, oI 0, oI 1, oI 2, oI 0, oA b3, oI 1, oI 1, oI (own_us (own_r12_x_31 (((0 : Int32) + (0 : Int32)) &&& ((2 : Int32) - (1 : Int32)))) ((32 : Int32) - (1 : Int32)))] [(.ref b3)]) _
   jvm_step X4.here [X4.here.top, hx, (oG hby d10 41 rfl), X4.method', Bd.returns, Value.isRef, FieldType.isReference]
   first | (intro acts; rw [hr _ acts rfl rfl rfl]) | rw [hr _ _ rfl rfl rfl]
   exact Steps.refl _
 · show Qown_b10_r1l1t_0_1_36 Z a0_ h0 n0 _ T4.heap _
   exact ⟨b3, rfl, N4, K4, sz_b3, f8_b3, Q4_0'⟩
theorem own_s10_25_ff_37 (rc : Nat) (rs : Nat) (o0_ : Addr) (i1_ : Int32) (i2_ : Int32) (i3_ : Int32) (i4_ : Int32) (o5_ : Addr) (i6_ : Int32) (i7_ : Int32) (i8_ : Int32) (f_ringBits_o0_ : Int32) (f_lots_o0_ : Int32) (n_o5_ : Int32) (vs_o5_ : List Int32) (x_ : Int32) (y_ : Int32)
   (X0 : Stand p l e (oR 5 rc rs 100) s m args below meth c T0 locs cells slots) (hx : p.tables.exec = Jvm.exec) (hZ : Z.Warmed39 s.vm) (hw : oH a0 Z) (hby : c.code = prog_29_method_13_code) (hml : c.maxLocals = 9) (hown : s.vm.findClass oC0 = some m.cls) (e0 : T0.heap = h0) (N0 : Fr n0 locs) (Z0 : n0 ≤ h0.size) (F_ringBits_o0_ : Fld Z h0 o0_ oC0 "ringBits" "I" (.int f_ringBits_o0_)) (E_o0_ : Exa Z h0 o0_ oC0) (F_lots_o0_ : Fld Z h0 o0_ oC0 "lots" "I" (.int f_lots_o0_)) (A_o5_ : own_il Z h0 o5_ n_o5_ vs_o5_) (g_o5_ : n0 ≤ o5_) (hf0 : i6_ < i2_) (hf1 : (own_us (own_r12_x_31 ((i4_ + i7_) &&& (i3_ - (1 : Int32)))) ((32 : Int32) - f_ringBits_o0_)) < f_lots_o0_) (hf2 : ¬ (i6_ < 0)) (hf3 : i6_ < n_o5_) (hf4 : (i6_).toNatClampNeg < vs_o5_.length) (hf5 : (i6_ + (1 : Int32)) = x_) (hf6 : (i7_ + (1 : Int32)) = y_) (hc : cells + (0) ≤ rc) (hs : slots + (0) ≤ rs) :
   ∃ (T' : State) (locs' : List Loc), Stand p l e (oR 5 rc rs 100) s m args below meth c T' locs' cells slots ∧ Fr n0 locs' ∧ Keep h0 T'.heap [o5_] ∧ own_il Z T'.heap o5_ n_o5_ (vs_o5_.set (i6_).toNatClampNeg (own_us (own_r12_x_31 ((i4_ + i7_) &&& (i3_ - (1 : Int32)))) ((32 : Int32) - f_ringBits_o0_))) ∧
     ∀ target, Steps p.tables e below (T'.setTop (mkF m 25 #[oA o0_, oI i1_, oI i2_, oI i3_, oI i4_, oA o5_, oI x_, oI y_, oI (own_us (own_r12_x_31 ((i4_ + i7_) &&& (i3_ - (1 : Int32)))) ((32 : Int32) - f_ringBits_o0_))] [])) target → Steps p.tables e below (T0.setTop (mkF m 25 #[oA o0_, oI i1_, oI i2_, oI i3_, oI i4_, oA o5_, oI i6_, oI i7_, oI i8_] [])) target := by
 obtain ⟨cq1, q1, q1'⟩ := E_o0_.cell
 obtain ⟨_, _, ⟨T1, L1, k1, n1⟩, -, X1, ⟨Lc1, hQ1, l1, y1, z1⟩, st1⟩ := X0.privateBack hx (y := oM23) hown (mvT hZ (oW hw 86 rfl)) (mvT hZ (oW hw 87 rfl)) (own_selp (mvT hZ (oW hw 19 rfl)) (mvP hZ (oW hw 88 rfl) (args := #[])) (mvT hZ (oW hw 87 rfl)) (by decide)) (Cond.privateMethod_at (mvP hZ (oW hw 88 rfl) (args := #[]))) (mvT hZ (oW hw 89 rfl)) (by decide) (backOf (W := 0) (own_b15_x_34 l Z a0 hw [] o0_ ((i4_ + i7_) &&& (i3_ - (1 : Int32))) f_ringBits_o0_ h0 n0 Z0 F_ringBits_o0_) hZ (oW hw 89 rfl) (oW hw 16 rfl) (Nat.le_of_ble_eq_true rfl) (Nat.le_of_ble_eq_true rfl)) (g := (mkF m 41 #[oA o0_, oI i1_, oI i2_, oI i3_, oI i4_, oA o5_, oI i6_, oI i7_, oI i8_] [(.int ((i4_ + i7_) &&& (i3_ - (1 : Int32)))), (.ref o0_)])) rfl (by rw [hml]; rfl) (Steps.refl _) (a := o0_) (by rw [e0]; exact q1) q1' (argsL := [(.int ((i4_ + i7_) &&& (i3_ - (1 : Int32))))]) (rest := []) (lenOf own_pd1 rfl) rfl (by show 2 * 0 + _ ≤ _; exact Nat.le_of_eq rfl) (oG hby d10 27 rfl) (fun _ _ => ⟨rfl, e0, (show cells + 0 ≤ rc from by omega), (show slots + 0 ≤ rs from by omega)⟩)
 dsimp only [Pt.U, Pt.locs, Pt.cells, Pt.slots] at X1 l1 y1 z1 st1 hQ1
 subst l1; rw [y1, z1] at X1
 obtain ⟨rfl, N1q, e1⟩ := hQ1
 have N1 := Fr.app N0 N1q
 obtain ⟨T2, X2, e2, st2⟩ := getF X1 hx hZ hown (host := "") (Or.inl (oW hw 28 rfl)) Via.refl e1 F_lots_o0_ (g := (mkF m 49 #[oA o0_, oI i1_, oI i2_, oI i3_, oI i4_, oA o5_, oI i6_, oI i7_, oI (own_us (own_r12_x_31 ((i4_ + i7_) &&& (i3_ - (1 : Int32)))) ((32 : Int32) - f_ringBits_o0_))] [(.ref o0_), (.int (own_us (own_r12_x_31 ((i4_ + i7_) &&& (i3_ - (1 : Int32)))) ((32 : Int32) - f_ringBits_o0_)))])) rfl rfl (oG hby d10 31 rfl)
 obtain ⟨c3, A3, hin3, -⟩ := own_il_at (j := i6_) A_o5_ hf2 hf3
 obtain ⟨T4, h4, X4, e4, W4, st4⟩ := stI X2 hx hZ e2 A3 (j := i6_) hin3 (g := (mkF m 61 #[oA o0_, oI i1_, oI i2_, oI i3_, oI i4_, oA o5_, oI i6_, oI i7_, oI (own_us (own_r12_x_31 ((i4_ + i7_) &&& (i3_ - (1 : Int32)))) ((32 : Int32) - f_ringBits_o0_))] [(.int (own_us (own_r12_x_31 ((i4_ + i7_) &&& (i3_ - (1 : Int32)))) ((32 : Int32) - f_ringBits_o0_))), (.int i6_), (.ref o5_)])) rfl rfl (oG hby d10 36 rfl)
 have V4 : own_il Z h4 o5_ n_o5_ (vs_o5_.set (i6_).toNatClampNeg (own_us (own_r12_x_31 ((i4_ + i7_) &&& (i3_ - (1 : Int32)))) ((32 : Int32) - f_ringBits_o0_))) := own_il_st A_o5_ hf2 hf3 W4 hf4
 have K4 : Keep h0 h4 [o5_] := (Keep.refl h0 [o5_]).wr W4 (Or.inl (oX 0 rfl))
 have N4 := Fr.snoc X4 N1 g_o5_
 subst e4
 refine ⟨T4, _, X4, N4, K4, V4, fun target kt => ?_⟩
 show oZ p e below T0 (mkF m 25 #[oA o0_, oI i1_, oI i2_, oI i3_, oI i4_, oA o5_, oI i6_, oI i7_, oI i8_] []) _
 refine XS.iload X0.here hx rfl (oG hby d10 16 rfl) rfl ?_
 refine XS.iloadN X0.here hx rfl (oG hby d10 17 rfl) rfl ?_
 refine XS.icmpNo X0.here hx rfl (oG hby d10 18 rfl) rfl (tlt hf0).2.1 ?_
 refine XS.aloadN X0.here hx rfl (oG hby d10 19 rfl) rfl rfl ?_
 refine XS.iload X0.here hx rfl (oG hby d10 20 rfl) rfl ?_
 refine XS.iload X0.here hx rfl (oG hby d10 21 rfl) rfl ?_
 refine XS.iadd X0.here hx rfl (oG hby d10 22 rfl) rfl ?_
 refine XS.iloadN X0.here hx rfl (oG hby d10 23 rfl) rfl ?_
 refine XS.iconst X0.here hx rfl (oG hby d10 24 rfl) ?_
 refine XS.isub X0.here hx rfl (oG hby d10 25 rfl) rfl ?_
 refine XS.iand X0.here hx rfl (oG hby d10 26 rfl) rfl ?_
 show oZ p e below T0 (mkF m 41 #[oA o0_, oI i1_, oI i2_, oI i3_, oI i4_, oA o5_, oI i6_, oI i7_, oI i8_] [(.int ((i4_ + i7_) &&& (i3_ - (1 : Int32)))), (.ref o0_)]) _
 refine st1.trans ?_
 refine XS.istore X1.here hx rfl (oG hby d10 28 rfl) rfl (l' := #[oA o0_, oI i1_, oI i2_, oI i3_, oI i4_, oA o5_, oI i6_, oI i7_, oI (own_us (own_r12_x_31 ((i4_ + i7_) &&& (i3_ - (1 : Int32)))) ((32 : Int32) - f_ringBits_o0_))]) rfl ?_
 refine XS.iload X1.here hx rfl (oG hby d10 29 rfl) rfl ?_
 refine XS.aloadN X1.here hx rfl (oG hby d10 30 rfl) rfl rfl ?_
 refine st2 _ ?_
 refine XS.icmpNo X2.here hx rfl (oG hby d10 32 rfl) rfl (tlt hf1).2.1 ?_
 refine XS.aload X2.here hx rfl (oG hby d10 33 rfl) rfl rfl ?_
 refine XS.iload X2.here hx rfl (oG hby d10 34 rfl) rfl ?_
 refine XS.iload X2.here hx rfl (oG hby d10 35 rfl) rfl ?_
 refine st4 _ ?_
 refine XS.iinc X4.here hx rfl (oG hby d10 37 rfl) rfl (l' := #[oA o0_, oI i1_, oI i2_, oI i3_, oI i4_, oA o5_, oI (i6_ + (1 : Int32)), oI i7_, oI (own_us (own_r12_x_31 ((i4_ + i7_) &&& (i3_ - (1 : Int32)))) ((32 : Int32) - f_ringBits_o0_))]) rfl ?_
 show oZ p e below T4 (mkF m 65 #[oA o0_, oI i1_, oI i2_, oI i3_, oI i4_, oA o5_, oI (i6_ + (1 : Int32)), oI i7_, oI (own_us (own_r12_x_31 ((i4_ + i7_) &&& (i3_ - (1 : Int32)))) ((32 : Int32) - f_ringBits_o0_))] []) _
 rw [hf5]
 refine XS.iinc X4.here hx rfl (oG hby d10 38 rfl) rfl (l' := #[oA o0_, oI i1_, oI i2_, oI i3_, oI i4_, oA o5_, oI x_, oI (i7_ + (1 : Int32)), oI (own_us (own_r12_x_31 ((i4_ + i7_) &&& (i3_ - (1 : Int32)))) ((32 : Int32) - f_ringBits_o0_))]) rfl ?_
 show oZ p e below T4 (mkF m 68 #[oA o0_, oI i1_, oI i2_, oI i3_, oI i4_, oA o5_, oI x_, oI (i7_ + (1 : Int32)), oI (own_us (own_r12_x_31 ((i4_ + i7_) &&& (i3_ - (1 : Int32)))) ((32 : Int32) - f_ringBits_o0_))] []) _
 rw [hf6]
 refine XS.goto X4.here hx rfl (pc0 := 68) (pc' := 25) rfl (oG hby d10 39 rfl) (by decide) (by decide) ?_
 exact kt
def Qown_b10_r1l2t_0_2_38 (Z : State) (a0_ : Addr) (h0 : Heap) (n0 : Nat) (v : Option Value) (h : Heap) (L : List Loc) : Prop := ∃ b3 : Addr, v = some (.ref b3) ∧ Fr n0 L ∧ Keep h0 h [] ∧ h0.size ≤ b3 ∧ Exa Z h b3 "[I" ∧ own_il Z h b3 (2 : Int32) ([0, 1] : List Int32)
theorem own_b10_r1l2t_0_2_38 (l : Launch) (Z : State) (a0 : Array Value) (hw : oH a0 Z) (ws : List Jvm.Cond) (a0_ : Addr) (h0 : Heap) (n0 : Nat) (Z0 : n0 ≤ h0.size) (F_ringBits_a0_ : Fld Z h0 a0_ oC0 "ringBits" "I" (.int 1)) (E_a0_ : Exa Z h0 a0_ oC0) (F_lots_a0_ : Fld Z h0 a0_ oC0 "lots" "I" (.int 2)) :
   oMet l oM5 prog_29_method_13_code 9 (some (.array .int)) ws (oR 5 1 4 100) Z h0 #[(.ref a0_), (.int 0), (.int 2)] (Qown_b10_r1l2t_0_2_38 Z a0_ h0 n0) := by
 refine oBd n0 (plainFor_of_name own_pn4) ?_
 intro p e s m below meth c s₁ Bd hx hZ hby hml hown hnm X0 e0 N0
 obtain ⟨T1, X1, e1, st1⟩ := getF X0 hx hZ hown (host := "") (Or.inl (oW hw 35 rfl)) Via.refl e0 F_ringBits_a0_ (g := (mkF m 2 #[oA a0_, oI 0, oI 2, .unset, .unset, .unset, .unset, .unset, .unset] [(.ref a0_), (.int 1)])) rfl rfl (oG hby d10 2 rfl)
 obtain ⟨cq2, q2, q2'⟩ := E_a0_.cell
 obtain ⟨_, _, ⟨T2, L2, k2, n2⟩, -, X2, ⟨Lc2, hQ2, l2, y2, z2⟩, st2⟩ := X1.privateBack hx (y := oM10) hown (mvT hZ (oW hw 67 rfl)) (mvT hZ (oW hw 68 rfl)) (own_selp (mvT hZ (oW hw 19 rfl)) (mvP hZ (oW hw 69 rfl) (args := #[])) (mvT hZ (oW hw 68 rfl)) (by decide)) (Cond.privateMethod_at (mvP hZ (oW hw 69 rfl) (args := #[]))) (mvT hZ (oW hw 70 rfl)) (by decide) (backOf (W := 0) (own_b11_x_33 l Z a0 hw [] a0_ (0 : Int32) (1 : Int32) h0 n0 Z0 F_ringBits_a0_) hZ (oW hw 70 rfl) (oW hw 16 rfl) (by decide) (by decide)) (g := (mkF m 9 #[oA a0_, oI 0, oI 2, oI 2, .unset, .unset, .unset, .unset, .unset] [(.int 0), (.ref a0_)])) rfl (by rw [hml]; rfl) (Steps.refl _) (a := a0_) (by rw [e1]; exact q2) q2' (argsL := [(.int 0)]) (rest := []) (lenOf own_pd1 rfl) rfl (by show 2 * 0 + _ ≤ _; exact Nat.le_of_eq rfl) (oG hby d10 7 rfl) (fun _ _ => ⟨rfl, e1, (by decide : 0 + 0 ≤ _), (by decide : 0 + 0 ≤ _)⟩)
 dsimp only [Pt.U, Pt.locs, Pt.cells, Pt.slots] at X2 l2 y2 z2 st2 hQ2
 subst l2 y2 z2
 obtain ⟨rfl, N2q, e2⟩ := hQ2
 have N2 := Fr.app N0 N2q
 obtain ⟨T3, h3, k3, X3, e3, E3, A3, B3, st3⟩ := newPE X2 hx hZ (oW hw 85 rfl) e2 (g := (mkF m 15 #[oA a0_, oI 0, oI 2, oI 2, oI 0, .unset, .unset, .unset, .unset] [(.int 2)])) rfl (oG hby d10 10 rfl) rfl (by decide) (cap := 2) (by decide) (by decide) (by decide) (by decide) (ad := "[I") rfl
 obtain ⟨b3, g3⟩ : ∃ z, z = h0.size := ⟨_, rfl⟩
 rw [← g3] at A3 B3 st3
 have lo_b3 : h0.size ≤ b3 := Nat.le_of_eq g3.symm
 have ne_a0__b3 : a0_ ≠ b3 := oV F_ringBits_a0_.lt lo_b3
 have sz_b3 : h0.size ≤ b3 := Nat.le_trans (Keep.refl h0 []).1 lo_b3
 have g_b3 : n0 ≤ b3 := Nat.le_trans Z0 sz_b3
 have K3 : Keep h0 h3 [] := (Keep.refl h0 []).ext E3
 have V3 : own_il Z h3 b3 (2 : Int32) ([0, 0] : List Int32) := own_il_new (m := 2) A3 (by decide)
 have f5_a0__ringBits := (F_ringBits_a0_.ext E3)
 have f6_a0_ := (E_a0_.ext E3)
 have f7_a0__lots := (F_lots_a0_.ext E3)
 obtain ⟨T4, L4, X4, N4, Kq4, Q4_0, st4⟩ := own_s10_25_ff_35 1 4 a0_ (0 : Int32) (2 : Int32) (2 : Int32) (0 : Int32) b3 (0 : Int32) (0 : Int32) (1 : Int32) (2 : Int32) (2 : Int32) ([0, 0] : List Int32) (1 : Int32) (1 : Int32) X3 hx hZ hw hby hml hown e3 N2 (Nat.le_trans Z0 K3.1) f5_a0__ringBits f6_a0_ f7_a0__lots V3 g_b3 (by decide +kernel) (by decide +kernel) (by decide +kernel) (by decide +kernel) (by decide +kernel) (by decide +kernel) (by decide +kernel) (by decide : 1 + (0) ≤ _) (by decide : 2 + (0) ≤ _)
 have K4 : Keep h0 T4.heap [] := K3.trans Kq4 (own_a1 (Or.inr sz_b3))
 have Q4_0' := own_il_eq Q4_0 (vs' := ([0, 0] : List Int32)) (by decide +kernel)
 have f9_a0__ringBits := (f5_a0__ringBits.keep Kq4 (own_n1 ne_a0__b3))
 have f10_a0_ := (f6_a0_.keep Kq4)
 have f11_a0__lots := (f7_a0__lots.keep Kq4 (own_n1 ne_a0__b3))
 have f12_b3 := (B3.keep Kq4)
 obtain ⟨T8, L8, X8, N8, Kq8, Q8_0, st8⟩ := own_s10_25_ff_37 1 4 a0_ (0 : Int32) (2 : Int32) (2 : Int32) (0 : Int32) b3 (1 : Int32) (1 : Int32) (own_us (own_r12_x_31 (((0 : Int32) + (0 : Int32)) &&& ((2 : Int32) - (1 : Int32)))) ((32 : Int32) - (1 : Int32))) (1 : Int32) (2 : Int32) (2 : Int32) ([0, 0] : List Int32) (2 : Int32) (2 : Int32) X4 hx hZ hw hby hml hown rfl N4 (Nat.le_trans Z0 K4.1) f9_a0__ringBits f10_a0_ f11_a0__lots Q4_0' g_b3 (by decide +kernel) (by decide +kernel) (by decide +kernel) (by decide +kernel) (by decide +kernel) (by decide +kernel) (by decide +kernel) (by decide : 1 + (0) ≤ _) (by decide : 2 + (0) ≤ _)
 have K8 : Keep h0 T8.heap [] := K4.trans Kq8 (own_a1 (Or.inr sz_b3))
 have Q8_0' := own_il_eq Q8_0 (vs' := ([0, 1] : List Int32)) (by decide +kernel)
 have f13_b3 := (f12_b3.keep Kq8)
 obtain ⟨fs, hr, hrun, hended, hW, hsame⟩ := X8.leave (v := some (.ref b3)) (fun h => by rw [Bd.returns] at h; cases h)
 refine ⟨_, _, castTop (own_ef20 m a0_ (0 : Int32) (2 : Int32)) ?_, hrun, hended, _, _, rfl, ?_, ⟨_, rfl⟩, hW, (hsame.mono (by decide) (by decide))⟩
 · show oZ p e below s₁ (mkF m 0 #[oA a0_, oI 0, oI 2, .unset, .unset, .unset, .unset, .unset, .unset] []) _
   refine XS.iconst X0.here hx rfl (oG hby d10 0 rfl) ?_
   refine XS.aloadN X0.here hx rfl (oG hby d10 1 rfl) rfl rfl ?_
   refine st1 _ ?_
   refine XS.ishl X1.here hx rfl (oG hby d10 3 rfl) rfl ?_
   show oZ p e below T1 (mkF m 6 #[oA a0_, oI 0, oI 2, .unset, .unset, .unset, .unset, .unset, .unset] [(.int ((1 : Int32) <<< ((1 : Int32) &&& 31)))]) _
   rw [(by decide +kernel : ((1 : Int32) <<< ((1 : Int32) &&& 31)) = (2 : Int32))]
   refine XS.istoreN X1.here hx rfl (oG hby d10 4 rfl) rfl (l' := #[oA a0_, oI 0, oI 2, oI 2, .unset, .unset, .unset, .unset, .unset]) rfl ?_
   refine XS.aloadN X1.here hx rfl (oG hby d10 5 rfl) rfl rfl ?_
   refine XS.iloadN X1.here hx rfl (oG hby d10 6 rfl) rfl ?_
   refine st2.trans ?_
   show oZ p e below T2 (mkF m 12 #[oA a0_, oI 0, oI 2, oI 2, .unset, .unset, .unset, .unset, .unset] [(.int (own_r11_x_33 (0 : Int32) (1 : Int32)))]) _
   rw [(by decide +kernel : (own_r11_x_33 (0 : Int32) (1 : Int32)) = (0 : Int32))]
   refine XS.istore X2.here hx rfl (oG hby d10 8 rfl) rfl (l' := #[oA a0_, oI 0, oI 2, oI 2, oI 0, .unset, .unset, .unset, .unset]) rfl ?_
   refine XS.iloadN X2.here hx rfl (oG hby d10 9 rfl) rfl ?_
   refine st3 _ ?_
   refine XS.astore X3.here hx rfl (oG hby d10 11 rfl) rfl rfl (l' := #[oA a0_, oI 0, oI 2, oI 2, oI 0, oA b3, .unset, .unset, .unset]) rfl ?_
   refine XS.iconst X3.here hx rfl (oG hby d10 12 rfl) ?_
   refine XS.istore X3.here hx rfl (oG hby d10 13 rfl) rfl (l' := #[oA a0_, oI 0, oI 2, oI 2, oI 0, oA b3, oI 0, .unset, .unset]) rfl ?_
   refine XS.iconst X3.here hx rfl (oG hby d10 14 rfl) ?_
   refine XS.istore X3.here hx rfl (oG hby d10 15 rfl) rfl (l' := #[oA a0_, oI 0, oI 2, oI 2, oI 0, oA b3, oI 0, oI 0, .unset]) rfl ?_
   refine st4 _ ?_
   refine st8 _ ?_
   show oZ p e below T8 (mkF m 25 #[oA a0_, oI 0, oI 2, oI 2, oI 0, oA b3, oI 2, oI 2, oI (own_us (own_r12_x_31 (((0 : Int32) + (1 : Int32)) &&& ((2 : Int32) - (1 : Int32)))) ((32 : Int32) - (1 : Int32)))] []) _
   refine XS.iload X8.here hx rfl (oG hby d10 16 rfl) rfl ?_
   refine XS.iloadN X8.here hx rfl (oG hby d10 17 rfl) rfl ?_
   refine XS.icmpYes X8.here hx rfl (pc0 := 28) (pc' := 71) rfl (oG hby d10 18 rfl) rfl (flt (by decide +kernel : ¬ ((2 : Int32) < (2 : Int32)))).2.1 (by decide) (by decide) ?_
   refine XS.aload X8.here hx rfl (oG hby d10 40 rfl) rfl rfl ?_
   show oZ p e below T8 (mkF m 73 #[oA a0_, oI 0, oI 2, oI 2, oI 0, oA b3, oI 2, oI 2, oI (own_us (own_r12_x_31 (((0 : Int32) + (1 : Int32)) &&& ((2 : Int32) - (1 : Int32)))) ((32 : Int32) - (1 : Int32)))] [(.ref b3)]) _
   jvm_step X8.here [X8.here.top, hx, (oG hby d10 41 rfl), X8.method', Bd.returns, Value.isRef, FieldType.isReference]
   first | (intro acts; rw [hr _ acts rfl rfl rfl]) | rw [hr _ _ rfl rfl rfl]
   exact Steps.refl _
 · show Qown_b10_r1l2t_0_2_38 Z a0_ h0 n0 _ T8.heap _
   exact ⟨b3, rfl, N8, K8, sz_b3, f13_b3, Q8_0'⟩
def Qown_b10_r2l3t_0_3_39 (Z : State) (a0_ : Addr) (h0 : Heap) (n0 : Nat) (v : Option Value) (h : Heap) (L : List Loc) : Prop := ∃ b3 : Addr, v = some (.ref b3) ∧ Fr n0 L ∧ Keep h0 h [] ∧ h0.size ≤ b3 ∧ Exa Z h b3 "[I" ∧ own_il Z h b3 (3 : Int32) ([0, 2, 1] : List Int32)
theorem own_b10_r2l3t_0_3_39 (l : Launch) (Z : State) (a0 : Array Value) (hw : oH a0 Z) (ws : List Jvm.Cond) (a0_ : Addr) (h0 : Heap) (n0 : Nat) (Z0 : n0 ≤ h0.size) (F_ringBits_a0_ : Fld Z h0 a0_ oC0 "ringBits" "I" (.int 2)) (E_a0_ : Exa Z h0 a0_ oC0) (F_lots_a0_ : Fld Z h0 a0_ oC0 "lots" "I" (.int 3)) :
   oMet l oM5 prog_29_method_13_code 9 (some (.array .int)) ws (oR 5 1 4 100) Z h0 #[(.ref a0_), (.int 0), (.int 3)] (Qown_b10_r2l3t_0_3_39 Z a0_ h0 n0) := by
 refine oBd n0 (plainFor_of_name own_pn4) ?_
 intro p e s m below meth c s₁ Bd hx hZ hby hml hown hnm X0 e0 N0
 obtain ⟨T1, X1, e1, st1⟩ := getF X0 hx hZ hown (host := "") (Or.inl (oW hw 35 rfl)) Via.refl e0 F_ringBits_a0_ (g := (mkF m 2 #[oA a0_, oI 0, oI 3, .unset, .unset, .unset, .unset, .unset, .unset] [(.ref a0_), (.int 1)])) rfl rfl (oG hby d10 2 rfl)
 obtain ⟨cq2, q2, q2'⟩ := E_a0_.cell
 obtain ⟨_, _, ⟨T2, L2, k2, n2⟩, -, X2, ⟨Lc2, hQ2, l2, y2, z2⟩, st2⟩ := X1.privateBack hx (y := oM10) hown (mvT hZ (oW hw 67 rfl)) (mvT hZ (oW hw 68 rfl)) (own_selp (mvT hZ (oW hw 19 rfl)) (mvP hZ (oW hw 69 rfl) (args := #[])) (mvT hZ (oW hw 68 rfl)) (by decide)) (Cond.privateMethod_at (mvP hZ (oW hw 69 rfl) (args := #[]))) (mvT hZ (oW hw 70 rfl)) (by decide) (backOf (W := 0) (own_b11_x_33 l Z a0 hw [] a0_ (0 : Int32) (2 : Int32) h0 n0 Z0 F_ringBits_a0_) hZ (oW hw 70 rfl) (oW hw 16 rfl) (by decide) (by decide)) (g := (mkF m 9 #[oA a0_, oI 0, oI 3, oI 4, .unset, .unset, .unset, .unset, .unset] [(.int 0), (.ref a0_)])) rfl (by rw [hml]; rfl) (Steps.refl _) (a := a0_) (by rw [e1]; exact q2) q2' (argsL := [(.int 0)]) (rest := []) (lenOf own_pd1 rfl) rfl (by show 2 * 0 + _ ≤ _; exact Nat.le_of_eq rfl) (oG hby d10 7 rfl) (fun _ _ => ⟨rfl, e1, (by decide : 0 + 0 ≤ _), (by decide : 0 + 0 ≤ _)⟩)
 dsimp only [Pt.U, Pt.locs, Pt.cells, Pt.slots] at X2 l2 y2 z2 st2 hQ2
 subst l2 y2 z2
 obtain ⟨rfl, N2q, e2⟩ := hQ2
 have N2 := Fr.app N0 N2q
 obtain ⟨T3, h3, k3, X3, e3, E3, A3, B3, st3⟩ := newPE X2 hx hZ (oW hw 85 rfl) e2 (g := (mkF m 15 #[oA a0_, oI 0, oI 3, oI 4, oI 0, .unset, .unset, .unset, .unset] [(.int 3)])) rfl (oG hby d10 10 rfl) rfl (by decide) (cap := 3) (by decide) (by decide) (by decide) (by decide) (ad := "[I") rfl
 obtain ⟨b3, g3⟩ : ∃ z, z = h0.size := ⟨_, rfl⟩
 rw [← g3] at A3 B3 st3
 have lo_b3 : h0.size ≤ b3 := Nat.le_of_eq g3.symm
 have ne_a0__b3 : a0_ ≠ b3 := oV F_ringBits_a0_.lt lo_b3
 have sz_b3 : h0.size ≤ b3 := Nat.le_trans (Keep.refl h0 []).1 lo_b3
 have g_b3 : n0 ≤ b3 := Nat.le_trans Z0 sz_b3
 have K3 : Keep h0 h3 [] := (Keep.refl h0 []).ext E3
 have V3 : own_il Z h3 b3 (3 : Int32) ([0, 0, 0] : List Int32) := own_il_new (m := 3) A3 (by decide)
 have f5_a0__ringBits := (F_ringBits_a0_.ext E3)
 have f6_a0_ := (E_a0_.ext E3)
 have f7_a0__lots := (F_lots_a0_.ext E3)
 obtain ⟨T4, L4, X4, N4, Kq4, Q4_0, st4⟩ := own_s10_25_ff_35 1 4 a0_ (0 : Int32) (3 : Int32) (4 : Int32) (0 : Int32) b3 (0 : Int32) (0 : Int32) (2 : Int32) (3 : Int32) (3 : Int32) ([0, 0, 0] : List Int32) (1 : Int32) (1 : Int32) X3 hx hZ hw hby hml hown e3 N2 (Nat.le_trans Z0 K3.1) f5_a0__ringBits f6_a0_ f7_a0__lots V3 g_b3 (by decide +kernel) (by decide +kernel) (by decide +kernel) (by decide +kernel) (by decide +kernel) (by decide +kernel) (by decide +kernel) (by decide : 1 + (0) ≤ _) (by decide : 3 + (0) ≤ _)
 have K4 : Keep h0 T4.heap [] := K3.trans Kq4 (own_a1 (Or.inr sz_b3))
 have Q4_0' := own_il_eq Q4_0 (vs' := ([0, 0, 0] : List Int32)) (by decide +kernel)
 have f9_a0__ringBits := (f5_a0__ringBits.keep Kq4 (own_n1 ne_a0__b3))
 have f10_a0_ := (f6_a0_.keep Kq4)
 have f11_a0__lots := (f7_a0__lots.keep Kq4 (own_n1 ne_a0__b3))
 have f12_b3 := (B3.keep Kq4)
 obtain ⟨T8, L8, X8, N8, Kq8, Q8_0, st8⟩ := own_s10_25_ff_37 1 4 a0_ (0 : Int32) (3 : Int32) (4 : Int32) (0 : Int32) b3 (1 : Int32) (1 : Int32) (own_us (own_r12_x_31 (((0 : Int32) + (0 : Int32)) &&& ((4 : Int32) - (1 : Int32)))) ((32 : Int32) - (2 : Int32))) (2 : Int32) (3 : Int32) (3 : Int32) ([0, 0, 0] : List Int32) (2 : Int32) (2 : Int32) X4 hx hZ hw hby hml hown rfl N4 (Nat.le_trans Z0 K4.1) f9_a0__ringBits f10_a0_ f11_a0__lots Q4_0' g_b3 (by decide +kernel) (by decide +kernel) (by decide +kernel) (by decide +kernel) (by decide +kernel) (by decide +kernel) (by decide +kernel) (by decide : 1 + (0) ≤ _) (by decide : 3 + (0) ≤ _)
 have K8 : Keep h0 T8.heap [] := K4.trans Kq8 (own_a1 (Or.inr sz_b3))
 have Q8_0' := own_il_eq Q8_0 (vs' := ([0, 2, 0] : List Int32)) (by decide +kernel)
 have f14_a0__ringBits := (f9_a0__ringBits.keep Kq8 (own_n1 ne_a0__b3))
 have f15_a0_ := (f10_a0_.keep Kq8)
 have f16_a0__lots := (f11_a0__lots.keep Kq8 (own_n1 ne_a0__b3))
 have f17_b3 := (f12_b3.keep Kq8)
 obtain ⟨T13, L13, X13, N13, Kq13, Q13_0, st13⟩ := own_s10_25_ff_37 1 4 a0_ (0 : Int32) (3 : Int32) (4 : Int32) (0 : Int32) b3 (2 : Int32) (2 : Int32) (own_us (own_r12_x_31 (((0 : Int32) + (1 : Int32)) &&& ((4 : Int32) - (1 : Int32)))) ((32 : Int32) - (2 : Int32))) (2 : Int32) (3 : Int32) (3 : Int32) ([0, 2, 0] : List Int32) (3 : Int32) (3 : Int32) X8 hx hZ hw hby hml hown rfl N8 (Nat.le_trans Z0 K8.1) f14_a0__ringBits f15_a0_ f16_a0__lots Q8_0' g_b3 (by decide +kernel) (by decide +kernel) (by decide +kernel) (by decide +kernel) (by decide +kernel) (by decide +kernel) (by decide +kernel) (by decide : 1 + (0) ≤ _) (by decide : 3 + (0) ≤ _)
 have K13 : Keep h0 T13.heap [] := K8.trans Kq13 (own_a1 (Or.inr sz_b3))
 have Q13_0' := own_il_eq Q13_0 (vs' := ([0, 2, 1] : List Int32)) (by decide +kernel)
 have f18_b3 := (f17_b3.keep Kq13)
 obtain ⟨fs, hr, hrun, hended, hW, hsame⟩ := X13.leave (v := some (.ref b3)) (fun h => by rw [Bd.returns] at h; cases h)
 refine ⟨_, _, castTop (own_ef20 m a0_ (0 : Int32) (3 : Int32)) ?_, hrun, hended, _, _, rfl, ?_, ⟨_, rfl⟩, hW, (hsame.mono (by decide) (by decide))⟩
 · show oZ p e below s₁ (mkF m 0 #[oA a0_, oI 0, oI 3, .unset, .unset, .unset, .unset, .unset, .unset] []) _
   refine XS.iconst X0.here hx rfl (oG hby d10 0 rfl) ?_
   refine XS.aloadN X0.here hx rfl (oG hby d10 1 rfl) rfl rfl ?_
   refine st1 _ ?_
   refine XS.ishl X1.here hx rfl (oG hby d10 3 rfl) rfl ?_
   show oZ p e below T1 (mkF m 6 #[oA a0_, oI 0, oI 3, .unset, .unset, .unset, .unset, .unset, .unset] [(.int ((1 : Int32) <<< ((2 : Int32) &&& 31)))]) _
   rw [(by decide +kernel : ((1 : Int32) <<< ((2 : Int32) &&& 31)) = (4 : Int32))]
   refine XS.istoreN X1.here hx rfl (oG hby d10 4 rfl) rfl (l' := #[oA a0_, oI 0, oI 3, oI 4, .unset, .unset, .unset, .unset, .unset]) rfl ?_
   refine XS.aloadN X1.here hx rfl (oG hby d10 5 rfl) rfl rfl ?_
   refine XS.iloadN X1.here hx rfl (oG hby d10 6 rfl) rfl ?_
   refine st2.trans ?_
   show oZ p e below T2 (mkF m 12 #[oA a0_, oI 0, oI 3, oI 4, .unset, .unset, .unset, .unset, .unset] [(.int (own_r11_x_33 (0 : Int32) (2 : Int32)))]) _
   rw [(by decide +kernel : (own_r11_x_33 (0 : Int32) (2 : Int32)) = (0 : Int32))]
   refine XS.istore X2.here hx rfl (oG hby d10 8 rfl) rfl (l' := #[oA a0_, oI 0, oI 3, oI 4, oI 0, .unset, .unset, .unset, .unset]) rfl ?_
   refine XS.iloadN X2.here hx rfl (oG hby d10 9 rfl) rfl ?_
   refine st3 _ ?_
   refine XS.astore X3.here hx rfl (oG hby d10 11 rfl) rfl rfl (l' := #[oA a0_, oI 0, oI 3, oI 4, oI 0, oA b3, .unset, .unset, .unset]) rfl ?_
   refine XS.iconst X3.here hx rfl (oG hby d10 12 rfl) ?_
   refine XS.istore X3.here hx rfl (oG hby d10 13 rfl) rfl (l' := #[oA a0_, oI 0, oI 3, oI 4, oI 0, oA b3, oI 0, .unset, .unset]) rfl ?_
   refine XS.iconst X3.here hx rfl (oG hby d10 14 rfl) ?_
   refine XS.istore X3.here hx rfl (oG hby d10 15 rfl) rfl (l' := #[oA a0_, oI 0, oI 3, oI 4, oI 0, oA b3, oI 0, oI 0, .unset]) rfl ?_
   refine st4 _ ?_
   refine st8 _ ?_
   show oZ p e below T8 (mkF m 25 #[oA a0_, oI 0, oI 3, oI 4, oI 0, oA b3, oI 2, oI 2, oI (own_us (own_r12_x_31 (((0 : Int32) + (1 : Int32)) &&& ((4 : Int32) - (1 : Int32)))) ((32 : Int32) - (2 : Int32)))] []) _
   refine st13 _ ?_
   refine XS.iload X13.here hx rfl (oG hby d10 16 rfl) rfl ?_
   refine XS.iloadN X13.here hx rfl (oG hby d10 17 rfl) rfl ?_
   refine XS.icmpYes X13.here hx rfl (pc0 := 28) (pc' := 71) rfl (oG hby d10 18 rfl) rfl (flt (by decide +kernel : ¬ ((3 : Int32) < (3 : Int32)))).2.1 (by decide) (by decide) ?_
   refine XS.aload X13.here hx rfl (oG hby d10 40 rfl) rfl rfl ?_
   show oZ p e below T13 (mkF m 73 #[oA a0_, oI 0, oI 3, oI 4, oI 0, oA b3, oI 3, oI 3, oI (own_us (own_r12_x_31 (((0 : Int32) + (2 : Int32)) &&& ((4 : Int32) - (1 : Int32)))) ((32 : Int32) - (2 : Int32)))] [(.ref b3)]) _
   jvm_step X13.here [X13.here.top, hx, (oG hby d10 41 rfl), X13.method', Bd.returns, Value.isRef, FieldType.isReference]
   first | (intro acts; rw [hr _ acts rfl rfl rfl]) | rw [hr _ _ rfl rfl rfl]
   exact Steps.refl _
 · show Qown_b10_r2l3t_0_3_39 Z a0_ h0 n0 _ T13.heap _
   exact ⟨b3, rfl, N13, K13, sz_b3, f18_b3, Q13_0'⟩
def Qown_b10_r2l4t_0_4_40 (Z : State) (a0_ : Addr) (h0 : Heap) (n0 : Nat) (v : Option Value) (h : Heap) (L : List Loc) : Prop := ∃ b3 : Addr, v = some (.ref b3) ∧ Fr n0 L ∧ Keep h0 h [] ∧ h0.size ≤ b3 ∧ Exa Z h b3 "[I" ∧ own_il Z h b3 (4 : Int32) ([0, 2, 1, 3] : List Int32)
theorem own_b10_r2l4t_0_4_40 (l : Launch) (Z : State) (a0 : Array Value) (hw : oH a0 Z) (ws : List Jvm.Cond) (a0_ : Addr) (h0 : Heap) (n0 : Nat) (Z0 : n0 ≤ h0.size) (F_ringBits_a0_ : Fld Z h0 a0_ oC0 "ringBits" "I" (.int 2)) (E_a0_ : Exa Z h0 a0_ oC0) (F_lots_a0_ : Fld Z h0 a0_ oC0 "lots" "I" (.int 4)) :
   oMet l oM5 prog_29_method_13_code 9 (some (.array .int)) ws (oR 5 1 4 100) Z h0 #[(.ref a0_), (.int 0), (.int 4)] (Qown_b10_r2l4t_0_4_40 Z a0_ h0 n0) := by
 refine oBd n0 (plainFor_of_name own_pn4) ?_
 intro p e s m below meth c s₁ Bd hx hZ hby hml hown hnm X0 e0 N0
 obtain ⟨T1, X1, e1, st1⟩ := getF X0 hx hZ hown (host := "") (Or.inl (oW hw 35 rfl)) Via.refl e0 F_ringBits_a0_ (g := (mkF m 2 #[oA a0_, oI 0, oI 4, .unset, .unset, .unset, .unset, .unset, .unset] [(.ref a0_), (.int 1)])) rfl rfl (oG hby d10 2 rfl)
 obtain ⟨cq2, q2, q2'⟩ := E_a0_.cell
 obtain ⟨_, _, ⟨T2, L2, k2, n2⟩, -, X2, ⟨Lc2, hQ2, l2, y2, z2⟩, st2⟩ := X1.privateBack hx (y := oM10) hown (mvT hZ (oW hw 67 rfl)) (mvT hZ (oW hw 68 rfl)) (own_selp (mvT hZ (oW hw 19 rfl)) (mvP hZ (oW hw 69 rfl) (args := #[])) (mvT hZ (oW hw 68 rfl)) (by decide)) (Cond.privateMethod_at (mvP hZ (oW hw 69 rfl) (args := #[]))) (mvT hZ (oW hw 70 rfl)) (by decide) (backOf (W := 0) (own_b11_x_33 l Z a0 hw [] a0_ (0 : Int32) (2 : Int32) h0 n0 Z0 F_ringBits_a0_) hZ (oW hw 70 rfl) (oW hw 16 rfl) (by decide) (by decide)) (g := (mkF m 9 #[oA a0_, oI 0, oI 4, oI 4, .unset, .unset, .unset, .unset, .unset] [(.int 0), (.ref a0_)])) rfl (by rw [hml]; rfl) (Steps.refl _) (a := a0_) (by rw [e1]; exact q2) q2' (argsL := [(.int 0)]) (rest := []) (lenOf own_pd1 rfl) rfl (by show 2 * 0 + _ ≤ _; exact Nat.le_of_eq rfl) (oG hby d10 7 rfl) (fun _ _ => ⟨rfl, e1, (by decide : 0 + 0 ≤ _), (by decide : 0 + 0 ≤ _)⟩)
 dsimp only [Pt.U, Pt.locs, Pt.cells, Pt.slots] at X2 l2 y2 z2 st2 hQ2
 subst l2 y2 z2
 obtain ⟨rfl, N2q, e2⟩ := hQ2
 have N2 := Fr.app N0 N2q
 obtain ⟨T3, h3, k3, X3, e3, E3, A3, B3, st3⟩ := newPE X2 hx hZ (oW hw 85 rfl) e2 (g := (mkF m 15 #[oA a0_, oI 0, oI 4, oI 4, oI 0, .unset, .unset, .unset, .unset] [(.int 4)])) rfl (oG hby d10 10 rfl) rfl (by decide) (cap := 4) (by decide) (by decide) (by decide) (by decide) (ad := "[I") rfl
 obtain ⟨b3, g3⟩ : ∃ z, z = h0.size := ⟨_, rfl⟩
 rw [← g3] at A3 B3 st3
 have lo_b3 : h0.size ≤ b3 := Nat.le_of_eq g3.symm
 have ne_a0__b3 : a0_ ≠ b3 := oV F_ringBits_a0_.lt lo_b3
 have sz_b3 : h0.size ≤ b3 := Nat.le_trans (Keep.refl h0 []).1 lo_b3
 have g_b3 : n0 ≤ b3 := Nat.le_trans Z0 sz_b3
 have K3 : Keep h0 h3 [] := (Keep.refl h0 []).ext E3
 have V3 : own_il Z h3 b3 (4 : Int32) ([0, 0, 0, 0] : List Int32) := own_il_new (m := 4) A3 (by decide)
 have f5_a0__ringBits := (F_ringBits_a0_.ext E3)
 have f6_a0_ := (E_a0_.ext E3)
 have f7_a0__lots := (F_lots_a0_.ext E3)
 obtain ⟨T4, L4, X4, N4, Kq4, Q4_0, st4⟩ := own_s10_25_ff_35 1 4 a0_ (0 : Int32) (4 : Int32) (4 : Int32) (0 : Int32) b3 (0 : Int32) (0 : Int32) (2 : Int32) (4 : Int32) (4 : Int32) ([0, 0, 0, 0] : List Int32) (1 : Int32) (1 : Int32) X3 hx hZ hw hby hml hown e3 N2 (Nat.le_trans Z0 K3.1) f5_a0__ringBits f6_a0_ f7_a0__lots V3 g_b3 (by decide +kernel) (by decide +kernel) (by decide +kernel) (by decide +kernel) (by decide +kernel) (by decide +kernel) (by decide +kernel) (by decide : 1 + (0) ≤ _) (by decide : 4 + (0) ≤ _)
 have K4 : Keep h0 T4.heap [] := K3.trans Kq4 (own_a1 (Or.inr sz_b3))
 have Q4_0' := own_il_eq Q4_0 (vs' := ([0, 0, 0, 0] : List Int32)) (by decide +kernel)
 have f9_a0__ringBits := (f5_a0__ringBits.keep Kq4 (own_n1 ne_a0__b3))
 have f10_a0_ := (f6_a0_.keep Kq4)
 have f11_a0__lots := (f7_a0__lots.keep Kq4 (own_n1 ne_a0__b3))
 have f12_b3 := (B3.keep Kq4)
 obtain ⟨T8, L8, X8, N8, Kq8, Q8_0, st8⟩ := own_s10_25_ff_37 1 4 a0_ (0 : Int32) (4 : Int32) (4 : Int32) (0 : Int32) b3 (1 : Int32) (1 : Int32) (own_us (own_r12_x_31 (((0 : Int32) + (0 : Int32)) &&& ((4 : Int32) - (1 : Int32)))) ((32 : Int32) - (2 : Int32))) (2 : Int32) (4 : Int32) (4 : Int32) ([0, 0, 0, 0] : List Int32) (2 : Int32) (2 : Int32) X4 hx hZ hw hby hml hown rfl N4 (Nat.le_trans Z0 K4.1) f9_a0__ringBits f10_a0_ f11_a0__lots Q4_0' g_b3 (by decide +kernel) (by decide +kernel) (by decide +kernel) (by decide +kernel) (by decide +kernel) (by decide +kernel) (by decide +kernel) (by decide : 1 + (0) ≤ _) (by decide : 4 + (0) ≤ _)
 have K8 : Keep h0 T8.heap [] := K4.trans Kq8 (own_a1 (Or.inr sz_b3))
 have Q8_0' := own_il_eq Q8_0 (vs' := ([0, 2, 0, 0] : List Int32)) (by decide +kernel)
 have f14_a0__ringBits := (f9_a0__ringBits.keep Kq8 (own_n1 ne_a0__b3))
 have f15_a0_ := (f10_a0_.keep Kq8)
 have f16_a0__lots := (f11_a0__lots.keep Kq8 (own_n1 ne_a0__b3))
 have f17_b3 := (f12_b3.keep Kq8)
 obtain ⟨T13, L13, X13, N13, Kq13, Q13_0, st13⟩ := own_s10_25_ff_37 1 4 a0_ (0 : Int32) (4 : Int32) (4 : Int32) (0 : Int32) b3 (2 : Int32) (2 : Int32) (own_us (own_r12_x_31 (((0 : Int32) + (1 : Int32)) &&& ((4 : Int32) - (1 : Int32)))) ((32 : Int32) - (2 : Int32))) (2 : Int32) (4 : Int32) (4 : Int32) ([0, 2, 0, 0] : List Int32) (3 : Int32) (3 : Int32) X8 hx hZ hw hby hml hown rfl N8 (Nat.le_trans Z0 K8.1) f14_a0__ringBits f15_a0_ f16_a0__lots Q8_0' g_b3 (by decide +kernel) (by decide +kernel) (by decide +kernel) (by decide +kernel) (by decide +kernel) (by decide +kernel) (by decide +kernel) (by decide : 1 + (0) ≤ _) (by decide : 4 + (0) ≤ _)
 have K13 : Keep h0 T13.heap [] := K8.trans Kq13 (own_a1 (Or.inr sz_b3))
 have Q13_0' := own_il_eq Q13_0 (vs' := ([0, 2, 1, 0] : List Int32)) (by decide +kernel)
 have f19_a0__ringBits := (f14_a0__ringBits.keep Kq13 (own_n1 ne_a0__b3))
 have f20_a0_ := (f15_a0_.keep Kq13)
 have f21_a0__lots := (f16_a0__lots.keep Kq13 (own_n1 ne_a0__b3))
 have f22_b3 := (f17_b3.keep Kq13)
 obtain ⟨T18, L18, X18, N18, Kq18, Q18_0, st18⟩ := own_s10_25_ff_37 1 4 a0_ (0 : Int32) (4 : Int32) (4 : Int32) (0 : Int32) b3 (3 : Int32) (3 : Int32) (own_us (own_r12_x_31 (((0 : Int32) + (2 : Int32)) &&& ((4 : Int32) - (1 : Int32)))) ((32 : Int32) - (2 : Int32))) (2 : Int32) (4 : Int32) (4 : Int32) ([0, 2, 1, 0] : List Int32) (4 : Int32) (4 : Int32) X13 hx hZ hw hby hml hown rfl N13 (Nat.le_trans Z0 K13.1) f19_a0__ringBits f20_a0_ f21_a0__lots Q13_0' g_b3 (by decide +kernel) (by decide +kernel) (by decide +kernel) (by decide +kernel) (by decide +kernel) (by decide +kernel) (by decide +kernel) (by decide : 1 + (0) ≤ _) (by decide : 4 + (0) ≤ _)
 have K18 : Keep h0 T18.heap [] := K13.trans Kq18 (own_a1 (Or.inr sz_b3))
 have Q18_0' := own_il_eq Q18_0 (vs' := ([0, 2, 1, 3] : List Int32)) (by decide +kernel)
 have f23_b3 := (f22_b3.keep Kq18)
 obtain ⟨fs, hr, hrun, hended, hW, hsame⟩ := X18.leave (v := some (.ref b3)) (fun h => by rw [Bd.returns] at h; cases h)
 refine ⟨_, _, castTop (own_ef20 m a0_ (0 : Int32) (4 : Int32)) ?_, hrun, hended, _, _, rfl, ?_, ⟨_, rfl⟩, hW, (hsame.mono (by decide) (by decide))⟩
 · show oZ p e below s₁ (mkF m 0 #[oA a0_, oI 0, oI 4, .unset, .unset, .unset, .unset, .unset, .unset] []) _
   refine XS.iconst X0.here hx rfl (oG hby d10 0 rfl) ?_
   refine XS.aloadN X0.here hx rfl (oG hby d10 1 rfl) rfl rfl ?_
   refine st1 _ ?_
   refine XS.ishl X1.here hx rfl (oG hby d10 3 rfl) rfl ?_
   show oZ p e below T1 (mkF m 6 #[oA a0_, oI 0, oI 4, .unset, .unset, .unset, .unset, .unset, .unset] [(.int ((1 : Int32) <<< ((2 : Int32) &&& 31)))]) _
   rw [(by decide +kernel : ((1 : Int32) <<< ((2 : Int32) &&& 31)) = (4 : Int32))]
   refine XS.istoreN X1.here hx rfl (oG hby d10 4 rfl) rfl (l' := #[oA a0_, oI 0, oI 4, oI 4, .unset, .unset, .unset, .unset, .unset]) rfl ?_
   refine XS.aloadN X1.here hx rfl (oG hby d10 5 rfl) rfl rfl ?_
   refine XS.iloadN X1.here hx rfl (oG hby d10 6 rfl) rfl ?_
   refine st2.trans ?_
   show oZ p e below T2 (mkF m 12 #[oA a0_, oI 0, oI 4, oI 4, .unset, .unset, .unset, .unset, .unset] [(.int (own_r11_x_33 (0 : Int32) (2 : Int32)))]) _
   rw [(by decide +kernel : (own_r11_x_33 (0 : Int32) (2 : Int32)) = (0 : Int32))]
   refine XS.istore X2.here hx rfl (oG hby d10 8 rfl) rfl (l' := #[oA a0_, oI 0, oI 4, oI 4, oI 0, .unset, .unset, .unset, .unset]) rfl ?_
   refine XS.iloadN X2.here hx rfl (oG hby d10 9 rfl) rfl ?_
   refine st3 _ ?_
   refine XS.astore X3.here hx rfl (oG hby d10 11 rfl) rfl rfl (l' := #[oA a0_, oI 0, oI 4, oI 4, oI 0, oA b3, .unset, .unset, .unset]) rfl ?_
   refine XS.iconst X3.here hx rfl (oG hby d10 12 rfl) ?_
   refine XS.istore X3.here hx rfl (oG hby d10 13 rfl) rfl (l' := #[oA a0_, oI 0, oI 4, oI 4, oI 0, oA b3, oI 0, .unset, .unset]) rfl ?_
   refine XS.iconst X3.here hx rfl (oG hby d10 14 rfl) ?_
   refine XS.istore X3.here hx rfl (oG hby d10 15 rfl) rfl (l' := #[oA a0_, oI 0, oI 4, oI 4, oI 0, oA b3, oI 0, oI 0, .unset]) rfl ?_
   refine st4 _ ?_
   refine st8 _ ?_
   show oZ p e below T8 (mkF m 25 #[oA a0_, oI 0, oI 4, oI 4, oI 0, oA b3, oI 2, oI 2, oI (own_us (own_r12_x_31 (((0 : Int32) + (1 : Int32)) &&& ((4 : Int32) - (1 : Int32)))) ((32 : Int32) - (2 : Int32)))] []) _
   refine st13 _ ?_
   refine st18 _ ?_
   refine XS.iload X18.here hx rfl (oG hby d10 16 rfl) rfl ?_
   refine XS.iloadN X18.here hx rfl (oG hby d10 17 rfl) rfl ?_
   refine XS.icmpYes X18.here hx rfl (pc0 := 28) (pc' := 71) rfl (oG hby d10 18 rfl) rfl (flt (by decide +kernel : ¬ ((4 : Int32) < (4 : Int32)))).2.1 (by decide) (by decide) ?_
   refine XS.aload X18.here hx rfl (oG hby d10 40 rfl) rfl rfl ?_
   show oZ p e below T18 (mkF m 73 #[oA a0_, oI 0, oI 4, oI 4, oI 0, oA b3, oI 4, oI 4, oI (own_us (own_r12_x_31 (((0 : Int32) + (3 : Int32)) &&& ((4 : Int32) - (1 : Int32)))) ((32 : Int32) - (2 : Int32)))] [(.ref b3)]) _
   jvm_step X18.here [X18.here.top, hx, (oG hby d10 41 rfl), X18.method', Bd.returns, Value.isRef, FieldType.isReference]
   first | (intro acts; rw [hr _ acts rfl rfl rfl]) | rw [hr _ _ rfl rfl rfl]
   exact Steps.refl _
 · show Qown_b10_r2l4t_0_4_40 Z a0_ h0 n0 _ T18.heap _
   exact ⟨b3, rfl, N18, K18, sz_b3, f23_b3, Q18_0'⟩
def own_rb (L : Nat) : Int32 := if L ≤ 2 then 1 else 2
def own_wl (L c : Nat) : List Int32 := (if L ≤ 2 then ([0, 1] : List Int32) else if L = 3 then [0, 2, 1] else [0, 2, 1, 3]).take c
def own_pairs (L c : Nat) : Prop := (L = 1 ∧ c = 1) ∨ (L = 2 ∧ c = 2) ∨ (L = 3 ∧ c = 3) ∨ (L = 4 ∧ c = 4)
def own_QW (Z : State) (L c : Nat) (h0 : Heap) (n0 : Nat) (v : Option Value) (h : Heap) (Lc : List Loc) : Prop := ∃ r : Addr, v = some (.ref r) ∧ Fr n0 Lc ∧ Keep h0 h [] ∧ h0.size ≤ r ∧ own_il Z h r (Int32.ofNat c) (own_wl L c)
theorem own_woC (l : Launch) (Z : State) (a0 : Array Value) (hw : oH a0 Z) (ws : List Jvm.Cond) (o0 : Addr) (p2 : Int32) (L c : Nat) (f1 f2 : Int32) (h0 : Heap) (n0 : Nat) (Z0 : n0 ≤ h0.size) (F1 : Fld Z h0 o0 oC0 "lots" "I" (.int f1)) (F2 : Fld Z h0 o0 oC0 "ringBits" "I" (.int f2)) (EX : Exa Z h0 o0 oC0) (e1 : f1 = Int32.ofNat L) (e2 : f2 = own_rb L) (e3 : p2 = Int32.ofNat c) (hp : own_pairs L c) :
   oMet l oM5 prog_29_method_13_code 9 (some (.array .int)) ws (oR 5 1 4 100) Z h0 #[(.ref o0), (.int 0), (.int p2)] (own_QW Z L c h0 n0) := by
 subst e1 e2 e3
 rcases hp with ⟨rfl, rfl⟩ | ⟨rfl, rfl⟩ | ⟨rfl, rfl⟩ | ⟨rfl, rfl⟩
 · exact own_mono (own_b10_r1l1t_0_1_36 l Z a0 hw ws o0  h0 n0 Z0 F2 EX F1) fun v h Lc ⟨r, a1, a2, a3, a4, b0, b1⟩ => ⟨r, a1, a2, a3, a4, own_il_eq (n := Int32.ofNat 1) b1 (by decide +kernel)⟩
 · exact own_mono (own_b10_r1l2t_0_2_38 l Z a0 hw ws o0  h0 n0 Z0 F2 EX F1) fun v h Lc ⟨r, a1, a2, a3, a4, b0, b1⟩ => ⟨r, a1, a2, a3, a4, own_il_eq (n := Int32.ofNat 2) b1 (by decide +kernel)⟩
 · exact own_mono (own_b10_r2l3t_0_3_39 l Z a0 hw ws o0  h0 n0 Z0 F2 EX F1) fun v h Lc ⟨r, a1, a2, a3, a4, b0, b1⟩ => ⟨r, a1, a2, a3, a4, own_il_eq (n := Int32.ofNat 3) b1 (by decide +kernel)⟩
 · exact own_mono (own_b10_r2l4t_0_4_40 l Z a0 hw ws o0  h0 n0 Z0 F2 EX F1) fun v h Lc ⟨r, a1, a2, a3, a4, b0, b1⟩ => ⟨r, a1, a2, a3, a4, own_il_eq (n := Int32.ofNat 4) b1 (by decide +kernel)⟩
def Qown_b19_x_41 (Z : State) (a0_ : Addr) (p1_ : Int32) (u_words_a0_ : Value) (u_wordsInUse_a0_ : Value) (u_sizeIsSticky_a0_ : Value) (h0 : Heap) (n0 : Nat) (v : Option Value) (h : Heap) (L : List Loc) : Prop := ∃ b2 : Addr, v = none ∧ Fr n0 L ∧ Keep h0 h [a0_] ∧ h0.size ≤ b2 ∧ Exa Z h a0_ oC2 ∧ Fld Z h a0_ oC2 "words" "[J" (.ref b2) ∧ Fld Z h a0_ oC2 "wordsInUse" "I" u_wordsInUse_a0_ ∧ Fld Z h a0_ oC2 "sizeIsSticky" "Z" u_sizeIsSticky_a0_ ∧ Exa Z h b2 "[J" ∧ own_jl Z h b2 (1 : Int32) ([0] : List Int64)
theorem own_b19_x_41 (l : Launch) (Z : State) (a0 : Array Value) (hw : oH a0 Z) (ws : List Jvm.Cond) (a0_ : Addr) (p1_ : Int32) (u_words_a0_ : Value) (u_wordsInUse_a0_ : Value) (u_sizeIsSticky_a0_ : Value) (h0 : Heap) (n0 : Nat) (Z0 : n0 ≤ h0.size) (E_a0_ : Exa Z h0 a0_ oC2) (F_words_a0_ : Fld Z h0 a0_ oC2 "words" "[J" u_words_a0_) (g_a0_ : n0 ≤ a0_) (F_wordsInUse_a0_ : Fld Z h0 a0_ oC2 "wordsInUse" "I" u_wordsInUse_a0_) (F_sizeIsSticky_a0_ : Fld Z h0 a0_ oC2 "sizeIsSticky" "Z" u_sizeIsSticky_a0_) (hf0 : (((p1_ - (1 : Int32)) >>> ((6 : Int32) &&& 31)) + (1 : Int32)) = (1 : Int32)) :
   oMet l oM38 jdk_92_method_6_code 2 none ws (oR 1 1 1 13) Z h0 #[(.ref a0_), (.int p1_)] (Qown_b19_x_41 Z a0_ p1_ u_words_a0_ u_wordsInUse_a0_ u_sizeIsSticky_a0_ h0 n0) := by
 refine oBd n0 (plainFor_of_name own_pn1) ?_
 intro p e s m below meth c s₁ Bd hx hZ hby hml hown hnm X0 e0 N0
 obtain ⟨_, _, ⟨T1, L1, k1, n1⟩, -, X1, ⟨Lc1, hQ1, l1, y1, z1⟩, st1⟩ := Jvm.LawKit.callS X0 hx (y := oM11) hown (mvT hZ (oW hw 122 rfl)) (mvT hZ (oW hw 123 rfl)) (mvT hZ (oW hw 108 rfl)) (mvT hZ (oW hw 124 rfl)) (by decide) (backOf (W := 1) (own_b20_x l Z a0 hw [] (p1_ - (1 : Int32)) h0 n0 Z0 ) hZ (oW hw 124 rfl) (oW hw 108 rfl) (by decide) (by decide)) (g := (mkF m 4 #[oA a0_, oI p1_] [(.int (p1_ - (1 : Int32))), (.ref a0_)])) rfl (by rw [hml]; rfl) (argsL := [(.int (p1_ - (1 : Int32)))]) (rest := [(.ref a0_)]) (lenOf own_pd1 rfl) rfl (by show 2 * 0 + _ ≤ _; exact Nat.le_of_eq rfl) (oG hby d19 4 rfl) (fun _ _ => ⟨rfl, e0, (by decide : 0 + 0 ≤ _), (by decide : 0 + 0 ≤ _)⟩)
 dsimp only [Pt.U, Pt.locs, Pt.cells, Pt.slots] at X1 l1 y1 z1 st1 hQ1
 subst l1 y1 z1
 obtain ⟨rfl, N1q, e1⟩ := hQ1
 have N1 := Fr.app N0 N1q
 obtain ⟨T2, h2, k2, X2, e2, E2, A2, B2, st2⟩ := newPE X1 hx hZ (oW hw 125 rfl) e1 (g := (mkF m 9 #[oA a0_, oI p1_] [(.int 1), (.ref a0_)])) rfl (oG hby d19 7 rfl) rfl (by decide) (cap := 1) (by decide) (by decide) (by decide) (by decide) (ad := "[J") rfl
 obtain ⟨b2, g2⟩ : ∃ z, z = h0.size := ⟨_, rfl⟩
 rw [← g2] at A2 B2 st2
 have lo_b2 : h0.size ≤ b2 := Nat.le_of_eq g2.symm
 have sz_b2 : h0.size ≤ b2 := Nat.le_trans (Keep.refl h0 [a0_]).1 lo_b2
 have g_b2 : n0 ≤ b2 := Nat.le_trans Z0 sz_b2
 have K2 : Keep h0 h2 [a0_] := (Keep.refl h0 [a0_]).ext E2
 have V2 : own_jl Z h2 b2 (1 : Int32) ([0] : List Int64) := own_jl_new (m := 1) A2 (by decide)
 have f3_a0_ := (E_a0_.ext E2)
 have f4_a0__words := (F_words_a0_.ext E2)
 obtain ⟨T5, h5, X5, e5, W5, st5⟩ := putF X2 hx hZ hown (host := "") (Or.inl (oW hw 126 rfl)) Via.refl e2 f4_a0__words f3_a0_ (Or.inl (oW hw 127 rfl)) (oW hw 107 rfl) (ty := (.array .long)) (by decide) rfl rfl (g := (mkF m 11 #[oA a0_, oI p1_] [(.ref b2), (.ref a0_)])) rfl rfl (oG hby d19 8 rfl)
 have Fw5 := f4_a0__words.same W5
 have K5 : Keep h0 h5 [a0_] := K2.wr W5 (Or.inl (oX 0 rfl))
 have N5 := Fr.snoc X5 N1 g_a0_
 have f6_a0__wordsInUse := ((F_wordsInUse_a0_.ext E2).other W5 (oN (Or.inl (oW hw 114 rfl)) (Or.inl (oW hw 127 rfl)) (t := .int) (t' := (.array .long))))
 have f7_a0__sizeIsSticky := ((F_sizeIsSticky_a0_.ext E2).other W5 (oN (Or.inl (oW hw 116 rfl)) (Or.inl (oW hw 127 rfl)) (t := .boolean) (t' := (.array .long))))
 have f8_a0_ := (f3_a0_.wr W5)
 have f9_b2 := (B2.wr W5)
 have f10_b2 := (V2.other W5 (Ne.symm (oV E_a0_.lt sz_b2)))
 obtain ⟨fs, hr, hrun, hended, hW, hsame⟩ := X5.leave (v := none) (fun _ => rfl)
 refine ⟨_, _, castTop (own_ef21 m a0_ p1_) ?_, hrun, hended, _, _, rfl, ?_, ⟨_, rfl⟩, hW, (hsame.mono (by decide) (by decide))⟩
 · show oZ p e below s₁ (mkF m 0 #[oA a0_, oI p1_] []) _
   refine XS.aloadN X0.here hx rfl (oG hby d19 0 rfl) rfl rfl ?_
   refine XS.iloadN X0.here hx rfl (oG hby d19 1 rfl) rfl ?_
   refine XS.iconst X0.here hx rfl (oG hby d19 2 rfl) ?_
   refine XS.isub X0.here hx rfl (oG hby d19 3 rfl) rfl ?_
   refine st1 _ ?_
   refine XS.iconst X1.here hx rfl (oG hby d19 5 rfl) ?_
   refine XS.iadd X1.here hx rfl (oG hby d19 6 rfl) rfl ?_
   show oZ p e below T1 (mkF m 9 #[oA a0_, oI p1_] [(.int (((p1_ - (1 : Int32)) >>> ((6 : Int32) &&& 31)) + (1 : Int32))), (.ref a0_)]) _
   rw [hf0]
   refine st2 _ ?_
   refine st5 _ ?_
   show oZ p e below T5 (mkF m 14 #[oA a0_, oI p1_] []) _
   exact X5.returnOut hx Bd.returns (oG hby d19 9 rfl) hr
 · show Qown_b19_x_41 Z a0_ p1_ u_words_a0_ u_wordsInUse_a0_ u_sizeIsSticky_a0_ h0 n0 _ T5.heap _
   rw [e5]
   exact ⟨b2, rfl, N5, K5, sz_b2, f8_a0_, Fw5, f6_a0__wordsInUse, f7_a0__sizeIsSticky, f9_b2, f10_b2⟩
def Qown_b18_t_42 (Z : State) (a0_ : Addr) (p1_ : Int32) (u_wordsInUse_a0_ : Value) (u_sizeIsSticky_a0_ : Value) (u_words_a0_ : Value) (h0 : Heap) (n0 : Nat) (v : Option Value) (h : Heap) (L : List Loc) : Prop := ∃ r6_b2 : Addr, v = none ∧ Fr n0 L ∧ Keep h0 h [a0_] ∧ h0.size ≤ r6_b2 ∧ Exa Z h a0_ oC2 ∧ Fld Z h a0_ oC2 "words" "[J" (.ref r6_b2) ∧ Fld Z h a0_ oC2 "wordsInUse" "I" (.int 0) ∧ Fld Z h a0_ oC2 "sizeIsSticky" "Z" (.int 1) ∧ Exa Z h r6_b2 "[J" ∧ own_jl Z h r6_b2 (1 : Int32) ([0] : List Int64)
theorem own_b18_t_42 (l : Launch) (Z : State) (a0 : Array Value) (hw : oH a0 Z) (ws : List Jvm.Cond) (a0_ : Addr) (p1_ : Int32) (u_wordsInUse_a0_ : Value) (u_sizeIsSticky_a0_ : Value) (u_words_a0_ : Value) (h0 : Heap) (n0 : Nat) (Z0 : n0 ≤ h0.size) (E_a0_ : Exa Z h0 a0_ oC2) (F_wordsInUse_a0_ : Fld Z h0 a0_ oC2 "wordsInUse" "I" u_wordsInUse_a0_) (g_a0_ : n0 ≤ a0_) (F_sizeIsSticky_a0_ : Fld Z h0 a0_ oC2 "sizeIsSticky" "Z" u_sizeIsSticky_a0_) (F_words_a0_ : Fld Z h0 a0_ oC2 "words" "[J" u_words_a0_) (hf0 : ¬ (p1_ < (0 : Int32))) (hf1 : (((p1_ - (1 : Int32)) >>> ((6 : Int32) &&& 31)) + (1 : Int32)) = (1 : Int32)) :
   oMet l oM39 jdk_92_method_5_code 2 none ws (oR 2 1 1 26) Z h0 #[(.ref a0_), (.int p1_)] (Qown_b18_t_42 Z a0_ p1_ u_wordsInUse_a0_ u_sizeIsSticky_a0_ u_words_a0_ h0 n0) := by
 refine oBd n0 (plainFor_of_name own_pn1) ?_
 intro p e s m below meth c s₁ Bd hx hZ hby hml hown hnm X0 e0 N0
 obtain ⟨T1, X1, e1, st1⟩ := initO X0 hx hZ hown (oW hw 112 rfl) (oW hw 12 rfl) (oW hw 13 rfl) e0 (g := (mkF m 1 #[oA a0_, oI p1_] [(.ref a0_)])) rfl (by rw [hml]; rfl) rfl (oG hby d18 1 rfl) (by decide) (W := 0) (by show 2 * 0 + _ ≤ _; exact Nat.le_of_eq rfl) (by decide)
 obtain ⟨T2, h2, X2, e2, W2, st2⟩ := putF X1 hx hZ hown (host := "") (Or.inl (oW hw 113 rfl)) Via.refl e1 F_wordsInUse_a0_ E_a0_ (Or.inl (oW hw 114 rfl)) (oW hw 107 rfl) (ty := .int) (by decide) rfl rfl (g := (mkF m 6 #[oA a0_, oI p1_] [(.int 0), (.ref a0_)])) rfl rfl (oG hby d18 4 rfl)
 have Fw2 := F_wordsInUse_a0_.same W2
 have K2 : Keep h0 h2 [a0_] := (Keep.refl h0 [a0_]).wr W2 (Or.inl (oX 0 rfl))
 have N2 := Fr.snoc X2 N0 g_a0_
 have f3_a0_ := (E_a0_.wr W2)
 have f4_a0__sizeIsSticky := (F_sizeIsSticky_a0_.other W2 (oN (Or.inl (oW hw 116 rfl)) (Or.inl (oW hw 114 rfl)) (t := .boolean) (t' := .int)))
 obtain ⟨T5, h5, X5, e5, W5, st5⟩ := putFN X2 hx hZ hown (oW hw 115 rfl) Via.refl e2 f4_a0__sizeIsSticky f3_a0_ (Or.inl (oW hw 116 rfl)) (oW hw 107 rfl) (ty := .boolean) (v' := (.int 0)) (by decide) rfl rfl (g := (mkF m 11 #[oA a0_, oI p1_] [(.int 0), (.ref a0_)])) rfl rfl (oG hby d18 7 rfl)
 have Fw5 := f4_a0__sizeIsSticky.same W5
 have K5 : Keep h0 h5 [a0_] := K2.wr W5 (Or.inl (oX 0 rfl))
 have N5 := Fr.snoc X5 N2 g_a0_
 have f7_a0_ := (f3_a0_.wr W5)
 have f8_a0__words := ((F_words_a0_.other W2 (oN (Or.inl (oW hw 127 rfl)) (Or.inl (oW hw 114 rfl)) (t := (.array .long)) (t' := .int))).other W5 (oN (Or.inl (oW hw 127 rfl)) (Or.inl (oW hw 116 rfl)) (t := (.array .long)) (t' := .boolean)))
 have f9_a0__wordsInUse := (Fw2.other W5 (oN (Or.inl (oW hw 114 rfl)) (Or.inl (oW hw 116 rfl)) (t := .int) (t' := .boolean)))
 obtain ⟨cq6, q6, q6'⟩ := f7_a0_.cell
 obtain ⟨_, _, ⟨T6, L6, k6, n6⟩, -, X6, ⟨Lc6, hQ6, l6, y6, z6⟩, st6⟩ := X5.privateBack hx (y := oM38) hown (mvT hZ (oW hw 117 rfl)) (mvT hZ (oW hw 118 rfl)) (own_selp (mvT hZ (oW hw 107 rfl)) (mvP hZ (oW hw 119 rfl) (args := #[])) (mvT hZ (oW hw 118 rfl)) (by decide)) (Cond.privateMethod_at (mvP hZ (oW hw 119 rfl) (args := #[]))) (mvT hZ (oW hw 121 rfl)) (by decide) (backOf (W := 0) (own_b19_x_41 l Z a0 hw [] a0_ p1_ u_words_a0_ (.int 0) (.int 0) h5 n0 (Nat.le_trans Z0 K5.1) f7_a0_ f8_a0__words g_a0_ f9_a0__wordsInUse Fw5 hf1) hZ (oW hw 121 rfl) (oW hw 108 rfl) (by decide) (by decide)) (g := (mkF m 47 #[oA a0_, oI p1_] [(.int p1_), (.ref a0_)])) rfl (by rw [hml]; rfl) (Steps.refl _) (a := a0_) (by rw [e5]; exact q6) q6' (argsL := [(.int p1_)]) (rest := []) (lenOf own_pd3 rfl) rfl (by show 2 * 0 + _ ≤ _; exact Nat.le_of_eq rfl) (oG hby d18 12 rfl) (fun _ _ => ⟨rfl, e5, (by decide : 0 + 1 ≤ _), (by decide : 0 + 1 ≤ _)⟩)
 dsimp only [Pt.U, Pt.locs, Pt.cells, Pt.slots] at X6 l6 y6 z6 st6 hQ6
 subst l6 y6 z6
 obtain ⟨r6_b2, rfl, N6q, Kq6, lo_r6_b2, Q6_0, Q6_1, Q6_2, Q6_3, Q6_4, Q6_5⟩ := hQ6
 have N6 := Fr.app N5 N6q
 have ne_a0__r6_b2 : a0_ ≠ r6_b2 := oV f7_a0_.lt lo_r6_b2
 have sz_r6_b2 : h0.size ≤ r6_b2 := Nat.le_trans K5.1 lo_r6_b2
 have g_r6_b2 : n0 ≤ r6_b2 := Nat.le_trans Z0 sz_r6_b2
 have K6 : Keep h0 T6.heap [a0_] := K5.trans Kq6 (own_a1 (Or.inl (oX 0 rfl)))
 obtain ⟨T10, h10, X10, e10, W10, st10⟩ := putFN X6 hx hZ hown (oW hw 115 rfl) Via.refl rfl Q6_3 Q6_0 (Or.inl (oW hw 116 rfl)) (oW hw 107 rfl) (ty := .boolean) (v' := (.int 1)) (by decide) rfl rfl (g := (mkF m 52 #[oA a0_, oI p1_] [(.int 1), (.ref a0_)])) rfl rfl (oG hby d18 15 rfl)
 have Fw10 := Q6_3.same W10
 have K10 : Keep h0 h10 [a0_] := K6.wr W10 (Or.inl (oX 0 rfl))
 have N10 := Fr.snoc X10 N6 g_a0_
 have f11_a0_ := (Q6_0.wr W10)
 have f12_a0__words := (Q6_1.other W10 (oN (Or.inl (oW hw 127 rfl)) (Or.inl (oW hw 116 rfl)) (t := (.array .long)) (t' := .boolean)))
 have f13_a0__wordsInUse := (Q6_2.other W10 (oN (Or.inl (oW hw 114 rfl)) (Or.inl (oW hw 116 rfl)) (t := .int) (t' := .boolean)))
 have f14_r6_b2 := (Q6_4.wr W10)
 have f15_r6_b2 := (Q6_5.other W10 (Ne.symm ne_a0__r6_b2))
 obtain ⟨fs, hr, hrun, hended, hW, hsame⟩ := X10.leave (v := none) (fun _ => rfl)
 refine ⟨_, _, castTop (own_ef22 m a0_ p1_) ?_, hrun, hended, _, _, rfl, ?_, ⟨_, rfl⟩, hW, (hsame.mono (by decide) (by decide))⟩
 · show oZ p e below s₁ (mkF m 0 #[oA a0_, oI p1_] []) _
   refine XS.aloadN X0.here hx rfl (oG hby d18 0 rfl) rfl rfl ?_
   refine st1 _ ?_
   refine XS.aloadN X1.here hx rfl (oG hby d18 2 rfl) rfl rfl ?_
   refine XS.iconst X1.here hx rfl (oG hby d18 3 rfl) ?_
   refine st2 _ ?_
   refine XS.aloadN X2.here hx rfl (oG hby d18 5 rfl) rfl rfl ?_
   refine XS.iconst X2.here hx rfl (oG hby d18 6 rfl) ?_
   refine st5 _ ?_
   refine XS.iloadN X5.here hx rfl (oG hby d18 8 rfl) rfl ?_
   refine XS.ifYes X5.here hx rfl (pc0 := 15) (pc' := 45) rfl (oG hby d18 9 rfl) rfl ((if0 _ _).trans (flt hf0).2.1) (by decide) (by decide) ?_
   refine XS.aloadN X5.here hx rfl (oG hby d18 10 rfl) rfl rfl ?_
   show oZ p e below T5 (mkF m 46 #[oA a0_, oI p1_] [(.ref a0_)]) _
   refine XS.iloadN X5.here hx rfl (oG hby d18 11 rfl) rfl ?_
   refine st6.trans ?_
   refine XS.aloadN X6.here hx rfl (oG hby d18 13 rfl) rfl rfl ?_
   refine XS.iconst X6.here hx rfl (oG hby d18 14 rfl) ?_
   refine st10 _ ?_
   show oZ p e below T10 (mkF m 55 #[oA a0_, oI p1_] []) _
   exact X10.returnOut hx Bd.returns (oG hby d18 16 rfl) hr
 · show Qown_b18_t_42 Z a0_ p1_ u_wordsInUse_a0_ u_sizeIsSticky_a0_ u_words_a0_ h0 n0 _ T10.heap _
   rw [e10]
   exact ⟨r6_b2, rfl, N10, K10, sz_r6_b2, f11_a0_, f12_a0__words, f13_a0__wordsInUse, Fw10, f14_r6_b2, f15_r6_b2⟩
def Qown_b17_x_43 (Z : State) (a0_ : Addr) (q1_ : Int64) (p2_ : Int32) (p3_ : Int32) (u_toSkip_a0_ : Value) (u_chosen_a0_ : Value) (u_has_a0_ : Value) (u_taken_a0_ : Value) (h0 : Heap) (n0 : Nat) (v : Option Value) (h : Heap) (L : List Loc) : Prop := ∃ b3 : Addr, ∃ b8 : Addr, ∃ r11_r6_b2 : Addr, v = none ∧ Fr n0 L ∧ Keep h0 h [a0_] ∧ h0.size ≤ b3 ∧ h0.size ≤ b8 ∧ h0.size ≤ r11_r6_b2 ∧ b3 ≠ b8 ∧ b3 ≠ r11_r6_b2 ∧ b8 ≠ r11_r6_b2 ∧ Exa Z h a0_ oC1 ∧ Fld Z h a0_ oC1 "toSkip" "J" (.long q1_) ∧ Fld Z h a0_ oC1 "chosen" "[I" (.ref b3) ∧ Fld Z h a0_ oC1 "has" "Ljava/util/BitSet;" (.ref b8) ∧ Fld Z h a0_ oC1 "taken" "I" u_taken_a0_ ∧ Exa Z h b3 "[I" ∧ own_ia Z h b3 p2_ ∧ Exa Z h b8 oC2 ∧ Fld Z h b8 oC2 "words" "[J" (.ref r11_r6_b2) ∧ Fld Z h b8 oC2 "wordsInUse" "I" (.int 0) ∧ Fld Z h b8 oC2 "sizeIsSticky" "Z" (.int 1) ∧ Exa Z h r11_r6_b2 "[J" ∧ own_jl Z h r11_r6_b2 (1 : Int32) ([0] : List Int64)
theorem own_b17_x_43 (l : Launch) (Z : State) (a0 : Array Value) (hw : oH a0 Z) (ws : List Jvm.Cond) (a0_ : Addr) (q1_ : Int64) (p2_ : Int32) (p3_ : Int32) (u_toSkip_a0_ : Value) (u_chosen_a0_ : Value) (u_has_a0_ : Value) (u_taken_a0_ : Value) (h0 : Heap) (n0 : Nat) (Z0 : n0 ≤ h0.size) (E_a0_ : Exa Z h0 a0_ oC1) (F_toSkip_a0_ : Fld Z h0 a0_ oC1 "toSkip" "J" u_toSkip_a0_) (g_a0_ : n0 ≤ a0_) (F_chosen_a0_ : Fld Z h0 a0_ oC1 "chosen" "[I" u_chosen_a0_) (F_has_a0_ : Fld Z h0 a0_ oC1 "has" "Ljava/util/BitSet;" u_has_a0_) (F_taken_a0_ : Fld Z h0 a0_ oC1 "taken" "I" u_taken_a0_) (hf0 : ¬ (p2_ < 0)) (hf1 : p2_.toNatClampNeg ≤ 32) (hf2 : ¬ (p3_ < (0 : Int32))) (hf3 : (((p3_ - (1 : Int32)) >>> ((6 : Int32) &&& 31)) + (1 : Int32)) = (1 : Int32)) :
   oMet l oM25 prog_30_method_1_code 5 none ws (oR 3 3 36 41) Z h0 #[(.ref a0_), (.long q1_), (.int p2_), (.int p3_)] (Qown_b17_x_43 Z a0_ q1_ p2_ p3_ u_toSkip_a0_ u_chosen_a0_ u_has_a0_ u_taken_a0_ h0 n0) := by
 refine oBd n0 (plainFor_of_name own_pn0) ?_
 intro p e s m below meth c s₁ Bd hx hZ hby hml hown hnm X0 e0 N0
 obtain ⟨T1, X1, e1, st1⟩ := initO X0 hx hZ hown (oW hw 101 rfl) (oW hw 12 rfl) (oW hw 13 rfl) e0 (g := (mkF m 1 #[oA a0_, oJ q1_, .second, oI p2_, oI p3_] [(.ref a0_)])) rfl (by rw [hml]; rfl) rfl (oG hby d17 1 rfl) (by decide) (W := 0) (by show 2 * 0 + _ ≤ _; exact Nat.le_of_eq rfl) (by decide)
 obtain ⟨T2, h2, X2, e2, W2, st2⟩ := putF X1 hx hZ hown (host := "") (Or.inl (oW hw 102 rfl)) Via.refl e1 F_toSkip_a0_ E_a0_ (Or.inl (oW hw 103 rfl)) (oW hw 96 rfl) (ty := .long) (by decide) rfl rfl (g := (mkF m 6 #[oA a0_, oJ q1_, .second, oI p2_, oI p3_] [(.long q1_), (.ref a0_)])) rfl rfl (oG hby d17 4 rfl)
 have Fw2 := F_toSkip_a0_.same W2
 have K2 : Keep h0 h2 [a0_] := (Keep.refl h0 [a0_]).wr W2 (Or.inl (oX 0 rfl))
 have N2 := Fr.snoc X2 N0 g_a0_
 obtain ⟨T3, h3, k3, X3, e3, E3, A3, B3, st3⟩ := newPE X2 hx hZ (oW hw 85 rfl) e2 (g := (mkF m 11 #[oA a0_, oJ q1_, .second, oI p2_, oI p3_] [(.int p2_), (.ref a0_)])) rfl (oG hby d17 7 rfl) rfl hf0 (cap := 32) hf1 (by decide) (by decide) (by decide) (ad := "[I") rfl
 obtain ⟨b3, g3⟩ : ∃ z, z = h2.size := ⟨_, rfl⟩
 rw [← g3] at A3 B3 st3
 have lo_b3 : h2.size ≤ b3 := Nat.le_of_eq g3.symm
 have f4_a0_ := (E_a0_.wr W2)
 have ne_a0__b3 : a0_ ≠ b3 := oV f4_a0_.lt lo_b3
 have sz_b3 : h0.size ≤ b3 := Nat.le_trans K2.1 lo_b3
 have g_b3 : n0 ≤ b3 := Nat.le_trans Z0 sz_b3
 have K3 : Keep h0 h3 [a0_] := K2.ext E3
 have V3 := (own_il_new (m := 0) A3 hf0).ia
 have f5_a0_ := (f4_a0_.ext E3)
 have f6_a0__chosen := ((F_chosen_a0_.other W2 (oN (Or.inr (oW hw 105 rfl)) (Or.inl (oW hw 103 rfl)) (t := (.array .int)) (t' := .long))).ext E3)
 obtain ⟨T7, h7, X7, e7, W7, st7⟩ := putF X3 hx hZ hown (host := "") (Or.inl (oW hw 104 rfl)) Via.refl e3 f6_a0__chosen f5_a0_ (Or.inr ⟨(oW hw 105 rfl), rfl, hnm⟩) (oW hw 96 rfl) (ty := (.array .int)) (by decide) rfl rfl (g := (mkF m 13 #[oA a0_, oJ q1_, .second, oI p2_, oI p3_] [(.ref b3), (.ref a0_)])) rfl rfl (oG hby d17 8 rfl)
 have Fw7 := f6_a0__chosen.same W7
 have K7 : Keep h0 h7 [a0_] := K3.wr W7 (Or.inl (oX 0 rfl))
 have N7 := Fr.snoc X7 N2 g_a0_
 obtain ⟨T8, h8, X8, e8, E8, A8, D8, -, st8⟩ := newO X7 hx hZ hown (oW hw 106 rfl) (oW hw 107 rfl) (oW hw 108 rfl) e7 (g := (mkF m 17 #[oA a0_, oJ q1_, .second, oI p2_, oI p3_] [(.ref a0_)])) rfl (oG hby d17 10 rfl) (by decide) (by decide)
 obtain ⟨b8, g8⟩ : ∃ z, z = h7.size := ⟨_, rfl⟩
 rw [← g8] at A8 D8 st8
 have lo_b8 : h7.size ≤ b8 := Nat.le_of_eq g8.symm
 have f9_a0_ := (f5_a0_.wr W7)
 have ne_a0__b8 : a0_ ≠ b8 := oV f9_a0_.lt lo_b8
 have f10_b3 := (B3.wr W7)
 have ne_b3_b8 : b3 ≠ b8 := oV f10_b3.lt lo_b8
 have sz_b8 : h0.size ≤ b8 := Nat.le_trans K7.1 lo_b8
 have g_b8 : n0 ≤ b8 := Nat.le_trans Z0 sz_b8
 have K8 : Keep h0 h8 [a0_] := K7.ext E8
 have F8_wordsInUse : Fld Z h8 b8 oC2 "wordsInUse" "I" (.int 0) := D8 (Or.inl (oW hw 114 rfl)) (ty := .int) (by decide)
 have F8_sizeIsSticky : Fld Z h8 b8 oC2 "sizeIsSticky" "Z" (.int 0) := D8 (Or.inl (oW hw 116 rfl)) (ty := .boolean) (by decide)
 have F8_words : Fld Z h8 b8 oC2 "words" "[J" .null := D8 (Or.inl (oW hw 127 rfl)) (ty := (.array .long)) (by decide)
 obtain ⟨_, _, ⟨T11, L11, k11, n11⟩, -, X11, ⟨Lc11, hQ11, l11, y11, z11⟩, st11⟩ := X8.specialBack hx (y := oM39) rfl hown (mvT hZ (oW hw 109 rfl)) (mvT hZ (oW hw 110 rfl)) (mvT hZ (oW hw 111 rfl)) (by decide) (backOf (W := 2) (own_b18_t_42 l Z a0 hw [] b8 p3_ (.int 0) (.int 0) .null h8 n0 (Nat.le_trans Z0 K8.1) A8 F8_wordsInUse g_b8 F8_sizeIsSticky F8_words hf2 hf3) hZ (oW hw 111 rfl) (oW hw 108 rfl) (by decide) (by decide)) (g := (mkF m 23 #[oA a0_, oJ q1_, .second, oI p2_, oI p3_] [(.int p3_), (.ref b8), (.ref b8), (.ref a0_)])) rfl (by rw [hml]; rfl) (Steps.refl _) (a := b8) (argsL := [(.int p3_)]) (rest := [(.ref b8), (.ref a0_)]) (lenOf own_pd3 rfl) rfl (by show 2 * 0 + _ ≤ _; exact Nat.le_of_eq rfl) (oG hby d17 13 rfl) (fun _ _ => ⟨rfl, e8, (by decide : 2 + 1 ≤ _), (by decide : 35 + 1 ≤ _)⟩)
 dsimp only [Pt.U, Pt.locs, Pt.cells, Pt.slots] at X11 l11 y11 z11 st11 hQ11
 subst l11 y11 z11
 obtain ⟨r11_r6_b2, rfl, N11q, Kq11, lo_r11_r6_b2, Q11_0, Q11_1, Q11_2, Q11_3, Q11_4, Q11_5⟩ := hQ11
 have N11 := Fr.app N7 N11q
 have f12_a0_ := (f9_a0_.ext E8)
 have ne_a0__r11_r6_b2 : a0_ ≠ r11_r6_b2 := oV f12_a0_.lt lo_r11_r6_b2
 have f13_b3 := (f10_b3.ext E8)
 have ne_b3_r11_r6_b2 : b3 ≠ r11_r6_b2 := oV f13_b3.lt lo_r11_r6_b2
 have ne_b8_r11_r6_b2 : b8 ≠ r11_r6_b2 := oV A8.lt lo_r11_r6_b2
 have sz_r11_r6_b2 : h0.size ≤ r11_r6_b2 := Nat.le_trans K8.1 lo_r11_r6_b2
 have g_r11_r6_b2 : n0 ≤ r11_r6_b2 := Nat.le_trans Z0 sz_r11_r6_b2
 have K11 : Keep h0 T11.heap [a0_] := K8.trans Kq11 (own_a1 (Or.inr sz_b8))
 have f14_a0_ := (f12_a0_.keep Kq11)
 have f15_a0__has := (((((F_has_a0_.other W2 (oN (Or.inr (oW hw 129 rfl)) (Or.inl (oW hw 103 rfl)) (t := (.object oC2)) (t' := .long))).ext E3).other W7 (oN (Or.inr (oW hw 129 rfl)) (Or.inr (oW hw 105 rfl)) (t := (.object oC2)) (t' := (.array .int)))).ext E8).keep Kq11 (own_n1 ne_a0__b8))
 obtain ⟨T16, h16, X16, e16, W16, st16⟩ := putF X11 hx hZ hown (host := "") (Or.inl (oW hw 128 rfl)) Via.refl rfl f15_a0__has f14_a0_ (Or.inr ⟨(oW hw 129 rfl), rfl, hnm⟩) (oW hw 96 rfl) (ty := (.object oC2)) (by decide) rfl rfl (g := (mkF m 26 #[oA a0_, oJ q1_, .second, oI p2_, oI p3_] [(.ref b8), (.ref a0_)])) rfl rfl (oG hby d17 14 rfl)
 have Fw16 := f15_a0__has.same W16
 have K16 : Keep h0 h16 [a0_] := K11.wr W16 (Or.inl (oX 0 rfl))
 have N16 := Fr.snoc X16 N11 g_a0_
 have f17_a0__taken := ((((((F_taken_a0_.other W2 (oN (Or.inl (oW hw 175 rfl)) (Or.inl (oW hw 103 rfl)) (t := .int) (t' := .long))).ext E3).other W7 (oN (Or.inl (oW hw 175 rfl)) (Or.inr (oW hw 105 rfl)) (t := .int) (t' := (.array .int)))).ext E8).keep Kq11 (own_n1 ne_a0__b8)).other W16 (oN (Or.inl (oW hw 175 rfl)) (Or.inr (oW hw 129 rfl)) (t := .int) (t' := (.object oC2))))
 have f18_a0_ := (f14_a0_.wr W16)
 have f19_a0__toSkip := (((((Fw2.ext E3).other W7 (oN (Or.inl (oW hw 103 rfl)) (Or.inr (oW hw 105 rfl)) (t := .long) (t' := (.array .int)))).ext E8).keep Kq11 (own_n1 ne_a0__b8)).other W16 (oN (Or.inl (oW hw 103 rfl)) (Or.inr (oW hw 129 rfl)) (t := .long) (t' := (.object oC2))))
 have f20_a0__chosen := (((Fw7.ext E8).keep Kq11 (own_n1 ne_a0__b8)).other W16 (oN (Or.inr (oW hw 105 rfl)) (Or.inr (oW hw 129 rfl)) (t := (.array .int)) (t' := (.object oC2))))
 have f21_b3 := ((f13_b3.keep Kq11).wr W16)
 have f22_b3 := ((((V3.other W7 (Ne.symm ne_a0__b3)).ext E8).keep Kq11 (own_n1 ne_b3_b8)).other W16 (Ne.symm ne_a0__b3))
 have f23_b8 := (Q11_0.wr W16)
 have f24_b8_words := (Q11_1.other W16 (Or.inl (Ne.symm ne_a0__b8)))
 have f25_b8_wordsInUse := (Q11_2.other W16 (Or.inl (Ne.symm ne_a0__b8)))
 have f26_b8_sizeIsSticky := (Q11_3.other W16 (Or.inl (Ne.symm ne_a0__b8)))
 have f27_r11_r6_b2 := (Q11_4.wr W16)
 have f28_r11_r6_b2 := (Q11_5.other W16 (Ne.symm ne_a0__r11_r6_b2))
 obtain ⟨fs, hr, hrun, hended, hW, hsame⟩ := X16.leave (v := none) (fun _ => rfl)
 refine ⟨_, _, castTop (own_ef23 m a0_ q1_ p2_ p3_) ?_, hrun, hended, _, _, rfl, ?_, ⟨_, rfl⟩, hW, (hsame.mono (by decide) (by decide))⟩
 · show oZ p e below s₁ (mkF m 0 #[oA a0_, oJ q1_, .second, oI p2_, oI p3_] []) _
   refine XS.aloadN X0.here hx rfl (oG hby d17 0 rfl) rfl rfl ?_
   refine st1 _ ?_
   refine XS.aloadN X1.here hx rfl (oG hby d17 2 rfl) rfl rfl ?_
   refine XS.lloadN X1.here hx rfl (oG hby d17 3 rfl) rfl ?_
   refine st2 _ ?_
   refine XS.aloadN X2.here hx rfl (oG hby d17 5 rfl) rfl rfl ?_
   refine XS.iloadN X2.here hx rfl (oG hby d17 6 rfl) rfl ?_
   refine st3 _ ?_
   refine st7 _ ?_
   refine XS.aloadN X7.here hx rfl (oG hby d17 9 rfl) rfl rfl ?_
   refine st8 _ ?_
   show oZ p e below T8 (mkF m 20 #[oA a0_, oJ q1_, .second, oI p2_, oI p3_] [(.ref b8), (.ref a0_)]) _
   refine XS.dup X8.here hx rfl (oG hby d17 11 rfl) rfl rfl ?_
   refine XS.iload X8.here hx rfl (oG hby d17 12 rfl) rfl ?_
   refine st11.trans ?_
   refine st16 _ ?_
   show oZ p e below T16 (mkF m 29 #[oA a0_, oJ q1_, .second, oI p2_, oI p3_] []) _
   exact X16.returnOut hx Bd.returns (oG hby d17 15 rfl) hr
 · show Qown_b17_x_43 Z a0_ q1_ p2_ p3_ u_toSkip_a0_ u_chosen_a0_ u_has_a0_ u_taken_a0_ h0 n0 _ T16.heap _
   rw [e16]
   exact ⟨b3, b8, r11_r6_b2, rfl, N16, K16, sz_b3, sz_b8, sz_r11_r6_b2, ne_b3_b8, ne_b3_r11_r6_b2, ne_b8_r11_r6_b2, f18_a0_, f19_a0__toSkip, f20_a0__chosen, Fw16, f17_a0__taken, f21_b3, f22_b3, f23_b8, f24_b8_words, f25_b8_wordsInUse, f26_b8_sizeIsSticky, f27_r11_r6_b2, f28_r11_r6_b2⟩
theorem own_sw (rc : Nat) (rs : Nat) (o0_ : Addr) (i1_ : Int32) (f_lots_o0_ : Int32) (lx_ : Nat) (cx_ : Nat) (f_ringBits_o0_ : Int32) (f_subsetSize_o0_ : Int32) (f_backends_o0_ : Int32)
   (X0 : Stand p l e (oR 7 rc rs 200) s m args below meth c T0 locs cells slots) (hx : p.tables.exec = Jvm.exec) (hZ : Z.Warmed39 s.vm) (hw : oH a0 Z) (hby : c.code = prog_29_method_5_code) (hml : c.maxLocals = 11) (hown : s.vm.findClass oC0 = some m.cls) (e0 : T0.heap = h0) (N0 : Fr n0 locs) (Z0 : n0 ≤ h0.size) (F_lots_o0_ : Fld Z h0 o0_ oC0 "lots" "I" (.int f_lots_o0_)) (F_ringBits_o0_ : Fld Z h0 o0_ oC0 "ringBits" "I" (.int f_ringBits_o0_)) (E_o0_ : Exa Z h0 o0_ oC0) (F_subsetSize_o0_ : Fld Z h0 o0_ oC0 "subsetSize" "I" (.int f_subsetSize_o0_)) (F_backends_o0_ : Fld Z h0 o0_ oC0 "backends" "I" (.int f_backends_o0_)) (hf0 : f_lots_o0_ = Int32.ofNat lx_) (hf1 : f_ringBits_o0_ = own_rb lx_) (hf2 : f_lots_o0_ = Int32.ofNat cx_) (hf3 : own_pairs lx_ cx_) (hf4 : ¬ ((f_backends_o0_.toInt64) = (0 : Int64))) (hf5 : (Int32.ofNat cx_) = Int32.ofNat cx_) (hf6 : cx_ < 1000) (hf7 : own_hd f_backends_o0_ f_lots_o0_ (own_wl lx_ cx_) (((10 : Int64) * (f_subsetSize_o0_.toInt64)) - ((((10 : Int64) * (f_subsetSize_o0_.toInt64)) / (f_backends_o0_.toInt64)) * (f_backends_o0_.toInt64))) cx_ 0 0 = true) (hf8 : ¬ (f_subsetSize_o0_ < 0)) (hf9 : f_subsetSize_o0_.toNatClampNeg ≤ 32) (hf10 : ¬ (f_backends_o0_ < (0 : Int32))) (hf11 : (((f_backends_o0_ - (1 : Int32)) >>> ((6 : Int32) &&& 31)) + (1 : Int32)) = (1 : Int32)) (hc : cells + (1 + 1 + 3) ≤ rc) (hs : slots + (4 + 4 + 36) ≤ rs) :
   ∃ (r2_r : Addr) (b11 : Addr) (r19_b3 : Addr) (r19_b8 : Addr) (r19_r11_r6_b2 : Addr) (v8_z : Int32) (T' : State) (locs' : List Loc), Stand p l e (oR 7 rc rs 200) s m args below meth c T' locs' (cells + 1 + 1 + 3) (slots + 4 + 4 + 36) ∧ Fr n0 locs' ∧ Keep h0 T'.heap [] ∧ h0.size ≤ r2_r ∧ h0.size ≤ b11 ∧ h0.size ≤ r19_b3 ∧ h0.size ≤ r19_b8 ∧ h0.size ≤ r19_r11_r6_b2 ∧ r2_r ≠ b11 ∧ r2_r ≠ r19_b3 ∧ b11 ≠ r19_b3 ∧ r2_r ≠ r19_b8 ∧ b11 ≠ r19_b8 ∧ r19_b3 ≠ r19_b8 ∧ r2_r ≠ r19_r11_r6_b2 ∧ b11 ≠ r19_r11_r6_b2 ∧ r19_b3 ≠ r19_r11_r6_b2 ∧ r19_b8 ≠ r19_r11_r6_b2 ∧ own_il Z T'.heap r2_r (Int32.ofNat cx_) (own_wl lx_ cx_) ∧ Exa Z T'.heap b11 oC1 ∧ Fld Z T'.heap b11 oC1 "toSkip" "J" (.long ((i1_.toInt64) * (f_subsetSize_o0_.toInt64))) ∧ Fld Z T'.heap b11 oC1 "chosen" "[I" (.ref r19_b3) ∧ Fld Z T'.heap b11 oC1 "has" "Ljava/util/BitSet;" (.ref r19_b8) ∧ Fld Z T'.heap b11 oC1 "taken" "I" (.int 0) ∧ Exa Z T'.heap r19_b3 "[I" ∧ own_ia Z T'.heap r19_b3 f_subsetSize_o0_ ∧ Exa Z T'.heap r19_b8 oC2 ∧ Fld Z T'.heap r19_b8 oC2 "words" "[J" (.ref r19_r11_r6_b2) ∧ Fld Z T'.heap r19_b8 oC2 "wordsInUse" "I" (.int 0) ∧ Fld Z T'.heap r19_b8 oC2 "sizeIsSticky" "Z" (.int 1) ∧ Exa Z T'.heap r19_r11_r6_b2 "[J" ∧ own_jl Z T'.heap r19_r11_r6_b2 (1 : Int32) ([0] : List Int64) ∧
     ∀ target, Steps p.tables e below (T'.setTop (mkF m 74 #[oA o0_, oI i1_, oA r2_r, oJ ((10 : Int64) * (f_subsetSize_o0_.toInt64)), .second, oJ (((10 : Int64) * (f_subsetSize_o0_.toInt64)) / (f_backends_o0_.toInt64)), .second, oI v8_z, oA b11, oJ 0, .second] [])) target → Steps p.tables e below (T0.setTop (mkF m 0 #[oA o0_, oI i1_, .unset, .unset, .unset, .unset, .unset, .unset, .unset, .unset, .unset] [])) target := by
 obtain ⟨T1, X1, e1, st1⟩ := getF X0 hx hZ hown (host := "") (Or.inl (oW hw 28 rfl)) Via.refl e0 F_lots_o0_ (g := (mkF m 3 #[oA o0_, oI i1_, .unset, .unset, .unset, .unset, .unset, .unset, .unset, .unset, .unset] [(.ref o0_), (.int 0), (.ref o0_)])) rfl rfl (oG hby d9 3 rfl)
 obtain ⟨cq2, q2, q2'⟩ := E_o0_.cell
 obtain ⟨_, _, ⟨T2, L2, k2, n2⟩, -, X2, ⟨Lc2, hQ2, l2, y2, z2⟩, st2⟩ := X1.privateBack hx (y := oM5) hown (mvT hZ (oW hw 63 rfl)) (mvT hZ (oW hw 64 rfl)) (own_selp (mvT hZ (oW hw 19 rfl)) (mvP hZ (oW hw 65 rfl) (args := #[])) (mvT hZ (oW hw 64 rfl)) (by decide)) (Cond.privateMethod_at (mvP hZ (oW hw 65 rfl) (args := #[]))) (mvT hZ (oW hw 66 rfl)) (by decide) (backOf (W := 0) (own_woC l Z a0 hw [] o0_ f_lots_o0_ lx_ cx_ f_lots_o0_ f_ringBits_o0_ h0 n0 Z0 F_lots_o0_ F_ringBits_o0_ E_o0_ hf0 hf1 hf2 hf3) hZ (oW hw 66 rfl) (oW hw 16 rfl) (Nat.le_of_ble_eq_true rfl) (Nat.le_of_ble_eq_true rfl)) (g := (mkF m 6 #[oA o0_, oI i1_, .unset, .unset, .unset, .unset, .unset, .unset, .unset, .unset, .unset] [(.int f_lots_o0_), (.int 0), (.ref o0_)])) rfl (by rw [hml]; rfl) (Steps.refl _) (a := o0_) (by rw [e1]; exact q2) q2' (argsL := [(.int 0), (.int f_lots_o0_)]) (rest := []) (lenOf own_pd8 rfl) rfl (by show 2 * 0 + _ ≤ _; exact Nat.le_of_eq rfl) (oG hby d9 4 rfl) (fun _ _ => ⟨rfl, e1, (show cells + 1 ≤ rc from by omega), (show slots + 4 ≤ rs from by omega)⟩)
 dsimp only [Pt.U, Pt.locs, Pt.cells, Pt.slots] at X2 l2 y2 z2 st2 hQ2
 subst l2; rw [y2, z2] at X2
 obtain ⟨r2_r, rfl, N2q, Kq2, lo_r2_r, Q2_0⟩ := hQ2
 have N2 := Fr.app N0 N2q
 have ne_o0__r2_r : o0_ ≠ r2_r := oV F_lots_o0_.lt lo_r2_r
 have sz_r2_r : h0.size ≤ r2_r := Nat.le_trans (Keep.refl h0 []).1 lo_r2_r
 have g_r2_r : n0 ≤ r2_r := Nat.le_trans Z0 sz_r2_r
 have K2 : Keep h0 T2.heap [] := (Keep.refl h0 []).trans Kq2 own_a0
 have f3_o0__subsetSize := (F_subsetSize_o0_.keep Kq2 (own_n0 _))
 obtain ⟨T4, X4, e4, st4⟩ := getF X2 hx hZ hown (host := "") (Or.inl (oW hw 26 rfl)) Via.refl rfl f3_o0__subsetSize (g := (mkF m 14 #[oA o0_, oI i1_, oA r2_r, .unset, .unset, .unset, .unset, .unset, .unset, .unset, .unset] [(.ref o0_), (.long 10)])) rfl rfl (oG hby d9 8 rfl)
 have f5_o0__backends := (F_backends_o0_.keep Kq2 (own_n0 _))
 obtain ⟨T6, X6, e6, st6⟩ := getF X4 hx hZ hown (host := "") (Or.inl (oW hw 24 rfl)) Via.refl e4 f5_o0__backends (g := (mkF m 22 #[oA o0_, oI i1_, oA r2_r, oJ ((10 : Int64) * (f_subsetSize_o0_.toInt64)), .second, .unset, .unset, .unset, .unset, .unset, .unset] [(.ref o0_), (.long ((10 : Int64) * (f_subsetSize_o0_.toInt64)))])) rfl rfl (oG hby d9 14 rfl)
 obtain ⟨T7, X7, e7, st7⟩ := getF X6 hx hZ hown (host := "") (Or.inl (oW hw 24 rfl)) Via.refl e6 f5_o0__backends (g := (mkF m 35 #[oA o0_, oI i1_, oA r2_r, oJ ((10 : Int64) * (f_subsetSize_o0_.toInt64)), .second, oJ (((10 : Int64) * (f_subsetSize_o0_.toInt64)) / (f_backends_o0_.toInt64)), .second, .unset, .unset, .unset, .unset] [(.ref o0_), (.long (((10 : Int64) * (f_subsetSize_o0_.toInt64)) / (f_backends_o0_.toInt64))), (.long ((10 : Int64) * (f_subsetSize_o0_.toInt64))), (.ref r2_r), (.ref o0_)])) rfl rfl (oG hby d9 23 rfl)
 have f9_o0__lots := (F_lots_o0_.keep Kq2 (own_n0 _))
 have f10_o0_ := (E_o0_.keep Kq2)
 obtain ⟨cq8, q8, q8'⟩ := f10_o0_.cell
 obtain ⟨_, _, ⟨T8, L8, k8, n8⟩, -, X8, ⟨Lc8, hQ8, l8, y8, z8⟩, st8⟩ := X7.privateBack hx (y := oM27) hown (mvT hZ (oW hw 91 rfl)) (mvT hZ (oW hw 92 rfl)) (own_selp (mvT hZ (oW hw 19 rfl)) (mvP hZ (oW hw 93 rfl) (args := #[])) (mvT hZ (oW hw 92 rfl)) (by decide)) (Cond.privateMethod_at (mvP hZ (oW hw 93 rfl) (args := #[]))) (mvT hZ (oW hw 94 rfl)) (by decide) (backOf (W := 0) (own_lhC l Z a0 hw [] o0_ r2_r (((10 : Int64) * (f_subsetSize_o0_.toInt64)) - ((((10 : Int64) * (f_subsetSize_o0_.toInt64)) / (f_backends_o0_.toInt64)) * (f_backends_o0_.toInt64))) f_backends_o0_ f_lots_o0_ (own_wl lx_ cx_) (Int32.ofNat cx_) cx_ T2.heap n0 (Nat.le_trans Z0 K2.1) Q2_0 f9_o0__lots f5_o0__backends hf5 hf6 hf7) hZ (oW hw 94 rfl) (oW hw 16 rfl) (Nat.le_of_ble_eq_true rfl) (Nat.le_of_ble_eq_true rfl)) (g := (mkF m 41 #[oA o0_, oI i1_, oA r2_r, oJ ((10 : Int64) * (f_subsetSize_o0_.toInt64)), .second, oJ (((10 : Int64) * (f_subsetSize_o0_.toInt64)) / (f_backends_o0_.toInt64)), .second, .unset, .unset, .unset, .unset] [(.long (((10 : Int64) * (f_subsetSize_o0_.toInt64)) - ((((10 : Int64) * (f_subsetSize_o0_.toInt64)) / (f_backends_o0_.toInt64)) * (f_backends_o0_.toInt64)))), (.ref r2_r), (.ref o0_)])) rfl (by rw [hml]; rfl) (Steps.refl _) (a := o0_) (by rw [e7]; exact q8) q8' (argsL := [(.ref r2_r), (.long (((10 : Int64) * (f_subsetSize_o0_.toInt64)) - ((((10 : Int64) * (f_subsetSize_o0_.toInt64)) / (f_backends_o0_.toInt64)) * (f_backends_o0_.toInt64))))]) (rest := []) (lenOf own_pd11 rfl) rfl (by show 2 * 0 + _ ≤ _; exact Nat.le_of_eq rfl) (oG hby d9 27 rfl) (fun _ _ => ⟨rfl, e7, (show cells + 1 + 0 ≤ rc from by omega), (show slots + 4 + 0 ≤ rs from by omega)⟩)
 dsimp only [Pt.U, Pt.locs, Pt.cells, Pt.slots] at X8 l8 y8 z8 st8 hQ8
 subst l8; rw [y8, z8] at X8
 obtain ⟨v8_z, rfl, N8q, Kq8⟩ := hQ8
 have N8 := Fr.app N2 N8q
 have K8 : Keep h0 T8.heap [] := K2.trans Kq8 own_a0
 obtain ⟨T11, h11, X11, e11, E11, A11, D11, -, st11⟩ := newO X8 hx hZ hown (oW hw 95 rfl) (oW hw 96 rfl) (oW hw 97 rfl) rfl (g := (mkF m 46 #[oA o0_, oI i1_, oA r2_r, oJ ((10 : Int64) * (f_subsetSize_o0_.toInt64)), .second, oJ (((10 : Int64) * (f_subsetSize_o0_.toInt64)) / (f_backends_o0_.toInt64)), .second, oI v8_z, .unset, .unset, .unset] [])) rfl (oG hby d9 29 rfl) (show cells + 1 + 1 ≤ rc from by omega) (show slots + 4 + 4 ≤ rs from by omega)
 obtain ⟨b11, g11⟩ : ∃ z, z = T8.heap.size := ⟨_, rfl⟩
 rw [← g11] at A11 D11 st11
 have lo_b11 : T8.heap.size ≤ b11 := Nat.le_of_eq g11.symm
 have f12_o0__lots := (f9_o0__lots.keep Kq8 (own_n0 _))
 have ne_o0__b11 : o0_ ≠ b11 := oV f12_o0__lots.lt lo_b11
 have f13_r2_r := (Q2_0.keep Kq8 (own_n0 _))
 have ne_r2_r_b11 : r2_r ≠ b11 := oV f13_r2_r.lt lo_b11
 have sz_b11 : h0.size ≤ b11 := Nat.le_trans K8.1 lo_b11
 have g_b11 : n0 ≤ b11 := Nat.le_trans Z0 sz_b11
 have K11 : Keep h0 h11 [] := K8.ext E11
 have F11_toSkip : Fld Z h11 b11 oC1 "toSkip" "J" (.long 0) := D11 (Or.inl (oW hw 103 rfl)) (ty := .long) (by decide)
 have F11_chosen : Fld Z h11 b11 oC1 "chosen" "[I" .null := D11 (Or.inr (oW hw 105 rfl)) (ty := (.array .int)) (by decide)
 have F11_has : Fld Z h11 b11 oC1 "has" "Ljava/util/BitSet;" .null := D11 (Or.inr (oW hw 129 rfl)) (ty := (.object oC2)) (by decide)
 have F11_taken : Fld Z h11 b11 oC1 "taken" "I" (.int 0) := D11 (Or.inl (oW hw 175 rfl)) (ty := .int) (by decide)
 have f14_o0__subsetSize := ((f3_o0__subsetSize.keep Kq8 (own_n0 _)).ext E11)
 obtain ⟨T15, X15, e15, st15⟩ := getF X11 hx hZ hown (host := "") (Or.inl (oW hw 26 rfl)) Via.refl e11 f14_o0__subsetSize (g := (mkF m 53 #[oA o0_, oI i1_, oA r2_r, oJ ((10 : Int64) * (f_subsetSize_o0_.toInt64)), .second, oJ (((10 : Int64) * (f_subsetSize_o0_.toInt64)) / (f_backends_o0_.toInt64)), .second, oI v8_z, .unset, .unset, .unset] [(.ref o0_), (.long (i1_.toInt64)), (.ref b11), (.ref b11)])) rfl rfl (oG hby d9 34 rfl)
 obtain ⟨T16, X16, e16, st16⟩ := getF X15 hx hZ hown (host := "") (Or.inl (oW hw 26 rfl)) Via.refl e15 f14_o0__subsetSize (g := (mkF m 59 #[oA o0_, oI i1_, oA r2_r, oJ ((10 : Int64) * (f_subsetSize_o0_.toInt64)), .second, oJ (((10 : Int64) * (f_subsetSize_o0_.toInt64)) / (f_backends_o0_.toInt64)), .second, oI v8_z, .unset, .unset, .unset] [(.ref o0_), (.long ((i1_.toInt64) * (f_subsetSize_o0_.toInt64))), (.ref b11), (.ref b11)])) rfl rfl (oG hby d9 38 rfl)
 have f17_o0__backends := ((f5_o0__backends.keep Kq8 (own_n0 _)).ext E11)
 obtain ⟨T18, X18, e18, st18⟩ := getF X16 hx hZ hown (host := "") (Or.inl (oW hw 24 rfl)) Via.refl e16 f17_o0__backends (g := (mkF m 63 #[oA o0_, oI i1_, oA r2_r, oJ ((10 : Int64) * (f_subsetSize_o0_.toInt64)), .second, oJ (((10 : Int64) * (f_subsetSize_o0_.toInt64)) / (f_backends_o0_.toInt64)), .second, oI v8_z, .unset, .unset, .unset] [(.ref o0_), (.int f_subsetSize_o0_), (.long ((i1_.toInt64) * (f_subsetSize_o0_.toInt64))), (.ref b11), (.ref b11)])) rfl rfl (oG hby d9 40 rfl)
 obtain ⟨_, _, ⟨T19, L19, k19, n19⟩, -, X19, ⟨Lc19, hQ19, l19, y19, z19⟩, st19⟩ := X18.specialBack hx (y := oM25) rfl hown (mvT hZ (oW hw 98 rfl)) (mvT hZ (oW hw 99 rfl)) (mvT hZ (oW hw 100 rfl)) (by decide) (backOf (W := 1) (own_b17_x_43 l Z a0 hw [] b11 ((i1_.toInt64) * (f_subsetSize_o0_.toInt64)) f_subsetSize_o0_ f_backends_o0_ (.long 0) .null .null (.int 0) h11 n0 (Nat.le_trans Z0 K11.1) A11 F11_toSkip g_b11 F11_chosen F11_has F11_taken hf8 hf9 hf10 hf11) hZ (oW hw 100 rfl) (oW hw 97 rfl) (Nat.le_of_ble_eq_true rfl) (Nat.le_of_ble_eq_true rfl)) (g := (mkF m 66 #[oA o0_, oI i1_, oA r2_r, oJ ((10 : Int64) * (f_subsetSize_o0_.toInt64)), .second, oJ (((10 : Int64) * (f_subsetSize_o0_.toInt64)) / (f_backends_o0_.toInt64)), .second, oI v8_z, .unset, .unset, .unset] [(.int f_backends_o0_), (.int f_subsetSize_o0_), (.long ((i1_.toInt64) * (f_subsetSize_o0_.toInt64))), (.ref b11), (.ref b11)])) rfl (by rw [hml]; rfl) (Steps.refl _) (a := b11) (argsL := [(.long ((i1_.toInt64) * (f_subsetSize_o0_.toInt64))), (.int f_subsetSize_o0_), (.int f_backends_o0_)]) (rest := [(.ref b11)]) (lenOf own_pd12 rfl) rfl (by show 2 * 0 + _ ≤ _; exact Nat.le_of_eq rfl) (oG hby d9 41 rfl) (fun _ _ => ⟨rfl, e18, (show cells + 1 + 1 + 3 ≤ rc from by omega), (show slots + 4 + 4 + 36 ≤ rs from by omega)⟩)
 dsimp only [Pt.U, Pt.locs, Pt.cells, Pt.slots] at X19 l19 y19 z19 st19 hQ19
 subst l19; rw [y19, z19] at X19
 obtain ⟨r19_b3, r19_b8, r19_r11_r6_b2, rfl, N19q, Kq19, lo_r19_b3, lo_r19_b8, lo_r19_r11_r6_b2, Q19_0, Q19_1, Q19_2, Q19_3, Q19_4, Q19_5, Q19_6, Q19_7, Q19_8, Q19_9, Q19_10, Q19_11, Q19_12, Q19_13, Q19_14, Q19_15⟩ := hQ19
 have N19 := Fr.app N8 N19q
 have f20_o0__lots := (f12_o0__lots.ext E11)
 have ne_o0__r19_b3 : o0_ ≠ r19_b3 := oV f20_o0__lots.lt lo_r19_b3
 have f21_r2_r := (f13_r2_r.ext E11)
 have ne_r2_r_r19_b3 : r2_r ≠ r19_b3 := oV f21_r2_r.lt lo_r19_b3
 have ne_b11_r19_b3 : b11 ≠ r19_b3 := oV A11.lt lo_r19_b3
 have sz_r19_b3 : h0.size ≤ r19_b3 := Nat.le_trans K11.1 lo_r19_b3
 have g_r19_b3 : n0 ≤ r19_b3 := Nat.le_trans Z0 sz_r19_b3
 have ne_o0__r19_b8 : o0_ ≠ r19_b8 := oV f20_o0__lots.lt lo_r19_b8
 have ne_r2_r_r19_b8 : r2_r ≠ r19_b8 := oV f21_r2_r.lt lo_r19_b8
 have ne_b11_r19_b8 : b11 ≠ r19_b8 := oV A11.lt lo_r19_b8
 have sz_r19_b8 : h0.size ≤ r19_b8 := Nat.le_trans K11.1 lo_r19_b8
 have g_r19_b8 : n0 ≤ r19_b8 := Nat.le_trans Z0 sz_r19_b8
 have ne_o0__r19_r11_r6_b2 : o0_ ≠ r19_r11_r6_b2 := oV f20_o0__lots.lt lo_r19_r11_r6_b2
 have ne_r2_r_r19_r11_r6_b2 : r2_r ≠ r19_r11_r6_b2 := oV f21_r2_r.lt lo_r19_r11_r6_b2
 have ne_b11_r19_r11_r6_b2 : b11 ≠ r19_r11_r6_b2 := oV A11.lt lo_r19_r11_r6_b2
 have sz_r19_r11_r6_b2 : h0.size ≤ r19_r11_r6_b2 := Nat.le_trans K11.1 lo_r19_r11_r6_b2
 have g_r19_r11_r6_b2 : n0 ≤ r19_r11_r6_b2 := Nat.le_trans Z0 sz_r19_r11_r6_b2
 have K19 : Keep h0 T19.heap [] := K11.trans Kq19 (own_a1 (Or.inr sz_b11))
 have f22_r2_r := (f21_r2_r.keep Kq19 (own_n1 ne_r2_r_b11))
 refine ⟨r2_r, b11, r19_b3, r19_b8, r19_r11_r6_b2, v8_z, T19, _, own_same X19 (by omega) (by omega), N19, K19, sz_r2_r, sz_b11, sz_r19_b3, sz_r19_b8, sz_r19_r11_r6_b2, ne_r2_r_b11, ne_r2_r_r19_b3, ne_b11_r19_b3, ne_r2_r_r19_b8, ne_b11_r19_b8, Q19_0, ne_r2_r_r19_r11_r6_b2, ne_b11_r19_r11_r6_b2, Q19_1, Q19_2, f22_r2_r, Q19_3, Q19_4, Q19_5, Q19_6, Q19_7, Q19_8, Q19_9, Q19_10, Q19_11, Q19_12, Q19_13, Q19_14, Q19_15, fun target kt => ?_⟩
 show oZ p e below T0 (mkF m 0 #[oA o0_, oI i1_, .unset, .unset, .unset, .unset, .unset, .unset, .unset, .unset, .unset] []) _
 refine XS.aloadN X0.here hx rfl (oG hby d9 0 rfl) rfl rfl ?_
 refine XS.iconst X0.here hx rfl (oG hby d9 1 rfl) ?_
 refine XS.aloadN X0.here hx rfl (oG hby d9 2 rfl) rfl rfl ?_
 refine st1 _ ?_
 refine st2.trans ?_
 refine XS.astoreN X2.here hx rfl (oG hby d9 5 rfl) rfl rfl (l' := #[oA o0_, oI i1_, oA r2_r, .unset, .unset, .unset, .unset, .unset, .unset, .unset, .unset]) rfl ?_
 refine X2.ldc2Long hx hown (mvT hZ (oW hw 90 rfl)) (g := (mkF m 10 #[oA o0_, oI i1_, oA r2_r, .unset, .unset, .unset, .unset, .unset, .unset, .unset, .unset] [])) rfl (oG hby d9 6 rfl) _ ?_
 refine XS.aloadN X2.here hx rfl (oG hby d9 7 rfl) rfl rfl ?_
 refine st4 _ ?_
 refine XS.i2l X4.here hx rfl (oG hby d9 9 rfl) rfl ?_
 refine XS.lmul X4.here hx rfl (oG hby d9 10 rfl) rfl ?_
 show oZ p e below T4 (mkF m 19 #[oA o0_, oI i1_, oA r2_r, .unset, .unset, .unset, .unset, .unset, .unset, .unset, .unset] [(.long ((10 : Int64) * (f_subsetSize_o0_.toInt64)))]) _
 refine XS.lstoreN X4.here hx rfl (oG hby d9 11 rfl) rfl (l' := #[oA o0_, oI i1_, oA r2_r, oJ ((10 : Int64) * (f_subsetSize_o0_.toInt64)), .second, .unset, .unset, .unset, .unset, .unset, .unset]) rfl ?_
 refine XS.lloadN X4.here hx rfl (oG hby d9 12 rfl) rfl ?_
 refine XS.aloadN X4.here hx rfl (oG hby d9 13 rfl) rfl rfl ?_
 refine st6 _ ?_
 refine XS.i2l X6.here hx rfl (oG hby d9 15 rfl) rfl ?_
 refine XS.ldiv X6.here hx rfl (oG hby d9 16 rfl) rfl hf4 ?_
 refine XS.lstore X6.here hx rfl (oG hby d9 17 rfl) rfl (l' := #[oA o0_, oI i1_, oA r2_r, oJ ((10 : Int64) * (f_subsetSize_o0_.toInt64)), .second, oJ (((10 : Int64) * (f_subsetSize_o0_.toInt64)) / (f_backends_o0_.toInt64)), .second, .unset, .unset, .unset, .unset]) rfl ?_
 refine XS.aloadN X6.here hx rfl (oG hby d9 18 rfl) rfl rfl ?_
 refine XS.aloadN X6.here hx rfl (oG hby d9 19 rfl) rfl rfl ?_
 refine XS.lloadN X6.here hx rfl (oG hby d9 20 rfl) rfl ?_
 refine XS.lload X6.here hx rfl (oG hby d9 21 rfl) rfl ?_
 show oZ p e below T6 (mkF m 34 #[oA o0_, oI i1_, oA r2_r, oJ ((10 : Int64) * (f_subsetSize_o0_.toInt64)), .second, oJ (((10 : Int64) * (f_subsetSize_o0_.toInt64)) / (f_backends_o0_.toInt64)), .second, .unset, .unset, .unset, .unset] [(.long (((10 : Int64) * (f_subsetSize_o0_.toInt64)) / (f_backends_o0_.toInt64))), (.long ((10 : Int64) * (f_subsetSize_o0_.toInt64))), (.ref r2_r), (.ref o0_)]) _
 refine XS.aloadN X6.here hx rfl (oG hby d9 22 rfl) rfl rfl ?_
 refine st7 _ ?_
 refine XS.i2l X7.here hx rfl (oG hby d9 24 rfl) rfl ?_
 refine XS.lmul X7.here hx rfl (oG hby d9 25 rfl) rfl ?_
 refine XS.lsub X7.here hx rfl (oG hby d9 26 rfl) rfl ?_
 refine st8.trans ?_
 refine XS.istore X8.here hx rfl (oG hby d9 28 rfl) rfl (l' := #[oA o0_, oI i1_, oA r2_r, oJ ((10 : Int64) * (f_subsetSize_o0_.toInt64)), .second, oJ (((10 : Int64) * (f_subsetSize_o0_.toInt64)) / (f_backends_o0_.toInt64)), .second, oI v8_z, .unset, .unset, .unset]) rfl ?_
 refine st11 _ ?_
 refine XS.dup X11.here hx rfl (oG hby d9 30 rfl) rfl rfl ?_
 refine XS.iloadN X11.here hx rfl (oG hby d9 31 rfl) rfl ?_
 refine XS.i2l X11.here hx rfl (oG hby d9 32 rfl) rfl ?_
 show oZ p e below T11 (mkF m 52 #[oA o0_, oI i1_, oA r2_r, oJ ((10 : Int64) * (f_subsetSize_o0_.toInt64)), .second, oJ (((10 : Int64) * (f_subsetSize_o0_.toInt64)) / (f_backends_o0_.toInt64)), .second, oI v8_z, .unset, .unset, .unset] [(.long (i1_.toInt64)), (.ref b11), (.ref b11)]) _
 refine XS.aloadN X11.here hx rfl (oG hby d9 33 rfl) rfl rfl ?_
 refine st15 _ ?_
 refine XS.i2l X15.here hx rfl (oG hby d9 35 rfl) rfl ?_
 refine XS.lmul X15.here hx rfl (oG hby d9 36 rfl) rfl ?_
 refine XS.aloadN X15.here hx rfl (oG hby d9 37 rfl) rfl rfl ?_
 refine st16 _ ?_
 refine XS.aloadN X16.here hx rfl (oG hby d9 39 rfl) rfl rfl ?_
 refine st18 _ ?_
 refine st19.trans ?_
 refine XS.astore X19.here hx rfl (oG hby d9 42 rfl) rfl rfl (l' := #[oA o0_, oI i1_, oA r2_r, oJ ((10 : Int64) * (f_subsetSize_o0_.toInt64)), .second, oJ (((10 : Int64) * (f_subsetSize_o0_.toInt64)) / (f_backends_o0_.toInt64)), .second, oI v8_z, oA b11, .unset, .unset]) rfl ?_
 refine XS.lconst X19.here hx rfl (oG hby d9 43 rfl) ?_
 show oZ p e below T19 (mkF m 72 #[oA o0_, oI i1_, oA r2_r, oJ ((10 : Int64) * (f_subsetSize_o0_.toInt64)), .second, oJ (((10 : Int64) * (f_subsetSize_o0_.toInt64)) / (f_backends_o0_.toInt64)), .second, oI v8_z, oA b11, .unset, .unset] [(.long 0)]) _
 refine XS.lstore X19.here hx rfl (oG hby d9 44 rfl) rfl (l' := #[oA o0_, oI i1_, oA r2_r, oJ ((10 : Int64) * (f_subsetSize_o0_.toInt64)), .second, oJ (((10 : Int64) * (f_subsetSize_o0_.toInt64)) / (f_backends_o0_.toInt64)), .second, oI v8_z, oA b11, oJ 0, .second]) rfl ?_
 exact kt
theorem own_sw_G (rc : Nat) (rs : Nat) (o0_ : Addr) (i1_ : Int32) (o2_ : Addr) (j3_ : Int64) (j5_ : Int64) (i7_ : Int32) (o8_ : Addr) (j9_ : Int64) (f_chosen_o8_ : Addr)
   (X0 : Stand p l e (oR 7 rc rs 200) s m args below meth c T0 locs cells slots) (hx : p.tables.exec = Jvm.exec) (hZ : Z.Warmed39 s.vm) (hw : oH a0 Z) (hby : c.code = prog_29_method_5_code) (hml : c.maxLocals = 11) (hown : s.vm.findClass oC0 = some m.cls) (e0 : T0.heap = h0) (N0 : Fr n0 locs) (Z0 : n0 ≤ h0.size) (F_chosen_o8_ : Fld Z h0 o8_ oC1 "chosen" "[I" (.ref f_chosen_o8_)) (hc : cells + (0) ≤ rc) (hs : slots + (0) ≤ rs) :
   ∃ (T' : State) (locs' : List Loc), Stand p l e (oR 7 rc rs 200) s m args below meth c T' locs' cells slots ∧ Fr n0 locs' ∧ T'.heap = h0 ∧
     ∀ target, Steps p.tables e below (T'.setTop (mkF m 99 #[oA o0_, oI i1_, oA o2_, oJ j3_, .second, oJ j5_, .second, oI i7_, oA o8_, oJ j9_, .second] [(.ref f_chosen_o8_)])) target → Steps p.tables e below (T0.setTop (mkF m 94 #[oA o0_, oI i1_, oA o2_, oJ j3_, .second, oJ j5_, .second, oI i7_, oA o8_, oJ j9_, .second] [])) target := by
 obtain ⟨T1, X1, e1, st1⟩ := own_getFR X0 hx hZ hown (oW hw 202 rfl) e0 F_chosen_o8_ (g := (mkF m 96 #[oA o0_, oI i1_, oA o2_, oJ j3_, .second, oJ j5_, .second, oI i7_, oA o8_, oJ j9_, .second] [(.ref o8_)])) rfl rfl (oG hby d9 57 rfl)
 refine ⟨T1, _, X1, N0, e1, fun target kt => ?_⟩
 show oZ p e below T0 (mkF m 94 #[oA o0_, oI i1_, oA o2_, oJ j3_, .second, oJ j5_, .second, oI i7_, oA o8_, oJ j9_, .second] []) _
 refine XS.aload X0.here hx rfl (oG hby d9 56 rfl) rfl rfl ?_
 refine st1 _ ?_
 exact kt
theorem own_rd_R (rc : Nat) (rs : Nat) (o0_ : Addr) (i1_ : Int32) (o2_ : Addr) (j3_ : Int64) (j5_ : Int64) (i7_ : Int32) (o8_ : Addr) (j9_ : Int64) (n_o2_ : Int32) (vs_o2_ : List Int32) (o4_ : Addr) (b_ : Int32) (vs_ : List Int32) (cnt_ : Nat) (ch_ : Addr) (bs_ : Addr) (wd_ : Addr) (n_ : Int32) (us_ : Value) (st_ : own_St) (jj_ : Int64)
   (X0 : Stand p l e (oR 7 rc rs 200) s m args below meth c T0 locs cells slots) (hx : p.tables.exec = Jvm.exec) (hZ : Z.Warmed39 s.vm) (hw : oH a0 Z) (hby : c.code = prog_29_method_5_code) (hml : c.maxLocals = 11) (hown : s.vm.findClass oC0 = some m.cls) (e0 : T0.heap = h0) (N0 : Fr n0 locs) (Z0 : n0 ≤ h0.size) (A_o2_ : own_il Z h0 o2_ n_o2_ vs_o2_) (P_str : own_STR Z h0 o8_ ch_ bs_ wd_ n_ us_ st_) (RW_ : own_RW Z h0 n0 o0_ o2_ o4_ o8_ ch_ bs_ wd_ b_ vs_ cnt_) (OK_ : own_ok n_ st_) (E_o0_ : Exa Z h0 o0_ oC0) (g_o8_ : n0 ≤ o8_) (g_ch_ : n0 ≤ ch_) (g_bs_ : n0 ≤ bs_) (g_wd_ : n0 ≤ wd_) (hf0 : (lcmpW j9_ j5_) < (0 : Int32)) (hf1 : n_o2_ = Int32.ofNat cnt_) (hf2 : (own_out b_ n_ vs_ cnt_ 10 0 st_).2.1 = (0 : Int32)) (hf3 : (j9_ + (1 : Int64)) = jj_) (hc : cells + ((2 * (own_out b_ n_ vs_ cnt_ 10 0 st_).2.2)) ≤ rc) (hs : slots + ((11 * (own_out b_ n_ vs_ cnt_ 10 0 st_).2.2)) ≤ rs) :
   ∃ (T' : State) (locs' : List Loc), Stand p l e (oR 7 rc rs 200) s m args below meth c T' locs' (cells + (2 * (own_out b_ n_ vs_ cnt_ 10 0 st_).2.2)) (slots + (11 * (own_out b_ n_ vs_ cnt_ 10 0 st_).2.2)) ∧ Fr n0 locs' ∧ Keep h0 T'.heap [o8_, ch_, bs_, wd_] ∧ own_STR Z T'.heap o8_ ch_ bs_ wd_ n_ us_ (own_out b_ n_ vs_ cnt_ 10 0 st_).1 ∧
     ∀ target, Steps p.tables e below (T'.setTop (mkF m 74 #[oA o0_, oI i1_, oA o2_, oJ j3_, .second, oJ j5_, .second, oI i7_, oA o8_, oJ jj_, .second] [])) target → Steps p.tables e below (T0.setTop (mkF m 74 #[oA o0_, oI i1_, oA o2_, oJ j3_, .second, oJ j5_, .second, oI i7_, oA o8_, oJ j9_, .second] [])) target := by
 obtain ⟨c1, A1, S1, M1⟩ := own_il_cell A_o2_
 obtain ⟨cq2, q2, q2'⟩ := E_o0_.cell
 obtain ⟨_, _, ⟨T2, L2, k2, n2⟩, -, X2, ⟨Lc2, hQ2, l2, y2, z2⟩, st2⟩ := X0.privateBack hx (y := oM7) hown (mvT hZ (oW hw 130 rfl)) (mvT hZ (oW hw 131 rfl)) (own_selp (mvT hZ (oW hw 19 rfl)) (mvP hZ (oW hw 132 rfl) (args := #[])) (mvT hZ (oW hw 131 rfl)) (by decide)) (Cond.privateMethod_at (mvP hZ (oW hw 132 rfl) (args := #[]))) (mvT hZ (oW hw 133 rfl)) (by decide) (backOf (W := 0) (own_rowsD l Z a0 hw [] o0_ o2_ n_o2_ o8_ ch_ bs_ wd_ n_ us_ st_ o4_ b_ vs_ cnt_ h0 n0 Z0 P_str RW_ OK_ hf1) hZ (oW hw 133 rfl) (oW hw 16 rfl) (Nat.le_of_ble_eq_true rfl) (Nat.le_of_ble_eq_true rfl)) (g := (mkF m 88 #[oA o0_, oI i1_, oA o2_, oJ j3_, .second, oJ j5_, .second, oI i7_, oA o8_, oJ j9_, .second] [(.ref o8_), (.int n_o2_), (.ref o2_), (.ref o0_)])) rfl (by rw [hml]; rfl) (Steps.refl _) (a := o0_) (by rw [e0]; exact q2) q2' (argsL := [(.ref o2_), (.int n_o2_), (.ref o8_)]) (rest := []) (lenOf own_pd13 rfl) rfl (by show 2 * 0 + _ ≤ _; exact Nat.le_of_eq rfl) (oG hby d9 54 rfl) (fun _ _ => ⟨rfl, e0, (show cells + (2 * (own_out b_ n_ vs_ cnt_ 10 0 st_).2.2) ≤ rc from by omega), (show slots + (11 * (own_out b_ n_ vs_ cnt_ 10 0 st_).2.2) ≤ rs from by omega)⟩)
 dsimp only [Pt.U, Pt.locs, Pt.cells, Pt.slots] at X2 l2 y2 z2 st2 hQ2
 subst l2; rw [y2, z2] at X2
 obtain ⟨rfl, N2q, Kq2, Q2_0⟩ := hQ2
 have N2 := Fr.app N0 N2q
 have K2 : Keep h0 T2.heap [o8_, ch_, bs_, wd_] := (Keep.refl h0 [o8_, ch_, bs_, wd_]).trans Kq2 (own_a4 (Or.inl (oX 0 rfl)) (Or.inl (oX 1 rfl)) (Or.inl (oX 2 rfl)) (Or.inl (oX 3 rfl)))
 refine ⟨T2, _, own_same X2 (by omega) (by omega), N2, K2, Q2_0, fun target kt => ?_⟩
 show oZ p e below T0 (mkF m 74 #[oA o0_, oI i1_, oA o2_, oJ j3_, .second, oJ j5_, .second, oI i7_, oA o8_, oJ j9_, .second] []) _
 refine XS.lload X0.here hx rfl (oG hby d9 45 rfl) rfl ?_
 refine XS.lload X0.here hx rfl (oG hby d9 46 rfl) rfl ?_
 refine XS.lcmp X0.here hx rfl (oG hby d9 47 rfl) rfl ?_
 refine XS.ifNo X0.here hx rfl (oG hby d9 48 rfl) rfl ((if0 _ _).trans (tlt hf0).2.1) ?_
 refine XS.aloadN X0.here hx rfl (oG hby d9 49 rfl) rfl rfl ?_
 refine XS.aloadN X0.here hx rfl (oG hby d9 50 rfl) rfl rfl ?_
 refine XS.aloadN X0.here hx rfl (oG hby d9 51 rfl) rfl rfl ?_
 refine X0.arraylength hx (by rw [e0]; exact A1.1) (State.isArrayOf_alike hZ.alike A1.2.1) (g := (mkF m 85 #[oA o0_, oI i1_, oA o2_, oJ j3_, .second, oJ j5_, .second, oI i7_, oA o8_, oJ j9_, .second] [(.ref o2_), (.ref o2_), (.ref o0_)])) rfl rfl (oG hby d9 52 rfl) _ ?_
 rw [len_of S1 M1]
 refine XS.aload X0.here hx rfl (oG hby d9 53 rfl) rfl rfl ?_
 refine st2.trans ?_
 refine XS.ifYes X2.here hx rfl (pc0 := 91) (pc' := 100) rfl (oG hby d9 55 rfl) rfl ((if0 _ _).trans (teq hf2).1) (by decide) (by decide) ?_
 show oZ p e below T2 (mkF m 100 #[oA o0_, oI i1_, oA o2_, oJ j3_, .second, oJ j5_, .second, oI i7_, oA o8_, oJ j9_, .second] []) _
 refine XS.lload X2.here hx rfl (oG hby d9 59 rfl) rfl ?_
 refine XS.lconst X2.here hx rfl (oG hby d9 60 rfl) ?_
 show oZ p e below T2 (mkF m 103 #[oA o0_, oI i1_, oA o2_, oJ j3_, .second, oJ j5_, .second, oI i7_, oA o8_, oJ j9_, .second] [(.long 1), (.long j9_)]) _
 refine XS.ladd X2.here hx rfl (oG hby d9 61 rfl) rfl ?_
 show oZ p e below T2 (mkF m 104 #[oA o0_, oI i1_, oA o2_, oJ j3_, .second, oJ j5_, .second, oI i7_, oA o8_, oJ j9_, .second] [(.long (j9_ + (1 : Int64)))]) _
 rw [hf3]
 refine XS.lstore X2.here hx rfl (oG hby d9 62 rfl) rfl (l' := #[oA o0_, oI i1_, oA o2_, oJ j3_, .second, oJ j5_, .second, oI i7_, oA o8_, oJ jj_, .second]) rfl ?_
 refine XS.goto X2.here hx rfl (pc0 := 106) (pc' := 74) rfl (oG hby d9 63 rfl) (by decide) (by decide) ?_
 exact kt
theorem own_rd_E (rc : Nat) (rs : Nat) (o0_ : Addr) (i1_ : Int32) (o2_ : Addr) (j3_ : Int64) (j5_ : Int64) (i7_ : Int32) (o8_ : Addr) (j9_ : Int64) (n_o2_ : Int32) (vs_o2_ : List Int32) (o4_ : Addr) (b_ : Int32) (vs_ : List Int32) (cnt_ : Nat) (ch_ : Addr) (bs_ : Addr) (wd_ : Addr) (n_ : Int32) (us_ : Value) (st_ : own_St)
   (X0 : Stand p l e (oR 7 rc rs 200) s m args below meth c T0 locs cells slots) (hx : p.tables.exec = Jvm.exec) (hZ : Z.Warmed39 s.vm) (hw : oH a0 Z) (hby : c.code = prog_29_method_5_code) (hml : c.maxLocals = 11) (hown : s.vm.findClass oC0 = some m.cls) (e0 : T0.heap = h0) (N0 : Fr n0 locs) (Z0 : n0 ≤ h0.size) (A_o2_ : own_il Z h0 o2_ n_o2_ vs_o2_) (P_str : own_STR Z h0 o8_ ch_ bs_ wd_ n_ us_ st_) (RW_ : own_RW Z h0 n0 o0_ o2_ o4_ o8_ ch_ bs_ wd_ b_ vs_ cnt_) (OK_ : own_ok n_ st_) (E_o0_ : Exa Z h0 o0_ oC0) (g_o8_ : n0 ≤ o8_) (g_ch_ : n0 ≤ ch_) (g_bs_ : n0 ≤ bs_) (g_wd_ : n0 ≤ wd_) (hf0 : (lcmpW j9_ j5_) < (0 : Int32)) (hf1 : n_o2_ = Int32.ofNat cnt_) (hf2 : ¬ ((own_out b_ n_ vs_ cnt_ 10 0 st_).2.1 = (0 : Int32))) (hc : cells + ((2 * (own_out b_ n_ vs_ cnt_ 10 0 st_).2.2)) ≤ rc) (hs : slots + ((11 * (own_out b_ n_ vs_ cnt_ 10 0 st_).2.2)) ≤ rs) :
   ∃ (T' : State) (locs' : List Loc), Stand p l e (oR 7 rc rs 200) s m args below meth c T' locs' (cells + (2 * (own_out b_ n_ vs_ cnt_ 10 0 st_).2.2)) (slots + (11 * (own_out b_ n_ vs_ cnt_ 10 0 st_).2.2)) ∧ Fr n0 locs' ∧ Keep h0 T'.heap [o8_, ch_, bs_, wd_] ∧ own_STR Z T'.heap o8_ ch_ bs_ wd_ n_ us_ (own_out b_ n_ vs_ cnt_ 10 0 st_).1 ∧
     ∀ target, Steps p.tables e below (T'.setTop (mkF m 94 #[oA o0_, oI i1_, oA o2_, oJ j3_, .second, oJ j5_, .second, oI i7_, oA o8_, oJ j9_, .second] [])) target → Steps p.tables e below (T0.setTop (mkF m 74 #[oA o0_, oI i1_, oA o2_, oJ j3_, .second, oJ j5_, .second, oI i7_, oA o8_, oJ j9_, .second] [])) target := by
 obtain ⟨c1, A1, S1, M1⟩ := own_il_cell A_o2_
 obtain ⟨cq2, q2, q2'⟩ := E_o0_.cell
 obtain ⟨_, _, ⟨T2, L2, k2, n2⟩, -, X2, ⟨Lc2, hQ2, l2, y2, z2⟩, st2⟩ := X0.privateBack hx (y := oM7) hown (mvT hZ (oW hw 130 rfl)) (mvT hZ (oW hw 131 rfl)) (own_selp (mvT hZ (oW hw 19 rfl)) (mvP hZ (oW hw 132 rfl) (args := #[])) (mvT hZ (oW hw 131 rfl)) (by decide)) (Cond.privateMethod_at (mvP hZ (oW hw 132 rfl) (args := #[]))) (mvT hZ (oW hw 133 rfl)) (by decide) (backOf (W := 0) (own_rowsD l Z a0 hw [] o0_ o2_ n_o2_ o8_ ch_ bs_ wd_ n_ us_ st_ o4_ b_ vs_ cnt_ h0 n0 Z0 P_str RW_ OK_ hf1) hZ (oW hw 133 rfl) (oW hw 16 rfl) (Nat.le_of_ble_eq_true rfl) (Nat.le_of_ble_eq_true rfl)) (g := (mkF m 88 #[oA o0_, oI i1_, oA o2_, oJ j3_, .second, oJ j5_, .second, oI i7_, oA o8_, oJ j9_, .second] [(.ref o8_), (.int n_o2_), (.ref o2_), (.ref o0_)])) rfl (by rw [hml]; rfl) (Steps.refl _) (a := o0_) (by rw [e0]; exact q2) q2' (argsL := [(.ref o2_), (.int n_o2_), (.ref o8_)]) (rest := []) (lenOf own_pd13 rfl) rfl (by show 2 * 0 + _ ≤ _; exact Nat.le_of_eq rfl) (oG hby d9 54 rfl) (fun _ _ => ⟨rfl, e0, (show cells + (2 * (own_out b_ n_ vs_ cnt_ 10 0 st_).2.2) ≤ rc from by omega), (show slots + (11 * (own_out b_ n_ vs_ cnt_ 10 0 st_).2.2) ≤ rs from by omega)⟩)
 dsimp only [Pt.U, Pt.locs, Pt.cells, Pt.slots] at X2 l2 y2 z2 st2 hQ2
 subst l2; rw [y2, z2] at X2
 obtain ⟨rfl, N2q, Kq2, Q2_0⟩ := hQ2
 have N2 := Fr.app N0 N2q
 have K2 : Keep h0 T2.heap [o8_, ch_, bs_, wd_] := (Keep.refl h0 [o8_, ch_, bs_, wd_]).trans Kq2 (own_a4 (Or.inl (oX 0 rfl)) (Or.inl (oX 1 rfl)) (Or.inl (oX 2 rfl)) (Or.inl (oX 3 rfl)))
 refine ⟨T2, _, own_same X2 (by omega) (by omega), N2, K2, Q2_0, fun target kt => ?_⟩
 show oZ p e below T0 (mkF m 74 #[oA o0_, oI i1_, oA o2_, oJ j3_, .second, oJ j5_, .second, oI i7_, oA o8_, oJ j9_, .second] []) _
 refine XS.lload X0.here hx rfl (oG hby d9 45 rfl) rfl ?_
 refine XS.lload X0.here hx rfl (oG hby d9 46 rfl) rfl ?_
 refine XS.lcmp X0.here hx rfl (oG hby d9 47 rfl) rfl ?_
 refine XS.ifNo X0.here hx rfl (oG hby d9 48 rfl) rfl ((if0 _ _).trans (tlt hf0).2.1) ?_
 refine XS.aloadN X0.here hx rfl (oG hby d9 49 rfl) rfl rfl ?_
 refine XS.aloadN X0.here hx rfl (oG hby d9 50 rfl) rfl rfl ?_
 refine XS.aloadN X0.here hx rfl (oG hby d9 51 rfl) rfl rfl ?_
 refine X0.arraylength hx (by rw [e0]; exact A1.1) (State.isArrayOf_alike hZ.alike A1.2.1) (g := (mkF m 85 #[oA o0_, oI i1_, oA o2_, oJ j3_, .second, oJ j5_, .second, oI i7_, oA o8_, oJ j9_, .second] [(.ref o2_), (.ref o2_), (.ref o0_)])) rfl rfl (oG hby d9 52 rfl) _ ?_
 rw [len_of S1 M1]
 refine XS.aload X0.here hx rfl (oG hby d9 53 rfl) rfl rfl ?_
 refine st2.trans ?_
 refine XS.ifNo X2.here hx rfl (oG hby d9 55 rfl) rfl ((if0 _ _).trans (feq hf2).1) ?_
 exact kt
section OwnShared
theorem own_of64_toInt {i : Nat} (h : i < 2 ^ 31) : (Int64.ofNat i).toInt = i := Int64.toInt_ofNat_of_lt (by omega)
theorem own_of64_lt {i c : Nat} (h : i < c) (hc : c < 2 ^ 31) : Int64.ofNat i < Int64.ofNat c := by
 rw [Int64.lt_iff_toInt_lt, own_of64_toInt (by omega), own_of64_toInt hc]; omega
theorem own_of64_succ (i : Nat) : (Int64.ofNat i + (1 : Int64)) = Int64.ofNat (i + 1) := by
 rw [Int64.ofNat_add]; rfl
def own_rd (b n : Int32) (vs : List Int32) (cnt : Nat) : Nat → own_St → Int32 × Nat
 | 0, _ => (0, 0)
 | k + 1, st => if (own_out b n vs cnt 10 0 st).2.1 = 0 then ((own_rd b n vs cnt k (own_out b n vs cnt 10 0 st).1).1, (own_out b n vs cnt 10 0 st).2.2 + (own_rd b n vs cnt k (own_out b n vs cnt 10 0 st).1).2) else (1, (own_out b n vs cnt 10 0 st).2.2)
theorem own_out_ok {b n : Int32} {vs : List Int32} {cnt : Nat} (hin : ∀ (k i : Nat) (row : Int32) (st : own_St), own_ok n st → (own_in b n row vs k i st).2.1 = 0 → own_ok n (own_in b n row vs k i st).1) : ∀ (k i : Nat) (st : own_St), own_ok n st → (own_out b n vs cnt k i st).2.1 = 0 → own_ok n (own_out b n vs cnt k i st).1 := by
 intro k
 induction k with
 | zero => intro i st h _; exact h
 | succ k ih =>
   intro i st h h0
   by_cases q : (own_in b n (own_rowsL.getD i 0) vs cnt 0 st).2.1 = 0
   · rw [own_out, if_pos q] at h0 ⊢
     exact ih _ _ (hin _ _ _ _ h q) h0
   · rw [own_out, if_neg q] at h0; exact absurd (show (1 : Int32) = 0 from h0) (by decide)
theorem own_in_ok {b n : Int32} {vs : List Int32} : ∀ (k i : Nat) (row : Int32) (st : own_St), own_ok n st → (own_in b n row vs k i st).2.1 = 0 → own_ok n (own_in b n row vs k i st).1 := by
 intro k
 induction k with
 | zero => intro i row st h _; exact h
 | succ k ih =>
   intro i row st h h0
   by_cases q1 : own_bk b (vs.getD i 0) row < (0 : Int32)
   · rw [own_in, if_pos q1] at h0 ⊢
     exact ih _ _ _ h h0
   · by_cases q2 : (own_off n (own_bk b (vs.getD i 0) row) st).2 = (0 : Int32)
     · rw [own_in, if_neg q1, if_pos q2] at h0 ⊢
       exact ih _ _ _ (own_off_ok h q2) h0
     · rw [own_in, if_neg q1, if_neg q2] at h0; exact absurd (show (1 : Int32) = 0 from h0) (by decide)
theorem own_rounds {p : Program} {l : Launch} {e : Env} {s : State} {m : MethodId} {args : Array Value} {below : List Frame} {meth : Method} {c : Code} {Z : State} {a0 : Array Value} {n0 : Nat} {rc rs : Nat} {o0 o2 o8 o4 ch bs wd : Addr} {i1 i7 b n : Int32} {j3 : Int64} {us : Value} {vs : List Int32} {cnt R : Nat}
   (hx : p.tables.exec = Jvm.exec) (hZ : Z.Warmed39 s.vm) (hw : oH a0 Z) (hby : c.code = prog_29_method_5_code) (hml : c.maxLocals = 11) (hown : s.vm.findClass oC0 = some m.cls) (hR : R < 1000) :
   ∀ (k i : Nat) (st : own_St) (T0 : State) (locs : List Loc) (cells slots : Nat), i + k = R → own_ok n st → (own_rd b n vs cnt k st).1 = 1 →
     Stand p l e (oR 7 rc rs 200) s m args below meth c T0 locs cells slots → Fr n0 locs → n0 ≤ T0.heap.size → own_RW Z T0.heap n0 o0 o2 o4 o8 ch bs wd b vs cnt → own_STR Z T0.heap o8 ch bs wd n us st →
     cells + 2 * (own_rd b n vs cnt k st).2 ≤ rc → slots + 11 * (own_rd b n vs cnt k st).2 ≤ rs →
     ∃ (T' : State) (locs' : List Loc) (r' : Int64) (st' : own_St), Stand p l e (oR 7 rc rs 200) s m args below meth c T' locs' (cells + 2 * (own_rd b n vs cnt k st).2) (slots + 11 * (own_rd b n vs cnt k st).2) ∧ Fr n0 locs' ∧ Keep T0.heap T'.heap [o8, ch, bs, wd] ∧ own_STR Z T'.heap o8 ch bs wd n us st' ∧
     ∀ target, Steps p.tables e below (T'.setTop (mkF m 94 #[oA o0, oI i1, oA o2, oJ j3, .second, oJ (Int64.ofNat R), .second, oI i7, oA o8, oJ r', .second] [])) target →
       Steps p.tables e below (T0.setTop (mkF m 74 #[oA o0, oI i1, oA o2, oJ j3, .second, oJ (Int64.ofNat R), .second, oI i7, oA o8, oJ (Int64.ofNat i), .second] [])) target := by
 intro k
 induction k with
 | zero => intro i st T0 locs cells slots hik hok h1; exact absurd (show (0 : Int32) = 1 from h1) (by decide)
 | succ k ih =>
   intro i st T0 locs cells slots hik hok h1 X N Z0 Y S hc hs
   have hlt := (own_lcB _ _).mpr (own_of64_lt (i := i) (c := R) (by omega) (by omega))
   have G := Y.2.2.1.1
   by_cases q : (own_out b n vs cnt 10 0 st).2.1 = 0
   · have eqk : own_rd b n vs cnt (k + 1) st = ((own_rd b n vs cnt k (own_out b n vs cnt 10 0 st).1).1, (own_out b n vs cnt 10 0 st).2.2 + (own_rd b n vs cnt k (own_out b n vs cnt 10 0 st).1).2) := by rw [own_rd, if_pos q]
     rw [eqk] at hc hs h1 ⊢
     dsimp only at hc hs h1 ⊢
     obtain ⟨T1, L1, X1, N1, K1, S1, st1⟩ := own_rd_R (o0_ := o0) (i1_ := i1) (o2_ := o2) (j3_ := j3) (j5_ := Int64.ofNat R) (i7_ := i7) (o8_ := o8) (j9_ := Int64.ofNat i) (n_o2_ := Int32.ofNat cnt) (vs_o2_ := vs) (o4_ := o4) (b_ := b) (vs_ := vs) (cnt_ := cnt) (ch_ := ch) (bs_ := bs) (wd_ := wd) (n_ := n) (us_ := us) (st_ := st) (jj_ := Int64.ofNat (i + 1)) rc rs X hx hZ hw hby hml hown rfl N Z0 Y.2.1.2.2.1 S Y hok Y.2.1.1 G.1 G.2.1 G.2.2.1 G.2.2.2 hlt rfl q (own_of64_succ i) (by omega) (by omega)
     obtain ⟨T', L', r', st', X', N', K', S', stp'⟩ := ih (i + 1) _ T1 L1 _ _ (by omega) (own_out_ok own_in_ok 10 0 st hok q) h1 X1 N1 (Nat.le_trans Z0 K1.1) (Y.keep K1 S) S1 (by omega) (by omega)
     exact ⟨T', L', r', st', own_same X' (by omega) (by omega), N', own_keep_step K1 K' (fun x hx => hx), S', fun target kt => st1 _ (stp' _ kt)⟩
   · have eqk : own_rd b n vs cnt (k + 1) st = (1, (own_out b n vs cnt 10 0 st).2.2) := by rw [own_rd, if_neg q]
     rw [eqk] at hc hs ⊢
     dsimp only at hc hs ⊢
     obtain ⟨T1, L1, X1, N1, K1, S1, st1⟩ := own_rd_E (o0_ := o0) (i1_ := i1) (o2_ := o2) (j3_ := j3) (j5_ := Int64.ofNat R) (i7_ := i7) (o8_ := o8) (j9_ := Int64.ofNat i) (n_o2_ := Int32.ofNat cnt) (vs_o2_ := vs) (o4_ := o4) (b_ := b) (vs_ := vs) (cnt_ := cnt) (ch_ := ch) (bs_ := bs) (wd_ := wd) (n_ := n) (us_ := us) (st_ := st) rc rs X hx hZ hw hby hml hown rfl N Z0 Y.2.1.2.2.1 S Y hok Y.2.1.1 G.1 G.2.1 G.2.2.1 G.2.2.2 hlt rfl q (by omega) (by omega)
     exact ⟨T1, L1, _, _, X1, N1, K1, S1, st1⟩
def own_swOK (b n pl : Int32) (L R calls : Nat) : Prop :=
 own_pairs L L ∧ ¬ (b.toInt64 = (0 : Int64)) ∧ own_hd b (Int32.ofNat L) (own_wl L L) (((10 : Int64) * (n.toInt64)) - ((((10 : Int64) * (n.toInt64)) / (b.toInt64)) * (b.toInt64))) L 0 0 = true ∧ ¬ (n < 0) ∧ n.toNatClampNeg ≤ 32 ∧ ¬ (b < (0 : Int32)) ∧ (((b - (1 : Int32)) >>> ((6 : Int32) &&& 31)) + (1 : Int32)) = (1 : Int32) ∧
 (((10 : Int64) * (n.toInt64)) / (b.toInt64)) = Int64.ofNat R ∧ R < 1000 ∧ (own_rd b n (own_wl L L) L R (((pl.toInt64) * (n.toInt64)), 0, 0, 0)).1 = 1 ∧ (own_rd b n (own_wl L L) L R (((pl.toInt64) * (n.toInt64)), 0, 0, 0)).2 ≤ calls ∧ (0 : Int32) < n
def own_SUB (Z : State) (h : Heap) (o : Addr) (b n : Int32) (L : Nat) (ft : Int32) : Prop :=
 Exa Z h o oC0 ∧ Fld Z h o oC0 "backends" "I" (.int b) ∧ Fld Z h o oC0 "subsetSize" "I" (.int n) ∧ Fld Z h o oC0 "lots" "I" (.int (Int32.ofNat L)) ∧ Fld Z h o oC0 "ringBits" "I" (.int (own_rb L)) ∧ Fld Z h o oC0 "fitsInARow" "Z" (.int ft)
def own_SR (Z : State) (h : Heap) (o4 : Addr) : Prop :=
 Sta Z h oC0 "START_ROWS" "[I" (.ref o4) ∧ own_il Z h o4 10 [0, 8, 2, 4, 6, 1, 9, 5, 3, 7] ∧ Sta Z h oC2 "$assertionsDisabled" "Z" (.int 1)
def own_QC (Z : State) (n : Int32) (h0 : Heap) (n0 : Nat) (v : Option Value) (h : Heap) (L : List Loc) : Prop := ∃ r : Addr, v = some (.ref r) ∧ Fr n0 L ∧ Keep h0 h [] ∧ h0.size ≤ r ∧ own_ia Z h r n
theorem own_lots_wl (L c : Nat) : own_lots (own_wl L c) := by
 intro i
 have key : ∀ (l : List Int32), (∀ x ∈ l, x = 0 ∨ x = 1 ∨ x = 2 ∨ x = 3) → (l.getD i 0 = 0 ∨ l.getD i 0 = 1 ∨ l.getD i 0 = 2 ∨ l.getD i 0 = 3) := by
   intro l hl
   rw [List.getD_eq_getElem?_getD]
   cases q : l[i]? with
   | none => exact Or.inl rfl
   | some v => exact hl v (List.mem_of_getElem? q)
 refine key _ fun x hx => ?_
 have hx' := List.mem_of_mem_take hx
 split at hx'
 · simp at hx'; rcases hx' with rfl | rfl <;> decide
 · split at hx'
   · simp at hx'; rcases hx' with rfl | rfl | rfl <;> decide
   · simp at hx'; rcases hx' with rfl | rfl | rfl | rfl <;> decide
theorem own_swC (l : Launch) (Z : State) (a0 : Array Value) (hw : oH a0 Z) (ws : List Jvm.Cond) (o0 : Addr) (pl : Int32) (o4 : Addr) (b n ft : Int32) (L R calls : Nat) (h0 : Heap) (n0 : Nat) (Z0 : n0 ≤ h0.size)
   (U : own_SUB Z h0 o0 b n L ft) (Y : own_SR Z h0 o4) (ok : own_swOK b n pl L R calls) :
   oMet l oM31 prog_29_method_5_code 11 (some (.array .int)) ws (oR 7 (5 + 2 * calls) (44 + 11 * calls) 200) Z h0 #[(.ref o0), (.int pl)] (own_QC Z n h0 n0) := by
 obtain ⟨k1, k2, k3, k4, k5, k6, k7, k8, k9, k10, k11, k12⟩ := ok
 obtain ⟨u1, u2, u3, u4, u5, u6⟩ := U
 refine oBd n0 (plainFor_of_name own_pn4) ?_
 intro p e s m below meth c s₁ Bd hx hZ hby hml hown hnm X0 e0 N0
 have hL : L < 1000 := by rcases k1 with ⟨rfl, _⟩ | ⟨rfl, _⟩ | ⟨rfl, _⟩ | ⟨rfl, _⟩ <;> decide
 obtain ⟨od, sp, ch, bs, wd, z, T1, L1, X1, N1, K1, g1, g2, g3, g4, g5, m1, m2, m3, m4, m5, m6, m7, m8, m9, m10, A1, E1, F1, F2, F3, F4, -, A2, E2, F5, F6, F7, -, A3, st1⟩ := own_sw (o0_ := o0) (i1_ := pl) (f_lots_o0_ := Int32.ofNat L) (lx_ := L) (cx_ := L) (f_ringBits_o0_ := own_rb L) (f_subsetSize_o0_ := n) (f_backends_o0_ := b) (5 + 2 * calls) (44 + 11 * calls) X0 hx hZ hw hby hml hown e0 N0 Z0 u4 u5 u1 u3 u2 rfl rfl rfl k1 k2 rfl hL k3 k4 k5 k6 k7 (by omega) (by omega)
 rw [k8] at st1
 have S : own_STR Z T1.heap sp ch bs wd n _ (((pl.toInt64) * (n.toInt64)), (0 : Int32), (0 : Int32), (0 : Int64)) := ⟨E1, F1, F2, F4, F3, A2, E2, F6, F7, F5, A3⟩
 have fr : ∀ x, x < h0.size → x ∉ [sp, ch, bs, wd] := fun x hx => own_n4 (Nat.ne_of_lt (Nat.lt_of_lt_of_le hx g2)) (Nat.ne_of_lt (Nat.lt_of_lt_of_le hx g3)) (Nat.ne_of_lt (Nat.lt_of_lt_of_le hx g4)) (Nat.ne_of_lt (Nat.lt_of_lt_of_le hx g5))
 have W : own_RW Z T1.heap n0 o0 od o4 sp ch bs wd b (own_wl L L) L := ⟨Y.1.ext (own_ext K1), ⟨u1.ext (own_ext K1), u2.ext (own_ext K1), A1, Y.2.1.ext (own_ext K1), Y.2.2.ext (own_ext K1)⟩, ⟨⟨Nat.le_trans Z0 g2, Nat.le_trans Z0 g3, Nat.le_trans Z0 g4, Nat.le_trans Z0 g5⟩, m3, m5, m8, m6, m9, m10⟩, ⟨fr _ u1.lt, own_n4 m1 m2 m4 m7, fr _ Y.2.1.lt⟩, own_lots_wl L L, hL⟩
 have ok0 : own_ok n (((pl.toInt64) * (n.toInt64)), (0 : Int32), (0 : Int32), (0 : Int64)) := ⟨(by decide : ¬ ((0 : Int32) < 0)), k12, Or.inl rfl⟩
 obtain ⟨T2, L2, r2, st2, X2, N2, K2, S2, stp2⟩ := own_rounds (i1 := pl) (i7 := z) (j3 := ((10 : Int64) * (n.toInt64))) hx hZ hw hby hml hown k9 R 0 _ T1 L1 _ _ (by omega) ok0 k10 X1 N1 (Nat.le_trans Z0 K1.1) W S (by omega) (by omega)
 obtain ⟨T3, L3, X3, N3, e3, st3⟩ := own_sw_G (o0_ := o0) (i1_ := pl) (o2_ := od) (j3_ := ((10 : Int64) * (n.toInt64))) (j5_ := Int64.ofNat R) (i7_ := z) (o8_ := sp) (j9_ := r2) (f_chosen_o8_ := ch) (5 + 2 * calls) (44 + 11 * calls) X2 hx hZ hw hby hml hown rfl N2 (Nat.le_trans (Nat.le_trans Z0 K1.1) K2.1) S2.2.2.1 (by omega) (by omega)
 obtain ⟨fs, hr, hrun, hended, hW, hsame⟩ := X3.leave (v := some (.ref ch)) (fun h => by rw [Bd.returns] at h; cases h)
 refine ⟨_, _, castTop (own_ef24 m o0 pl) (st1 _ (stp2 _ (st3 _ ?_))), hrun, hended, _, _, rfl, ⟨ch, rfl, N3, ?_, g3, ?_⟩, ⟨_, rfl⟩, hW, hsame.mono (show 0 + (1 + 1 + 3) + 2 * (own_rd b n (own_wl L L) L R (((pl.toInt64) * (n.toInt64)), 0, 0, 0)).2 ≤ 5 + 2 * calls by omega) (show 0 + (4 + 4 + 36) + 11 * (own_rd b n (own_wl L L) L R (((pl.toInt64) * (n.toInt64)), 0, 0, 0)).2 ≤ 44 + 11 * calls by omega)⟩
 · jvm_step X3.here [X3.here.top, hx, (oG hby d9 58 rfl), X3.method', Bd.returns, Value.isRef, FieldType.isReference]
   first | (intro acts; rw [hr _ acts rfl rfl rfl]) | rw [hr _ _ rfl rfl rfl]
   exact Steps.refl _
 · show Keep h0 T3.heap []
   rw [e3]; exact K1.trans K2 (own_a4 (Or.inr g2) (Or.inr g3) (Or.inr g4) (Or.inr g5))
 · show own_ia Z T3.heap ch n
   rw [e3]; exact S2.2.2.2.2.2.1
end OwnShared

theorem own_tr_S (rc : Nat) (rs : Nat) (o0_ : Addr) (o2_ : Addr) (i3_ : Int32) (o4_ : Addr) (i5_ : Int32) 
   (X0 : Stand p l e (oR 5 rc rs 130) s m args below meth c T0 locs cells slots) (hx : p.tables.exec = Jvm.exec) (hZ : Z.Warmed39 s.vm) (hw : oH a0 Z) (hby : c.code = prog_29_method_9_code) (hml : c.maxLocals = 9) (hown : s.vm.findClass oC0 = some m.cls) (e0 : T0.heap = h0) (N0 : Fr n0 locs) (Z0 : n0 ≤ h0.size) (hc : cells + (0) ≤ rc) (hs : slots + (0) ≤ rs) :
   ∃ (T' : State) (locs' : List Loc), Stand p l e (oR 5 rc rs 130) s m args below meth c T' locs' cells slots ∧ Fr n0 locs' ∧ T'.heap = h0 ∧
     ∀ target, Steps p.tables e below (T'.setTop (mkF m 7 #[oA o0_, oI 0, oA o2_, oI i3_, oA o4_, oI i5_, oI i5_, oI 0, .unset] [])) target → Steps p.tables e below (T0.setTop (mkF m 0 #[oA o0_, oI 0, oA o2_, oI i3_, oA o4_, oI i5_, .unset, .unset, .unset] [])) target := by
 refine ⟨T0, _, X0, N0, e0, fun target kt => ?_⟩
 show oZ p e below T0 (mkF m 0 #[oA o0_, oI 0, oA o2_, oI i3_, oA o4_, oI i5_, .unset, .unset, .unset] []) _
 refine XS.iload X0.here hx rfl (oG hby d46 0 rfl) rfl ?_
 refine XS.istore X0.here hx rfl (oG hby d46 1 rfl) rfl (l' := #[oA o0_, oI 0, oA o2_, oI i3_, oA o4_, oI i5_, oI i5_, .unset, .unset]) rfl ?_
 refine XS.iconst X0.here hx rfl (oG hby d46 2 rfl) ?_
 refine XS.istore X0.here hx rfl (oG hby d46 3 rfl) rfl (l' := #[oA o0_, oI 0, oA o2_, oI i3_, oA o4_, oI i5_, oI i5_, oI 0, .unset]) rfl ?_
 exact kt
theorem own_tr_P (rc : Nat) (rs : Nat) (o0_ : Addr) (o2_ : Addr) (i3_ : Int32) (o4_ : Addr) (i5_ : Int32) (i6_ : Int32) (i7_ : Int32) (s8_ : Slot) (n_o2_ : Int32) (vs_o2_ : List Int32) (f_subsetSize_o0_ : Int32) (f_backends_o0_ : Int32) (x_ : Int32) (j_ : Int32)
   (X0 : Stand p l e (oR 5 rc rs 130) s m args below meth c T0 locs cells slots) (hx : p.tables.exec = Jvm.exec) (hZ : Z.Warmed39 s.vm) (hw : oH a0 Z) (hby : c.code = prog_29_method_9_code) (hml : c.maxLocals = 9) (hown : s.vm.findClass oC0 = some m.cls) (e0 : T0.heap = h0) (N0 : Fr n0 locs) (Z0 : n0 ≤ h0.size) (A_o2_ : own_il Z h0 o2_ n_o2_ vs_o2_) (F_subsetSize_o0_ : Fld Z h0 o0_ oC0 "subsetSize" "I" (.int f_subsetSize_o0_)) (F_backends_o0_ : Fld Z h0 o0_ oC0 "backends" "I" (.int f_backends_o0_)) (E_o0_ : Exa Z h0 o0_ oC0) (H_s8_ : (s8_ = .unset ∨ ∃ z : Int32, s8_ = oI z)) (hf0 : i7_ < n_o2_) (hf1 : i6_ < f_subsetSize_o0_) (hf2 : ¬ (i7_ < 0)) (hf3 : (vs_o2_.getD (i7_).toNatClampNeg 0) = 0 ∨ (vs_o2_.getD (i7_).toNatClampNeg 0) = 1 ∨ (vs_o2_.getD (i7_).toNatClampNeg 0) = 2 ∨ (vs_o2_.getD (i7_).toNatClampNeg 0) = 3) (hf4 : ¬ (i3_ < 0)) (hf5 : i3_ < (10 : Int32)) (hf6 : (own_bk f_backends_o0_ (vs_o2_.getD (i7_).toNatClampNeg 0) i3_) = x_) (hf7 : x_ < (0 : Int32)) (hf8 : (i7_ + (1 : Int32)) = j_) (hc : cells + (2) ≤ rc) (hs : slots + (11) ≤ rs) :
   ∃ (T' : State) (locs' : List Loc), Stand p l e (oR 5 rc rs 130) s m args below meth c T' locs' (cells + 2) (slots + 11) ∧ Fr n0 locs' ∧ Keep h0 T'.heap [] ∧
     ∀ target, Steps p.tables e below (T'.setTop (mkF m 7 #[oA o0_, oI 0, oA o2_, oI i3_, oA o4_, oI i5_, oI i6_, oI j_, oI x_] [])) target → Steps p.tables e below (T0.setTop (mkF m 7 #[oA o0_, oI 0, oA o2_, oI i3_, oA o4_, oI i5_, oI i6_, oI i7_, s8_] [])) target := by
 obtain ⟨c1, A1, S1, M1⟩ := own_il_cell A_o2_
 obtain ⟨T2, X2, e2, st2⟩ := getF X0 hx hZ hown (host := "") (Or.inl (oW hw 26 rfl)) Via.refl e0 F_subsetSize_o0_ (g := (mkF m 17 #[oA o0_, oI 0, oA o2_, oI i3_, oA o4_, oI i5_, oI i6_, oI i7_, s8_] [(.ref o0_), (.int i6_)])) rfl rfl (oG hby d46 10 rfl)
 obtain ⟨c3, A3, hin3, hat3⟩ := own_il_at (j := i7_) A_o2_ hf2 hf0
 have hat3' : c3.slots[(i7_).toNatClampNeg]? = some (.int (vs_o2_.getD (i7_).toNatClampNeg 0)) := hat3
 obtain ⟨cq4, q4, q4'⟩ := E_o0_.cell
 obtain ⟨_, _, ⟨T4, L4, k4, n4⟩, -, X4, ⟨Lc4, hQ4, l4, y4, z4⟩, st4⟩ := X2.privateBack hx (y := oM2) hown (mvT hZ (oW hw 136 rfl)) (mvT hZ (oW hw 137 rfl)) (own_selp (mvT hZ (oW hw 19 rfl)) (mvP hZ (oW hw 138 rfl) (args := #[])) (mvT hZ (oW hw 137 rfl)) (by decide)) (Cond.privateMethod_at (mvP hZ (oW hw 138 rfl) (args := #[]))) (mvT hZ (oW hw 139 rfl)) (by decide) (backOf (W := 0) (own_back l Z a0 hw [] o0_ (vs_o2_.getD (i7_).toNatClampNeg 0) i3_ f_backends_o0_ h0 n0 Z0 F_backends_o0_ hf3 hf4 hf5) hZ (oW hw 139 rfl) (oW hw 16 rfl) (Nat.le_of_ble_eq_true rfl) (Nat.le_of_ble_eq_true rfl)) (g := (mkF m 30 #[oA o0_, oI 0, oA o2_, oI i3_, oA o4_, oI i5_, oI i6_, oI i7_, s8_] [(.int i3_), (.int (vs_o2_.getD (i7_).toNatClampNeg 0)), (.int 0), (.ref o0_)])) rfl (by rw [hml]; rfl) (Steps.refl _) (a := o0_) (by rw [e2]; exact q4) q4' (argsL := [(.int 0), (.int (vs_o2_.getD (i7_).toNatClampNeg 0)), (.int i3_)]) (rest := []) (lenOf own_pd9 rfl) rfl (by show 2 * 0 + _ ≤ _; exact Nat.le_of_eq rfl) (oG hby d46 18 rfl) (fun _ _ => ⟨rfl, e2, (show cells + 2 ≤ rc from by omega), (show slots + 11 ≤ rs from by omega)⟩)
 dsimp only [Pt.U, Pt.locs, Pt.cells, Pt.slots] at X4 l4 y4 z4 st4 hQ4
 subst l4; rw [y4, z4] at X4
 obtain ⟨rfl, N4q, Kq4⟩ := hQ4
 have N4 := Fr.app N0 N4q
 have K4 : Keep h0 T4.heap [] := (Keep.refl h0 []).trans Kq4 own_a0
 refine ⟨T4, _, own_same X4 (by omega) (by omega), N4, K4, fun target kt => ?_⟩
 show oZ p e below T0 (mkF m 7 #[oA o0_, oI 0, oA o2_, oI i3_, oA o4_, oI i5_, oI i6_, oI i7_, s8_] []) _
 refine XS.iload X0.here hx rfl (oG hby d46 4 rfl) rfl ?_
 refine XS.aloadN X0.here hx rfl (oG hby d46 5 rfl) rfl rfl ?_
 refine X0.arraylength hx (by rw [e0]; exact A1.1) (State.isArrayOf_alike hZ.alike A1.2.1) (g := (mkF m 10 #[oA o0_, oI 0, oA o2_, oI i3_, oA o4_, oI i5_, oI i6_, oI i7_, s8_] [(.ref o2_), (.int i7_)])) rfl rfl (oG hby d46 6 rfl) _ ?_
 rw [len_of S1 M1]
 refine XS.icmpNo X0.here hx rfl (oG hby d46 7 rfl) rfl (tlt hf0).2.1 ?_
 refine XS.iload X0.here hx rfl (oG hby d46 8 rfl) rfl ?_
 refine XS.aloadN X0.here hx rfl (oG hby d46 9 rfl) rfl rfl ?_
 refine st2 _ ?_
 refine XS.icmpNo X2.here hx rfl (oG hby d46 11 rfl) rfl (tlt hf1).2.1 ?_
 refine XS.aloadN X2.here hx rfl (oG hby d46 12 rfl) rfl rfl ?_
 refine XS.iloadN X2.here hx rfl (oG hby d46 13 rfl) rfl ?_
 refine XS.aloadN X2.here hx rfl (oG hby d46 14 rfl) rfl rfl ?_
 show oZ p e below T2 (mkF m 26 #[oA o0_, oI 0, oA o2_, oI i3_, oA o4_, oI i5_, oI i6_, oI i7_, s8_] [(.ref o2_), (.int 0), (.ref o0_)]) _
 refine XS.iload X2.here hx rfl (oG hby d46 15 rfl) rfl ?_
 refine X2.iaload hx (j := i7_) (v := (.int (vs_o2_.getD (i7_).toNatClampNeg 0))) (by rw [e2]; exact A3.1) (State.isArrayOf_alike hZ.alike A3.2.1) A3.2.2 hin3 hat3' (g := (mkF m 28 #[oA o0_, oI 0, oA o2_, oI i3_, oA o4_, oI i5_, oI i6_, oI i7_, s8_] [(.int i7_), (.ref o2_), (.int 0), (.ref o0_)])) rfl rfl (oG hby d46 16 rfl) _ ?_
 refine XS.iloadN X2.here hx rfl (oG hby d46 17 rfl) rfl ?_
 refine st4.trans ?_
 show oZ p e below T4 (mkF m 33 #[oA o0_, oI 0, oA o2_, oI i3_, oA o4_, oI i5_, oI i6_, oI i7_, s8_] [(.int (own_bk f_backends_o0_ (vs_o2_.getD (i7_).toNatClampNeg 0) i3_))]) _
 rw [hf6]
 refine XS.istore X4.here hx rfl (oG hby d46 19 rfl) rfl (l' := #[oA o0_, oI 0, oA o2_, oI i3_, oA o4_, oI i5_, oI i6_, oI i7_, oI x_]) (by rcases H_s8_ with rfl | ⟨_, rfl⟩ <;> rfl) ?_
 refine XS.iload X4.here hx rfl (oG hby d46 20 rfl) rfl ?_
 refine XS.ifYes X4.here hx rfl (pc0 := 37) (pc' := 50) rfl (oG hby d46 21 rfl) rfl ((if0 _ _).trans (tlt hf7).1) (by decide) (by decide) ?_
 refine XS.iinc X4.here hx rfl (oG hby d46 27 rfl) rfl (l' := #[oA o0_, oI 0, oA o2_, oI i3_, oA o4_, oI i5_, oI i6_, oI (i7_ + (1 : Int32)), oI x_]) rfl ?_
 show oZ p e below T4 (mkF m 53 #[oA o0_, oI 0, oA o2_, oI i3_, oA o4_, oI i5_, oI i6_, oI (i7_ + (1 : Int32)), oI x_] []) _
 rw [hf8]
 refine XS.goto X4.here hx rfl (pc0 := 53) (pc' := 7) rfl (oG hby d46 28 rfl) (by decide) (by decide) ?_
 exact kt
theorem own_tr_T (rc : Nat) (rs : Nat) (o0_ : Addr) (o2_ : Addr) (i3_ : Int32) (o4_ : Addr) (i5_ : Int32) (i6_ : Int32) (i7_ : Int32) (s8_ : Slot) (n_o2_ : Int32) (vs_o2_ : List Int32) (f_subsetSize_o0_ : Int32) (f_backends_o0_ : Int32) (x_ : Int32) (n_o4_ : Int32) (k_ : Int32) (j_ : Int32)
   (X0 : Stand p l e (oR 5 rc rs 130) s m args below meth c T0 locs cells slots) (hx : p.tables.exec = Jvm.exec) (hZ : Z.Warmed39 s.vm) (hw : oH a0 Z) (hby : c.code = prog_29_method_9_code) (hml : c.maxLocals = 9) (hown : s.vm.findClass oC0 = some m.cls) (e0 : T0.heap = h0) (N0 : Fr n0 locs) (Z0 : n0 ≤ h0.size) (A_o2_ : own_il Z h0 o2_ n_o2_ vs_o2_) (F_subsetSize_o0_ : Fld Z h0 o0_ oC0 "subsetSize" "I" (.int f_subsetSize_o0_)) (F_backends_o0_ : Fld Z h0 o0_ oC0 "backends" "I" (.int f_backends_o0_)) (E_o0_ : Exa Z h0 o0_ oC0) (H_s8_ : (s8_ = .unset ∨ ∃ z : Int32, s8_ = oI z)) (A_o4_ : own_ia Z h0 o4_ n_o4_) (g_o4_ : n0 ≤ o4_) (hf0 : i7_ < n_o2_) (hf1 : i6_ < f_subsetSize_o0_) (hf2 : ¬ (i7_ < 0)) (hf3 : (vs_o2_.getD (i7_).toNatClampNeg 0) = 0 ∨ (vs_o2_.getD (i7_).toNatClampNeg 0) = 1 ∨ (vs_o2_.getD (i7_).toNatClampNeg 0) = 2 ∨ (vs_o2_.getD (i7_).toNatClampNeg 0) = 3) (hf4 : ¬ (i3_ < 0)) (hf5 : i3_ < (10 : Int32)) (hf6 : (own_bk f_backends_o0_ (vs_o2_.getD (i7_).toNatClampNeg 0) i3_) = x_) (hf7 : ¬ (x_ < (0 : Int32))) (hf8 : ¬ (i6_ < 0)) (hf9 : i6_ < n_o4_) (hf10 : (i6_ + (1 : Int32)) = k_) (hf11 : (i7_ + (1 : Int32)) = j_) (hc : cells + (2) ≤ rc) (hs : slots + (11) ≤ rs) :
   ∃ (T' : State) (locs' : List Loc), Stand p l e (oR 5 rc rs 130) s m args below meth c T' locs' (cells + 2) (slots + 11) ∧ Fr n0 locs' ∧ Keep h0 T'.heap [o4_] ∧ own_ia Z T'.heap o4_ n_o4_ ∧
     ∀ target, Steps p.tables e below (T'.setTop (mkF m 7 #[oA o0_, oI 0, oA o2_, oI i3_, oA o4_, oI i5_, oI k_, oI j_, oI x_] [])) target → Steps p.tables e below (T0.setTop (mkF m 7 #[oA o0_, oI 0, oA o2_, oI i3_, oA o4_, oI i5_, oI i6_, oI i7_, s8_] [])) target := by
 obtain ⟨c1, A1, S1, M1⟩ := own_il_cell A_o2_
 obtain ⟨T2, X2, e2, st2⟩ := getF X0 hx hZ hown (host := "") (Or.inl (oW hw 26 rfl)) Via.refl e0 F_subsetSize_o0_ (g := (mkF m 17 #[oA o0_, oI 0, oA o2_, oI i3_, oA o4_, oI i5_, oI i6_, oI i7_, s8_] [(.ref o0_), (.int i6_)])) rfl rfl (oG hby d46 10 rfl)
 obtain ⟨c3, A3, hin3, hat3⟩ := own_il_at (j := i7_) A_o2_ hf2 hf0
 have hat3' : c3.slots[(i7_).toNatClampNeg]? = some (.int (vs_o2_.getD (i7_).toNatClampNeg 0)) := hat3
 obtain ⟨cq4, q4, q4'⟩ := E_o0_.cell
 obtain ⟨_, _, ⟨T4, L4, k4, n4⟩, -, X4, ⟨Lc4, hQ4, l4, y4, z4⟩, st4⟩ := X2.privateBack hx (y := oM2) hown (mvT hZ (oW hw 136 rfl)) (mvT hZ (oW hw 137 rfl)) (own_selp (mvT hZ (oW hw 19 rfl)) (mvP hZ (oW hw 138 rfl) (args := #[])) (mvT hZ (oW hw 137 rfl)) (by decide)) (Cond.privateMethod_at (mvP hZ (oW hw 138 rfl) (args := #[]))) (mvT hZ (oW hw 139 rfl)) (by decide) (backOf (W := 0) (own_back l Z a0 hw [] o0_ (vs_o2_.getD (i7_).toNatClampNeg 0) i3_ f_backends_o0_ h0 n0 Z0 F_backends_o0_ hf3 hf4 hf5) hZ (oW hw 139 rfl) (oW hw 16 rfl) (Nat.le_of_ble_eq_true rfl) (Nat.le_of_ble_eq_true rfl)) (g := (mkF m 30 #[oA o0_, oI 0, oA o2_, oI i3_, oA o4_, oI i5_, oI i6_, oI i7_, s8_] [(.int i3_), (.int (vs_o2_.getD (i7_).toNatClampNeg 0)), (.int 0), (.ref o0_)])) rfl (by rw [hml]; rfl) (Steps.refl _) (a := o0_) (by rw [e2]; exact q4) q4' (argsL := [(.int 0), (.int (vs_o2_.getD (i7_).toNatClampNeg 0)), (.int i3_)]) (rest := []) (lenOf own_pd9 rfl) rfl (by show 2 * 0 + _ ≤ _; exact Nat.le_of_eq rfl) (oG hby d46 18 rfl) (fun _ _ => ⟨rfl, e2, (show cells + 2 ≤ rc from by omega), (show slots + 11 ≤ rs from by omega)⟩)
 dsimp only [Pt.U, Pt.locs, Pt.cells, Pt.slots] at X4 l4 y4 z4 st4 hQ4
 subst l4; rw [y4, z4] at X4
 obtain ⟨rfl, N4q, Kq4⟩ := hQ4
 have N4 := Fr.app N0 N4q
 have K4 : Keep h0 T4.heap [o4_] := (Keep.refl h0 [o4_]).trans Kq4 own_a0
 have f5_o4_ := (A_o4_.keep Kq4 (own_n0 _))
 obtain ⟨c6, z6, A6, hin6, -⟩ := own_ia_at (j := i6_) f5_o4_ hf8 hf9
 obtain ⟨T7, h7, X7, e7, W7, st7⟩ := stI X4 hx hZ rfl A6 (j := i6_) hin6 (g := (mkF m 46 #[oA o0_, oI 0, oA o2_, oI i3_, oA o4_, oI i5_, oI i6_, oI i7_, oI x_] [(.int x_), (.int i6_), (.ref o4_)])) rfl rfl (oG hby d46 25 rfl)
 have V7 := own_ia_st f5_o4_ hf8 hf9 W7
 have K7 : Keep h0 h7 [o4_] := K4.wr W7 (Or.inl (oX 0 rfl))
 have N7 := Fr.snoc X7 N4 g_o4_
 subst e7
 refine ⟨T7, _, own_same X7 (by omega) (by omega), N7, K7, V7, fun target kt => ?_⟩
 show oZ p e below T0 (mkF m 7 #[oA o0_, oI 0, oA o2_, oI i3_, oA o4_, oI i5_, oI i6_, oI i7_, s8_] []) _
 refine XS.iload X0.here hx rfl (oG hby d46 4 rfl) rfl ?_
 refine XS.aloadN X0.here hx rfl (oG hby d46 5 rfl) rfl rfl ?_
 refine X0.arraylength hx (by rw [e0]; exact A1.1) (State.isArrayOf_alike hZ.alike A1.2.1) (g := (mkF m 10 #[oA o0_, oI 0, oA o2_, oI i3_, oA o4_, oI i5_, oI i6_, oI i7_, s8_] [(.ref o2_), (.int i7_)])) rfl rfl (oG hby d46 6 rfl) _ ?_
 rw [len_of S1 M1]
 refine XS.icmpNo X0.here hx rfl (oG hby d46 7 rfl) rfl (tlt hf0).2.1 ?_
 refine XS.iload X0.here hx rfl (oG hby d46 8 rfl) rfl ?_
 refine XS.aloadN X0.here hx rfl (oG hby d46 9 rfl) rfl rfl ?_
 refine st2 _ ?_
 refine XS.icmpNo X2.here hx rfl (oG hby d46 11 rfl) rfl (tlt hf1).2.1 ?_
 refine XS.aloadN X2.here hx rfl (oG hby d46 12 rfl) rfl rfl ?_
 refine XS.iloadN X2.here hx rfl (oG hby d46 13 rfl) rfl ?_
 refine XS.aloadN X2.here hx rfl (oG hby d46 14 rfl) rfl rfl ?_
 show oZ p e below T2 (mkF m 26 #[oA o0_, oI 0, oA o2_, oI i3_, oA o4_, oI i5_, oI i6_, oI i7_, s8_] [(.ref o2_), (.int 0), (.ref o0_)]) _
 refine XS.iload X2.here hx rfl (oG hby d46 15 rfl) rfl ?_
 refine X2.iaload hx (j := i7_) (v := (.int (vs_o2_.getD (i7_).toNatClampNeg 0))) (by rw [e2]; exact A3.1) (State.isArrayOf_alike hZ.alike A3.2.1) A3.2.2 hin3 hat3' (g := (mkF m 28 #[oA o0_, oI 0, oA o2_, oI i3_, oA o4_, oI i5_, oI i6_, oI i7_, s8_] [(.int i7_), (.ref o2_), (.int 0), (.ref o0_)])) rfl rfl (oG hby d46 16 rfl) _ ?_
 refine XS.iloadN X2.here hx rfl (oG hby d46 17 rfl) rfl ?_
 refine st4.trans ?_
 show oZ p e below T4 (mkF m 33 #[oA o0_, oI 0, oA o2_, oI i3_, oA o4_, oI i5_, oI i6_, oI i7_, s8_] [(.int (own_bk f_backends_o0_ (vs_o2_.getD (i7_).toNatClampNeg 0) i3_))]) _
 rw [hf6]
 refine XS.istore X4.here hx rfl (oG hby d46 19 rfl) rfl (l' := #[oA o0_, oI 0, oA o2_, oI i3_, oA o4_, oI i5_, oI i6_, oI i7_, oI x_]) (by rcases H_s8_ with rfl | ⟨_, rfl⟩ <;> rfl) ?_
 refine XS.iload X4.here hx rfl (oG hby d46 20 rfl) rfl ?_
 refine XS.ifNo X4.here hx rfl (oG hby d46 21 rfl) rfl ((if0 _ _).trans (flt hf7).1) ?_
 refine XS.aload X4.here hx rfl (oG hby d46 22 rfl) rfl rfl ?_
 refine XS.iload X4.here hx rfl (oG hby d46 23 rfl) rfl ?_
 refine XS.iload X4.here hx rfl (oG hby d46 24 rfl) rfl ?_
 refine st7 _ ?_
 refine XS.iinc X7.here hx rfl (oG hby d46 26 rfl) rfl (l' := #[oA o0_, oI 0, oA o2_, oI i3_, oA o4_, oI i5_, oI (i6_ + (1 : Int32)), oI i7_, oI x_]) rfl ?_
 show oZ p e below T7 (mkF m 50 #[oA o0_, oI 0, oA o2_, oI i3_, oA o4_, oI i5_, oI (i6_ + (1 : Int32)), oI i7_, oI x_] []) _
 rw [hf10]
 refine XS.iinc X7.here hx rfl (oG hby d46 27 rfl) rfl (l' := #[oA o0_, oI 0, oA o2_, oI i3_, oA o4_, oI i5_, oI k_, oI (i7_ + (1 : Int32)), oI x_]) rfl ?_
 show oZ p e below T7 (mkF m 53 #[oA o0_, oI 0, oA o2_, oI i3_, oA o4_, oI i5_, oI k_, oI (i7_ + (1 : Int32)), oI x_] []) _
 rw [hf11]
 refine XS.goto X7.here hx rfl (pc0 := 53) (pc' := 7) rfl (oG hby d46 28 rfl) (by decide) (by decide) ?_
 exact kt
theorem own_tr_X (rc : Nat) (rs : Nat) (o0_ : Addr) (o2_ : Addr) (i3_ : Int32) (o4_ : Addr) (i5_ : Int32) (i6_ : Int32) (i7_ : Int32) (s8_ : Slot) (n_o2_ : Int32) (vs_o2_ : List Int32)
   (X0 : Stand p l e (oR 5 rc rs 130) s m args below meth c T0 locs cells slots) (hx : p.tables.exec = Jvm.exec) (hZ : Z.Warmed39 s.vm) (hw : oH a0 Z) (hby : c.code = prog_29_method_9_code) (hml : c.maxLocals = 9) (hown : s.vm.findClass oC0 = some m.cls) (e0 : T0.heap = h0) (N0 : Fr n0 locs) (Z0 : n0 ≤ h0.size) (A_o2_ : own_il Z h0 o2_ n_o2_ vs_o2_) (hf0 : ¬ (i7_ < n_o2_)) (hc : cells + (0) ≤ rc) (hs : slots + (0) ≤ rs) :
   ∃ (T' : State) (locs' : List Loc), Stand p l e (oR 5 rc rs 130) s m args below meth c T' locs' cells slots ∧ Fr n0 locs' ∧ T'.heap = h0 ∧
     ∀ target, Steps p.tables e below (T'.setTop (mkF m 56 #[oA o0_, oI 0, oA o2_, oI i3_, oA o4_, oI i5_, oI i6_, oI i7_, s8_] [])) target → Steps p.tables e below (T0.setTop (mkF m 7 #[oA o0_, oI 0, oA o2_, oI i3_, oA o4_, oI i5_, oI i6_, oI i7_, s8_] [])) target := by
 obtain ⟨c1, A1, S1, M1⟩ := own_il_cell A_o2_
 refine ⟨T0, _, X0, N0, e0, fun target kt => ?_⟩
 show oZ p e below T0 (mkF m 7 #[oA o0_, oI 0, oA o2_, oI i3_, oA o4_, oI i5_, oI i6_, oI i7_, s8_] []) _
 refine XS.iload X0.here hx rfl (oG hby d46 4 rfl) rfl ?_
 refine XS.aloadN X0.here hx rfl (oG hby d46 5 rfl) rfl rfl ?_
 refine X0.arraylength hx (by rw [e0]; exact A1.1) (State.isArrayOf_alike hZ.alike A1.2.1) (g := (mkF m 10 #[oA o0_, oI 0, oA o2_, oI i3_, oA o4_, oI i5_, oI i6_, oI i7_, s8_] [(.ref o2_), (.int i7_)])) rfl rfl (oG hby d46 6 rfl) _ ?_
 rw [len_of S1 M1]
 refine XS.icmpYes X0.here hx rfl (pc0 := 11) (pc' := 56) rfl (oG hby d46 7 rfl) rfl (flt hf0).2.1 (by decide) (by decide) ?_
 exact kt
theorem own_tr_Y (rc : Nat) (rs : Nat) (o0_ : Addr) (o2_ : Addr) (i3_ : Int32) (o4_ : Addr) (i5_ : Int32) (i6_ : Int32) (i7_ : Int32) (s8_ : Slot) (n_o2_ : Int32) (vs_o2_ : List Int32) (f_subsetSize_o0_ : Int32)
   (X0 : Stand p l e (oR 5 rc rs 130) s m args below meth c T0 locs cells slots) (hx : p.tables.exec = Jvm.exec) (hZ : Z.Warmed39 s.vm) (hw : oH a0 Z) (hby : c.code = prog_29_method_9_code) (hml : c.maxLocals = 9) (hown : s.vm.findClass oC0 = some m.cls) (e0 : T0.heap = h0) (N0 : Fr n0 locs) (Z0 : n0 ≤ h0.size) (A_o2_ : own_il Z h0 o2_ n_o2_ vs_o2_) (F_subsetSize_o0_ : Fld Z h0 o0_ oC0 "subsetSize" "I" (.int f_subsetSize_o0_)) (hf0 : i7_ < n_o2_) (hf1 : ¬ (i6_ < f_subsetSize_o0_)) (hc : cells + (0) ≤ rc) (hs : slots + (0) ≤ rs) :
   ∃ (T' : State) (locs' : List Loc), Stand p l e (oR 5 rc rs 130) s m args below meth c T' locs' cells slots ∧ Fr n0 locs' ∧ T'.heap = h0 ∧
     ∀ target, Steps p.tables e below (T'.setTop (mkF m 56 #[oA o0_, oI 0, oA o2_, oI i3_, oA o4_, oI i5_, oI i6_, oI i7_, s8_] [])) target → Steps p.tables e below (T0.setTop (mkF m 7 #[oA o0_, oI 0, oA o2_, oI i3_, oA o4_, oI i5_, oI i6_, oI i7_, s8_] [])) target := by
 obtain ⟨c1, A1, S1, M1⟩ := own_il_cell A_o2_
 obtain ⟨T2, X2, e2, st2⟩ := getF X0 hx hZ hown (host := "") (Or.inl (oW hw 26 rfl)) Via.refl e0 F_subsetSize_o0_ (g := (mkF m 17 #[oA o0_, oI 0, oA o2_, oI i3_, oA o4_, oI i5_, oI i6_, oI i7_, s8_] [(.ref o0_), (.int i6_)])) rfl rfl (oG hby d46 10 rfl)
 refine ⟨T2, _, X2, N0, e2, fun target kt => ?_⟩
 show oZ p e below T0 (mkF m 7 #[oA o0_, oI 0, oA o2_, oI i3_, oA o4_, oI i5_, oI i6_, oI i7_, s8_] []) _
 refine XS.iload X0.here hx rfl (oG hby d46 4 rfl) rfl ?_
 refine XS.aloadN X0.here hx rfl (oG hby d46 5 rfl) rfl rfl ?_
 refine X0.arraylength hx (by rw [e0]; exact A1.1) (State.isArrayOf_alike hZ.alike A1.2.1) (g := (mkF m 10 #[oA o0_, oI 0, oA o2_, oI i3_, oA o4_, oI i5_, oI i6_, oI i7_, s8_] [(.ref o2_), (.int i7_)])) rfl rfl (oG hby d46 6 rfl) _ ?_
 rw [len_of S1 M1]
 refine XS.icmpNo X0.here hx rfl (oG hby d46 7 rfl) rfl (tlt hf0).2.1 ?_
 refine XS.iload X0.here hx rfl (oG hby d46 8 rfl) rfl ?_
 refine XS.aloadN X0.here hx rfl (oG hby d46 9 rfl) rfl rfl ?_
 refine st2 _ ?_
 refine XS.icmpYes X2.here hx rfl (pc0 := 20) (pc' := 56) rfl (oG hby d46 11 rfl) rfl (flt hf1).2.1 (by decide) (by decide) ?_
 exact kt
section OwnTake
def own_tk (b n row : Int32) (vs : List Int32) : Nat → Nat → Nat → Nat
 | 0, _, f => f
 | k + 1, i, f => if Int32.ofNat f < n then (if own_bk b (vs.getD i 0) row < (0 : Int32) then own_tk b n row vs k (i + 1) f else own_tk b n row vs k (i + 1) (f + 1)) else f
def own_QT (Z : State) (o4 : Addr) (n r : Int32) (h0 : Heap) (n0 : Nat) (v : Option Value) (h : Heap) (L : List Loc) : Prop := v = some (.int r) ∧ Fr n0 L ∧ Keep h0 h [o4] ∧ own_ia Z h o4 n
theorem own_take {p : Program} {l : Launch} {e : Env} {s : State} {m : MethodId} {args : Array Value} {below : List Frame} {meth : Method} {c : Code} {Z : State} {a0 : Array Value} {n0 : Nat} {o0 o2 o4 : Addr} {i5 row b n : Int32} {vs : List Int32} {cnt : Nat}
   (hx : p.tables.exec = Jvm.exec) (hZ : Z.Warmed39 s.vm) (hw : oH a0 Z) (hby : c.code = prog_29_method_9_code) (hml : c.maxLocals = 9) (hown : s.vm.findClass oC0 = some m.cls)
   (hvs : own_lots vs) (hr0 : ¬ (row < 0)) (hr1 : row < (10 : Int32)) (hcn : cnt ≤ 4) (hg : n0 ≤ o4) (hd1 : o0 ≠ o4) (hd2 : o2 ≠ o4) :
   ∀ (k i f : Nat) (s8 : Slot) (T0 : State) (locs : List Loc) (cells slots : Nat), i + k = cnt → f ≤ i → (s8 = .unset ∨ ∃ z : Int32, s8 = oI z) →
     Stand p l e (oR 5 8 44 130) s m args below meth c T0 locs cells slots → Fr n0 locs → n0 ≤ T0.heap.size →
     Exa Z T0.heap o0 oC0 → Fld Z T0.heap o0 oC0 "backends" "I" (.int b) → Fld Z T0.heap o0 oC0 "subsetSize" "I" (.int n) → own_il Z T0.heap o2 (Int32.ofNat cnt) vs → own_ia Z T0.heap o4 n →
     cells + 2 * k ≤ 8 → slots + 11 * k ≤ 44 →
     ∃ (T' : State) (locs' : List Loc) (cells' slots' : Nat) (Ls : Array Slot) (i' : Int32) (s8' : Slot), Stand p l e (oR 5 8 44 130) s m args below meth c T' locs' cells' slots' ∧ cells' ≤ 8 ∧ slots' ≤ 44 ∧ Fr n0 locs' ∧ Keep T0.heap T'.heap [o4] ∧ own_ia Z T'.heap o4 n ∧
     ∀ target, Steps p.tables e below (T'.setTop (mkF m 56 #[oA o0, oI 0, oA o2, oI row, oA o4, oI i5, oI (Int32.ofNat (own_tk b n row vs k i f)), oI i', s8'] [])) target →
       Steps p.tables e below (T0.setTop (mkF m 7 #[oA o0, oI 0, oA o2, oI row, oA o4, oI i5, oI (Int32.ofNat f), oI (Int32.ofNat i), s8] [])) target := by
 intro k
 induction k with
 | zero =>
   intro i f s8 T0 locs cells slots hik hf h8 X N Z0 E1 F1 F2 A1 A2 hc hs
   obtain ⟨T', L', X', N', e', st'⟩ := own_tr_X (o0_ := o0) (o2_ := o2) (i3_ := row) (o4_ := o4) (i5_ := i5) (i6_ := Int32.ofNat f) (i7_ := Int32.ofNat i) (s8_ := s8) (n_o2_ := Int32.ofNat cnt) (vs_o2_ := vs) 8 44 X hx hZ hw hby hml hown rfl N Z0 A1 (own_ofNat_nlt (i := i) (c := cnt) (by omega) (by omega)) (by omega) (by omega)
   exact ⟨T', L', _, _, #[], _, _, X', by omega, by omega, N', by rw [e']; exact Keep.refl _ _, by rw [e']; exact A2, st'⟩
 | succ k ih =>
   intro i f s8 T0 locs cells slots hik hf h8 X N Z0 E1 F1 F2 A1 A2 hc hs
   have hi : i < 2 ^ 31 := by omega
   have hf1 := own_ofNat_lt (i := i) (c := cnt) (by omega) (by omega)
   have hf2 := own_ofNat_nneg hi
   have hf3 := own_ofNat_nneg (i := f) (by omega)
   have hv : vs.getD (Int32.ofNat i).toNatClampNeg 0 = vs.getD i 0 := by rw [own_ofNat_nat hi]
   have hlot : vs.getD (Int32.ofNat i).toNatClampNeg 0 = 0 ∨ vs.getD (Int32.ofNat i).toNatClampNeg 0 = 1 ∨ vs.getD (Int32.ofNat i).toNatClampNeg 0 = 2 ∨ vs.getD (Int32.ofNat i).toNatClampNeg 0 = 3 := by rw [hv]; exact hvs i
   have hxx : own_bk b (vs.getD (Int32.ofNat i).toNatClampNeg 0) row = own_bk b (vs.getD i 0) row := by rw [hv]
   by_cases q : Int32.ofNat f < n
   · by_cases q1 : own_bk b (vs.getD i 0) row < (0 : Int32)
     · have eqk : own_tk b n row vs (k + 1) i f = own_tk b n row vs k (i + 1) f := by rw [own_tk, if_pos q, if_pos q1]
       rw [eqk]
       obtain ⟨T1, L1, X1, N1, K1, st1⟩ := own_tr_P (o0_ := o0) (o2_ := o2) (i3_ := row) (o4_ := o4) (i5_ := i5) (i6_ := Int32.ofNat f) (i7_ := Int32.ofNat i) (s8_ := s8) (n_o2_ := Int32.ofNat cnt) (vs_o2_ := vs) (f_subsetSize_o0_ := n) (f_backends_o0_ := b) (x_ := own_bk b (vs.getD i 0) row) (j_ := Int32.ofNat (i + 1)) 8 44 X hx hZ hw hby hml hown rfl N Z0 A1 F2 F1 E1 h8 hf1 q hf2 hlot hr0 hr1 hxx q1 (own_ofNat_succ i) (by omega) (by omega)
       have x := own_ext K1
       obtain ⟨T', L', c', t', Ls, i', s8', X', b1, b2, N', K', A', st'⟩ := ih (i + 1) f (oI (own_bk b (vs.getD i 0) row)) T1 L1 _ _ (by omega) (by omega) (Or.inr ⟨_, rfl⟩) X1 N1 (Nat.le_trans Z0 K1.1) (E1.ext x) (F1.ext x) (F2.ext x) (A1.ext x) (A2.ext x) (by omega) (by omega)
       exact ⟨T', L', c', t', Ls, i', s8', X', b1, b2, N', own_keep_step K1 K' (by simp), A', fun target kt => st1 _ (st' _ kt)⟩
     · have eqk : own_tk b n row vs (k + 1) i f = own_tk b n row vs k (i + 1) (f + 1) := by rw [own_tk, if_pos q, if_neg q1]
       rw [eqk]
       obtain ⟨T1, L1, X1, N1, K1, A2', st1⟩ := own_tr_T (o0_ := o0) (o2_ := o2) (i3_ := row) (o4_ := o4) (i5_ := i5) (i6_ := Int32.ofNat f) (i7_ := Int32.ofNat i) (s8_ := s8) (n_o2_ := Int32.ofNat cnt) (vs_o2_ := vs) (f_subsetSize_o0_ := n) (f_backends_o0_ := b) (x_ := own_bk b (vs.getD i 0) row) (n_o4_ := n) (k_ := Int32.ofNat (f + 1)) (j_ := Int32.ofNat (i + 1)) 8 44 X hx hZ hw hby hml hown rfl N Z0 A1 F2 F1 E1 h8 A2 hg hf1 q hf2 hlot hr0 hr1 hxx q1 hf3 q (own_ofNat_succ f) (own_ofNat_succ i) (by omega) (by omega)
       obtain ⟨T', L', c', t', Ls, i', s8', X', b1, b2, N', K', A', st'⟩ := ih (i + 1) (f + 1) (oI (own_bk b (vs.getD i 0) row)) T1 L1 _ _ (by omega) (by omega) (Or.inr ⟨_, rfl⟩) X1 N1 (Nat.le_trans Z0 K1.1) (E1.keep K1) (F1.keep K1 (own_n1 hd1)) (F2.keep K1 (own_n1 hd1)) (A1.keep K1 (own_n1 hd2)) A2' (by omega) (by omega)
       exact ⟨T', L', c', t', Ls, i', s8', X', b1, b2, N', own_keep_step K1 K' (fun x hx => hx), A', fun target kt => st1 _ (st' _ kt)⟩
   · have eqk : own_tk b n row vs (k + 1) i f = f := by rw [own_tk, if_neg q]
     rw [eqk]
     obtain ⟨T', L', X', N', e', st'⟩ := own_tr_Y (o0_ := o0) (o2_ := o2) (i3_ := row) (o4_ := o4) (i5_ := i5) (i6_ := Int32.ofNat f) (i7_ := Int32.ofNat i) (s8_ := s8) (n_o2_ := Int32.ofNat cnt) (vs_o2_ := vs) (f_subsetSize_o0_ := n) 8 44 X hx hZ hw hby hml hown rfl N Z0 A1 F2 hf1 q (by omega) (by omega)
     exact ⟨T', L', _, _, #[], _, _, X', by omega, by omega, N', by rw [e']; exact Keep.refl _ _, by rw [e']; exact A2, st'⟩
theorem own_trC (l : Launch) (Z : State) (a0 : Array Value) (hw : oH a0 Z) (ws : List Jvm.Cond) (o0 o2 : Addr) (row : Int32) (o4 : Addr) (b n : Int32) (vs : List Int32) (n1 n2 : Int32) (cnt : Nat) (h0 : Heap) (n0 : Nat) (Z0 : n0 ≤ h0.size)
   (E1 : Exa Z h0 o0 oC0) (F1 : Fld Z h0 o0 oC0 "backends" "I" (.int b)) (F2 : Fld Z h0 o0 oC0 "subsetSize" "I" (.int n)) (A1 : own_il Z h0 o2 n1 vs) (A2 : own_ia Z h0 o4 n2) (hg : n0 ≤ o4)
   (hn : n1 = Int32.ofNat cnt) (hn2 : n2 = n) (hcn : cnt ≤ 4) (hvs : own_lots vs) (hr0 : ¬ (row < 0)) (hr1 : row < (10 : Int32)) (hd1 : ¬ (o0 = o4)) (hd2 : ¬ (o2 = o4)) :
   oMet l oM28 prog_29_method_9_code 9 (some .int) ws (oR 5 8 44 130) Z h0 #[(.ref o0), (.int 0), (.ref o2), (.int row), (.ref o4), (.int 0)] (own_QT Z o4 n2 (Int32.ofNat (own_tk b n row vs cnt 0 0)) h0 n0) := by
 subst hn hn2
 refine oBd n0 (plainFor_of_name own_pn4) ?_
 intro p e s m below meth c s₁ Bd hx hZ hby hml hown hnm X0 e0 N0
 obtain ⟨T1, L1, X1, N1, e1, st1⟩ := own_tr_S (o0_ := o0) (o2_ := o2) (i3_ := row) (o4_ := o4) (i5_ := 0) 8 44 X0 hx hZ hw hby hml hown e0 N0 Z0 (by omega) (by omega)
 subst e1
 obtain ⟨T2, L2, c2, t2, Ls, i2, s2, X2, b1, b2, N2, K2, A2', st2⟩ := own_take (i5 := 0) hx hZ hw hby hml hown hvs hr0 hr1 hcn hg hd1 hd2 cnt 0 0 .unset T1 L1 0 0 (by omega) (by omega) (Or.inl rfl) X1 N1 Z0 E1 F1 F2 A1 A2 (by omega) (by omega)
 obtain ⟨fs, hr, hrun, hended, hW, hsame⟩ := X2.leave (v := some (.int (Int32.ofNat (own_tk b n2 row vs cnt 0 0)))) (fun h => by rw [Bd.returns] at h; cases h)
 refine ⟨_, _, castTop (own_ef25 m o0 (0 : Int32) o2 row o4 (0 : Int32)) (st1 _ (st2 _ ?_)), hrun, hended, _, _, rfl, ⟨rfl, N2, K2, A2'⟩, ⟨_, rfl⟩, hW, hsame.mono b1 b2⟩
 refine XS.iload X2.here hx rfl (oG hby d46 29 rfl) rfl ?_
 show oZ p e below T2 (mkF m 58 #[oA o0, oI 0, oA o2, oI row, oA o4, oI 0, oI (Int32.ofNat (own_tk b n2 row vs cnt 0 0)), oI i2, s2] [(.int (Int32.ofNat (own_tk b n2 row vs cnt 0 0)))]) _
 exact retI X2 hx Bd.returns (oG hby d46 30 rfl) hr
end OwnTake

section OwnSort
theorem own_and {a b : Jvm.Cond} {args : Array Value} {s : State} (h1 : a.before args s = true) (h2 : b.before args s = true) : (Jvm.Cond.and a b).before args s = true := by
 rw [Jvm.Cond.before_and, h1, h2]; rfl
set_option maxRecDepth 100000 in
theorem own_astab {Z s : State} {args a0 : Array Value} (hZ : Z.Warmed39 s.vm) (hw : oH a0 Z) : Jvm.Free.Str.AS1.tab.before args s = true := by
 have k : ∀ (i : Nat) {d : Jvm.Cond}, tables_1[i]? = some d → (d.onTables && d.keepsFace) = true → d.before args s = true := fun i d h q => mvT hZ (hw _ (List.mem_of_getElem? h)) q
 have ins : Jvm.Free.Str.INS.tab.before args s = true := own_and (k 216 rfl rfl) (k 209 rfl rfl)
 have ds5 : Jvm.Free.Str.DS5.tab.before args s = true := own_and (k 213 rfl rfl) (own_and (k 214 rfl rfl) (own_and (k 215 rfl rfl) (own_and ins (own_and (k 209 rfl rfl) rfl))))
 have ds4 : Jvm.Free.Str.DS4.tab.before args s = true := own_and (k 210 rfl rfl) (own_and (k 211 rfl rfl) (own_and (k 212 rfl rfl) (own_and ds5 (own_and (k 209 rfl rfl) rfl))))
 exact own_and (k 206 rfl rfl) (own_and (k 207 rfl rfl) (own_and (k 208 rfl rfl) (own_and ds4 (own_and (k 205 rfl rfl) rfl))))
theorem own_nat44 {n : Int32} (h : n.toNatClampNeg ≤ 32) : n.toNatClampNeg - 0 < 44 := by omega
set_option maxRecDepth 100000 in
set_option maxHeartbeats 4000000 in
theorem own_sort {p : Program} {l : Launch} {e : Env} {R : Room} {s : State} {m : MethodId} {args : Array Value} {below : List Frame} {meth : Method} {c : Code} {T : State} {locs : List Loc} {cells slots : Nat} {Z : State} {a0 : Array Value} {h : Heap} {a : Addr} {n : Int32} {n0 : Nat}
   (X : Stand p l e R s m args below meth c T locs cells slots) (hx : p.tables.exec = Jvm.exec) (hZ : Z.Warmed39 s.vm) (hw : oH a0 Z) {own : String} {index : Nat} (hown : s.vm.findClass own = some m.cls) (wl : (Jvm.Cond.methodLink own index Jvm.Free.Str.as1N).before a0 Z = true)
   (eT : T.heap = h) (A : own_ia Z h a n) (hn : n.toNatClampNeg ≤ 32) (hg0 : n0 ≤ a) (N : Fr n0 locs) (hc : cells ≤ R.cells) (hs : slots ≤ R.slots) {W : Nat} (hf : 4 + 1 ≤ R.frames) (hlo : W + (1 + 11) + 150 ≤ R.locals)
   {g : JFrame} (hg : g.method = m) (hsize : g.locals.size = c.maxLocals) {rest : List Value} (hst : g.stack = .ref a :: rest) (hW : 2 * g.monitorRoom + (rest.map fun v => v.category).sum ≤ W) (hd : decode c.code g.pc = .ok (.invokestatic index, 3)) :
   ∃ (T' : State) (locs' : List Loc), Stand p l e R s m args below meth c T' locs' cells slots ∧ Fr n0 locs' ∧ Keep h T'.heap [a] ∧ own_ia Z T'.heap a n ∧ ∀ target, Steps p.tables e below (T'.setTop { g with pc := g.pc + 3, stack := rest }) target → Steps p.tables e below (T.setTop g) target := by
 obtain ⟨C, hA, hS, hM, hI⟩ := A
 have k : ∀ (i : Nat) {d : Jvm.Cond}, tables_1[i]? = some d → (d.onTables && d.keepsFace) = true → d.before args s = true := fun i d h q => mvT hZ (hw _ (List.mem_of_getElem? h)) q
 have hints : Jvm.Free.Str.Ints C := by
   intro i hi
   obtain ⟨z, hz⟩ := hI i hi
   rw [hz]; simp [Jvm.Lib.StringLatin1.equals.intAt, hz]
 have hlt : C.slots.size + 1 < 2 ^ 31 := by rw [hS]; omega
 obtain ⟨v, vm₁, ⟨T', L0, cc, sl⟩, hW', X', ⟨rfl, ⟨C', hC', hSo⟩, hoth, hsz, L, hL, eL, ec, es⟩, st1⟩ := Jvm.LawKit.callS X hx (own := own) (y := Jvm.Free.Str.as1N) (bytes := Jvm.Free.Str.as1B) (maxL := 1) (ret := none) hown (mvT hZ wl) (k 204 rfl rfl) (k 205 rfl rfl) (k 206 rfl rfl) (by decide)
   (Jvm.Free.Str.AS1.pays (W := W) a C (own_astab hZ hw) hf hlo) (g := g) hg hsize (argsL := [.ref a]) (rest := rest)
   (fun sig h => by cases (by decide +kernel : parseMethodDescriptor Jvm.Free.Str.as1N.desc = some ⟨[.array .int], none⟩).symm.trans h; rfl) hst hW hd
   (fun vm₁ hWx => ⟨hc, hs, rfl, ⟨(show T.heap[a]? = some C by rw [eT]; exact hA.1), State.isArrayOf_alike (hZ.alike.trans hWx.alike) hA.2.1, hA.2.2, hlt, hints, Nat.zero_le _, Nat.le_refl _⟩, by rw [hS]; exact own_nat44 hn⟩)
 dsimp only [Pt.U, Pt.locs, Pt.cells, Pt.slots] at X' eL ec es hC' hoth hsz st1
 subst eL ec es
 obtain ⟨-, -, -, c1, c2, c3, c4⟩ := hSo
 refine ⟨T', locs ++ L, X', N.app (fun y hy => by rw [hL y hy]; exact hg0), ⟨?_, ?_, ?_⟩, ⟨C', ⟨hC', ?_, by rw [c2]; exact hA.2.2⟩, by rw [c3]; exact hS, hM, fun i hi => ⟨_, c4 i hi⟩⟩, st1⟩
 · rw [← eT]; exact Nat.le_of_eq hsz.symm
 · intro x q hq hn'
   refine (hoth x (by simpa using hn')).trans ?_
   show T.heap[x]? = some q
   rw [eT]; exact hq
 · intro x q hq
   by_cases r : x = a
   · subst r
     cases hA.1.symm.trans hq
     exact ⟨C', hC', c1, c2, c3⟩
   · refine ⟨q, (hoth x r).trans ?_, rfl, rfl, rfl⟩
     show T.heap[x]? = some q
     rw [eT]; exact hq
 · have q := hA.2.1
   unfold State.isArrayOf at q ⊢
   rw [c1, c2]; exact q
end OwnSort

theorem own_b45_f (l : Launch) (Z : State) (a0 : Array Value) (hw : oH a0 Z) (ws : List Jvm.Cond) (q0_ : Int64) (q1_ : Int64) (h0 : Heap) (n0 : Nat) (Z0 : n0 ≤ h0.size) (hf0 : ¬ ((0 : Int32) < (lcmpW q0_ q1_))) :
   oMet l oM40 jdk_29_method_70_code 4 (some .long) ws (oR 0 0 0 0) Z h0 #[(.long q0_), (.long q1_)] (own_QP (some (.long q0_)) h0 n0) := by
 refine oBd n0 (Jvm.Free.JP.mathPlain rfl (by decide +kernel)) ?_
 intro p e s m below meth c s₁ Bd hx hZ hby hml hown hnm X0 e0 N0
 obtain ⟨fs, hr, hrun, hended, hW, hsame⟩ := X0.leave (v := some (.long q0_)) (fun h => by rw [Bd.returns] at h; cases h)
 refine ⟨_, _, castTop (own_ef26 m q0_ q1_) ?_, hrun, hended, _, _, rfl, ?_, ⟨_, rfl⟩, hW, (hsame.mono (by decide) (by decide))⟩
 · show oZ p e below s₁ (mkF m 0 #[oJ q0_, .second, oJ q1_, .second] []) _
   refine XS.lloadN X0.here hx rfl (oG hby d45 0 rfl) rfl ?_
   refine XS.lloadN X0.here hx rfl (oG hby d45 1 rfl) rfl ?_
   refine XS.lcmp X0.here hx rfl (oG hby d45 2 rfl) rfl ?_
   refine XS.ifNo X0.here hx rfl (oG hby d45 3 rfl) rfl ((if0 _ _).trans (flt hf0).2.2.1) ?_
   refine XS.lloadN X0.here hx rfl (oG hby d45 4 rfl) rfl ?_
   refine XS.goto X0.here hx rfl (pc0 := 7) (pc' := 11) rfl (oG hby d45 5 rfl) (by decide) (by decide) ?_
   show oZ p e below s₁ (mkF m 11 #[oJ q0_, .second, oJ q1_, .second] [(.long q0_)]) _
   exact X0.lreturnOut hx Bd.returns (oG hby d45 6 rfl) hr
 · show own_QP (some (.long q0_)) h0 n0 _ s₁.heap _
   exact ⟨rfl, N0, e0⟩
def Qown_b44_ft_0_45 (Z : State) (a0_ : Addr) (p2_ : Int32) (f_lots_a0_ : Int32) (f_subsetSize_a0_ : Int32) (lx_ : Nat) (cx_ : Nat) (f_ringBits_a0_ : Int32) (f_backends_a0_ : Int32) (h0 : Heap) (n0 : Nat) (v : Option Value) (h : Heap) (L : List Loc) : Prop := ∃ b7 : Addr, v = some (.ref b7) ∧ Fr n0 L ∧ Keep h0 h [] ∧ h0.size ≤ b7 ∧ Exa Z h b7 "[I" ∧ own_ia Z h b7 f_subsetSize_a0_
theorem own_b44_ft_0_45 (l : Launch) (Z : State) (a0 : Array Value) (hw : oH a0 Z) (ws : List Jvm.Cond) (a0_ : Addr) (p2_ : Int32) (f_lots_a0_ : Int32) (f_subsetSize_a0_ : Int32) (lx_ : Nat) (cx_ : Nat) (f_ringBits_a0_ : Int32) (f_backends_a0_ : Int32) (h0 : Heap) (n0 : Nat) (Z0 : n0 ≤ h0.size) (F_lots_a0_ : Fld Z h0 a0_ oC0 "lots" "I" (.int f_lots_a0_)) (F_subsetSize_a0_ : Fld Z h0 a0_ oC0 "subsetSize" "I" (.int f_subsetSize_a0_)) (F_ringBits_a0_ : Fld Z h0 a0_ oC0 "ringBits" "I" (.int f_ringBits_a0_)) (E_a0_ : Exa Z h0 a0_ oC0) (F_backends_a0_ : Fld Z h0 a0_ oC0 "backends" "I" (.int f_backends_a0_)) (hf0 : ¬ ((0 : Int32) < (lcmpW (f_lots_a0_.toInt64) ((f_subsetSize_a0_.toInt64) + (1 : Int64))))) (hf1 : f_lots_a0_ = Int32.ofNat lx_) (hf2 : f_ringBits_a0_ = own_rb lx_) (hf3 : ((f_lots_a0_.toInt64).toInt32) = Int32.ofNat cx_) (hf4 : own_pairs lx_ cx_) (hf5 : ¬ (f_subsetSize_a0_ < 0)) (hf6 : f_subsetSize_a0_.toNatClampNeg ≤ 32) (hf7 : (0 : Int32) < f_subsetSize_a0_) (hf8 : (Int32.ofNat cx_) = Int32.ofNat cx_) (hf9 : cx_ ≤ 4) (hf10 : own_lots (own_wl lx_ cx_)) (hf11 : ¬ (((p2_ + (0 : Int32)) % (10 : Int32)) < 0)) (hf12 : ((p2_ + (0 : Int32)) % (10 : Int32)) < (10 : Int32)) (hf13 : ¬ ((Int32.ofNat (own_tk f_backends_a0_ f_subsetSize_a0_ ((p2_ + (0 : Int32)) % (10 : Int32)) (own_wl lx_ cx_) cx_ 0 0)) < f_subsetSize_a0_)) :
   oMet l oM34 prog_29_method_12_code 7 (some (.array .int)) ws (oR 6 10 80 150) Z h0 #[(.ref a0_), (.int 0), (.int p2_)] (Qown_b44_ft_0_45 Z a0_ p2_ f_lots_a0_ f_subsetSize_a0_ lx_ cx_ f_ringBits_a0_ f_backends_a0_ h0 n0) := by
 refine oBd n0 (plainFor_of_name own_pn4) ?_
 intro p e s m below meth c s₁ Bd hx hZ hby hml hown hnm X0 e0 N0
 obtain ⟨T1, X1, e1, st1⟩ := getF X0 hx hZ hown (host := "") (Or.inl (oW hw 28 rfl)) Via.refl e0 F_lots_a0_ (g := (mkF m 3 #[oA a0_, oI 0, oI p2_, .unset, .unset, .unset, .unset] [(.ref a0_), (.int 0), (.ref a0_)])) rfl rfl (oG hby d44 3 rfl)
 obtain ⟨T2, X2, e2, st2⟩ := getF X1 hx hZ hown (host := "") (Or.inl (oW hw 26 rfl)) Via.refl e1 F_subsetSize_a0_ (g := (mkF m 8 #[oA a0_, oI 0, oI p2_, .unset, .unset, .unset, .unset] [(.ref a0_), (.long (f_lots_a0_.toInt64)), (.int 0), (.ref a0_)])) rfl rfl (oG hby d44 6 rfl)
 obtain ⟨_, _, ⟨T3, L3, k3, n3⟩, -, X3, ⟨Lc3, hQ3, l3, y3, z3⟩, st3⟩ := Jvm.LawKit.callS X2 hx (y := oM40) hown (mvT hZ (oW hw 275 rfl)) (mvT hZ (oW hw 276 rfl)) (mvT hZ (oW hw 3 rfl)) (mvT hZ (oW hw 277 rfl)) (by decide) (backOf (W := 2) (own_b45_f l Z a0 hw [] (f_lots_a0_.toInt64) ((f_subsetSize_a0_.toInt64) + (1 : Int64)) h0 n0 Z0 hf0) hZ (oW hw 277 rfl) (oW hw 3 rfl) (by decide) (by decide)) (g := (mkF m 14 #[oA a0_, oI 0, oI p2_, .unset, .unset, .unset, .unset] [(.long ((f_subsetSize_a0_.toInt64) + (1 : Int64))), (.long (f_lots_a0_.toInt64)), (.int 0), (.ref a0_)])) rfl (by rw [hml]; rfl) (argsL := [(.long (f_lots_a0_.toInt64)), (.long ((f_subsetSize_a0_.toInt64) + (1 : Int64)))]) (rest := [(.int 0), (.ref a0_)]) (lenOf own_pd7 rfl) rfl (by show 2 * 0 + _ ≤ _; exact Nat.le_of_eq rfl) (oG hby d44 10 rfl) (fun _ _ => ⟨rfl, e2, (by decide : 0 + 0 ≤ _), (by decide : 0 + 0 ≤ _)⟩)
 dsimp only [Pt.U, Pt.locs, Pt.cells, Pt.slots] at X3 l3 y3 z3 st3 hQ3
 subst l3 y3 z3
 obtain ⟨rfl, N3q, e3⟩ := hQ3
 have N3 := Fr.app N0 N3q
 obtain ⟨cq4, q4, q4'⟩ := E_a0_.cell
 obtain ⟨_, _, ⟨T4, L4, k4, n4⟩, -, X4, ⟨Lc4, hQ4, l4, y4, z4⟩, st4⟩ := X3.privateBack hx (y := oM5) hown (mvT hZ (oW hw 63 rfl)) (mvT hZ (oW hw 64 rfl)) (own_selp (mvT hZ (oW hw 19 rfl)) (mvP hZ (oW hw 65 rfl) (args := #[])) (mvT hZ (oW hw 64 rfl)) (by decide)) (Cond.privateMethod_at (mvP hZ (oW hw 65 rfl) (args := #[]))) (mvT hZ (oW hw 66 rfl)) (by decide) (backOf (W := 0) (own_woC l Z a0 hw [] a0_ ((f_lots_a0_.toInt64).toInt32) lx_ cx_ f_lots_a0_ f_ringBits_a0_ h0 n0 Z0 F_lots_a0_ F_ringBits_a0_ E_a0_ hf1 hf2 hf3 hf4) hZ (oW hw 66 rfl) (oW hw 16 rfl) (by decide) (by decide)) (g := (mkF m 18 #[oA a0_, oI 0, oI p2_, .unset, .unset, .unset, .unset] [(.int ((f_lots_a0_.toInt64).toInt32)), (.int 0), (.ref a0_)])) rfl (by rw [hml]; rfl) (Steps.refl _) (a := a0_) (by rw [e3]; exact q4) q4' (argsL := [(.int 0), (.int ((f_lots_a0_.toInt64).toInt32))]) (rest := []) (lenOf own_pd8 rfl) rfl (by show 2 * 0 + _ ≤ _; exact Nat.le_of_eq rfl) (oG hby d44 12 rfl) (fun _ _ => ⟨rfl, e3, (by decide : 0 + 1 ≤ _), (by decide : 0 + 4 ≤ _)⟩)
 dsimp only [Pt.U, Pt.locs, Pt.cells, Pt.slots] at X4 l4 y4 z4 st4 hQ4
 subst l4 y4 z4
 obtain ⟨r4_r, rfl, N4q, Kq4, lo_r4_r, Q4_0⟩ := hQ4
 have N4 := Fr.app N3 N4q
 have ne_a0__r4_r : a0_ ≠ r4_r := oV F_lots_a0_.lt lo_r4_r
 have sz_r4_r : h0.size ≤ r4_r := Nat.le_trans (Keep.refl h0 []).1 lo_r4_r
 have g_r4_r : n0 ≤ r4_r := Nat.le_trans Z0 sz_r4_r
 have K4 : Keep h0 T4.heap [] := (Keep.refl h0 []).trans Kq4 own_a0
 have f5_a0__subsetSize := (F_subsetSize_a0_.keep Kq4 (own_n0 _))
 obtain ⟨T6, X6, e6, st6⟩ := getF X4 hx hZ hown (host := "") (Or.inl (oW hw 26 rfl)) Via.refl rfl f5_a0__subsetSize (g := (mkF m 23 #[oA a0_, oI 0, oI p2_, oA r4_r, .unset, .unset, .unset] [(.ref a0_)])) rfl rfl (oG hby d44 15 rfl)
 obtain ⟨T7, h7, k7, X7, e7, E7, A7, B7, st7⟩ := newPE X6 hx hZ (oW hw 85 rfl) e6 (g := (mkF m 26 #[oA a0_, oI 0, oI p2_, oA r4_r, .unset, .unset, .unset] [(.int f_subsetSize_a0_)])) rfl (oG hby d44 16 rfl) rfl hf5 (cap := 32) hf6 (by decide) (by decide) (by decide) (ad := "[I") rfl
 obtain ⟨b7, g7⟩ : ∃ z, z = T4.heap.size := ⟨_, rfl⟩
 rw [← g7] at A7 B7 st7
 have lo_b7 : T4.heap.size ≤ b7 := Nat.le_of_eq g7.symm
 have f8_a0__lots := (F_lots_a0_.keep Kq4 (own_n0 _))
 have ne_a0__b7 : a0_ ≠ b7 := oV f8_a0__lots.lt lo_b7
 have ne_r4_r_b7 : r4_r ≠ b7 := oV Q4_0.lt lo_b7
 have sz_b7 : h0.size ≤ b7 := Nat.le_trans K4.1 lo_b7
 have g_b7 : n0 ≤ b7 := Nat.le_trans Z0 sz_b7
 have K7 : Keep h0 h7 [] := K4.ext E7
 have V7 := (own_il_new (m := 0) A7 hf5).ia
 have f9_a0__subsetSize := (f5_a0__subsetSize.ext E7)
 obtain ⟨T10, X10, e10, st10⟩ := getF X7 hx hZ hown (host := "") (Or.inl (oW hw 26 rfl)) Via.refl e7 f9_a0__subsetSize (g := (mkF m 39 #[oA a0_, oI 0, oI p2_, oA r4_r, oA b7, oI 0, oI 0] [(.ref a0_), (.int 0)])) rfl rfl (oG hby d44 24 rfl)
 have f12_a0_ := ((E_a0_.keep Kq4).ext E7)
 have f13_a0__backends := ((F_backends_a0_.keep Kq4 (own_n0 _)).ext E7)
 have f14_r4_r := (Q4_0.ext E7)
 obtain ⟨cq11, q11, q11'⟩ := f12_a0_.cell
 obtain ⟨_, _, ⟨T11, L11, k11, n11⟩, -, X11, ⟨Lc11, hQ11, l11, y11, z11⟩, st11⟩ := X10.privateBack hx (y := oM28) hown (mvT hZ (oW hw 278 rfl)) (mvT hZ (oW hw 279 rfl)) (own_selp (mvT hZ (oW hw 19 rfl)) (mvP hZ (oW hw 280 rfl) (args := #[])) (mvT hZ (oW hw 279 rfl)) (by decide)) (Cond.privateMethod_at (mvP hZ (oW hw 280 rfl) (args := #[]))) (mvT hZ (oW hw 281 rfl)) (by decide) (backOf (W := 0) (own_trC l Z a0 hw [] a0_ r4_r ((p2_ + (0 : Int32)) % (10 : Int32)) b7 f_backends_a0_ f_subsetSize_a0_ (own_wl lx_ cx_) (Int32.ofNat cx_) f_subsetSize_a0_ cx_ h7 n0 (Nat.le_trans Z0 K7.1) f12_a0_ f13_a0__backends f9_a0__subsetSize f14_r4_r V7 g_b7 hf8 rfl hf9 hf10 hf11 hf12 ne_a0__b7 ne_r4_r_b7) hZ (oW hw 281 rfl) (oW hw 16 rfl) (by decide) (by decide)) (g := (mkF m 59 #[oA a0_, oI 0, oI p2_, oA r4_r, oA b7, oI 0, oI 0] [(.int 0), (.ref b7), (.int ((p2_ + (0 : Int32)) % (10 : Int32))), (.ref r4_r), (.int 0), (.ref a0_)])) rfl (by rw [hml]; rfl) (Steps.refl _) (a := a0_) (by rw [e10]; exact q11) q11' (argsL := [(.int 0), (.ref r4_r), (.int ((p2_ + (0 : Int32)) % (10 : Int32))), (.ref b7), (.int 0)]) (rest := []) (lenOf own_pd14 rfl) rfl (by show 2 * 0 + _ ≤ _; exact Nat.le_of_eq rfl) (oG hby d44 36 rfl) (fun _ _ => ⟨rfl, e10, (by decide : 2 + 8 ≤ _), (by decide : 36 + 44 ≤ _)⟩)
 dsimp only [Pt.U, Pt.locs, Pt.cells, Pt.slots] at X11 l11 y11 z11 st11 hQ11
 subst l11 y11 z11
 obtain ⟨rfl, N11q, Kq11, Q11_0⟩ := hQ11
 have N11 := Fr.app N4 N11q
 have K11 : Keep h0 T11.heap [] := K7.trans Kq11 (own_a1 (Or.inr sz_b7))
 have f15_a0__subsetSize := (f9_a0__subsetSize.keep Kq11 (own_n1 ne_a0__b7))
 obtain ⟨T16, X16, e16, st16⟩ := getF X11 hx hZ hown (host := "") (Or.inl (oW hw 26 rfl)) Via.refl rfl f15_a0__subsetSize (g := (mkF m 39 #[oA a0_, oI 0, oI p2_, oA r4_r, oA b7, oI (Int32.ofNat (own_tk f_backends_a0_ f_subsetSize_a0_ ((p2_ + (0 : Int32)) % (10 : Int32)) (own_wl lx_ cx_) cx_ 0 0)), oI 1] [(.ref a0_), (.int (Int32.ofNat (own_tk f_backends_a0_ f_subsetSize_a0_ ((p2_ + (0 : Int32)) % (10 : Int32)) (own_wl lx_ cx_) cx_ 0 0)))])) rfl rfl (oG hby d44 24 rfl)
 have f17_b7 := (B7.keep Kq11)
 obtain ⟨fs, hr, hrun, hended, hW, hsame⟩ := X16.leave (v := some (.ref b7)) (fun h => by rw [Bd.returns] at h; cases h)
 refine ⟨_, _, castTop (own_ef27 m a0_ (0 : Int32) p2_) ?_, hrun, hended, _, _, rfl, ?_, ⟨_, rfl⟩, hW, (hsame.mono (by decide) (by decide))⟩
 · show oZ p e below s₁ (mkF m 0 #[oA a0_, oI 0, oI p2_, .unset, .unset, .unset, .unset] []) _
   refine XS.aloadN X0.here hx rfl (oG hby d44 0 rfl) rfl rfl ?_
   refine XS.iloadN X0.here hx rfl (oG hby d44 1 rfl) rfl ?_
   refine XS.aloadN X0.here hx rfl (oG hby d44 2 rfl) rfl rfl ?_
   refine st1 _ ?_
   refine XS.i2l X1.here hx rfl (oG hby d44 4 rfl) rfl ?_
   refine XS.aloadN X1.here hx rfl (oG hby d44 5 rfl) rfl rfl ?_
   refine st2 _ ?_
   refine XS.i2l X2.here hx rfl (oG hby d44 7 rfl) rfl ?_
   refine XS.lconst X2.here hx rfl (oG hby d44 8 rfl) ?_
   show oZ p e below T2 (mkF m 13 #[oA a0_, oI 0, oI p2_, .unset, .unset, .unset, .unset] [(.long 1), (.long (f_subsetSize_a0_.toInt64)), (.long (f_lots_a0_.toInt64)), (.int 0), (.ref a0_)]) _
   refine XS.ladd X2.here hx rfl (oG hby d44 9 rfl) rfl ?_
   refine st3 _ ?_
   refine XS.l2i X3.here hx rfl (oG hby d44 11 rfl) rfl ?_
   refine st4.trans ?_
   refine XS.astoreN X4.here hx rfl (oG hby d44 13 rfl) rfl rfl (l' := #[oA a0_, oI 0, oI p2_, oA r4_r, .unset, .unset, .unset]) rfl ?_
   refine XS.aloadN X4.here hx rfl (oG hby d44 14 rfl) rfl rfl ?_
   refine st6 _ ?_
   refine st7 _ ?_
   refine XS.astore X7.here hx rfl (oG hby d44 17 rfl) rfl rfl (l' := #[oA a0_, oI 0, oI p2_, oA r4_r, oA b7, .unset, .unset]) rfl ?_
   refine XS.iconst X7.here hx rfl (oG hby d44 18 rfl) ?_
   refine XS.istore X7.here hx rfl (oG hby d44 19 rfl) rfl (l' := #[oA a0_, oI 0, oI p2_, oA r4_r, oA b7, oI 0, .unset]) rfl ?_
   show oZ p e below T7 (mkF m 33 #[oA a0_, oI 0, oI p2_, oA r4_r, oA b7, oI 0, .unset] []) _
   refine XS.iconst X7.here hx rfl (oG hby d44 20 rfl) ?_
   refine XS.istore X7.here hx rfl (oG hby d44 21 rfl) rfl (l' := #[oA a0_, oI 0, oI p2_, oA r4_r, oA b7, oI 0, oI 0]) rfl ?_
   refine XS.iload X7.here hx rfl (oG hby d44 22 rfl) rfl ?_
   refine XS.aloadN X7.here hx rfl (oG hby d44 23 rfl) rfl rfl ?_
   refine st10 _ ?_
   refine XS.icmpNo X10.here hx rfl (oG hby d44 25 rfl) rfl (tlt hf7).2.1 ?_
   refine XS.aloadN X10.here hx rfl (oG hby d44 26 rfl) rfl rfl ?_
   refine XS.iloadN X10.here hx rfl (oG hby d44 27 rfl) rfl ?_
   refine XS.aloadN X10.here hx rfl (oG hby d44 28 rfl) rfl rfl ?_
   refine XS.iloadN X10.here hx rfl (oG hby d44 29 rfl) rfl ?_
   refine XS.iload X10.here hx rfl (oG hby d44 30 rfl) rfl ?_
   show oZ p e below T10 (mkF m 51 #[oA a0_, oI 0, oI p2_, oA r4_r, oA b7, oI 0, oI 0] [(.int 0), (.int p2_), (.ref r4_r), (.int 0), (.ref a0_)]) _
   refine XS.iadd X10.here hx rfl (oG hby d44 31 rfl) rfl ?_
   refine XS.bipush X10.here hx rfl (oG hby d44 32 rfl) ?_
   refine iremM X10 hx rfl (oG hby d44 33 rfl) rfl (by decide +kernel) ?_
   refine XS.aload X10.here hx rfl (oG hby d44 34 rfl) rfl rfl ?_
   refine XS.iload X10.here hx rfl (oG hby d44 35 rfl) rfl ?_
   refine st11.trans ?_
   refine XS.istore X11.here hx rfl (oG hby d44 37 rfl) rfl (l' := #[oA a0_, oI 0, oI p2_, oA r4_r, oA b7, oI (Int32.ofNat (own_tk f_backends_a0_ f_subsetSize_a0_ ((p2_ + (0 : Int32)) % (10 : Int32)) (own_wl lx_ cx_) cx_ 0 0)), oI 0]) rfl ?_
   refine XS.iinc X11.here hx rfl (oG hby d44 38 rfl) rfl (l' := #[oA a0_, oI 0, oI p2_, oA r4_r, oA b7, oI (Int32.ofNat (own_tk f_backends_a0_ f_subsetSize_a0_ ((p2_ + (0 : Int32)) % (10 : Int32)) (own_wl lx_ cx_) cx_ 0 0)), oI ((0 : Int32) + (1 : Int32))]) rfl ?_
   show oZ p e below T11 (mkF m 67 #[oA a0_, oI 0, oI p2_, oA r4_r, oA b7, oI (Int32.ofNat (own_tk f_backends_a0_ f_subsetSize_a0_ ((p2_ + (0 : Int32)) % (10 : Int32)) (own_wl lx_ cx_) cx_ 0 0)), oI ((0 : Int32) + (1 : Int32))] []) _
   rw [(by decide +kernel : ((0 : Int32) + (1 : Int32)) = (1 : Int32))]
   refine XS.goto X11.here hx rfl (pc0 := 67) (pc' := 36) rfl (oG hby d44 39 rfl) (by decide) (by decide) ?_
   refine XS.iload X11.here hx rfl (oG hby d44 22 rfl) rfl ?_
   refine XS.aloadN X11.here hx rfl (oG hby d44 23 rfl) rfl rfl ?_
   refine st16 _ ?_
   refine XS.icmpYes X16.here hx rfl (pc0 := 42) (pc' := 70) rfl (oG hby d44 25 rfl) rfl (flt hf13).2.1 (by decide) (by decide) ?_
   refine XS.aload X16.here hx rfl (oG hby d44 40 rfl) rfl rfl ?_
   show oZ p e below T16 (mkF m 72 #[oA a0_, oI 0, oI p2_, oA r4_r, oA b7, oI (Int32.ofNat (own_tk f_backends_a0_ f_subsetSize_a0_ ((p2_ + (0 : Int32)) % (10 : Int32)) (own_wl lx_ cx_) cx_ 0 0)), oI 1] [(.ref b7)]) _
   jvm_step X16.here [X16.here.top, hx, (oG hby d44 41 rfl), X16.method', Bd.returns, Value.isRef, FieldType.isReference]
   first | (intro acts; rw [hr _ acts rfl rfl rfl]) | rw [hr _ _ rfl rfl rfl]
   exact Steps.refl _
 · show Qown_b44_ft_0_45 Z a0_ p2_ f_lots_a0_ f_subsetSize_a0_ lx_ cx_ f_ringBits_a0_ f_backends_a0_ h0 n0 _ T16.heap _
   rw [e16]
   exact ⟨b7, rfl, N11, K11, sz_b7, f17_b7, Q11_0⟩
def Qown_su_s (Z : State) (a0_ : Addr) (p1_ : Int32) (cl_ : Nat) (f_fitsInARow_a0_ : Int32) (o4_ : Addr) (b_ : Int32) (n_ : Int32) (ft_ : Int32) (lx_ : Nat) (rd_ : Nat) (h0 : Heap) (n0 : Nat) (v : Option Value) (h : Heap) (L : List Loc) : Prop := ∃ r2_r : Addr, v = some (.ref r2_r) ∧ Fr n0 L ∧ Keep h0 h [] ∧ h0.size ≤ r2_r ∧ own_ia Z h r2_r n_
theorem own_su_s (l : Launch) (Z : State) (a0 : Array Value) (hw : oH a0 Z) (ws : List Jvm.Cond) (a0_ : Addr) (p1_ : Int32) (cl_ : Nat) (f_fitsInARow_a0_ : Int32) (o4_ : Addr) (b_ : Int32) (n_ : Int32) (ft_ : Int32) (lx_ : Nat) (rd_ : Nat) (h0 : Heap) (n0 : Nat) (Z0 : n0 ≤ h0.size) (F_fitsInARow_a0_ : Fld Z h0 a0_ oC0 "fitsInARow" "Z" (.int f_fitsInARow_a0_)) (U_ : own_SUB Z h0 a0_ b_ n_ lx_ ft_) (Y_ : own_SR Z h0 o4_) (E_a0_ : Exa Z h0 a0_ oC0) (hf0 : ¬ (p1_ < (0 : Int32))) (hf1 : (p1_ / (10 : Int32)) = (0 : Int32)) (hf2 : f_fitsInARow_a0_ = (0 : Int32)) (hf3 : own_swOK b_ n_ (p1_ % (10 : Int32)) lx_ rd_ cl_) (hf4 : n_.toNatClampNeg ≤ 32) :
   oMet l oM3 prog_29_method_2_code 5 (some (.array .int)) ws (oR 8 (10 + 2 * cl_) (80 + 11 * cl_) 230) Z h0 #[(.ref a0_), (.int p1_)] (Qown_su_s Z a0_ p1_ cl_ f_fitsInARow_a0_ o4_ b_ n_ ft_ lx_ rd_ h0 n0) := by
 refine oBd n0 (plainFor_of_name own_pn4) ?_
 intro p e s m below meth c s₁ Bd hx hZ hby hml hown hnm X0 e0 N0
 obtain ⟨T1, X1, e1, st1⟩ := getF X0 hx hZ hown (host := "") (Or.inl (oW hw 37 rfl)) Via.refl e0 F_fitsInARow_a0_ (g := (mkF m 33 #[oA a0_, oI p1_, oI 0, oI (p1_ % (10 : Int32)), .unset] [(.ref a0_)])) rfl rfl (oG hby d8 13 rfl)
 obtain ⟨cq2, q2, q2'⟩ := E_a0_.cell
 obtain ⟨_, _, ⟨T2, L2, k2, n2⟩, -, X2, ⟨Lc2, hQ2, l2, y2, z2⟩, st2⟩ := X1.privateBack hx (y := oM31) hown (mvT hZ (oW hw 59 rfl)) (mvT hZ (oW hw 60 rfl)) (own_selp (mvT hZ (oW hw 19 rfl)) (mvP hZ (oW hw 61 rfl) (args := #[])) (mvT hZ (oW hw 60 rfl)) (by decide)) (Cond.privateMethod_at (mvP hZ (oW hw 61 rfl) (args := #[]))) (mvT hZ (oW hw 62 rfl)) (by decide) (backOf (W := 0) (own_swC l Z a0 hw [] a0_ (p1_ % (10 : Int32)) o4_ b_ n_ ft_ lx_ rd_ cl_ h0 n0 Z0 U_ Y_ hf3) hZ (oW hw 62 rfl) (oW hw 16 rfl) (Nat.le_of_ble_eq_true rfl) (Nat.le_of_ble_eq_true rfl)) (g := (mkF m 41 #[oA a0_, oI p1_, oI 0, oI (p1_ % (10 : Int32)), .unset] [(.int (p1_ % (10 : Int32))), (.ref a0_)])) rfl (by rw [hml]; rfl) (Steps.refl _) (a := a0_) (by rw [e1]; exact q2) q2' (argsL := [(.int (p1_ % (10 : Int32)))]) (rest := []) (lenOf own_pd15 rfl) rfl (by show 2 * 0 + _ ≤ _; exact Nat.le_of_eq rfl) (oG hby d8 17 rfl) (fun _ _ => ⟨rfl, e1, (show 0 + (5 + 2 * cl_) ≤ (10 + 2 * cl_) from by omega), (show 0 + (44 + 11 * cl_) ≤ (80 + 11 * cl_) from by omega)⟩)
 dsimp only [Pt.U, Pt.locs, Pt.cells, Pt.slots] at X2 l2 y2 z2 st2 hQ2
 subst l2; rw [y2, z2] at X2
 obtain ⟨r2_r, rfl, N2q, Kq2, lo_r2_r, Q2_0⟩ := hQ2
 have N2 := Fr.app N0 N2q
 have ne_a0__r2_r : a0_ ≠ r2_r := oV F_fitsInARow_a0_.lt lo_r2_r
 have sz_r2_r : h0.size ≤ r2_r := Nat.le_trans (Keep.refl h0 []).1 lo_r2_r
 have g_r2_r : n0 ≤ r2_r := Nat.le_trans Z0 sz_r2_r
 have K2 : Keep h0 T2.heap [] := (Keep.refl h0 []).trans Kq2 own_a0
 obtain ⟨T3, L3, X3, N3, Kq3, V3, st3⟩ := own_sort X2 hx hZ hw hown (oW hw 203 rfl) rfl Q2_0 hf4 g_r2_r N2 (show 0 + (5 + 2 * cl_) + 0 ≤ (10 + 2 * cl_) from by omega) (show 0 + (44 + 11 * cl_) + 0 ≤ (80 + 11 * cl_) from by omega) (W := 0) (Nat.le_of_ble_eq_true rfl) (Nat.le_of_ble_eq_true rfl) (g := (mkF m 98 #[oA a0_, oI p1_, oI 0, oI (p1_ % (10 : Int32)), oA r2_r] [(.ref r2_r)])) rfl (by rw [hml]; rfl) rfl (by show 2 * 0 + _ ≤ _; exact Nat.le_of_eq rfl) (oG hby d8 31 rfl)
 have K3 : Keep h0 T3.heap [] := K2.trans Kq3 (own_a1 (Or.inr sz_r2_r))
 obtain ⟨fs, hr, hrun, hended, hW, hsame⟩ := X3.leave (v := some (.ref r2_r)) (fun h => by rw [Bd.returns] at h; cases h)
 refine ⟨_, _, castTop (own_ef28 m a0_ p1_) ?_, hrun, hended, _, _, rfl, ?_, ⟨_, rfl⟩, hW, (hsame.mono (show 0 + (5 + 2 * cl_) + 0 ≤ (10 + 2 * cl_) from by omega) (show 0 + (44 + 11 * cl_) + 0 ≤ (80 + 11 * cl_) from by omega))⟩
 · show oZ p e below s₁ (mkF m 0 #[oA a0_, oI p1_, .unset, .unset, .unset] []) _
   refine XS.iloadN X0.here hx rfl (oG hby d8 0 rfl) rfl ?_
   refine XS.ifYes X0.here hx rfl (pc0 := 1) (pc' := 18) rfl (oG hby d8 1 rfl) rfl ((if0 _ _).trans (flt hf0).2.1) (by decide) (by decide) ?_
   refine XS.iloadN X0.here hx rfl (oG hby d8 2 rfl) rfl ?_
   refine XS.bipush X0.here hx rfl (oG hby d8 3 rfl) ?_
   refine XS.idiv X0.here hx rfl (oG hby d8 4 rfl) rfl (by decide +kernel) ?_
   show oZ p e below s₁ (mkF m 22 #[oA a0_, oI p1_, .unset, .unset, .unset] [(.int (p1_ / (10 : Int32)))]) _
   rw [hf1]
   refine XS.istoreN X0.here hx rfl (oG hby d8 5 rfl) rfl (l' := #[oA a0_, oI p1_, oI 0, .unset, .unset]) rfl ?_
   refine XS.iloadN X0.here hx rfl (oG hby d8 6 rfl) rfl ?_
   refine XS.bipush X0.here hx rfl (oG hby d8 7 rfl) ?_
   refine iremM X0 hx rfl (oG hby d8 8 rfl) rfl (by decide +kernel) ?_
   refine XS.istoreN X0.here hx rfl (oG hby d8 9 rfl) rfl (l' := #[oA a0_, oI p1_, oI 0, oI (p1_ % (10 : Int32)), .unset]) rfl ?_
   refine XS.iloadN X0.here hx rfl (oG hby d8 10 rfl) rfl ?_
   refine XS.ifNo X0.here hx rfl (oG hby d8 11 rfl) rfl ((if0 _ _).trans (teq (rfl : (0 : Int32) = (0 : Int32))).2) ?_
   refine XS.aloadN X0.here hx rfl (oG hby d8 12 rfl) rfl rfl ?_
   refine st1 _ ?_
   refine XS.ifNo X1.here hx rfl (oG hby d8 14 rfl) rfl ((if0 _ _).trans (teq hf2).2) ?_
   show oZ p e below T1 (mkF m 39 #[oA a0_, oI p1_, oI 0, oI (p1_ % (10 : Int32)), .unset] []) _
   refine XS.aloadN X1.here hx rfl (oG hby d8 15 rfl) rfl rfl ?_
   refine XS.iloadN X1.here hx rfl (oG hby d8 16 rfl) rfl ?_
   refine st2.trans ?_
   refine XS.astore X2.here hx rfl (oG hby d8 18 rfl) rfl rfl (l' := #[oA a0_, oI p1_, oI 0, oI (p1_ % (10 : Int32)), oA r2_r]) rfl ?_
   refine XS.goto X2.here hx rfl (pc0 := 46) (pc' := 96) rfl (oG hby d8 19 rfl) (by decide) (by decide) ?_
   refine XS.aload X2.here hx rfl (oG hby d8 30 rfl) rfl rfl ?_
   refine st3 _ ?_
   refine XS.aload X3.here hx rfl (oG hby d8 32 rfl) rfl rfl ?_
   show oZ p e below T3 (mkF m 103 #[oA a0_, oI p1_, oI 0, oI (p1_ % (10 : Int32)), oA r2_r] [(.ref r2_r)]) _
   jvm_step X3.here [X3.here.top, hx, (oG hby d8 33 rfl), X3.method', Bd.returns, Value.isRef, FieldType.isReference]
   first | (intro acts; rw [hr _ acts rfl rfl rfl]) | rw [hr _ _ rfl rfl rfl]
   exact Steps.refl _
 · show Qown_su_s Z a0_ p1_ cl_ f_fitsInARow_a0_ o4_ b_ n_ ft_ lx_ rd_ h0 n0 _ T3.heap _
   exact ⟨r2_r, rfl, N3, K3, sz_r2_r, V3⟩
def Qown_su_w (Z : State) (a0_ : Addr) (p1_ : Int32) (cl_ : Nat) (f_fitsInARow_a0_ : Int32) (w_START_ROWS : Addr) (n_w_START_ROWS : Int32) (vs_w_START_ROWS : List Int32) (f_lots_a0_ : Int32) (f_subsetSize_a0_ : Int32) (f_ringBits_a0_ : Int32) (f_backends_a0_ : Int32) (lx_ : Nat) (cx_ : Nat) (h0 : Heap) (n0 : Nat) (v : Option Value) (h : Heap) (L : List Loc) : Prop := ∃ r4_b7 : Addr, v = some (.ref r4_b7) ∧ Fr n0 L ∧ Keep h0 h [] ∧ h0.size ≤ r4_b7 ∧ Exa Z h r4_b7 "[I" ∧ own_ia Z h r4_b7 f_subsetSize_a0_
theorem own_su_w (l : Launch) (Z : State) (a0 : Array Value) (hw : oH a0 Z) (ws : List Jvm.Cond) (a0_ : Addr) (p1_ : Int32) (cl_ : Nat) (f_fitsInARow_a0_ : Int32) (w_START_ROWS : Addr) (n_w_START_ROWS : Int32) (vs_w_START_ROWS : List Int32) (f_lots_a0_ : Int32) (f_subsetSize_a0_ : Int32) (f_ringBits_a0_ : Int32) (f_backends_a0_ : Int32) (lx_ : Nat) (cx_ : Nat) (h0 : Heap) (n0 : Nat) (Z0 : n0 ≤ h0.size) (F_fitsInARow_a0_ : Fld Z h0 a0_ oC0 "fitsInARow" "Z" (.int f_fitsInARow_a0_)) (S_START_ROWS : Sta Z h0 oC0 "START_ROWS" "[I" (.ref w_START_ROWS)) (A_w_START_ROWS : own_il Z h0 w_START_ROWS n_w_START_ROWS vs_w_START_ROWS) (F_lots_a0_ : Fld Z h0 a0_ oC0 "lots" "I" (.int f_lots_a0_)) (F_subsetSize_a0_ : Fld Z h0 a0_ oC0 "subsetSize" "I" (.int f_subsetSize_a0_)) (F_ringBits_a0_ : Fld Z h0 a0_ oC0 "ringBits" "I" (.int f_ringBits_a0_)) (E_a0_ : Exa Z h0 a0_ oC0) (F_backends_a0_ : Fld Z h0 a0_ oC0 "backends" "I" (.int f_backends_a0_)) (hf0 : ¬ (p1_ < (0 : Int32))) (hf1 : (p1_ / (10 : Int32)) = (0 : Int32)) (hf2 : ¬ (f_fitsInARow_a0_ = (0 : Int32))) (hf3 : ¬ ((p1_ % (10 : Int32)) < 0)) (hf4 : (p1_ % (10 : Int32)) < n_w_START_ROWS) (hf5 : ¬ ((0 : Int32) < (lcmpW (f_lots_a0_.toInt64) ((f_subsetSize_a0_.toInt64) + (1 : Int64))))) (hf6 : f_lots_a0_ = Int32.ofNat lx_) (hf7 : f_ringBits_a0_ = own_rb lx_) (hf8 : ((f_lots_a0_.toInt64).toInt32) = Int32.ofNat cx_) (hf9 : own_pairs lx_ cx_) (hf10 : ¬ (f_subsetSize_a0_ < 0)) (hf11 : f_subsetSize_a0_.toNatClampNeg ≤ 32) (hf12 : (0 : Int32) < f_subsetSize_a0_) (hf13 : (Int32.ofNat cx_) = Int32.ofNat cx_) (hf14 : cx_ ≤ 4) (hf15 : own_lots (own_wl lx_ cx_)) (hf16 : ¬ ((((vs_w_START_ROWS.getD ((p1_ % (10 : Int32))).toNatClampNeg 0) + (0 : Int32)) % (10 : Int32)) < 0)) (hf17 : (((vs_w_START_ROWS.getD ((p1_ % (10 : Int32))).toNatClampNeg 0) + (0 : Int32)) % (10 : Int32)) < (10 : Int32)) (hf18 : ¬ ((Int32.ofNat (own_tk f_backends_a0_ f_subsetSize_a0_ (((vs_w_START_ROWS.getD ((p1_ % (10 : Int32))).toNatClampNeg 0) + (0 : Int32)) % (10 : Int32)) (own_wl lx_ cx_) cx_ 0 0)) < f_subsetSize_a0_)) :
   oMet l oM3 prog_29_method_2_code 5 (some (.array .int)) ws (oR 8 (10 + 2 * cl_) (80 + 11 * cl_) 230) Z h0 #[(.ref a0_), (.int p1_)] (Qown_su_w Z a0_ p1_ cl_ f_fitsInARow_a0_ w_START_ROWS n_w_START_ROWS vs_w_START_ROWS f_lots_a0_ f_subsetSize_a0_ f_ringBits_a0_ f_backends_a0_ lx_ cx_ h0 n0) := by
 refine oBd n0 (plainFor_of_name own_pn4) ?_
 intro p e s m below meth c s₁ Bd hx hZ hby hml hown hnm X0 e0 N0
 obtain ⟨T1, X1, e1, st1⟩ := getF X0 hx hZ hown (host := "") (Or.inl (oW hw 37 rfl)) Via.refl e0 F_fitsInARow_a0_ (g := (mkF m 33 #[oA a0_, oI p1_, oI 0, oI (p1_ % (10 : Int32)), .unset] [(.ref a0_)])) rfl rfl (oG hby d8 13 rfl)
 obtain ⟨T2, X2, e2, st2⟩ := getS2 X1 hx hZ hown (host := "") (Or.inl (oW hw 134 rfl)) Via.refl e1 S_START_ROWS (g := (mkF m 86 #[oA a0_, oI p1_, oI 0, oI (p1_ % (10 : Int32)), .unset] [(.int 0), (.ref a0_)])) rfl (oG hby d8 25 rfl)
 obtain ⟨c3, A3, hin3, hat3⟩ := own_il_at (j := (p1_ % (10 : Int32))) A_w_START_ROWS hf3 hf4
 have hat3' : c3.slots[((p1_ % (10 : Int32))).toNatClampNeg]? = some (.int (vs_w_START_ROWS.getD ((p1_ % (10 : Int32))).toNatClampNeg 0)) := hat3
 obtain ⟨cq4, q4, q4'⟩ := E_a0_.cell
 obtain ⟨_, _, ⟨T4, L4, k4, n4⟩, -, X4, ⟨Lc4, hQ4, l4, y4, z4⟩, st4⟩ := X2.privateBack hx (y := oM34) hown (mvT hZ (oW hw 271 rfl)) (mvT hZ (oW hw 272 rfl)) (own_selp (mvT hZ (oW hw 19 rfl)) (mvP hZ (oW hw 273 rfl) (args := #[])) (mvT hZ (oW hw 272 rfl)) (by decide)) (Cond.privateMethod_at (mvP hZ (oW hw 273 rfl) (args := #[]))) (mvT hZ (oW hw 274 rfl)) (by decide) (backOf (W := 0) (own_b44_ft_0_45 l Z a0 hw [] a0_ (vs_w_START_ROWS.getD ((p1_ % (10 : Int32))).toNatClampNeg 0) f_lots_a0_ f_subsetSize_a0_ lx_ cx_ f_ringBits_a0_ f_backends_a0_ h0 n0 Z0 F_lots_a0_ F_subsetSize_a0_ F_ringBits_a0_ E_a0_ F_backends_a0_ hf5 hf6 hf7 hf8 hf9 hf10 hf11 hf12 hf13 hf14 hf15 hf16 hf17 hf18) hZ (oW hw 274 rfl) (oW hw 16 rfl) (Nat.le_of_ble_eq_true rfl) (Nat.le_of_ble_eq_true rfl)) (g := (mkF m 91 #[oA a0_, oI p1_, oI 0, oI (p1_ % (10 : Int32)), .unset] [(.int (vs_w_START_ROWS.getD ((p1_ % (10 : Int32))).toNatClampNeg 0)), (.int 0), (.ref a0_)])) rfl (by rw [hml]; rfl) (Steps.refl _) (a := a0_) (by rw [e2]; exact q4) q4' (argsL := [(.int 0), (.int (vs_w_START_ROWS.getD ((p1_ % (10 : Int32))).toNatClampNeg 0))]) (rest := []) (lenOf own_pd8 rfl) rfl (by show 2 * 0 + _ ≤ _; exact Nat.le_of_eq rfl) (oG hby d8 28 rfl) (fun _ _ => ⟨rfl, e2, (show 0 + 10 ≤ (10 + 2 * cl_) from by omega), (show 0 + 80 ≤ (80 + 11 * cl_) from by omega)⟩)
 dsimp only [Pt.U, Pt.locs, Pt.cells, Pt.slots] at X4 l4 y4 z4 st4 hQ4
 subst l4; rw [y4, z4] at X4
 obtain ⟨r4_b7, rfl, N4q, Kq4, lo_r4_b7, Q4_0, Q4_1⟩ := hQ4
 have N4 := Fr.app N0 N4q
 have ne_a0__r4_b7 : a0_ ≠ r4_b7 := oV F_fitsInARow_a0_.lt lo_r4_b7
 have ne_w_START_ROWS_r4_b7 : w_START_ROWS ≠ r4_b7 := oV A_w_START_ROWS.lt lo_r4_b7
 have sz_r4_b7 : h0.size ≤ r4_b7 := Nat.le_trans (Keep.refl h0 []).1 lo_r4_b7
 have g_r4_b7 : n0 ≤ r4_b7 := Nat.le_trans Z0 sz_r4_b7
 have K4 : Keep h0 T4.heap [] := (Keep.refl h0 []).trans Kq4 own_a0
 obtain ⟨T5, L5, X5, N5, Kq5, V5, st5⟩ := own_sort X4 hx hZ hw hown (oW hw 203 rfl) rfl Q4_1 hf11 g_r4_b7 N4 (show 0 + 10 + 0 ≤ (10 + 2 * cl_) from by omega) (show 0 + 80 + 0 ≤ (80 + 11 * cl_) from by omega) (W := 0) (Nat.le_of_ble_eq_true rfl) (Nat.le_of_ble_eq_true rfl) (g := (mkF m 98 #[oA a0_, oI p1_, oI 0, oI (p1_ % (10 : Int32)), oA r4_b7] [(.ref r4_b7)])) rfl (by rw [hml]; rfl) rfl (by show 2 * 0 + _ ≤ _; exact Nat.le_of_eq rfl) (oG hby d8 31 rfl)
 have K5 : Keep h0 T5.heap [] := K4.trans Kq5 (own_a1 (Or.inr sz_r4_b7))
 have f6_r4_b7 := (Q4_0.keep Kq5)
 obtain ⟨fs, hr, hrun, hended, hW, hsame⟩ := X5.leave (v := some (.ref r4_b7)) (fun h => by rw [Bd.returns] at h; cases h)
 refine ⟨_, _, castTop (own_ef28 m a0_ p1_) ?_, hrun, hended, _, _, rfl, ?_, ⟨_, rfl⟩, hW, (hsame.mono (show 0 + 10 + 0 ≤ (10 + 2 * cl_) from by omega) (show 0 + 80 + 0 ≤ (80 + 11 * cl_) from by omega))⟩
 · show oZ p e below s₁ (mkF m 0 #[oA a0_, oI p1_, .unset, .unset, .unset] []) _
   refine XS.iloadN X0.here hx rfl (oG hby d8 0 rfl) rfl ?_
   refine XS.ifYes X0.here hx rfl (pc0 := 1) (pc' := 18) rfl (oG hby d8 1 rfl) rfl ((if0 _ _).trans (flt hf0).2.1) (by decide) (by decide) ?_
   refine XS.iloadN X0.here hx rfl (oG hby d8 2 rfl) rfl ?_
   refine XS.bipush X0.here hx rfl (oG hby d8 3 rfl) ?_
   refine XS.idiv X0.here hx rfl (oG hby d8 4 rfl) rfl (by decide +kernel) ?_
   show oZ p e below s₁ (mkF m 22 #[oA a0_, oI p1_, .unset, .unset, .unset] [(.int (p1_ / (10 : Int32)))]) _
   rw [hf1]
   refine XS.istoreN X0.here hx rfl (oG hby d8 5 rfl) rfl (l' := #[oA a0_, oI p1_, oI 0, .unset, .unset]) rfl ?_
   refine XS.iloadN X0.here hx rfl (oG hby d8 6 rfl) rfl ?_
   refine XS.bipush X0.here hx rfl (oG hby d8 7 rfl) ?_
   refine iremM X0 hx rfl (oG hby d8 8 rfl) rfl (by decide +kernel) ?_
   refine XS.istoreN X0.here hx rfl (oG hby d8 9 rfl) rfl (l' := #[oA a0_, oI p1_, oI 0, oI (p1_ % (10 : Int32)), .unset]) rfl ?_
   refine XS.iloadN X0.here hx rfl (oG hby d8 10 rfl) rfl ?_
   refine XS.ifNo X0.here hx rfl (oG hby d8 11 rfl) rfl ((if0 _ _).trans (teq (rfl : (0 : Int32) = (0 : Int32))).2) ?_
   refine XS.aloadN X0.here hx rfl (oG hby d8 12 rfl) rfl rfl ?_
   refine st1 _ ?_
   refine XS.ifYes X1.here hx rfl (pc0 := 36) (pc' := 49) rfl (oG hby d8 14 rfl) rfl ((if0 _ _).trans (feq hf2).2) (by decide) (by decide) ?_
   show oZ p e below T1 (mkF m 49 #[oA a0_, oI p1_, oI 0, oI (p1_ % (10 : Int32)), .unset] []) _
   refine XS.iloadN X1.here hx rfl (oG hby d8 20 rfl) rfl ?_
   refine XS.iconst X1.here hx rfl (oG hby d8 21 rfl) ?_
   refine XS.icmpYes X1.here hx rfl (pc0 := 51) (pc' := 84) rfl (oG hby d8 22 rfl) rfl (feq (by decide +kernel : ¬ ((0 : Int32) = (1 : Int32)))).2 (by decide) (by decide) ?_
   refine XS.aloadN X1.here hx rfl (oG hby d8 23 rfl) rfl rfl ?_
   refine XS.iloadN X1.here hx rfl (oG hby d8 24 rfl) rfl ?_
   refine st2 _ ?_
   refine XS.iloadN X2.here hx rfl (oG hby d8 26 rfl) rfl ?_
   refine X2.iaload hx (j := (p1_ % (10 : Int32))) (v := (.int (vs_w_START_ROWS.getD ((p1_ % (10 : Int32))).toNatClampNeg 0))) (by rw [e2]; exact A3.1) (State.isArrayOf_alike hZ.alike A3.2.1) A3.2.2 hin3 hat3' (g := (mkF m 90 #[oA a0_, oI p1_, oI 0, oI (p1_ % (10 : Int32)), .unset] [(.int (p1_ % (10 : Int32))), (.ref w_START_ROWS), (.int 0), (.ref a0_)])) rfl rfl (oG hby d8 27 rfl) _ ?_
   refine st4.trans ?_
   refine XS.astore X4.here hx rfl (oG hby d8 29 rfl) rfl rfl (l' := #[oA a0_, oI p1_, oI 0, oI (p1_ % (10 : Int32)), oA r4_b7]) rfl ?_
   refine XS.aload X4.here hx rfl (oG hby d8 30 rfl) rfl rfl ?_
   show oZ p e below T4 (mkF m 98 #[oA a0_, oI p1_, oI 0, oI (p1_ % (10 : Int32)), oA r4_b7] [(.ref r4_b7)]) _
   refine st5 _ ?_
   refine XS.aload X5.here hx rfl (oG hby d8 32 rfl) rfl rfl ?_
   show oZ p e below T5 (mkF m 103 #[oA a0_, oI p1_, oI 0, oI (p1_ % (10 : Int32)), oA r4_b7] [(.ref r4_b7)]) _
   jvm_step X5.here [X5.here.top, hx, (oG hby d8 33 rfl), X5.method', Bd.returns, Value.isRef, FieldType.isReference]
   first | (intro acts; rw [hr _ acts rfl rfl rfl]) | rw [hr _ _ rfl rfl rfl]
   exact Steps.refl _
 · show Qown_su_w Z a0_ p1_ cl_ f_fitsInARow_a0_ w_START_ROWS n_w_START_ROWS vs_w_START_ROWS f_lots_a0_ f_subsetSize_a0_ f_ringBits_a0_ f_backends_a0_ lx_ cx_ h0 n0 _ T5.heap _
   exact ⟨r4_b7, rfl, N5, K5, sz_r4_b7, f6_r4_b7, V5⟩
def own_wkOK (b n cli : Int32) (L cx : Nat) : Prop := ¬ ((cli % (10 : Int32)) < 0) ∧ (cli % (10 : Int32)) < (10 : Int32) ∧ ¬ ((0 : Int32) < (lcmpW ((Int32.ofNat L).toInt64) ((n.toInt64) + (1 : Int64)))) ∧ (((Int32.ofNat L).toInt64).toInt32) = Int32.ofNat cx ∧ own_pairs L cx ∧ ¬ (n < 0) ∧ (0 : Int32) < n ∧ cx ≤ 4 ∧ ¬ ((((([0, 8, 2, 4, 6, 1, 9, 5, 3, 7] : List Int32).getD ((cli % (10 : Int32))).toNatClampNeg 0) + (0 : Int32)) % (10 : Int32)) < 0) ∧ (((([0, 8, 2, 4, 6, 1, 9, 5, 3, 7] : List Int32).getD ((cli % (10 : Int32))).toNatClampNeg 0) + (0 : Int32)) % (10 : Int32)) < (10 : Int32) ∧ ¬ ((Int32.ofNat (own_tk b n (((([0, 8, 2, 4, 6, 1, 9, 5, 3, 7] : List Int32).getD ((cli % (10 : Int32))).toNatClampNeg 0) + (0 : Int32)) % (10 : Int32)) (own_wl L cx) cx 0 0)) < n)
def own_suOK (b n cli ft : Int32) (L R cx cl : Nat) : Prop := ¬ (cli < (0 : Int32)) ∧ (cli / (10 : Int32)) = (0 : Int32) ∧ n.toNatClampNeg ≤ 32 ∧ ((ft = (0 : Int32) ∧ own_swOK b n (cli % (10 : Int32)) L R cl) ∨ (ft = (1 : Int32) ∧ own_wkOK b n cli L cx))
theorem own_subC (l : Launch) (Z : State) (a0 : Array Value) (hw : oH a0 Z) (ws : List Jvm.Cond) (o0 : Addr) (cli : Int32) (o4 : Addr) (b n ft : Int32) (L R cx cl : Nat) (h0 : Heap) (n0 : Nat) (Z0 : n0 ≤ h0.size) (U : own_SUB Z h0 o0 b n L ft) (Y : own_SR Z h0 o4) (ok : own_suOK b n cli ft L R cx cl) :
   oMet l oM3 prog_29_method_2_code 5 (some (.array .int)) ws (oR 8 (10 + 2 * cl) (80 + 11 * cl) 230) Z h0 #[(.ref o0), (.int cli)] (own_QC Z n h0 n0) := by
 obtain ⟨c1, c2, c3, c4⟩ := ok
 rcases c4 with ⟨rfl, q⟩ | ⟨rfl, q⟩
 · exact own_mono (own_su_s l Z a0 hw ws o0 cli cl (0 : Int32) o4 b n (0 : Int32) L R h0 n0 Z0 U.2.2.2.2.2 U Y U.1 c1 c2 rfl q c3) fun v h Lc ⟨r, a1, a2, a3, a4, a5⟩ => ⟨r, a1, a2, a3, a4, a5⟩
 · obtain ⟨k0, k1, k2, k3, k4, k5, k6, k7, k8, k9, k10⟩ := q
   exact own_mono (own_su_w l Z a0 hw ws o0 cli cl (1 : Int32) o4 (10 : Int32) ([0, 8, 2, 4, 6, 1, 9, 5, 3, 7] : List Int32) (Int32.ofNat L) n (own_rb L) b L cx h0 n0 Z0 U.2.2.2.2.2 Y.1 Y.2.1 U.2.2.2.1 U.2.2.1 U.2.2.2.2.1 U.1 U.2.1 c1 c2 (by decide) k0 k1 k2 rfl rfl k3 k4 k5 c3 k6 rfl k7 (own_lots_wl _ _) k8 k9 k10) fun v h Lc ⟨r, a1, a2, a3, a4, a5, a6⟩ => ⟨r, a1, a2, a3, a4, a6⟩
theorem own_bt_a (rc : Nat) (rs : Nat) (o0_ : Addr) (o1_ : Addr) (o2_ : Addr) (o3_ : Addr) (i4_ : Int32) (i5_ : Int32) (i6_ : Int32) (i7_ : Int32) (n_o0_ : Int32) (vs_o0_ : List Int32) (n_o1_ : Int32) (vs_o1_ : List Int32) (n_o3_ : Int32) (k5_ : Int32) (k6_ : Int32)
   (X0 : Stand p l e (oR 4 rc rs 150) s m args below meth c T0 locs cells slots) (hx : p.tables.exec = Jvm.exec) (hZ : Z.Warmed39 s.vm) (hw : oH a0 Z) (hby : c.code = prog_28_method_2_code) (hml : c.maxLocals = 8) (hown : s.vm.findClass oC4 = some m.cls) (e0 : T0.heap = h0) (N0 : Fr n0 locs) (Z0 : n0 ≤ h0.size) (A_o0_ : own_il Z h0 o0_ n_o0_ vs_o0_) (A_o1_ : own_il Z h0 o1_ n_o1_ vs_o1_) (A_o3_ : own_ia Z h0 o3_ n_o3_) (g_o3_ : n0 ≤ o3_) (hf0 : i6_ < n_o0_) (hf1 : ¬ (i7_ = n_o1_)) (hf2 : ¬ (i6_ < 0)) (hf3 : ¬ (i7_ < 0)) (hf4 : i7_ < n_o1_) (hf5 : (vs_o0_.getD (i6_).toNatClampNeg 0) < (vs_o1_.getD (i7_).toNatClampNeg 0)) (hf6 : ¬ (i5_ < 0)) (hf7 : i5_ < n_o3_) (hf8 : (i5_ + (1 : Int32)) = k5_) (hf9 : (i6_ + (1 : Int32)) = k6_) (hc : cells + (0) ≤ rc) (hs : slots + (0) ≤ rs) :
   ∃ (T' : State) (locs' : List Loc), Stand p l e (oR 4 rc rs 150) s m args below meth c T' locs' cells slots ∧ Fr n0 locs' ∧ Keep h0 T'.heap [o3_] ∧ own_ia Z T'.heap o3_ n_o3_ ∧
     ∀ target, Steps p.tables e below (T'.setTop (mkF m 22 #[oA o0_, oA o1_, oA o2_, oA o3_, oI i4_, oI k5_, oI k6_, oI i7_] [])) target → Steps p.tables e below (T0.setTop (mkF m 22 #[oA o0_, oA o1_, oA o2_, oA o3_, oI i4_, oI i5_, oI i6_, oI i7_] [])) target := by
 obtain ⟨c1, A1, S1, M1⟩ := own_il_cell A_o0_
 obtain ⟨c2, A2, S2, M2⟩ := own_il_cell A_o1_
 obtain ⟨c3, A3, S3, M3⟩ := own_il_cell A_o0_
 obtain ⟨c4, A4, hin4, hat4⟩ := own_il_at (j := i6_) A_o0_ hf2 hf0
 have hat4' : c4.slots[(i6_).toNatClampNeg]? = some (.int (vs_o0_.getD (i6_).toNatClampNeg 0)) := hat4
 obtain ⟨c5, A5, hin5, hat5⟩ := own_il_at (j := i7_) A_o1_ hf3 hf4
 have hat5' : c5.slots[(i7_).toNatClampNeg]? = some (.int (vs_o1_.getD (i7_).toNatClampNeg 0)) := hat5
 obtain ⟨c6, A6, hin6, hat6⟩ := own_il_at (j := i6_) A_o0_ hf2 hf0
 have hat6' : c6.slots[(i6_).toNatClampNeg]? = some (.int (vs_o0_.getD (i6_).toNatClampNeg 0)) := hat6
 obtain ⟨c7, z7, A7, hin7, -⟩ := own_ia_at (j := i5_) A_o3_ hf6 hf7
 obtain ⟨T8, h8, X8, e8, W8, st8⟩ := stI X0 hx hZ e0 A7 (j := i5_) hin7 (g := (mkF m 68 #[oA o0_, oA o1_, oA o2_, oA o3_, oI i4_, oI i5_, oI i6_, oI i7_] [(.int (vs_o0_.getD (i6_).toNatClampNeg 0)), (.int i5_), (.ref o3_)])) rfl rfl (oG hby d38 44 rfl)
 have V8 := own_ia_st A_o3_ hf6 hf7 W8
 have K8 : Keep h0 h8 [o3_] := (Keep.refl h0 [o3_]).wr W8 (Or.inl (oX 0 rfl))
 have N8 := Fr.snoc X8 N0 g_o3_
 subst e8
 refine ⟨T8, _, X8, N8, K8, V8, fun target kt => ?_⟩
 show oZ p e below T0 (mkF m 22 #[oA o0_, oA o1_, oA o2_, oA o3_, oI i4_, oI i5_, oI i6_, oI i7_] []) _
 refine XS.iload X0.here hx rfl (oG hby d38 16 rfl) rfl ?_
 refine XS.aloadN X0.here hx rfl (oG hby d38 17 rfl) rfl rfl ?_
 refine X0.arraylength hx (by rw [e0]; exact A1.1) (State.isArrayOf_alike hZ.alike A1.2.1) (g := (mkF m 25 #[oA o0_, oA o1_, oA o2_, oA o3_, oI i4_, oI i5_, oI i6_, oI i7_] [(.ref o0_), (.int i6_)])) rfl rfl (oG hby d38 18 rfl) _ ?_
 rw [len_of S1 M1]
 refine XS.icmpYes X0.here hx rfl (pc0 := 26) (pc' := 36) rfl (oG hby d38 19 rfl) rfl (tlt hf0).1 (by decide) (by decide) ?_
 refine XS.iload X0.here hx rfl (oG hby d38 24 rfl) rfl ?_
 refine XS.aloadN X0.here hx rfl (oG hby d38 25 rfl) rfl rfl ?_
 refine X0.arraylength hx (by rw [e0]; exact A2.1) (State.isArrayOf_alike hZ.alike A2.2.1) (g := (mkF m 39 #[oA o0_, oA o1_, oA o2_, oA o3_, oI i4_, oI i5_, oI i6_, oI i7_] [(.ref o1_), (.int i7_)])) rfl rfl (oG hby d38 26 rfl) _ ?_
 rw [len_of S2 M2]
 refine XS.icmpNo X0.here hx rfl (oG hby d38 27 rfl) rfl (feq hf1).1 ?_
 refine XS.iload X0.here hx rfl (oG hby d38 28 rfl) rfl ?_
 refine XS.aloadN X0.here hx rfl (oG hby d38 29 rfl) rfl rfl ?_
 refine X0.arraylength hx (by rw [e0]; exact A3.1) (State.isArrayOf_alike hZ.alike A3.2.1) (g := (mkF m 46 #[oA o0_, oA o1_, oA o2_, oA o3_, oI i4_, oI i5_, oI i6_, oI i7_] [(.ref o0_), (.int i6_)])) rfl rfl (oG hby d38 30 rfl) _ ?_
 rw [len_of S3 M3]
 show oZ p e below T0 (mkF m 47 #[oA o0_, oA o1_, oA o2_, oA o3_, oI i4_, oI i5_, oI i6_, oI i7_] [(.int n_o0_), (.int i6_)]) _
 refine XS.icmpNo X0.here hx rfl (oG hby d38 31 rfl) rfl (tlt hf0).2.1 ?_
 refine XS.aloadN X0.here hx rfl (oG hby d38 32 rfl) rfl rfl ?_
 refine XS.iload X0.here hx rfl (oG hby d38 33 rfl) rfl ?_
 refine X0.iaload hx (j := i6_) (v := (.int (vs_o0_.getD (i6_).toNatClampNeg 0))) (by rw [e0]; exact A4.1) (State.isArrayOf_alike hZ.alike A4.2.1) A4.2.2 hin4 hat4' (g := (mkF m 53 #[oA o0_, oA o1_, oA o2_, oA o3_, oI i4_, oI i5_, oI i6_, oI i7_] [(.int i6_), (.ref o0_)])) rfl rfl (oG hby d38 34 rfl) _ ?_
 refine XS.aloadN X0.here hx rfl (oG hby d38 35 rfl) rfl rfl ?_
 refine XS.iload X0.here hx rfl (oG hby d38 36 rfl) rfl ?_
 refine X0.iaload hx (j := i7_) (v := (.int (vs_o1_.getD (i7_).toNatClampNeg 0))) (by rw [e0]; exact A5.1) (State.isArrayOf_alike hZ.alike A5.2.1) A5.2.2 hin5 hat5' (g := (mkF m 57 #[oA o0_, oA o1_, oA o2_, oA o3_, oI i4_, oI i5_, oI i6_, oI i7_] [(.int i7_), (.ref o1_), (.int (vs_o0_.getD (i6_).toNatClampNeg 0))])) rfl rfl (oG hby d38 37 rfl) _ ?_
 refine XS.icmpNo X0.here hx rfl (oG hby d38 38 rfl) rfl (tlt hf5).2.1 ?_
 refine XS.aloadN X0.here hx rfl (oG hby d38 39 rfl) rfl rfl ?_
 refine XS.iload X0.here hx rfl (oG hby d38 40 rfl) rfl ?_
 refine XS.aloadN X0.here hx rfl (oG hby d38 41 rfl) rfl rfl ?_
 show oZ p e below T0 (mkF m 65 #[oA o0_, oA o1_, oA o2_, oA o3_, oI i4_, oI i5_, oI i6_, oI i7_] [(.ref o0_), (.int i5_), (.ref o3_)]) _
 refine XS.iload X0.here hx rfl (oG hby d38 42 rfl) rfl ?_
 refine X0.iaload hx (j := i6_) (v := (.int (vs_o0_.getD (i6_).toNatClampNeg 0))) (by rw [e0]; exact A6.1) (State.isArrayOf_alike hZ.alike A6.2.1) A6.2.2 hin6 hat6' (g := (mkF m 67 #[oA o0_, oA o1_, oA o2_, oA o3_, oI i4_, oI i5_, oI i6_, oI i7_] [(.int i6_), (.ref o0_), (.int i5_), (.ref o3_)])) rfl rfl (oG hby d38 43 rfl) _ ?_
 refine st8 _ ?_
 refine XS.iinc X8.here hx rfl (oG hby d38 45 rfl) rfl (l' := #[oA o0_, oA o1_, oA o2_, oA o3_, oI i4_, oI (i5_ + (1 : Int32)), oI i6_, oI i7_]) rfl ?_
 show oZ p e below T8 (mkF m 72 #[oA o0_, oA o1_, oA o2_, oA o3_, oI i4_, oI (i5_ + (1 : Int32)), oI i6_, oI i7_] []) _
 rw [hf8]
 refine XS.iinc X8.here hx rfl (oG hby d38 46 rfl) rfl (l' := #[oA o0_, oA o1_, oA o2_, oA o3_, oI i4_, oI k5_, oI (i6_ + (1 : Int32)), oI i7_]) rfl ?_
 show oZ p e below T8 (mkF m 75 #[oA o0_, oA o1_, oA o2_, oA o3_, oI i4_, oI k5_, oI (i6_ + (1 : Int32)), oI i7_] []) _
 rw [hf9]
 refine XS.goto X8.here hx rfl (pc0 := 75) (pc' := 22) rfl (oG hby d38 47 rfl) (by decide) (by decide) ?_
 exact kt
theorem own_bt_b (rc : Nat) (rs : Nat) (o0_ : Addr) (o1_ : Addr) (o2_ : Addr) (o3_ : Addr) (i4_ : Int32) (i5_ : Int32) (i6_ : Int32) (i7_ : Int32) (n_o0_ : Int32) (vs_o0_ : List Int32) (n_o1_ : Int32) (vs_o1_ : List Int32) (n_o3_ : Int32) (k5_ : Int32) (k6_ : Int32)
   (X0 : Stand p l e (oR 4 rc rs 150) s m args below meth c T0 locs cells slots) (hx : p.tables.exec = Jvm.exec) (hZ : Z.Warmed39 s.vm) (hw : oH a0 Z) (hby : c.code = prog_28_method_2_code) (hml : c.maxLocals = 8) (hown : s.vm.findClass oC4 = some m.cls) (e0 : T0.heap = h0) (N0 : Fr n0 locs) (Z0 : n0 ≤ h0.size) (A_o0_ : own_il Z h0 o0_ n_o0_ vs_o0_) (A_o1_ : own_il Z h0 o1_ n_o1_ vs_o1_) (A_o3_ : own_ia Z h0 o3_ n_o3_) (g_o3_ : n0 ≤ o3_) (hf0 : i6_ < n_o0_) (hf1 : i7_ = n_o1_) (hf2 : ¬ (i6_ < 0)) (hf3 : ¬ (i5_ < 0)) (hf4 : i5_ < n_o3_) (hf5 : (i5_ + (1 : Int32)) = k5_) (hf6 : (i6_ + (1 : Int32)) = k6_) (hc : cells + (0) ≤ rc) (hs : slots + (0) ≤ rs) :
   ∃ (T' : State) (locs' : List Loc), Stand p l e (oR 4 rc rs 150) s m args below meth c T' locs' cells slots ∧ Fr n0 locs' ∧ Keep h0 T'.heap [o3_] ∧ own_ia Z T'.heap o3_ n_o3_ ∧
     ∀ target, Steps p.tables e below (T'.setTop (mkF m 22 #[oA o0_, oA o1_, oA o2_, oA o3_, oI i4_, oI k5_, oI k6_, oI i7_] [])) target → Steps p.tables e below (T0.setTop (mkF m 22 #[oA o0_, oA o1_, oA o2_, oA o3_, oI i4_, oI i5_, oI i6_, oI i7_] [])) target := by
 obtain ⟨c1, A1, S1, M1⟩ := own_il_cell A_o0_
 obtain ⟨c2, A2, S2, M2⟩ := own_il_cell A_o1_
 obtain ⟨c3, A3, hin3, hat3⟩ := own_il_at (j := i6_) A_o0_ hf2 hf0
 have hat3' : c3.slots[(i6_).toNatClampNeg]? = some (.int (vs_o0_.getD (i6_).toNatClampNeg 0)) := hat3
 obtain ⟨c4, z4, A4, hin4, -⟩ := own_ia_at (j := i5_) A_o3_ hf3 hf4
 obtain ⟨T5, h5, X5, e5, W5, st5⟩ := stI X0 hx hZ e0 A4 (j := i5_) hin4 (g := (mkF m 68 #[oA o0_, oA o1_, oA o2_, oA o3_, oI i4_, oI i5_, oI i6_, oI i7_] [(.int (vs_o0_.getD (i6_).toNatClampNeg 0)), (.int i5_), (.ref o3_)])) rfl rfl (oG hby d38 44 rfl)
 have V5 := own_ia_st A_o3_ hf3 hf4 W5
 have K5 : Keep h0 h5 [o3_] := (Keep.refl h0 [o3_]).wr W5 (Or.inl (oX 0 rfl))
 have N5 := Fr.snoc X5 N0 g_o3_
 subst e5
 refine ⟨T5, _, X5, N5, K5, V5, fun target kt => ?_⟩
 show oZ p e below T0 (mkF m 22 #[oA o0_, oA o1_, oA o2_, oA o3_, oI i4_, oI i5_, oI i6_, oI i7_] []) _
 refine XS.iload X0.here hx rfl (oG hby d38 16 rfl) rfl ?_
 refine XS.aloadN X0.here hx rfl (oG hby d38 17 rfl) rfl rfl ?_
 refine X0.arraylength hx (by rw [e0]; exact A1.1) (State.isArrayOf_alike hZ.alike A1.2.1) (g := (mkF m 25 #[oA o0_, oA o1_, oA o2_, oA o3_, oI i4_, oI i5_, oI i6_, oI i7_] [(.ref o0_), (.int i6_)])) rfl rfl (oG hby d38 18 rfl) _ ?_
 rw [len_of S1 M1]
 refine XS.icmpYes X0.here hx rfl (pc0 := 26) (pc' := 36) rfl (oG hby d38 19 rfl) rfl (tlt hf0).1 (by decide) (by decide) ?_
 refine XS.iload X0.here hx rfl (oG hby d38 24 rfl) rfl ?_
 refine XS.aloadN X0.here hx rfl (oG hby d38 25 rfl) rfl rfl ?_
 refine X0.arraylength hx (by rw [e0]; exact A2.1) (State.isArrayOf_alike hZ.alike A2.2.1) (g := (mkF m 39 #[oA o0_, oA o1_, oA o2_, oA o3_, oI i4_, oI i5_, oI i6_, oI i7_] [(.ref o1_), (.int i7_)])) rfl rfl (oG hby d38 26 rfl) _ ?_
 rw [len_of S2 M2]
 refine XS.icmpYes X0.here hx rfl (pc0 := 40) (pc' := 61) rfl (oG hby d38 27 rfl) rfl (teq hf1).1 (by decide) (by decide) ?_
 refine XS.aloadN X0.here hx rfl (oG hby d38 39 rfl) rfl rfl ?_
 refine XS.iload X0.here hx rfl (oG hby d38 40 rfl) rfl ?_
 refine XS.aloadN X0.here hx rfl (oG hby d38 41 rfl) rfl rfl ?_
 show oZ p e below T0 (mkF m 65 #[oA o0_, oA o1_, oA o2_, oA o3_, oI i4_, oI i5_, oI i6_, oI i7_] [(.ref o0_), (.int i5_), (.ref o3_)]) _
 refine XS.iload X0.here hx rfl (oG hby d38 42 rfl) rfl ?_
 refine X0.iaload hx (j := i6_) (v := (.int (vs_o0_.getD (i6_).toNatClampNeg 0))) (by rw [e0]; exact A3.1) (State.isArrayOf_alike hZ.alike A3.2.1) A3.2.2 hin3 hat3' (g := (mkF m 67 #[oA o0_, oA o1_, oA o2_, oA o3_, oI i4_, oI i5_, oI i6_, oI i7_] [(.int i6_), (.ref o0_), (.int i5_), (.ref o3_)])) rfl rfl (oG hby d38 43 rfl) _ ?_
 refine st5 _ ?_
 refine XS.iinc X5.here hx rfl (oG hby d38 45 rfl) rfl (l' := #[oA o0_, oA o1_, oA o2_, oA o3_, oI i4_, oI (i5_ + (1 : Int32)), oI i6_, oI i7_]) rfl ?_
 show oZ p e below T5 (mkF m 72 #[oA o0_, oA o1_, oA o2_, oA o3_, oI i4_, oI (i5_ + (1 : Int32)), oI i6_, oI i7_] []) _
 rw [hf5]
 refine XS.iinc X5.here hx rfl (oG hby d38 46 rfl) rfl (l' := #[oA o0_, oA o1_, oA o2_, oA o3_, oI i4_, oI k5_, oI (i6_ + (1 : Int32)), oI i7_]) rfl ?_
 show oZ p e below T5 (mkF m 75 #[oA o0_, oA o1_, oA o2_, oA o3_, oI i4_, oI k5_, oI (i6_ + (1 : Int32)), oI i7_] []) _
 rw [hf6]
 refine XS.goto X5.here hx rfl (pc0 := 75) (pc' := 22) rfl (oG hby d38 47 rfl) (by decide) (by decide) ?_
 exact kt
theorem own_bt_c (rc : Nat) (rs : Nat) (o0_ : Addr) (o1_ : Addr) (o2_ : Addr) (o3_ : Addr) (i4_ : Int32) (i5_ : Int32) (i6_ : Int32) (i7_ : Int32) (n_o0_ : Int32) (vs_o0_ : List Int32) (n_o1_ : Int32) (vs_o1_ : List Int32) (n_o2_ : Int32) (k4_ : Int32) (k7_ : Int32)
   (X0 : Stand p l e (oR 4 rc rs 150) s m args below meth c T0 locs cells slots) (hx : p.tables.exec = Jvm.exec) (hZ : Z.Warmed39 s.vm) (hw : oH a0 Z) (hby : c.code = prog_28_method_2_code) (hml : c.maxLocals = 8) (hown : s.vm.findClass oC4 = some m.cls) (e0 : T0.heap = h0) (N0 : Fr n0 locs) (Z0 : n0 ≤ h0.size) (A_o0_ : own_il Z h0 o0_ n_o0_ vs_o0_) (A_o1_ : own_il Z h0 o1_ n_o1_ vs_o1_) (A_o2_ : own_ia Z h0 o2_ n_o2_) (g_o2_ : n0 ≤ o2_) (hf0 : i6_ < n_o0_) (hf1 : ¬ (i7_ = n_o1_)) (hf2 : ¬ (i6_ < 0)) (hf3 : ¬ (i7_ < 0)) (hf4 : i7_ < n_o1_) (hf5 : ¬ ((vs_o0_.getD (i6_).toNatClampNeg 0) < (vs_o1_.getD (i7_).toNatClampNeg 0))) (hf6 : ¬ (i6_ = n_o0_)) (hf7 : (vs_o1_.getD (i7_).toNatClampNeg 0) < (vs_o0_.getD (i6_).toNatClampNeg 0)) (hf8 : ¬ (i4_ < 0)) (hf9 : i4_ < n_o2_) (hf10 : (i4_ + (1 : Int32)) = k4_) (hf11 : (i7_ + (1 : Int32)) = k7_) (hc : cells + (0) ≤ rc) (hs : slots + (0) ≤ rs) :
   ∃ (T' : State) (locs' : List Loc), Stand p l e (oR 4 rc rs 150) s m args below meth c T' locs' cells slots ∧ Fr n0 locs' ∧ Keep h0 T'.heap [o2_] ∧ own_ia Z T'.heap o2_ n_o2_ ∧
     ∀ target, Steps p.tables e below (T'.setTop (mkF m 22 #[oA o0_, oA o1_, oA o2_, oA o3_, oI k4_, oI i5_, oI i6_, oI k7_] [])) target → Steps p.tables e below (T0.setTop (mkF m 22 #[oA o0_, oA o1_, oA o2_, oA o3_, oI i4_, oI i5_, oI i6_, oI i7_] [])) target := by
 obtain ⟨c1, A1, S1, M1⟩ := own_il_cell A_o0_
 obtain ⟨c2, A2, S2, M2⟩ := own_il_cell A_o1_
 obtain ⟨c3, A3, S3, M3⟩ := own_il_cell A_o0_
 obtain ⟨c4, A4, hin4, hat4⟩ := own_il_at (j := i6_) A_o0_ hf2 hf0
 have hat4' : c4.slots[(i6_).toNatClampNeg]? = some (.int (vs_o0_.getD (i6_).toNatClampNeg 0)) := hat4
 obtain ⟨c5, A5, hin5, hat5⟩ := own_il_at (j := i7_) A_o1_ hf3 hf4
 have hat5' : c5.slots[(i7_).toNatClampNeg]? = some (.int (vs_o1_.getD (i7_).toNatClampNeg 0)) := hat5
 obtain ⟨c6, A6, S6, M6⟩ := own_il_cell A_o0_
 obtain ⟨c7, A7, hin7, hat7⟩ := own_il_at (j := i7_) A_o1_ hf3 hf4
 have hat7' : c7.slots[(i7_).toNatClampNeg]? = some (.int (vs_o1_.getD (i7_).toNatClampNeg 0)) := hat7
 obtain ⟨c8, A8, hin8, hat8⟩ := own_il_at (j := i6_) A_o0_ hf2 hf0
 have hat8' : c8.slots[(i6_).toNatClampNeg]? = some (.int (vs_o0_.getD (i6_).toNatClampNeg 0)) := hat8
 obtain ⟨c9, A9, hin9, hat9⟩ := own_il_at (j := i7_) A_o1_ hf3 hf4
 have hat9' : c9.slots[(i7_).toNatClampNeg]? = some (.int (vs_o1_.getD (i7_).toNatClampNeg 0)) := hat9
 obtain ⟨c10, z10, A10, hin10, -⟩ := own_ia_at (j := i4_) A_o2_ hf8 hf9
 obtain ⟨T11, h11, X11, e11, W11, st11⟩ := stI X0 hx hZ e0 A10 (j := i4_) hin10 (g := (mkF m 103 #[oA o0_, oA o1_, oA o2_, oA o3_, oI i4_, oI i5_, oI i6_, oI i7_] [(.int (vs_o1_.getD (i7_).toNatClampNeg 0)), (.int i4_), (.ref o2_)])) rfl rfl (oG hby d38 64 rfl)
 have V11 := own_ia_st A_o2_ hf8 hf9 W11
 have K11 : Keep h0 h11 [o2_] := (Keep.refl h0 [o2_]).wr W11 (Or.inl (oX 0 rfl))
 have N11 := Fr.snoc X11 N0 g_o2_
 subst e11
 refine ⟨T11, _, X11, N11, K11, V11, fun target kt => ?_⟩
 show oZ p e below T0 (mkF m 22 #[oA o0_, oA o1_, oA o2_, oA o3_, oI i4_, oI i5_, oI i6_, oI i7_] []) _
 refine XS.iload X0.here hx rfl (oG hby d38 16 rfl) rfl ?_
 refine XS.aloadN X0.here hx rfl (oG hby d38 17 rfl) rfl rfl ?_
 refine X0.arraylength hx (by rw [e0]; exact A1.1) (State.isArrayOf_alike hZ.alike A1.2.1) (g := (mkF m 25 #[oA o0_, oA o1_, oA o2_, oA o3_, oI i4_, oI i5_, oI i6_, oI i7_] [(.ref o0_), (.int i6_)])) rfl rfl (oG hby d38 18 rfl) _ ?_
 rw [len_of S1 M1]
 refine XS.icmpYes X0.here hx rfl (pc0 := 26) (pc' := 36) rfl (oG hby d38 19 rfl) rfl (tlt hf0).1 (by decide) (by decide) ?_
 refine XS.iload X0.here hx rfl (oG hby d38 24 rfl) rfl ?_
 refine XS.aloadN X0.here hx rfl (oG hby d38 25 rfl) rfl rfl ?_
 refine X0.arraylength hx (by rw [e0]; exact A2.1) (State.isArrayOf_alike hZ.alike A2.2.1) (g := (mkF m 39 #[oA o0_, oA o1_, oA o2_, oA o3_, oI i4_, oI i5_, oI i6_, oI i7_] [(.ref o1_), (.int i7_)])) rfl rfl (oG hby d38 26 rfl) _ ?_
 rw [len_of S2 M2]
 refine XS.icmpNo X0.here hx rfl (oG hby d38 27 rfl) rfl (feq hf1).1 ?_
 refine XS.iload X0.here hx rfl (oG hby d38 28 rfl) rfl ?_
 refine XS.aloadN X0.here hx rfl (oG hby d38 29 rfl) rfl rfl ?_
 refine X0.arraylength hx (by rw [e0]; exact A3.1) (State.isArrayOf_alike hZ.alike A3.2.1) (g := (mkF m 46 #[oA o0_, oA o1_, oA o2_, oA o3_, oI i4_, oI i5_, oI i6_, oI i7_] [(.ref o0_), (.int i6_)])) rfl rfl (oG hby d38 30 rfl) _ ?_
 rw [len_of S3 M3]
 show oZ p e below T0 (mkF m 47 #[oA o0_, oA o1_, oA o2_, oA o3_, oI i4_, oI i5_, oI i6_, oI i7_] [(.int n_o0_), (.int i6_)]) _
 refine XS.icmpNo X0.here hx rfl (oG hby d38 31 rfl) rfl (tlt hf0).2.1 ?_
 refine XS.aloadN X0.here hx rfl (oG hby d38 32 rfl) rfl rfl ?_
 refine XS.iload X0.here hx rfl (oG hby d38 33 rfl) rfl ?_
 refine X0.iaload hx (j := i6_) (v := (.int (vs_o0_.getD (i6_).toNatClampNeg 0))) (by rw [e0]; exact A4.1) (State.isArrayOf_alike hZ.alike A4.2.1) A4.2.2 hin4 hat4' (g := (mkF m 53 #[oA o0_, oA o1_, oA o2_, oA o3_, oI i4_, oI i5_, oI i6_, oI i7_] [(.int i6_), (.ref o0_)])) rfl rfl (oG hby d38 34 rfl) _ ?_
 refine XS.aloadN X0.here hx rfl (oG hby d38 35 rfl) rfl rfl ?_
 refine XS.iload X0.here hx rfl (oG hby d38 36 rfl) rfl ?_
 refine X0.iaload hx (j := i7_) (v := (.int (vs_o1_.getD (i7_).toNatClampNeg 0))) (by rw [e0]; exact A5.1) (State.isArrayOf_alike hZ.alike A5.2.1) A5.2.2 hin5 hat5' (g := (mkF m 57 #[oA o0_, oA o1_, oA o2_, oA o3_, oI i4_, oI i5_, oI i6_, oI i7_] [(.int i7_), (.ref o1_), (.int (vs_o0_.getD (i6_).toNatClampNeg 0))])) rfl rfl (oG hby d38 37 rfl) _ ?_
 refine XS.icmpYes X0.here hx rfl (pc0 := 58) (pc' := 78) rfl (oG hby d38 38 rfl) rfl (flt hf5).2.1 (by decide) (by decide) ?_
 refine XS.iload X0.here hx rfl (oG hby d38 48 rfl) rfl ?_
 refine XS.aloadN X0.here hx rfl (oG hby d38 49 rfl) rfl rfl ?_
 refine X0.arraylength hx (by rw [e0]; exact A6.1) (State.isArrayOf_alike hZ.alike A6.2.1) (g := (mkF m 81 #[oA o0_, oA o1_, oA o2_, oA o3_, oI i4_, oI i5_, oI i6_, oI i7_] [(.ref o0_), (.int i6_)])) rfl rfl (oG hby d38 50 rfl) _ ?_
 rw [len_of S6 M6]
 show oZ p e below T0 (mkF m 82 #[oA o0_, oA o1_, oA o2_, oA o3_, oI i4_, oI i5_, oI i6_, oI i7_] [(.int n_o0_), (.int i6_)]) _
 refine XS.icmpNo X0.here hx rfl (oG hby d38 51 rfl) rfl (feq hf6).1 ?_
 refine XS.aloadN X0.here hx rfl (oG hby d38 52 rfl) rfl rfl ?_
 refine XS.iload X0.here hx rfl (oG hby d38 53 rfl) rfl ?_
 refine X0.iaload hx (j := i7_) (v := (.int (vs_o1_.getD (i7_).toNatClampNeg 0))) (by rw [e0]; exact A7.1) (State.isArrayOf_alike hZ.alike A7.2.1) A7.2.2 hin7 hat7' (g := (mkF m 88 #[oA o0_, oA o1_, oA o2_, oA o3_, oI i4_, oI i5_, oI i6_, oI i7_] [(.int i7_), (.ref o1_)])) rfl rfl (oG hby d38 54 rfl) _ ?_
 refine XS.aloadN X0.here hx rfl (oG hby d38 55 rfl) rfl rfl ?_
 refine XS.iload X0.here hx rfl (oG hby d38 56 rfl) rfl ?_
 refine X0.iaload hx (j := i6_) (v := (.int (vs_o0_.getD (i6_).toNatClampNeg 0))) (by rw [e0]; exact A8.1) (State.isArrayOf_alike hZ.alike A8.2.1) A8.2.2 hin8 hat8' (g := (mkF m 92 #[oA o0_, oA o1_, oA o2_, oA o3_, oI i4_, oI i5_, oI i6_, oI i7_] [(.int i6_), (.ref o0_), (.int (vs_o1_.getD (i7_).toNatClampNeg 0))])) rfl rfl (oG hby d38 57 rfl) _ ?_
 refine XS.icmpNo X0.here hx rfl (oG hby d38 58 rfl) rfl (tlt hf7).2.1 ?_
 refine XS.aloadN X0.here hx rfl (oG hby d38 59 rfl) rfl rfl ?_
 refine XS.iload X0.here hx rfl (oG hby d38 60 rfl) rfl ?_
 refine XS.aloadN X0.here hx rfl (oG hby d38 61 rfl) rfl rfl ?_
 show oZ p e below T0 (mkF m 100 #[oA o0_, oA o1_, oA o2_, oA o3_, oI i4_, oI i5_, oI i6_, oI i7_] [(.ref o1_), (.int i4_), (.ref o2_)]) _
 refine XS.iload X0.here hx rfl (oG hby d38 62 rfl) rfl ?_
 refine X0.iaload hx (j := i7_) (v := (.int (vs_o1_.getD (i7_).toNatClampNeg 0))) (by rw [e0]; exact A9.1) (State.isArrayOf_alike hZ.alike A9.2.1) A9.2.2 hin9 hat9' (g := (mkF m 102 #[oA o0_, oA o1_, oA o2_, oA o3_, oI i4_, oI i5_, oI i6_, oI i7_] [(.int i7_), (.ref o1_), (.int i4_), (.ref o2_)])) rfl rfl (oG hby d38 63 rfl) _ ?_
 refine st11 _ ?_
 refine XS.iinc X11.here hx rfl (oG hby d38 65 rfl) rfl (l' := #[oA o0_, oA o1_, oA o2_, oA o3_, oI (i4_ + (1 : Int32)), oI i5_, oI i6_, oI i7_]) rfl ?_
 show oZ p e below T11 (mkF m 107 #[oA o0_, oA o1_, oA o2_, oA o3_, oI (i4_ + (1 : Int32)), oI i5_, oI i6_, oI i7_] []) _
 rw [hf10]
 refine XS.iinc X11.here hx rfl (oG hby d38 66 rfl) rfl (l' := #[oA o0_, oA o1_, oA o2_, oA o3_, oI k4_, oI i5_, oI i6_, oI (i7_ + (1 : Int32))]) rfl ?_
 show oZ p e below T11 (mkF m 110 #[oA o0_, oA o1_, oA o2_, oA o3_, oI k4_, oI i5_, oI i6_, oI (i7_ + (1 : Int32))] []) _
 rw [hf11]
 refine XS.goto X11.here hx rfl (pc0 := 110) (pc' := 22) rfl (oG hby d38 67 rfl) (by decide) (by decide) ?_
 exact kt
theorem own_bt_d (rc : Nat) (rs : Nat) (o0_ : Addr) (o1_ : Addr) (o2_ : Addr) (o3_ : Addr) (i4_ : Int32) (i5_ : Int32) (i6_ : Int32) (i7_ : Int32) (n_o0_ : Int32) (vs_o0_ : List Int32) (n_o1_ : Int32) (vs_o1_ : List Int32) (n_o2_ : Int32) (k4_ : Int32) (k7_ : Int32)
   (X0 : Stand p l e (oR 4 rc rs 150) s m args below meth c T0 locs cells slots) (hx : p.tables.exec = Jvm.exec) (hZ : Z.Warmed39 s.vm) (hw : oH a0 Z) (hby : c.code = prog_28_method_2_code) (hml : c.maxLocals = 8) (hown : s.vm.findClass oC4 = some m.cls) (e0 : T0.heap = h0) (N0 : Fr n0 locs) (Z0 : n0 ≤ h0.size) (A_o0_ : own_il Z h0 o0_ n_o0_ vs_o0_) (A_o1_ : own_il Z h0 o1_ n_o1_ vs_o1_) (A_o2_ : own_ia Z h0 o2_ n_o2_) (g_o2_ : n0 ≤ o2_) (hf0 : ¬ (i6_ < n_o0_)) (hf1 : i7_ < n_o1_) (hf2 : ¬ (i7_ = n_o1_)) (hf3 : i6_ = n_o0_) (hf4 : ¬ (i7_ < 0)) (hf5 : ¬ (i4_ < 0)) (hf6 : i4_ < n_o2_) (hf7 : (i4_ + (1 : Int32)) = k4_) (hf8 : (i7_ + (1 : Int32)) = k7_) (hc : cells + (0) ≤ rc) (hs : slots + (0) ≤ rs) :
   ∃ (T' : State) (locs' : List Loc), Stand p l e (oR 4 rc rs 150) s m args below meth c T' locs' cells slots ∧ Fr n0 locs' ∧ Keep h0 T'.heap [o2_] ∧ own_ia Z T'.heap o2_ n_o2_ ∧
     ∀ target, Steps p.tables e below (T'.setTop (mkF m 22 #[oA o0_, oA o1_, oA o2_, oA o3_, oI k4_, oI i5_, oI i6_, oI k7_] [])) target → Steps p.tables e below (T0.setTop (mkF m 22 #[oA o0_, oA o1_, oA o2_, oA o3_, oI i4_, oI i5_, oI i6_, oI i7_] [])) target := by
 obtain ⟨c1, A1, S1, M1⟩ := own_il_cell A_o0_
 obtain ⟨c2, A2, S2, M2⟩ := own_il_cell A_o1_
 obtain ⟨c3, A3, S3, M3⟩ := own_il_cell A_o1_
 obtain ⟨c4, A4, S4, M4⟩ := own_il_cell A_o0_
 obtain ⟨c5, A5, S5, M5⟩ := own_il_cell A_o0_
 obtain ⟨c6, A6, hin6, hat6⟩ := own_il_at (j := i7_) A_o1_ hf4 hf1
 have hat6' : c6.slots[(i7_).toNatClampNeg]? = some (.int (vs_o1_.getD (i7_).toNatClampNeg 0)) := hat6
 obtain ⟨c7, z7, A7, hin7, -⟩ := own_ia_at (j := i4_) A_o2_ hf5 hf6
 obtain ⟨T8, h8, X8, e8, W8, st8⟩ := stI X0 hx hZ e0 A7 (j := i4_) hin7 (g := (mkF m 103 #[oA o0_, oA o1_, oA o2_, oA o3_, oI i4_, oI i5_, oI i6_, oI i7_] [(.int (vs_o1_.getD (i7_).toNatClampNeg 0)), (.int i4_), (.ref o2_)])) rfl rfl (oG hby d38 64 rfl)
 have V8 := own_ia_st A_o2_ hf5 hf6 W8
 have K8 : Keep h0 h8 [o2_] := (Keep.refl h0 [o2_]).wr W8 (Or.inl (oX 0 rfl))
 have N8 := Fr.snoc X8 N0 g_o2_
 subst e8
 refine ⟨T8, _, X8, N8, K8, V8, fun target kt => ?_⟩
 show oZ p e below T0 (mkF m 22 #[oA o0_, oA o1_, oA o2_, oA o3_, oI i4_, oI i5_, oI i6_, oI i7_] []) _
 refine XS.iload X0.here hx rfl (oG hby d38 16 rfl) rfl ?_
 refine XS.aloadN X0.here hx rfl (oG hby d38 17 rfl) rfl rfl ?_
 refine X0.arraylength hx (by rw [e0]; exact A1.1) (State.isArrayOf_alike hZ.alike A1.2.1) (g := (mkF m 25 #[oA o0_, oA o1_, oA o2_, oA o3_, oI i4_, oI i5_, oI i6_, oI i7_] [(.ref o0_), (.int i6_)])) rfl rfl (oG hby d38 18 rfl) _ ?_
 rw [len_of S1 M1]
 refine XS.icmpNo X0.here hx rfl (oG hby d38 19 rfl) rfl (flt hf0).1 ?_
 refine XS.iload X0.here hx rfl (oG hby d38 20 rfl) rfl ?_
 refine XS.aloadN X0.here hx rfl (oG hby d38 21 rfl) rfl rfl ?_
 refine X0.arraylength hx (by rw [e0]; exact A2.1) (State.isArrayOf_alike hZ.alike A2.2.1) (g := (mkF m 32 #[oA o0_, oA o1_, oA o2_, oA o3_, oI i4_, oI i5_, oI i6_, oI i7_] [(.ref o1_), (.int i7_)])) rfl rfl (oG hby d38 22 rfl) _ ?_
 rw [len_of S2 M2]
 refine XS.icmpNo X0.here hx rfl (oG hby d38 23 rfl) rfl (tlt hf1).2.1 ?_
 refine XS.iload X0.here hx rfl (oG hby d38 24 rfl) rfl ?_
 refine XS.aloadN X0.here hx rfl (oG hby d38 25 rfl) rfl rfl ?_
 refine X0.arraylength hx (by rw [e0]; exact A3.1) (State.isArrayOf_alike hZ.alike A3.2.1) (g := (mkF m 39 #[oA o0_, oA o1_, oA o2_, oA o3_, oI i4_, oI i5_, oI i6_, oI i7_] [(.ref o1_), (.int i7_)])) rfl rfl (oG hby d38 26 rfl) _ ?_
 rw [len_of S3 M3]
 show oZ p e below T0 (mkF m 40 #[oA o0_, oA o1_, oA o2_, oA o3_, oI i4_, oI i5_, oI i6_, oI i7_] [(.int n_o1_), (.int i7_)]) _
 refine XS.icmpNo X0.here hx rfl (oG hby d38 27 rfl) rfl (feq hf2).1 ?_
 refine XS.iload X0.here hx rfl (oG hby d38 28 rfl) rfl ?_
 refine XS.aloadN X0.here hx rfl (oG hby d38 29 rfl) rfl rfl ?_
 refine X0.arraylength hx (by rw [e0]; exact A4.1) (State.isArrayOf_alike hZ.alike A4.2.1) (g := (mkF m 46 #[oA o0_, oA o1_, oA o2_, oA o3_, oI i4_, oI i5_, oI i6_, oI i7_] [(.ref o0_), (.int i6_)])) rfl rfl (oG hby d38 30 rfl) _ ?_
 rw [len_of S4 M4]
 refine XS.icmpYes X0.here hx rfl (pc0 := 47) (pc' := 78) rfl (oG hby d38 31 rfl) rfl (flt hf0).2.1 (by decide) (by decide) ?_
 refine XS.iload X0.here hx rfl (oG hby d38 48 rfl) rfl ?_
 refine XS.aloadN X0.here hx rfl (oG hby d38 49 rfl) rfl rfl ?_
 refine X0.arraylength hx (by rw [e0]; exact A5.1) (State.isArrayOf_alike hZ.alike A5.2.1) (g := (mkF m 81 #[oA o0_, oA o1_, oA o2_, oA o3_, oI i4_, oI i5_, oI i6_, oI i7_] [(.ref o0_), (.int i6_)])) rfl rfl (oG hby d38 50 rfl) _ ?_
 rw [len_of S5 M5]
 refine XS.icmpYes X0.here hx rfl (pc0 := 82) (pc' := 96) rfl (oG hby d38 51 rfl) rfl (teq hf3).1 (by decide) (by decide) ?_
 refine XS.aloadN X0.here hx rfl (oG hby d38 59 rfl) rfl rfl ?_
 refine XS.iload X0.here hx rfl (oG hby d38 60 rfl) rfl ?_
 show oZ p e below T0 (mkF m 99 #[oA o0_, oA o1_, oA o2_, oA o3_, oI i4_, oI i5_, oI i6_, oI i7_] [(.int i4_), (.ref o2_)]) _
 refine XS.aloadN X0.here hx rfl (oG hby d38 61 rfl) rfl rfl ?_
 refine XS.iload X0.here hx rfl (oG hby d38 62 rfl) rfl ?_
 refine X0.iaload hx (j := i7_) (v := (.int (vs_o1_.getD (i7_).toNatClampNeg 0))) (by rw [e0]; exact A6.1) (State.isArrayOf_alike hZ.alike A6.2.1) A6.2.2 hin6 hat6' (g := (mkF m 102 #[oA o0_, oA o1_, oA o2_, oA o3_, oI i4_, oI i5_, oI i6_, oI i7_] [(.int i7_), (.ref o1_), (.int i4_), (.ref o2_)])) rfl rfl (oG hby d38 63 rfl) _ ?_
 refine st8 _ ?_
 refine XS.iinc X8.here hx rfl (oG hby d38 65 rfl) rfl (l' := #[oA o0_, oA o1_, oA o2_, oA o3_, oI (i4_ + (1 : Int32)), oI i5_, oI i6_, oI i7_]) rfl ?_
 show oZ p e below T8 (mkF m 107 #[oA o0_, oA o1_, oA o2_, oA o3_, oI (i4_ + (1 : Int32)), oI i5_, oI i6_, oI i7_] []) _
 rw [hf7]
 refine XS.iinc X8.here hx rfl (oG hby d38 66 rfl) rfl (l' := #[oA o0_, oA o1_, oA o2_, oA o3_, oI k4_, oI i5_, oI i6_, oI (i7_ + (1 : Int32))]) rfl ?_
 show oZ p e below T8 (mkF m 110 #[oA o0_, oA o1_, oA o2_, oA o3_, oI k4_, oI i5_, oI i6_, oI (i7_ + (1 : Int32))] []) _
 rw [hf8]
 refine XS.goto X8.here hx rfl (pc0 := 110) (pc' := 22) rfl (oG hby d38 67 rfl) (by decide) (by decide) ?_
 exact kt
theorem own_bt_e (rc : Nat) (rs : Nat) (o0_ : Addr) (o1_ : Addr) (o2_ : Addr) (o3_ : Addr) (i4_ : Int32) (i5_ : Int32) (i6_ : Int32) (i7_ : Int32) (n_o0_ : Int32) (vs_o0_ : List Int32) (n_o1_ : Int32) (vs_o1_ : List Int32) (k6_ : Int32) (k7_ : Int32)
   (X0 : Stand p l e (oR 4 rc rs 150) s m args below meth c T0 locs cells slots) (hx : p.tables.exec = Jvm.exec) (hZ : Z.Warmed39 s.vm) (hw : oH a0 Z) (hby : c.code = prog_28_method_2_code) (hml : c.maxLocals = 8) (hown : s.vm.findClass oC4 = some m.cls) (e0 : T0.heap = h0) (N0 : Fr n0 locs) (Z0 : n0 ≤ h0.size) (A_o0_ : own_il Z h0 o0_ n_o0_ vs_o0_) (A_o1_ : own_il Z h0 o1_ n_o1_ vs_o1_) (hf0 : i6_ < n_o0_) (hf1 : ¬ (i7_ = n_o1_)) (hf2 : ¬ (i6_ < 0)) (hf3 : ¬ (i7_ < 0)) (hf4 : i7_ < n_o1_) (hf5 : ¬ ((vs_o0_.getD (i6_).toNatClampNeg 0) < (vs_o1_.getD (i7_).toNatClampNeg 0))) (hf6 : ¬ (i6_ = n_o0_)) (hf7 : ¬ ((vs_o1_.getD (i7_).toNatClampNeg 0) < (vs_o0_.getD (i6_).toNatClampNeg 0))) (hf8 : (i6_ + (1 : Int32)) = k6_) (hf9 : (i7_ + (1 : Int32)) = k7_) (hc : cells + (0) ≤ rc) (hs : slots + (0) ≤ rs) :
   ∃ (T' : State) (locs' : List Loc), Stand p l e (oR 4 rc rs 150) s m args below meth c T' locs' cells slots ∧ Fr n0 locs' ∧ T'.heap = h0 ∧
     ∀ target, Steps p.tables e below (T'.setTop (mkF m 22 #[oA o0_, oA o1_, oA o2_, oA o3_, oI i4_, oI i5_, oI k6_, oI k7_] [])) target → Steps p.tables e below (T0.setTop (mkF m 22 #[oA o0_, oA o1_, oA o2_, oA o3_, oI i4_, oI i5_, oI i6_, oI i7_] [])) target := by
 obtain ⟨c1, A1, S1, M1⟩ := own_il_cell A_o0_
 obtain ⟨c2, A2, S2, M2⟩ := own_il_cell A_o1_
 obtain ⟨c3, A3, S3, M3⟩ := own_il_cell A_o0_
 obtain ⟨c4, A4, hin4, hat4⟩ := own_il_at (j := i6_) A_o0_ hf2 hf0
 have hat4' : c4.slots[(i6_).toNatClampNeg]? = some (.int (vs_o0_.getD (i6_).toNatClampNeg 0)) := hat4
 obtain ⟨c5, A5, hin5, hat5⟩ := own_il_at (j := i7_) A_o1_ hf3 hf4
 have hat5' : c5.slots[(i7_).toNatClampNeg]? = some (.int (vs_o1_.getD (i7_).toNatClampNeg 0)) := hat5
 obtain ⟨c6, A6, S6, M6⟩ := own_il_cell A_o0_
 obtain ⟨c7, A7, hin7, hat7⟩ := own_il_at (j := i7_) A_o1_ hf3 hf4
 have hat7' : c7.slots[(i7_).toNatClampNeg]? = some (.int (vs_o1_.getD (i7_).toNatClampNeg 0)) := hat7
 obtain ⟨c8, A8, hin8, hat8⟩ := own_il_at (j := i6_) A_o0_ hf2 hf0
 have hat8' : c8.slots[(i6_).toNatClampNeg]? = some (.int (vs_o0_.getD (i6_).toNatClampNeg 0)) := hat8
 refine ⟨T0, _, X0, N0, e0, fun target kt => ?_⟩
 show oZ p e below T0 (mkF m 22 #[oA o0_, oA o1_, oA o2_, oA o3_, oI i4_, oI i5_, oI i6_, oI i7_] []) _
 refine XS.iload X0.here hx rfl (oG hby d38 16 rfl) rfl ?_
 refine XS.aloadN X0.here hx rfl (oG hby d38 17 rfl) rfl rfl ?_
 refine X0.arraylength hx (by rw [e0]; exact A1.1) (State.isArrayOf_alike hZ.alike A1.2.1) (g := (mkF m 25 #[oA o0_, oA o1_, oA o2_, oA o3_, oI i4_, oI i5_, oI i6_, oI i7_] [(.ref o0_), (.int i6_)])) rfl rfl (oG hby d38 18 rfl) _ ?_
 rw [len_of S1 M1]
 refine XS.icmpYes X0.here hx rfl (pc0 := 26) (pc' := 36) rfl (oG hby d38 19 rfl) rfl (tlt hf0).1 (by decide) (by decide) ?_
 refine XS.iload X0.here hx rfl (oG hby d38 24 rfl) rfl ?_
 refine XS.aloadN X0.here hx rfl (oG hby d38 25 rfl) rfl rfl ?_
 refine X0.arraylength hx (by rw [e0]; exact A2.1) (State.isArrayOf_alike hZ.alike A2.2.1) (g := (mkF m 39 #[oA o0_, oA o1_, oA o2_, oA o3_, oI i4_, oI i5_, oI i6_, oI i7_] [(.ref o1_), (.int i7_)])) rfl rfl (oG hby d38 26 rfl) _ ?_
 rw [len_of S2 M2]
 refine XS.icmpNo X0.here hx rfl (oG hby d38 27 rfl) rfl (feq hf1).1 ?_
 refine XS.iload X0.here hx rfl (oG hby d38 28 rfl) rfl ?_
 refine XS.aloadN X0.here hx rfl (oG hby d38 29 rfl) rfl rfl ?_
 refine X0.arraylength hx (by rw [e0]; exact A3.1) (State.isArrayOf_alike hZ.alike A3.2.1) (g := (mkF m 46 #[oA o0_, oA o1_, oA o2_, oA o3_, oI i4_, oI i5_, oI i6_, oI i7_] [(.ref o0_), (.int i6_)])) rfl rfl (oG hby d38 30 rfl) _ ?_
 rw [len_of S3 M3]
 show oZ p e below T0 (mkF m 47 #[oA o0_, oA o1_, oA o2_, oA o3_, oI i4_, oI i5_, oI i6_, oI i7_] [(.int n_o0_), (.int i6_)]) _
 refine XS.icmpNo X0.here hx rfl (oG hby d38 31 rfl) rfl (tlt hf0).2.1 ?_
 refine XS.aloadN X0.here hx rfl (oG hby d38 32 rfl) rfl rfl ?_
 refine XS.iload X0.here hx rfl (oG hby d38 33 rfl) rfl ?_
 refine X0.iaload hx (j := i6_) (v := (.int (vs_o0_.getD (i6_).toNatClampNeg 0))) (by rw [e0]; exact A4.1) (State.isArrayOf_alike hZ.alike A4.2.1) A4.2.2 hin4 hat4' (g := (mkF m 53 #[oA o0_, oA o1_, oA o2_, oA o3_, oI i4_, oI i5_, oI i6_, oI i7_] [(.int i6_), (.ref o0_)])) rfl rfl (oG hby d38 34 rfl) _ ?_
 refine XS.aloadN X0.here hx rfl (oG hby d38 35 rfl) rfl rfl ?_
 refine XS.iload X0.here hx rfl (oG hby d38 36 rfl) rfl ?_
 refine X0.iaload hx (j := i7_) (v := (.int (vs_o1_.getD (i7_).toNatClampNeg 0))) (by rw [e0]; exact A5.1) (State.isArrayOf_alike hZ.alike A5.2.1) A5.2.2 hin5 hat5' (g := (mkF m 57 #[oA o0_, oA o1_, oA o2_, oA o3_, oI i4_, oI i5_, oI i6_, oI i7_] [(.int i7_), (.ref o1_), (.int (vs_o0_.getD (i6_).toNatClampNeg 0))])) rfl rfl (oG hby d38 37 rfl) _ ?_
 refine XS.icmpYes X0.here hx rfl (pc0 := 58) (pc' := 78) rfl (oG hby d38 38 rfl) rfl (flt hf5).2.1 (by decide) (by decide) ?_
 refine XS.iload X0.here hx rfl (oG hby d38 48 rfl) rfl ?_
 refine XS.aloadN X0.here hx rfl (oG hby d38 49 rfl) rfl rfl ?_
 refine X0.arraylength hx (by rw [e0]; exact A6.1) (State.isArrayOf_alike hZ.alike A6.2.1) (g := (mkF m 81 #[oA o0_, oA o1_, oA o2_, oA o3_, oI i4_, oI i5_, oI i6_, oI i7_] [(.ref o0_), (.int i6_)])) rfl rfl (oG hby d38 50 rfl) _ ?_
 rw [len_of S6 M6]
 show oZ p e below T0 (mkF m 82 #[oA o0_, oA o1_, oA o2_, oA o3_, oI i4_, oI i5_, oI i6_, oI i7_] [(.int n_o0_), (.int i6_)]) _
 refine XS.icmpNo X0.here hx rfl (oG hby d38 51 rfl) rfl (feq hf6).1 ?_
 refine XS.aloadN X0.here hx rfl (oG hby d38 52 rfl) rfl rfl ?_
 refine XS.iload X0.here hx rfl (oG hby d38 53 rfl) rfl ?_
 refine X0.iaload hx (j := i7_) (v := (.int (vs_o1_.getD (i7_).toNatClampNeg 0))) (by rw [e0]; exact A7.1) (State.isArrayOf_alike hZ.alike A7.2.1) A7.2.2 hin7 hat7' (g := (mkF m 88 #[oA o0_, oA o1_, oA o2_, oA o3_, oI i4_, oI i5_, oI i6_, oI i7_] [(.int i7_), (.ref o1_)])) rfl rfl (oG hby d38 54 rfl) _ ?_
 refine XS.aloadN X0.here hx rfl (oG hby d38 55 rfl) rfl rfl ?_
 refine XS.iload X0.here hx rfl (oG hby d38 56 rfl) rfl ?_
 refine X0.iaload hx (j := i6_) (v := (.int (vs_o0_.getD (i6_).toNatClampNeg 0))) (by rw [e0]; exact A8.1) (State.isArrayOf_alike hZ.alike A8.2.1) A8.2.2 hin8 hat8' (g := (mkF m 92 #[oA o0_, oA o1_, oA o2_, oA o3_, oI i4_, oI i5_, oI i6_, oI i7_] [(.int i6_), (.ref o0_), (.int (vs_o1_.getD (i7_).toNatClampNeg 0))])) rfl rfl (oG hby d38 57 rfl) _ ?_
 refine XS.icmpYes X0.here hx rfl (pc0 := 93) (pc' := 113) rfl (oG hby d38 58 rfl) rfl (flt hf7).2.1 (by decide) (by decide) ?_
 refine XS.iinc X0.here hx rfl (oG hby d38 68 rfl) rfl (l' := #[oA o0_, oA o1_, oA o2_, oA o3_, oI i4_, oI i5_, oI (i6_ + (1 : Int32)), oI i7_]) rfl ?_
 show oZ p e below T0 (mkF m 116 #[oA o0_, oA o1_, oA o2_, oA o3_, oI i4_, oI i5_, oI (i6_ + (1 : Int32)), oI i7_] []) _
 rw [hf8]
 refine XS.iinc X0.here hx rfl (oG hby d38 69 rfl) rfl (l' := #[oA o0_, oA o1_, oA o2_, oA o3_, oI i4_, oI i5_, oI k6_, oI (i7_ + (1 : Int32))]) rfl ?_
 show oZ p e below T0 (mkF m 119 #[oA o0_, oA o1_, oA o2_, oA o3_, oI i4_, oI i5_, oI k6_, oI (i7_ + (1 : Int32))] []) _
 rw [hf9]
 refine XS.goto X0.here hx rfl (pc0 := 119) (pc' := 22) rfl (oG hby d38 70 rfl) (by decide) (by decide) ?_
 exact kt
theorem own_bt_x (rc : Nat) (rs : Nat) (o0_ : Addr) (o1_ : Addr) (o2_ : Addr) (o3_ : Addr) (i4_ : Int32) (i5_ : Int32) (i6_ : Int32) (i7_ : Int32) (n_o0_ : Int32) (vs_o0_ : List Int32) (n_o1_ : Int32) (vs_o1_ : List Int32)
   (X0 : Stand p l e (oR 4 rc rs 150) s m args below meth c T0 locs cells slots) (hx : p.tables.exec = Jvm.exec) (hZ : Z.Warmed39 s.vm) (hw : oH a0 Z) (hby : c.code = prog_28_method_2_code) (hml : c.maxLocals = 8) (hown : s.vm.findClass oC4 = some m.cls) (e0 : T0.heap = h0) (N0 : Fr n0 locs) (Z0 : n0 ≤ h0.size) (A_o0_ : own_il Z h0 o0_ n_o0_ vs_o0_) (A_o1_ : own_il Z h0 o1_ n_o1_ vs_o1_) (hf0 : ¬ (i6_ < n_o0_)) (hf1 : ¬ (i7_ < n_o1_)) (hc : cells + (0) ≤ rc) (hs : slots + (0) ≤ rs) :
   ∃ (T' : State) (locs' : List Loc), Stand p l e (oR 4 rc rs 150) s m args below meth c T' locs' cells slots ∧ Fr n0 locs' ∧ T'.heap = h0 ∧
     ∀ target, Steps p.tables e below (T'.setTop (mkF m 122 #[oA o0_, oA o1_, oA o2_, oA o3_, oI i4_, oI i5_, oI i6_, oI i7_] [])) target → Steps p.tables e below (T0.setTop (mkF m 22 #[oA o0_, oA o1_, oA o2_, oA o3_, oI i4_, oI i5_, oI i6_, oI i7_] [])) target := by
 obtain ⟨c1, A1, S1, M1⟩ := own_il_cell A_o0_
 obtain ⟨c2, A2, S2, M2⟩ := own_il_cell A_o1_
 refine ⟨T0, _, X0, N0, e0, fun target kt => ?_⟩
 show oZ p e below T0 (mkF m 22 #[oA o0_, oA o1_, oA o2_, oA o3_, oI i4_, oI i5_, oI i6_, oI i7_] []) _
 refine XS.iload X0.here hx rfl (oG hby d38 16 rfl) rfl ?_
 refine XS.aloadN X0.here hx rfl (oG hby d38 17 rfl) rfl rfl ?_
 refine X0.arraylength hx (by rw [e0]; exact A1.1) (State.isArrayOf_alike hZ.alike A1.2.1) (g := (mkF m 25 #[oA o0_, oA o1_, oA o2_, oA o3_, oI i4_, oI i5_, oI i6_, oI i7_] [(.ref o0_), (.int i6_)])) rfl rfl (oG hby d38 18 rfl) _ ?_
 rw [len_of S1 M1]
 refine XS.icmpNo X0.here hx rfl (oG hby d38 19 rfl) rfl (flt hf0).1 ?_
 refine XS.iload X0.here hx rfl (oG hby d38 20 rfl) rfl ?_
 refine XS.aloadN X0.here hx rfl (oG hby d38 21 rfl) rfl rfl ?_
 refine X0.arraylength hx (by rw [e0]; exact A2.1) (State.isArrayOf_alike hZ.alike A2.2.1) (g := (mkF m 32 #[oA o0_, oA o1_, oA o2_, oA o3_, oI i4_, oI i5_, oI i6_, oI i7_] [(.ref o1_), (.int i7_)])) rfl rfl (oG hby d38 22 rfl) _ ?_
 rw [len_of S2 M2]
 refine XS.icmpYes X0.here hx rfl (pc0 := 33) (pc' := 122) rfl (oG hby d38 23 rfl) rfl (flt hf1).2.1 (by decide) (by decide) ?_
 exact kt
section OwnMerge
theorem own_ia.il {Z : State} {h : Heap} {a : Addr} {n : Int32} (V : own_ia Z h a n) : ∃ vs, own_il Z h a n vs := by
 obtain ⟨c, A, S, M, H⟩ := V
 refine ⟨(List.range c.slots.size).map fun k => Jvm.Lib.StringLatin1.equals.intAt c k, c, A, S, M, fun k hk => ?_⟩
 obtain ⟨z, hz⟩ := H k hk
 rw [hz, List.getD_eq_getElem?_getD, List.getElem?_map, List.getElem?_range hk]
 simp [Jvm.Lib.StringLatin1.equals.intAt, hz]
theorem own_nat_of {n : Int32} (h : ¬ n < 0) : n = Int32.ofNat n.toNatClampNeg := by
 refine Int32.toInt_inj.mp ?_
 rw [Int32.lt_iff_toInt_lt, Int32.toInt_zero] at h
 have b := n.toInt_lt
 rw [own_ofNat_toInt (by show n.toInt.toNat < 2 ^ 31; omega)]
 show n.toInt = ((n.toInt.toNat : Nat) : Int)
 omega
theorem own_ofNat_ne {i c : Nat} (h : i < c) (hc : c < 2 ^ 31) : ¬ (Int32.ofNat i = Int32.ofNat c) := fun q => by
 have := own_ofNat_lt h hc; rw [q] at this; exact Int32.lt_irrefl this
theorem own_merge {p : Program} {l : Launch} {e : Env} {s : State} {m : MethodId} {args : Array Value} {below : List Frame} {meth : Method} {c : Code} {Z : State} {a0 : Array Value} {n0 : Nat} {rc rs : Nat} {o0 o1 o2 o3 : Addr} {vs0 vs1 : List Int32} {nb na : Nat} {cells slots : Nat}
   (hx : p.tables.exec = Jvm.exec) (hZ : Z.Warmed39 s.vm) (hw : oH a0 Z) (hby : c.code = prog_28_method_2_code) (hml : c.maxLocals = 8) (hown : s.vm.findClass oC4 = some m.cls)
   (hnb : nb < 1000) (hna : na < 1000) (g2 : n0 ≤ o2) (g3 : n0 ≤ o3) (d02 : o0 ≠ o2) (d03 : o0 ≠ o3) (d12 : o1 ≠ o2) (d13 : o1 ≠ o3) (d23 : o2 ≠ o3) (hc : cells ≤ rc) (hs : slots ≤ rs) :
   ∀ (k i j u v : Nat) (T0 : State) (locs : List Loc), (nb - i) + (na - j) ≤ k → i ≤ nb → j ≤ na → u ≤ j → v ≤ i →
     Stand p l e (oR 4 rc rs 150) s m args below meth c T0 locs cells slots → Fr n0 locs → n0 ≤ T0.heap.size → own_il Z T0.heap o0 (Int32.ofNat nb) vs0 → own_il Z T0.heap o1 (Int32.ofNat na) vs1 → own_ia Z T0.heap o2 (Int32.ofNat na) → own_ia Z T0.heap o3 (Int32.ofNat nb) →
     ∃ (T' : State) (locs' : List Loc) (u' v' : Nat), Stand p l e (oR 4 rc rs 150) s m args below meth c T' locs' cells slots ∧ Fr n0 locs' ∧ Keep T0.heap T'.heap [o2, o3] ∧ own_ia Z T'.heap o2 (Int32.ofNat na) ∧ own_ia Z T'.heap o3 (Int32.ofNat nb) ∧ u' ≤ na ∧ v' ≤ nb ∧
     ∀ target, Steps p.tables e below (T'.setTop (mkF m 122 #[oA o0, oA o1, oA o2, oA o3, oI (Int32.ofNat u'), oI (Int32.ofNat v'), oI (Int32.ofNat nb), oI (Int32.ofNat na)] [])) target →
       Steps p.tables e below (T0.setTop (mkF m 22 #[oA o0, oA o1, oA o2, oA o3, oI (Int32.ofNat u), oI (Int32.ofNat v), oI (Int32.ofNat i), oI (Int32.ofNat j)] [])) target := by
 intro k
 induction k with
 | zero =>
   intro i j u v T0 locs hk hi hj hu hv X N Z0 A0 A1 A2 A3
   have e1 : i = nb := by omega
   have e2 : j = na := by omega
   subst e1 e2
   obtain ⟨T', L', X', N', e', st'⟩ := own_bt_x (o0_ := o0) (o1_ := o1) (o2_ := o2) (o3_ := o3) (i4_ := Int32.ofNat u) (i5_ := Int32.ofNat v) (i6_ := Int32.ofNat i) (i7_ := Int32.ofNat j) (n_o0_ := Int32.ofNat i) (vs_o0_ := vs0) (n_o1_ := Int32.ofNat j) (vs_o1_ := vs1) rc rs X hx hZ hw hby hml hown rfl N Z0 A0 A1 (own_ofNat_nlt (Nat.le_refl _) (by omega)) (own_ofNat_nlt (Nat.le_refl _) (by omega)) (by omega) (by omega)
   exact ⟨T', L', u, v, X', N', by rw [e']; exact Keep.refl _ _, by rw [e']; exact A2, by rw [e']; exact A3, hu, hv, st'⟩
 | succ k ih =>
   intro i j u v T0 locs hk hi hj hu hv X N Z0 A0 A1 A2 A3
   have ni := own_ofNat_nneg (i := i) (by omega)
   have nj := own_ofNat_nneg (i := j) (by omega)
   have nu := own_ofNat_nneg (i := u) (by omega)
   have nv := own_ofNat_nneg (i := v) (by omega)
   by_cases q1 : i < nb
   · have li := own_ofNat_lt q1 (by omega)
     have lv := own_ofNat_lt (i := v) (c := nb) (by omega) (by omega)
     by_cases q2 : j < na
     · have lj := own_ofNat_lt q2 (by omega)
       have lu := own_ofNat_lt (i := u) (c := na) (by omega) (by omega)
       by_cases q3 : (vs0.getD (Int32.ofNat i).toNatClampNeg 0) < (vs1.getD (Int32.ofNat j).toNatClampNeg 0)
       · obtain ⟨T1, L1, X1, N1, K1, B3, st1⟩ := own_bt_a (o0_ := o0) (o1_ := o1) (o2_ := o2) (o3_ := o3) (i4_ := Int32.ofNat u) (i5_ := Int32.ofNat v) (i6_ := Int32.ofNat i) (i7_ := Int32.ofNat j) (n_o0_ := Int32.ofNat nb) (vs_o0_ := vs0) (n_o1_ := Int32.ofNat na) (vs_o1_ := vs1) (n_o3_ := Int32.ofNat nb) (k5_ := Int32.ofNat (v + 1)) (k6_ := Int32.ofNat (i + 1)) rc rs X hx hZ hw hby hml hown rfl N Z0 A0 A1 A3 g3 li (own_ofNat_ne q2 (by omega)) ni nj lj q3 nv lv (own_ofNat_succ v) (own_ofNat_succ i) (by omega) (by omega)
         obtain ⟨T', L', u', v', X', N', K', C2, C3, r1, r2, st'⟩ := ih (i + 1) j u (v + 1) T1 L1 (by omega) (by omega) (by omega) (by omega) (by omega) X1 N1 (Nat.le_trans Z0 K1.1) (A0.keep K1 (own_n1 d03)) (A1.keep K1 (own_n1 d13)) (A2.keep K1 (own_n1 d23)) B3
         exact ⟨T', L', u', v', X', N', own_keep_step K1 K' (by simp), C2, C3, r1, r2, fun target kt => st1 _ (st' _ kt)⟩
       · by_cases q4 : (vs1.getD (Int32.ofNat j).toNatClampNeg 0) < (vs0.getD (Int32.ofNat i).toNatClampNeg 0)
         · obtain ⟨T1, L1, X1, N1, K1, B2, st1⟩ := own_bt_c (o0_ := o0) (o1_ := o1) (o2_ := o2) (o3_ := o3) (i4_ := Int32.ofNat u) (i5_ := Int32.ofNat v) (i6_ := Int32.ofNat i) (i7_ := Int32.ofNat j) (n_o0_ := Int32.ofNat nb) (vs_o0_ := vs0) (n_o1_ := Int32.ofNat na) (vs_o1_ := vs1) (n_o2_ := Int32.ofNat na) (k4_ := Int32.ofNat (u + 1)) (k7_ := Int32.ofNat (j + 1)) rc rs X hx hZ hw hby hml hown rfl N Z0 A0 A1 A2 g2 li (own_ofNat_ne q2 (by omega)) ni nj lj q3 (own_ofNat_ne q1 (by omega)) q4 nu lu (own_ofNat_succ u) (own_ofNat_succ j) (by omega) (by omega)
           obtain ⟨T', L', u', v', X', N', K', C2, C3, r1, r2, st'⟩ := ih i (j + 1) (u + 1) v T1 L1 (by omega) (by omega) (by omega) (by omega) (by omega) X1 N1 (Nat.le_trans Z0 K1.1) (A0.keep K1 (own_n1 d02)) (A1.keep K1 (own_n1 d12)) B2 (A3.keep K1 (own_n1 (Ne.symm d23)))
           exact ⟨T', L', u', v', X', N', own_keep_step K1 K' (by simp), C2, C3, r1, r2, fun target kt => st1 _ (st' _ kt)⟩
         · obtain ⟨T1, L1, X1, N1, e1, st1⟩ := own_bt_e (o0_ := o0) (o1_ := o1) (o2_ := o2) (o3_ := o3) (i4_ := Int32.ofNat u) (i5_ := Int32.ofNat v) (i6_ := Int32.ofNat i) (i7_ := Int32.ofNat j) (n_o0_ := Int32.ofNat nb) (vs_o0_ := vs0) (n_o1_ := Int32.ofNat na) (vs_o1_ := vs1) (k6_ := Int32.ofNat (i + 1)) (k7_ := Int32.ofNat (j + 1)) rc rs X hx hZ hw hby hml hown rfl N Z0 A0 A1 li (own_ofNat_ne q2 (by omega)) ni nj lj q3 (own_ofNat_ne q1 (by omega)) q4 (own_ofNat_succ i) (own_ofNat_succ j) (by omega) (by omega)
           obtain ⟨T', L', u', v', X', N', K', C2, C3, r1, r2, st'⟩ := ih (i + 1) (j + 1) u v T1 L1 (by omega) (by omega) (by omega) (by omega) (by omega) X1 N1 (by rw [e1]; exact Z0) (by rw [e1]; exact A0) (by rw [e1]; exact A1) (by rw [e1]; exact A2) (by rw [e1]; exact A3)
           rw [e1] at K'
           exact ⟨T', L', u', v', X', N', K', C2, C3, r1, r2, fun target kt => st1 _ (st' _ kt)⟩
     · have e2 : j = na := by omega
       subst e2
       obtain ⟨T1, L1, X1, N1, K1, B3, st1⟩ := own_bt_b (o0_ := o0) (o1_ := o1) (o2_ := o2) (o3_ := o3) (i4_ := Int32.ofNat u) (i5_ := Int32.ofNat v) (i6_ := Int32.ofNat i) (i7_ := Int32.ofNat j) (n_o0_ := Int32.ofNat nb) (vs_o0_ := vs0) (n_o1_ := Int32.ofNat j) (vs_o1_ := vs1) (n_o3_ := Int32.ofNat nb) (k5_ := Int32.ofNat (v + 1)) (k6_ := Int32.ofNat (i + 1)) rc rs X hx hZ hw hby hml hown rfl N Z0 A0 A1 A3 g3 li rfl ni nv lv (own_ofNat_succ v) (own_ofNat_succ i) (by omega) (by omega)
       obtain ⟨T', L', u', v', X', N', K', C2, C3, r1, r2, st'⟩ := ih (i + 1) j u (v + 1) T1 L1 (by omega) (by omega) (by omega) (by omega) (by omega) X1 N1 (Nat.le_trans Z0 K1.1) (A0.keep K1 (own_n1 d03)) (A1.keep K1 (own_n1 d13)) (A2.keep K1 (own_n1 d23)) B3
       exact ⟨T', L', u', v', X', N', own_keep_step K1 K' (by simp), C2, C3, r1, r2, fun target kt => st1 _ (st' _ kt)⟩
   · have e1 : i = nb := by omega
     subst e1
     by_cases q2 : j < na
     · have lj := own_ofNat_lt q2 (by omega)
       have lu := own_ofNat_lt (i := u) (c := na) (by omega) (by omega)
       obtain ⟨T1, L1, X1, N1, K1, B2, st1⟩ := own_bt_d (o0_ := o0) (o1_ := o1) (o2_ := o2) (o3_ := o3) (i4_ := Int32.ofNat u) (i5_ := Int32.ofNat v) (i6_ := Int32.ofNat i) (i7_ := Int32.ofNat j) (n_o0_ := Int32.ofNat i) (vs_o0_ := vs0) (n_o1_ := Int32.ofNat na) (vs_o1_ := vs1) (n_o2_ := Int32.ofNat na) (k4_ := Int32.ofNat (u + 1)) (k7_ := Int32.ofNat (j + 1)) rc rs X hx hZ hw hby hml hown rfl N Z0 A0 A1 A2 g2 (own_ofNat_nlt (Nat.le_refl _) (by omega)) lj (own_ofNat_ne q2 (by omega)) rfl nj nu lu (own_ofNat_succ u) (own_ofNat_succ j) (by omega) (by omega)
       obtain ⟨T', L', u', v', X', N', K', C2, C3, r1, r2, st'⟩ := ih i (j + 1) (u + 1) v T1 L1 (by omega) (by omega) (by omega) (by omega) (by omega) X1 N1 (Nat.le_trans Z0 K1.1) (A0.keep K1 (own_n1 d02)) (A1.keep K1 (own_n1 d12)) B2 (A3.keep K1 (own_n1 (Ne.symm d23)))
       exact ⟨T', L', u', v', X', N', own_keep_step K1 K' (by simp), C2, C3, r1, r2, fun target kt => st1 _ (st' _ kt)⟩
     · have e2 : j = na := by omega
       subst e2
       obtain ⟨T', L', X', N', e', st'⟩ := own_bt_x (o0_ := o0) (o1_ := o1) (o2_ := o2) (o3_ := o3) (i4_ := Int32.ofNat u) (i5_ := Int32.ofNat v) (i6_ := Int32.ofNat i) (i7_ := Int32.ofNat j) (n_o0_ := Int32.ofNat i) (vs_o0_ := vs0) (n_o1_ := Int32.ofNat j) (vs_o1_ := vs1) rc rs X hx hZ hw hby hml hown rfl N Z0 A0 A1 (own_ofNat_nlt (Nat.le_refl _) (by omega)) (own_ofNat_nlt (Nat.le_refl _) (by omega)) (by omega) (by omega)
       exact ⟨T', L', u, v, X', N', by rw [e']; exact Keep.refl _ _, by rw [e']; exact A2, by rw [e']; exact A3, hu, hv, st'⟩
end OwnMerge

section OwnCopy
variable {p : Program} {l : Launch} {e : Env} {R : Room} {s : State} {m : MethodId} {args : Array Value} {below : List Frame} {meth : Method} {c : Code} {T : State} {locs : List Loc} {cells slots : Nat} {Z : State} {a0 : Array Value} {h : Heap} {a b : Addr} {n z z' : Int32} {n0 : Nat}
theorem own_ia.arv (V : own_ia Z h a n) : ∃ (k : ClassId) (vs : List Value), vs.length = n.toNatClampNeg ∧ Arv Z h a k .int n vs (.int 0) := by
 obtain ⟨cl, A, S, M, H⟩ := V
 have key : ∀ i, i < cl.slots.size → ((List.range cl.slots.size).map fun k => (Value.int (Jvm.Lib.StringLatin1.equals.intAt cl k))).getD i (.int 0) = .int (Jvm.Lib.StringLatin1.equals.intAt cl i) := fun i hi => by
   rw [List.getD_eq_getElem?_getD, List.getElem?_map, List.getElem?_range hi]; rfl
 refine ⟨cl.cls, (List.range cl.slots.size).map fun k => (Value.int (Jvm.Lib.StringLatin1.equals.intAt cl k)), by simp [S], cl, A, rfl, S, M, fun i hi => ?_, fun i hi => ?_⟩
 · obtain ⟨y, hy⟩ := H i hi
   rw [key i hi, hy]; simp [Jvm.Lib.StringLatin1.equals.intAt, hy]
 · rw [key i hi]; rfl
theorem own_of_arv {k : ClassId} {vs : List Value} {d : Value} (V : Arv Z h a k .int n vs d) : own_ia Z h a n := by
 obtain ⟨cl, A, -, S, M, H, G⟩ := V
 refine ⟨cl, A, S, M, fun i hi => ?_⟩
 have q := G i hi
 have r := H i hi
 rw [r]
 cases hv : vs.getD i d <;> rw [hv] at q <;> first | exact ⟨_, rfl⟩ | (simp [fits] at q)
theorem own_cp (X : Stand p l e R s m args below meth c T locs cells slots) (hx : p.tables.exec = Jvm.exec) (hZ : Z.Warmed39 s.vm) {own : String} {index : Nat} (hown : s.vm.findClass own = some m.cls)
   (w1 : (Cond.methodLink own index Jvm.Stand.acN).before a0 Z = true) (w2 : (Cond.native Jvm.Stand.acN).before a0 Z = true) (w3 : (Cond.static Jvm.Stand.acN).before a0 Z = true) (w4 : (Cond.initialized "java/lang/System").before a0 Z = true) (eT : T.heap = h)
   {nn : Int32} (A : own_ia Z h a z) (B : own_ia Z h b z') (h3 : ¬ nn < 0) (h4 : nn.toNatClampNeg ≤ z.toNatClampNeg) (h5 : nn.toNatClampNeg ≤ z'.toNatClampNeg) (N : Fr n0 locs) (ge : n0 ≤ b)
   {g : JFrame} (hg : g.method = m) (hsize : g.locals.size = c.maxLocals) {rest : List Value} (hs : g.stack = .int nn :: .int (0 : Int32) :: .ref b :: .int (0 : Int32) :: .ref a :: rest) (hd : decode c.code g.pc = .ok (.invokestatic index, 3))
   (hf : 1 ≤ R.frames) {W : Nat} (hW : 2 * g.monitorRoom + (rest.map fun v => v.category).sum ≤ W) (hlo : W + (nativeFrameWords "java/lang/System" "arraycopy" 5 + 11) ≤ R.locals) :
   ∃ T' L, Stand p l e R s m args below meth c T' L cells slots ∧ Fr n0 L ∧ Keep h T'.heap [b] ∧ own_ia Z T'.heap b z' ∧
     ∀ target, Steps p.tables e below (T'.setTop { g with pc := g.pc + 3, stack := rest }) target → Steps p.tables e below (T.setTop g) target := by
 obtain ⟨k1, vs1, l1, A'⟩ := A.arv
 obtain ⟨k2, vs2, l2, B'⟩ := B.arv
 obtain ⟨T', h', L, X', e', N', K', V', st'⟩ := cpA X hx hZ hown w1 w2 w3 w4 eT (sp := 0) (dp := 0) (nn := nn) A' B' (Or.inl ⟨rfl, rfl⟩) (by decide) (by decide) h3 (by show 0 + _ ≤ _; omega) (by show 0 + _ ≤ _; omega) rfl (by rw [l2]; show 0 + _ ≤ _; omega) N ge hg hsize hs hd hf hW hlo
 subst e'
 exact ⟨T', L, X', N', K', own_of_arv V', st'⟩
theorem own_fitC {cl : Cell} (A : Arr Z h a cl .int) (H : ∀ k, k < cl.slots.size → ∃ y : Int32, cl.slots[k]? = some (.int y)) : FitC Z cl := fun i v hv => by
 obtain ⟨hs, k, hk, comp, hkind⟩ := A.2.1
 obtain ⟨hi, -⟩ := Array.getElem?_eq_some_iff.mp hv
 obtain ⟨y, hy⟩ := H i hi
 cases hy.symm.trans hv
 simp [State.fitsSlot, State.slotType?, hk, hkind, fits]
theorem own_cl (X : Stand p l e R s m args below meth c T locs cells slots) (hx : p.tables.exec = Jvm.exec) (hZ : Z.Warmed39 s.vm) {own : String} {index : Nat} (hown : s.vm.findClass own = some m.cls)
   (w1 : (Cond.methodLink own index ⟨"[I", "clone", "()Ljava/lang/Object;"⟩).before a0 Z = true) (w2 : (Cond.sameMethod "[I" "java/lang/Object" "clone" "()Ljava/lang/Object;").before a0 Z = true) (w3 : (Cond.native ⟨"java/lang/Object", "clone", "()Ljava/lang/Object;"⟩).before a0 Z = true)
   (w4 : (Cond.instanceMethod ⟨"java/lang/Object", "clone", "()Ljava/lang/Object;"⟩).before a0 Z = true) (w5 : (Cond.selects "[I" ⟨"[I", "clone", "()Ljava/lang/Object;"⟩ ⟨"java/lang/Object", "clone", "()Ljava/lang/Object;"⟩).before a0 Z = true) (w6 : (Cond.castable "[I" "java/lang/Cloneable").before a0 Z = true)
   (eT : T.heap = h) (A : own_ia Z h a n) (E : Exa Z h a "[I") {g : JFrame} (hg : g.method = m) (hsize : g.locals.size = c.maxLocals) {rest : List Value} (hs : g.stack = .ref a :: rest) (hd : decode c.code g.pc = .ok (.invokevirtual index, 3))
   (hf : 1 ≤ R.frames) {W cap : Nat} (hW : 2 * g.monitorRoom + (rest.map fun v => v.category).sum ≤ W) (hl : W + 14 ≤ R.locals) (hcap : n.toNatClampNeg ≤ cap) (hc : cells + 1 ≤ R.cells) (hsl : slots + cap ≤ R.slots) :
   ∃ T' h', Stand p l e R s m args below meth c T' locs (cells + 1) (slots + cap) ∧ T'.heap = h' ∧ Ext h h' ∧ own_ia Z h' h.size n ∧ Exa Z h' h.size "[I" ∧
     ∀ target, Steps p.tables e below (T'.setTop { g with pc := g.pc + 3, stack := .ref h.size :: rest }) target → Steps p.tables e below (T.setTop g) target := by
 obtain ⟨cl, A1, S, M, H⟩ := A
 obtain ⟨T', h', X', e', x', A', E', st'⟩ := cloneA X hx hZ hown w1 w2 w3 w4 w5 w6 eT A1 E (own_fitC A1 H) hg hsize hs hd hf hW hl (cap := cap) (by rw [S]; exact hcap) hc hsl
 exact ⟨T', h', X', e', x', ⟨_, A', S, M, H⟩, E', st'⟩
theorem own_cc (X : Stand p l e R s m args below meth c T locs cells slots) (hx : p.tables.exec = Jvm.exec) (hZ : Z.Warmed39 s.vm) {own : String} {index : Nat} (hown : s.vm.findClass own = some m.cls)
   (w1 : (Cond.classLink own index "[I").before a0 Z = true) (w2 : (Cond.castable "[I" "[I").before a0 Z = true) (eT : T.heap = h) (A : own_ia Z h a n) (E : Exa Z h a "[I") {g : JFrame} (hg : g.method = m) {rest : List Value} (hs : g.stack = .ref a :: rest) (hd : decode c.code g.pc = .ok (.checkcast index, 3)) :
   ∃ T', Stand p l e R s m args below meth c T' locs cells slots ∧ T'.heap = h ∧ ∀ target, Steps p.tables e below (T'.setTop { g with pc := g.pc + 3 }) target → Steps p.tables e below (T.setTop g) target := by
 obtain ⟨cl, A1, -, -, -⟩ := A
 obtain ⟨c2, k, e1, e2, e3, -, e5⟩ := E
 cases A1.1.symm.trans e1
 obtain ⟨c1, cC, g1, g2, g3⟩ := Cond.castable_spec w2
 cases e2.symm.trans g1
 obtain ⟨os, ks, hks, -⟩ := State.isArrayOf_alike hZ.alike A1.2.1
 obtain ⟨vm', X', st⟩ := X.checkcast hx hown (mvT hZ w1) (a := a) (by rw [eT]; exact A1.1) os hks (by rw [hZ.alike.findClass]; exact g2) (by rw [hZ.alike.assignable]; exact g3) hg hs hd
 exact ⟨_, X', eT, st⟩
end OwnCopy

def Qown_b40_f (Z : State) (a0_ : Addr) (p1_ : Int32) (n_a0_ : Int32) (h0 : Heap) (n0 : Nat) (v : Option Value) (h : Heap) (L : List Loc) : Prop := ∃ b2 : Addr, v = some (.ref b2) ∧ Fr n0 L ∧ Keep h0 h [] ∧ h0.size ≤ b2 ∧ Exa Z h b2 "[I" ∧ own_ia Z h b2 n_a0_
theorem own_b40_f (l : Launch) (Z : State) (a0 : Array Value) (hw : oH a0 Z) (ws : List Jvm.Cond) (a0_ : Addr) (p1_ : Int32) (n_a0_ : Int32) (h0 : Heap) (n0 : Nat) (Z0 : n0 ≤ h0.size) (A_a0_ : own_ia Z h0 a0_ n_a0_) (E_a0_ : Exa Z h0 a0_ "[I") (hf0 : p1_ = n_a0_) (hf1 : (n_a0_).toNatClampNeg ≤ 16) :
   oMet l oM21 jdk_65_method_123_code 3 (some (.array .int)) ws (oR 1 1 16 14) Z h0 #[(.ref a0_), (.int p1_)] (Qown_b40_f Z a0_ p1_ n_a0_ h0 n0) := by
 refine oBd n0 (plainFor_of_name own_pn6) ?_
 intro p e s m below meth c s₁ Bd hx hZ hby hml hown hnm X0 e0 N0
 obtain ⟨c1, A1, S1, M1⟩ := own_ia_cell A_a0_
 obtain ⟨T2, h2, X2, e2, E2, V2, B2, st2⟩ := own_cl X0 hx hZ hown (oW hw 262 rfl) (oW hw 263 rfl) (oW hw 267 rfl) (oW hw 265 rfl) (oW hw 266 rfl) (oW hw 268 rfl) e0 A_a0_ E_a0_ (g := (mkF m 7 #[oA a0_, oI p1_, .unset] [(.ref a0_)])) rfl (by rw [hml]; rfl) rfl (oG hby d40 5 rfl) (by decide) (W := 0) (by show 2 * 0 + _ ≤ _; exact Nat.le_of_eq rfl) (by decide) (cap := 16) hf1 (by decide) (by decide)
 obtain ⟨b2, g2⟩ : ∃ z, z = h0.size := ⟨_, rfl⟩
 rw [← g2] at V2 B2 st2
 have lo_b2 : h0.size ≤ b2 := Nat.le_of_eq g2.symm
 have ne_a0__b2 : a0_ ≠ b2 := oV A_a0_.lt lo_b2
 have sz_b2 : h0.size ≤ b2 := Nat.le_trans (Keep.refl h0 []).1 lo_b2
 have g_b2 : n0 ≤ b2 := Nat.le_trans Z0 sz_b2
 have K2 : Keep h0 h2 [] := (Keep.refl h0 []).ext E2
 obtain ⟨T3, X3, e3, st3⟩ := own_cc X2 hx hZ hown (oW hw 269 rfl) (oW hw 270 rfl) e2 V2 B2 (g := (mkF m 10 #[oA a0_, oI p1_, .unset] [(.ref b2)])) rfl rfl (oG hby d40 6 rfl)
 obtain ⟨fs, hr, hrun, hended, hW, hsame⟩ := X3.leave (v := some (.ref b2)) (fun h => by rw [Bd.returns] at h; cases h)
 refine ⟨_, _, castTop (own_ef29 m a0_ p1_) ?_, hrun, hended, _, _, rfl, ?_, ⟨_, rfl⟩, hW, (hsame.mono (by decide) (by decide))⟩
 · show oZ p e below s₁ (mkF m 0 #[oA a0_, oI p1_, .unset] []) _
   refine XS.iloadN X0.here hx rfl (oG hby d40 0 rfl) rfl ?_
   refine XS.aloadN X0.here hx rfl (oG hby d40 1 rfl) rfl rfl ?_
   refine X0.arraylength hx (by rw [e0]; exact A1.1) (State.isArrayOf_alike hZ.alike A1.2.1) (g := (mkF m 2 #[oA a0_, oI p1_, .unset] [(.ref a0_), (.int p1_)])) rfl rfl (oG hby d40 2 rfl) _ ?_
   rw [len_of S1 M1]
   refine XS.icmpNo X0.here hx rfl (oG hby d40 3 rfl) rfl (teq hf0).2 ?_
   refine XS.aloadN X0.here hx rfl (oG hby d40 4 rfl) rfl rfl ?_
   refine st2 _ ?_
   refine st3 _ ?_
   show oZ p e below T3 (mkF m 13 #[oA a0_, oI p1_, .unset] [(.ref b2)]) _
   jvm_step X3.here [X3.here.top, hx, (oG hby d40 7 rfl), X3.method', Bd.returns, Value.isRef, FieldType.isReference]
   first | (intro acts; rw [hr _ acts rfl rfl rfl]) | rw [hr _ _ rfl rfl rfl]
   exact Steps.refl _
 · show Qown_b40_f Z a0_ p1_ n_a0_ h0 n0 _ T3.heap _
   rw [e3]
   exact ⟨b2, rfl, N0, K2, sz_b2, B2, V2⟩
theorem own_b7_t (l : Launch) (Z : State) (a0 : Array Value) (hw : oH a0 Z) (ws : List Jvm.Cond) (p0_ : Int32) (p1_ : Int32) (h0 : Heap) (n0 : Nat) (Z0 : n0 ≤ h0.size) (hf0 : p1_ < p0_) :
   oMet l oM18 jdk_29_method_69_code 2 (some .int) ws (oR 0 0 0 0) Z h0 #[(.int p0_), (.int p1_)] (own_QP (some (.int p1_)) h0 n0) := by
 refine oBd n0 (Jvm.Free.JP.mathPlain rfl (by decide +kernel)) ?_
 intro p e s m below meth c s₁ Bd hx hZ hby hml hown hnm X0 e0 N0
 obtain ⟨fs, hr, hrun, hended, hW, hsame⟩ := X0.leave (v := some (.int p1_)) (fun h => by rw [Bd.returns] at h; cases h)
 refine ⟨_, _, castTop (own_ef30 m p0_ p1_) ?_, hrun, hended, _, _, rfl, ?_, ⟨_, rfl⟩, hW, (hsame.mono (by decide) (by decide))⟩
 · show oZ p e below s₁ (mkF m 0 #[oI p0_, oI p1_] []) _
   refine XS.iloadN X0.here hx rfl (oG hby d7 0 rfl) rfl ?_
   refine XS.iloadN X0.here hx rfl (oG hby d7 1 rfl) rfl ?_
   refine XS.icmpYes X0.here hx rfl (pc0 := 2) (pc' := 9) rfl (oG hby d7 2 rfl) rfl (tlt hf0).2.2.1 (by decide) (by decide) ?_
   refine XS.iloadN X0.here hx rfl (oG hby d7 5 rfl) rfl ?_
   show oZ p e below s₁ (mkF m 10 #[oI p0_, oI p1_] [(.int p1_)]) _
   exact retI X0 hx Bd.returns (oG hby d7 6 rfl) hr
 · show own_QP (some (.int p1_)) h0 n0 _ s₁.heap _
   exact ⟨rfl, N0, e0⟩
def Qown_b40_t_48 (Z : State) (a0_ : Addr) (p1_ : Int32) (n_a0_ : Int32) (h0 : Heap) (n0 : Nat) (v : Option Value) (h : Heap) (L : List Loc) : Prop := ∃ b2 : Addr, v = some (.ref b2) ∧ Fr n0 L ∧ Keep h0 h [] ∧ h0.size ≤ b2 ∧ Exa Z h b2 "[I" ∧ own_ia Z h b2 p1_
theorem own_b40_t_48 (l : Launch) (Z : State) (a0 : Array Value) (hw : oH a0 Z) (ws : List Jvm.Cond) (a0_ : Addr) (p1_ : Int32) (n_a0_ : Int32) (h0 : Heap) (n0 : Nat) (Z0 : n0 ≤ h0.size) (A_a0_ : own_ia Z h0 a0_ n_a0_) (hf0 : ¬ (p1_ = n_a0_)) (hf1 : ¬ (p1_ < 0)) (hf2 : p1_.toNatClampNeg ≤ 16) (hf3 : p1_ < n_a0_) (hf4 : (p1_).toNatClampNeg ≤ (n_a0_).toNatClampNeg) (hf5 : (p1_).toNatClampNeg ≤ (p1_).toNatClampNeg) :
   oMet l oM21 jdk_65_method_123_code 3 (some (.array .int)) ws (oR 1 1 16 60) Z h0 #[(.ref a0_), (.int p1_)] (Qown_b40_t_48 Z a0_ p1_ n_a0_ h0 n0) := by
 refine oBd n0 (plainFor_of_name own_pn6) ?_
 intro p e s m below meth c s₁ Bd hx hZ hby hml hown hnm X0 e0 N0
 obtain ⟨c1, A1, S1, M1⟩ := own_ia_cell A_a0_
 obtain ⟨T2, h2, k2, X2, e2, E2, A2, B2, st2⟩ := newPE X0 hx hZ (oW hw 85 rfl) e0 (g := (mkF m 15 #[oA a0_, oI p1_, .unset] [(.int p1_)])) rfl (oG hby d40 9 rfl) rfl hf1 (cap := 16) hf2 (by decide) (by decide) (by decide) (ad := "[I") rfl
 obtain ⟨b2, g2⟩ : ∃ z, z = h0.size := ⟨_, rfl⟩
 rw [← g2] at A2 B2 st2
 have lo_b2 : h0.size ≤ b2 := Nat.le_of_eq g2.symm
 have ne_a0__b2 : a0_ ≠ b2 := oV A_a0_.lt lo_b2
 have sz_b2 : h0.size ≤ b2 := Nat.le_trans (Keep.refl h0 []).1 lo_b2
 have g_b2 : n0 ≤ b2 := Nat.le_trans Z0 sz_b2
 have K2 : Keep h0 h2 [] := (Keep.refl h0 []).ext E2
 have V2 := (own_il_new (m := 0) A2 hf1).ia
 have f3_a0_ := (A_a0_.ext E2)
 obtain ⟨c4, A4, S4, M4⟩ := own_ia_cell f3_a0_
 obtain ⟨_, _, ⟨T5, L5, k5, n5⟩, -, X5, ⟨Lc5, hQ5, l5, y5, z5⟩, st5⟩ := Jvm.LawKit.callS X2 hx (y := oM18) hown (mvT hZ (oW hw 231 rfl)) (mvT hZ (oW hw 52 rfl)) (mvT hZ (oW hw 3 rfl)) (mvT hZ (oW hw 53 rfl)) (by decide) (backOf (W := 4) (own_b7_t l Z a0 hw [] n_a0_ p1_ h2 n0 (Nat.le_trans Z0 K2.1) hf3) hZ (oW hw 53 rfl) (oW hw 3 rfl) (by decide) (by decide)) (g := (mkF m 25 #[oA a0_, oI p1_, oA b2] [(.int p1_), (.int n_a0_), (.int 0), (.ref b2), (.int 0), (.ref a0_)])) rfl (by rw [hml]; rfl) (argsL := [(.int n_a0_), (.int p1_)]) (rest := [(.int 0), (.ref b2), (.int 0), (.ref a0_)]) (lenOf own_pd16 rfl) rfl (by show 2 * 0 + _ ≤ _; exact Nat.le_of_eq rfl) (oG hby d40 18 rfl) (fun _ _ => ⟨rfl, e2, (by decide : 1 + 0 ≤ _), (by decide : 16 + 0 ≤ _)⟩)
 dsimp only [Pt.U, Pt.locs, Pt.cells, Pt.slots] at X5 l5 y5 z5 st5 hQ5
 subst l5 y5 z5
 obtain ⟨rfl, N5q, e5⟩ := hQ5
 have N5 := Fr.app N0 N5q
 obtain ⟨T6, L6, X6, N6, Kq6, V6, st6⟩ := own_cp X5 hx hZ hown (oW hw 232 rfl) (oW hw 235 rfl) (oW hw 233 rfl) (oW hw 234 rfl) e5 f3_a0_ V2 hf1 hf4 hf5 N5 g_b2 (g := (mkF m 28 #[oA a0_, oI p1_, oA b2] [(.int p1_), (.int 0), (.ref b2), (.int 0), (.ref a0_)])) rfl (by rw [hml]; rfl) rfl (oG hby d40 19 rfl) (by decide) (W := 0) (by show 2 * 0 + _ ≤ _; exact Nat.le_of_eq rfl) (by decide)
 have K6 : Keep h0 T6.heap [] := K2.trans Kq6 (own_a1 (Or.inr sz_b2))
 have f7_b2 := (B2.keep Kq6)
 obtain ⟨fs, hr, hrun, hended, hW, hsame⟩ := X6.leave (v := some (.ref b2)) (fun h => by rw [Bd.returns] at h; cases h)
 refine ⟨_, _, castTop (own_ef29 m a0_ p1_) ?_, hrun, hended, _, _, rfl, ?_, ⟨_, rfl⟩, hW, (hsame.mono (by decide) (by decide))⟩
 · show oZ p e below s₁ (mkF m 0 #[oA a0_, oI p1_, .unset] []) _
   refine XS.iloadN X0.here hx rfl (oG hby d40 0 rfl) rfl ?_
   refine XS.aloadN X0.here hx rfl (oG hby d40 1 rfl) rfl rfl ?_
   refine X0.arraylength hx (by rw [e0]; exact A1.1) (State.isArrayOf_alike hZ.alike A1.2.1) (g := (mkF m 2 #[oA a0_, oI p1_, .unset] [(.ref a0_), (.int p1_)])) rfl rfl (oG hby d40 2 rfl) _ ?_
   rw [len_of S1 M1]
   refine XS.icmpYes X0.here hx rfl (pc0 := 3) (pc' := 14) rfl (oG hby d40 3 rfl) rfl (feq hf0).2 (by decide) (by decide) ?_
   refine XS.iloadN X0.here hx rfl (oG hby d40 8 rfl) rfl ?_
   refine st2 _ ?_
   refine XS.astoreN X2.here hx rfl (oG hby d40 10 rfl) rfl rfl (l' := #[oA a0_, oI p1_, oA b2]) rfl ?_
   refine XS.aloadN X2.here hx rfl (oG hby d40 11 rfl) rfl rfl ?_
   refine XS.iconst X2.here hx rfl (oG hby d40 12 rfl) ?_
   refine XS.aloadN X2.here hx rfl (oG hby d40 13 rfl) rfl rfl ?_
   refine XS.iconst X2.here hx rfl (oG hby d40 14 rfl) ?_
   show oZ p e below T2 (mkF m 22 #[oA a0_, oI p1_, oA b2] [(.int 0), (.ref b2), (.int 0), (.ref a0_)]) _
   refine XS.aloadN X2.here hx rfl (oG hby d40 15 rfl) rfl rfl ?_
   refine X2.arraylength hx (by rw [e2]; exact A4.1) (State.isArrayOf_alike hZ.alike A4.2.1) (g := (mkF m 23 #[oA a0_, oI p1_, oA b2] [(.ref a0_), (.int 0), (.ref b2), (.int 0), (.ref a0_)])) rfl rfl (oG hby d40 16 rfl) _ ?_
   rw [len_of S4 M4]
   refine XS.iloadN X2.here hx rfl (oG hby d40 17 rfl) rfl ?_
   refine st5 _ ?_
   refine st6 _ ?_
   refine XS.aloadN X6.here hx rfl (oG hby d40 20 rfl) rfl rfl ?_
   show oZ p e below T6 (mkF m 32 #[oA a0_, oI p1_, oA b2] [(.ref b2)]) _
   jvm_step X6.here [X6.here.top, hx, (oG hby d40 21 rfl), X6.method', Bd.returns, Value.isRef, FieldType.isReference]
   first | (intro acts; rw [hr _ acts rfl rfl rfl]) | rw [hr _ _ rfl rfl rfl]
   exact Steps.refl _
 · show Qown_b40_t_48 Z a0_ p1_ n_a0_ h0 n0 _ T6.heap _
   exact ⟨b2, rfl, N6, K6, sz_b2, f7_b2, V6⟩
theorem own_b39_f (l : Launch) (Z : State) (a0 : Array Value) (hw : oH a0 Z) (ws : List Jvm.Cond) (a0_ : Addr) (p1_ : Int32) (w_NONE : Addr) (h0 : Heap) (n0 : Nat) (Z0 : n0 ≤ h0.size) (S_NONE : Sta Z h0 oC4 "NONE" "[I" (.ref w_NONE)) (hf0 : p1_ = (0 : Int32)) :
   oMet l oM9 prog_28_method_3_code 2 (some (.array .int)) ws (oR 2 1 16 100) Z h0 #[(.ref a0_), (.int p1_)] (own_QP (some (.ref w_NONE)) h0 n0) := by
 refine oBd n0 (plainFor_of_name own_pn7) ?_
 intro p e s m below meth c s₁ Bd hx hZ hby hml hown hnm X0 e0 N0
 obtain ⟨T1, X1, e1, st1⟩ := getS2 X0 hx hZ hown (host := "") (Or.inl (oW hw 226 rfl)) Via.refl e0 S_NONE (g := (mkF m 4 #[oA a0_, oI p1_] [])) rfl (oG hby d39 2 rfl)
 obtain ⟨fs, hr, hrun, hended, hW, hsame⟩ := X1.leave (v := some (.ref w_NONE)) (fun h => by rw [Bd.returns] at h; cases h)
 refine ⟨_, _, castTop (own_ef31 m a0_ p1_) ?_, hrun, hended, _, _, rfl, ?_, ⟨_, rfl⟩, hW, (hsame.mono (by decide) (by decide))⟩
 · show oZ p e below s₁ (mkF m 0 #[oA a0_, oI p1_] []) _
   refine XS.iloadN X0.here hx rfl (oG hby d39 0 rfl) rfl ?_
   refine XS.ifNo X0.here hx rfl (oG hby d39 1 rfl) rfl ((if0 _ _).trans (teq hf0).2) ?_
   refine st1 _ ?_
   refine XS.goto X1.here hx rfl (pc0 := 7) (pc' := 15) rfl (oG hby d39 3 rfl) (by decide) (by decide) ?_
   show oZ p e below T1 (mkF m 15 #[oA a0_, oI p1_] [(.ref w_NONE)]) _
   jvm_step X1.here [X1.here.top, hx, (oG hby d39 7 rfl), X1.method', Bd.returns, Value.isRef, FieldType.isReference]
   first | (intro acts; rw [hr _ acts rfl rfl rfl]) | rw [hr _ _ rfl rfl rfl]
   exact Steps.refl _
 · show own_QP (some (.ref w_NONE)) h0 n0 _ T1.heap _
   exact ⟨rfl, N0, e1⟩
def Qown_b39_t_50 (Z : State) (a0_ : Addr) (p1_ : Int32) (n_a0_ : Int32) (h0 : Heap) (n0 : Nat) (v : Option Value) (h : Heap) (L : List Loc) : Prop := ∃ r1_b2 : Addr, v = some (.ref r1_b2) ∧ Fr n0 L ∧ Keep h0 h [] ∧ h0.size ≤ r1_b2 ∧ Exa Z h r1_b2 "[I" ∧ own_ia Z h r1_b2 n_a0_
theorem own_b39_t_50 (l : Launch) (Z : State) (a0 : Array Value) (hw : oH a0 Z) (ws : List Jvm.Cond) (a0_ : Addr) (p1_ : Int32) (n_a0_ : Int32) (h0 : Heap) (n0 : Nat) (Z0 : n0 ≤ h0.size) (A_a0_ : own_ia Z h0 a0_ n_a0_) (E_a0_ : Exa Z h0 a0_ "[I") (hf0 : ¬ (p1_ = (0 : Int32))) (hf1 : p1_ = n_a0_) (hf2 : (n_a0_).toNatClampNeg ≤ 16) :
   oMet l oM9 prog_28_method_3_code 2 (some (.array .int)) ws (oR 2 1 16 100) Z h0 #[(.ref a0_), (.int p1_)] (Qown_b39_t_50 Z a0_ p1_ n_a0_ h0 n0) := by
 refine oBd n0 (plainFor_of_name own_pn7) ?_
 intro p e s m below meth c s₁ Bd hx hZ hby hml hown hnm X0 e0 N0
 obtain ⟨_, _, ⟨T1, L1, k1, n1⟩, -, X1, ⟨Lc1, hQ1, l1, y1, z1⟩, st1⟩ := Jvm.LawKit.callS X0 hx (y := oM21) hown (mvT hZ (oW hw 228 rfl)) (mvT hZ (oW hw 229 rfl)) (mvT hZ (oW hw 205 rfl)) (mvT hZ (oW hw 230 rfl)) (by decide) (backOf (W := 0) (own_b40_f l Z a0 hw [] a0_ p1_ n_a0_ h0 n0 Z0 A_a0_ E_a0_ hf1 hf2) hZ (oW hw 230 rfl) (oW hw 205 rfl) (by decide) (by decide)) (g := (mkF m 12 #[oA a0_, oI p1_] [(.int p1_), (.ref a0_)])) rfl (by rw [hml]; rfl) (argsL := [(.ref a0_), (.int p1_)]) (rest := []) (lenOf own_pd17 rfl) rfl (by show 2 * 0 + _ ≤ _; exact Nat.le_of_eq rfl) (oG hby d39 6 rfl) (fun _ _ => ⟨rfl, e0, (by decide : 0 + 1 ≤ _), (by decide : 0 + 16 ≤ _)⟩)
 dsimp only [Pt.U, Pt.locs, Pt.cells, Pt.slots] at X1 l1 y1 z1 st1 hQ1
 subst l1 y1 z1
 obtain ⟨r1_b2, rfl, N1q, Kq1, lo_r1_b2, Q1_0, Q1_1⟩ := hQ1
 have N1 := Fr.app N0 N1q
 have ne_a0__r1_b2 : a0_ ≠ r1_b2 := oV A_a0_.lt lo_r1_b2
 have sz_r1_b2 : h0.size ≤ r1_b2 := Nat.le_trans (Keep.refl h0 []).1 lo_r1_b2
 have g_r1_b2 : n0 ≤ r1_b2 := Nat.le_trans Z0 sz_r1_b2
 have K1 : Keep h0 T1.heap [] := (Keep.refl h0 []).trans Kq1 own_a0
 obtain ⟨fs, hr, hrun, hended, hW, hsame⟩ := X1.leave (v := some (.ref r1_b2)) (fun h => by rw [Bd.returns] at h; cases h)
 refine ⟨_, _, castTop (own_ef31 m a0_ p1_) ?_, hrun, hended, _, _, rfl, ?_, ⟨_, rfl⟩, hW, (hsame.mono (by decide) (by decide))⟩
 · show oZ p e below s₁ (mkF m 0 #[oA a0_, oI p1_] []) _
   refine XS.iloadN X0.here hx rfl (oG hby d39 0 rfl) rfl ?_
   refine XS.ifYes X0.here hx rfl (pc0 := 1) (pc' := 10) rfl (oG hby d39 1 rfl) rfl ((if0 _ _).trans (feq hf0).2) (by decide) (by decide) ?_
   refine XS.aloadN X0.here hx rfl (oG hby d39 4 rfl) rfl rfl ?_
   refine XS.iloadN X0.here hx rfl (oG hby d39 5 rfl) rfl ?_
   refine st1 _ ?_
   show oZ p e below T1 (mkF m 15 #[oA a0_, oI p1_] [(.ref r1_b2)]) _
   jvm_step X1.here [X1.here.top, hx, (oG hby d39 7 rfl), X1.method', Bd.returns, Value.isRef, FieldType.isReference]
   first | (intro acts; rw [hr _ acts rfl rfl rfl]) | rw [hr _ _ rfl rfl rfl]
   exact Steps.refl _
 · show Qown_b39_t_50 Z a0_ p1_ n_a0_ h0 n0 _ T1.heap _
   exact ⟨r1_b2, rfl, N1, K1, sz_r1_b2, Q1_0, Q1_1⟩
def Qown_b39_t_51 (Z : State) (a0_ : Addr) (p1_ : Int32) (n_a0_ : Int32) (h0 : Heap) (n0 : Nat) (v : Option Value) (h : Heap) (L : List Loc) : Prop := ∃ r1_b2 : Addr, v = some (.ref r1_b2) ∧ Fr n0 L ∧ Keep h0 h [] ∧ h0.size ≤ r1_b2 ∧ Exa Z h r1_b2 "[I" ∧ own_ia Z h r1_b2 p1_
theorem own_b39_t_51 (l : Launch) (Z : State) (a0 : Array Value) (hw : oH a0 Z) (ws : List Jvm.Cond) (a0_ : Addr) (p1_ : Int32) (n_a0_ : Int32) (h0 : Heap) (n0 : Nat) (Z0 : n0 ≤ h0.size) (A_a0_ : own_ia Z h0 a0_ n_a0_) (hf0 : ¬ (p1_ = (0 : Int32))) (hf1 : ¬ (p1_ = n_a0_)) (hf2 : ¬ (p1_ < 0)) (hf3 : p1_.toNatClampNeg ≤ 16) (hf4 : p1_ < n_a0_) (hf5 : (p1_).toNatClampNeg ≤ (n_a0_).toNatClampNeg) (hf6 : (p1_).toNatClampNeg ≤ (p1_).toNatClampNeg) :
   oMet l oM9 prog_28_method_3_code 2 (some (.array .int)) ws (oR 2 1 16 100) Z h0 #[(.ref a0_), (.int p1_)] (Qown_b39_t_51 Z a0_ p1_ n_a0_ h0 n0) := by
 refine oBd n0 (plainFor_of_name own_pn7) ?_
 intro p e s m below meth c s₁ Bd hx hZ hby hml hown hnm X0 e0 N0
 obtain ⟨_, _, ⟨T1, L1, k1, n1⟩, -, X1, ⟨Lc1, hQ1, l1, y1, z1⟩, st1⟩ := Jvm.LawKit.callS X0 hx (y := oM21) hown (mvT hZ (oW hw 228 rfl)) (mvT hZ (oW hw 229 rfl)) (mvT hZ (oW hw 205 rfl)) (mvT hZ (oW hw 230 rfl)) (by decide) (backOf (W := 0) (own_b40_t_48 l Z a0 hw [] a0_ p1_ n_a0_ h0 n0 Z0 A_a0_ hf1 hf2 hf3 hf4 hf5 hf6) hZ (oW hw 230 rfl) (oW hw 205 rfl) (by decide) (by decide)) (g := (mkF m 12 #[oA a0_, oI p1_] [(.int p1_), (.ref a0_)])) rfl (by rw [hml]; rfl) (argsL := [(.ref a0_), (.int p1_)]) (rest := []) (lenOf own_pd17 rfl) rfl (by show 2 * 0 + _ ≤ _; exact Nat.le_of_eq rfl) (oG hby d39 6 rfl) (fun _ _ => ⟨rfl, e0, (by decide : 0 + 1 ≤ _), (by decide : 0 + 16 ≤ _)⟩)
 dsimp only [Pt.U, Pt.locs, Pt.cells, Pt.slots] at X1 l1 y1 z1 st1 hQ1
 subst l1 y1 z1
 obtain ⟨r1_b2, rfl, N1q, Kq1, lo_r1_b2, Q1_0, Q1_1⟩ := hQ1
 have N1 := Fr.app N0 N1q
 have ne_a0__r1_b2 : a0_ ≠ r1_b2 := oV A_a0_.lt lo_r1_b2
 have sz_r1_b2 : h0.size ≤ r1_b2 := Nat.le_trans (Keep.refl h0 []).1 lo_r1_b2
 have g_r1_b2 : n0 ≤ r1_b2 := Nat.le_trans Z0 sz_r1_b2
 have K1 : Keep h0 T1.heap [] := (Keep.refl h0 []).trans Kq1 own_a0
 obtain ⟨fs, hr, hrun, hended, hW, hsame⟩ := X1.leave (v := some (.ref r1_b2)) (fun h => by rw [Bd.returns] at h; cases h)
 refine ⟨_, _, castTop (own_ef31 m a0_ p1_) ?_, hrun, hended, _, _, rfl, ?_, ⟨_, rfl⟩, hW, (hsame.mono (by decide) (by decide))⟩
 · show oZ p e below s₁ (mkF m 0 #[oA a0_, oI p1_] []) _
   refine XS.iloadN X0.here hx rfl (oG hby d39 0 rfl) rfl ?_
   refine XS.ifYes X0.here hx rfl (pc0 := 1) (pc' := 10) rfl (oG hby d39 1 rfl) rfl ((if0 _ _).trans (feq hf0).2) (by decide) (by decide) ?_
   refine XS.aloadN X0.here hx rfl (oG hby d39 4 rfl) rfl rfl ?_
   refine XS.iloadN X0.here hx rfl (oG hby d39 5 rfl) rfl ?_
   refine st1 _ ?_
   show oZ p e below T1 (mkF m 15 #[oA a0_, oI p1_] [(.ref r1_b2)]) _
   jvm_step X1.here [X1.here.top, hx, (oG hby d39 7 rfl), X1.method', Bd.returns, Value.isRef, FieldType.isReference]
   first | (intro acts; rw [hr _ acts rfl rfl rfl]) | rw [hr _ _ rfl rfl rfl]
   exact Steps.refl _
 · show Qown_b39_t_51 Z a0_ p1_ n_a0_ h0 n0 _ T1.heap _
   exact ⟨r1_b2, rfl, N1, K1, sz_r1_b2, Q1_0, Q1_1⟩
def own_QM (Z : State) (w : Addr) (h0 : Heap) (n0 : Nat) (v : Option Value) (h : Heap) (L : List Loc) : Prop := ∃ (r : Addr) (y : Int32), v = some (.ref r) ∧ Fr n0 L ∧ Keep h0 h [] ∧ own_ia Z h r y ∧ ∀ x, x < h0.size → x ≠ w → r ≠ x
theorem own_tmC (l : Launch) (Z : State) (a0 : Array Value) (hw : oH a0 Z) (ws : List Jvm.Cond) (o0 : Addr) (p1 : Int32) (w : Addr) (n1 n2 : Int32) (cnt n : Nat) (h0 : Heap) (n0 : Nat) (Z0 : n0 ≤ h0.size) (SN : Sta Z h0 oC4 "NONE" "[I" (.ref w)) (AN : own_ia Z h0 w n2) (A : own_ia Z h0 o0 n1) (EX : Exa Z h0 o0 "[I") (e1 : n1 = Int32.ofNat n) (e2 : p1 = Int32.ofNat cnt) (hle : cnt ≤ n) (hn : n ≤ 16) :
   oMet l oM9 prog_28_method_3_code 2 (some (.array .int)) ws (oR 2 1 16 100) Z h0 #[(.ref o0), (.int p1)] (own_QM Z w h0 n0) := by
 subst e1 e2
 have hn' : (Int32.ofNat n).toNatClampNeg ≤ 16 := by rw [own_ofNat_nat (by omega)]; exact hn
 have hc' : (Int32.ofNat cnt).toNatClampNeg ≤ 16 := by rw [own_ofNat_nat (by omega)]; omega
 have hle' : (Int32.ofNat cnt).toNatClampNeg ≤ (Int32.ofNat n).toNatClampNeg := by rw [own_ofNat_nat (by omega), own_ofNat_nat (by omega)]; exact hle
 have hz := own_ofNat_nneg (i := cnt) (by omega)
 by_cases q0 : (Int32.ofNat cnt) = (0 : Int32)
 · exact own_mono (own_b39_f l Z a0 hw ws o0 (Int32.ofNat cnt) w h0 n0 Z0 SN q0) fun v h Lc ⟨a1, a2, a3⟩ => ⟨w, n2, a1, a2, a3 ▸ Keep.refl _ _, a3 ▸ AN, fun x _ hx => Ne.symm hx⟩
 · by_cases q1 : (Int32.ofNat cnt) = (Int32.ofNat n)
   · exact own_mono (own_b39_t_50 l Z a0 hw ws o0 (Int32.ofNat cnt) (Int32.ofNat n) h0 n0 Z0 A EX q0 q1 hn') fun v h Lc ⟨r, a1, a2, a3, a4, a5, a6⟩ => ⟨r, _, a1, a2, a3, a6, fun x hx _ => Ne.symm (Nat.ne_of_lt (Nat.lt_of_lt_of_le hx a4))⟩
   · have hlt := own_ofNat_lt (i := cnt) (c := n) (by rcases Nat.lt_or_ge cnt n with g | g; exact g; exact absurd (by rw [Nat.le_antisymm hle g]) q1) (by omega)
     exact own_mono (own_b39_t_51 l Z a0 hw ws o0 (Int32.ofNat cnt) (Int32.ofNat n) h0 n0 Z0 A q0 q1 hz hc' hlt hle' (Nat.le_refl _)) fun v h Lc ⟨r, a1, a2, a3, a4, a5, a6⟩ => ⟨r, _, a1, a2, a3, a6, fun x hx _ => Ne.symm (Nat.ne_of_lt (Nat.lt_of_lt_of_le hx a4))⟩
theorem own_bt_H (rc : Nat) (rs : Nat) (o0_ : Addr) (o1_ : Addr) (n_o1_ : Int32) (n_o0_ : Int32)
   (X0 : Stand p l e (oR 4 rc rs 150) s m args below meth c T0 locs cells slots) (hx : p.tables.exec = Jvm.exec) (hZ : Z.Warmed39 s.vm) (hw : oH a0 Z) (hby : c.code = prog_28_method_2_code) (hml : c.maxLocals = 8) (hown : s.vm.findClass oC4 = some m.cls) (e0 : T0.heap = h0) (N0 : Fr n0 locs) (Z0 : n0 ≤ h0.size) (A_o1_ : own_ia Z h0 o1_ n_o1_) (A_o0_ : own_ia Z h0 o0_ n_o0_) (hf0 : ¬ (n_o1_ < 0)) (hf1 : n_o1_.toNatClampNeg ≤ 16) (hf2 : ¬ (n_o0_ < 0)) (hf3 : n_o0_.toNatClampNeg ≤ 16) (hc : cells + (1 + 1) ≤ rc) (hs : slots + (16 + 16) ≤ rs) :
   ∃ (b2 : Addr) (b5 : Addr) (T' : State) (locs' : List Loc), Stand p l e (oR 4 rc rs 150) s m args below meth c T' locs' (cells + 1 + 1) (slots + 16 + 16) ∧ Fr n0 locs' ∧ Keep h0 T'.heap [] ∧ h0.size ≤ b2 ∧ h0.size ≤ b5 ∧ b2 ≠ b5 ∧ Exa Z T'.heap b2 "[I" ∧ own_ia Z T'.heap b2 n_o1_ ∧ Exa Z T'.heap b5 "[I" ∧ own_ia Z T'.heap b5 n_o0_ ∧
     ∀ target, Steps p.tables e below (T'.setTop (mkF m 22 #[oA o0_, oA o1_, oA b2, oA b5, oI 0, oI 0, oI 0, oI 0] [])) target → Steps p.tables e below (T0.setTop (mkF m 0 #[oA o0_, oA o1_, .unset, .unset, .unset, .unset, .unset, .unset] [])) target := by
 obtain ⟨c1, A1, S1, M1⟩ := own_ia_cell A_o1_
 obtain ⟨T2, h2, k2, X2, e2, E2, A2, B2, st2⟩ := newPE X0 hx hZ (oW hw 85 rfl) e0 (g := (mkF m 2 #[oA o0_, oA o1_, .unset, .unset, .unset, .unset, .unset, .unset] [(.int n_o1_)])) rfl (oG hby d38 2 rfl) rfl hf0 (cap := 16) hf1 (by decide) (show cells + 1 ≤ rc from by omega) (show slots + 16 ≤ rs from by omega) (ad := "[I") rfl
 obtain ⟨b2, g2⟩ : ∃ z, z = h0.size := ⟨_, rfl⟩
 rw [← g2] at A2 B2 st2
 have lo_b2 : h0.size ≤ b2 := Nat.le_of_eq g2.symm
 have ne_o1__b2 : o1_ ≠ b2 := oV A_o1_.lt lo_b2
 have sz_b2 : h0.size ≤ b2 := Nat.le_trans (Keep.refl h0 []).1 lo_b2
 have g_b2 : n0 ≤ b2 := Nat.le_trans Z0 sz_b2
 have K2 : Keep h0 h2 [] := (Keep.refl h0 []).ext E2
 have V2 := (own_il_new (m := 0) A2 hf0).ia
 have f3_o0_ := (A_o0_.ext E2)
 obtain ⟨c4, A4, S4, M4⟩ := own_ia_cell f3_o0_
 obtain ⟨T5, h5, k5, X5, e5, E5, A5, B5, st5⟩ := newPE X2 hx hZ (oW hw 85 rfl) e2 (g := (mkF m 7 #[oA o0_, oA o1_, oA b2, .unset, .unset, .unset, .unset, .unset] [(.int n_o0_)])) rfl (oG hby d38 6 rfl) rfl hf2 (cap := 16) hf3 (by decide) (show cells + 1 + 1 ≤ rc from by omega) (show slots + 16 + 16 ≤ rs from by omega) (ad := "[I") rfl
 obtain ⟨b5, g5⟩ : ∃ z, z = h2.size := ⟨_, rfl⟩
 rw [← g5] at A5 B5 st5
 have lo_b5 : h2.size ≤ b5 := Nat.le_of_eq g5.symm
 have ne_o0__b5 : o0_ ≠ b5 := oV f3_o0_.lt lo_b5
 have f6_o1_ := (A_o1_.ext E2)
 have ne_o1__b5 : o1_ ≠ b5 := oV f6_o1_.lt lo_b5
 have ne_b2_b5 : b2 ≠ b5 := oV B2.lt lo_b5
 have sz_b5 : h0.size ≤ b5 := Nat.le_trans K2.1 lo_b5
 have g_b5 : n0 ≤ b5 := Nat.le_trans Z0 sz_b5
 have K5 : Keep h0 h5 [] := K2.ext E5
 have V5 := (own_il_new (m := 0) A5 hf2).ia
 have f7_b2 := (B2.ext E5)
 have f8_b2 := (V2.ext E5)
 subst e5
 refine ⟨b2, b5, T5, _, own_same X5 (by omega) (by omega), N0, K5, sz_b2, sz_b5, ne_b2_b5, f7_b2, f8_b2, B5, V5, fun target kt => ?_⟩
 show oZ p e below T0 (mkF m 0 #[oA o0_, oA o1_, .unset, .unset, .unset, .unset, .unset, .unset] []) _
 refine XS.aloadN X0.here hx rfl (oG hby d38 0 rfl) rfl rfl ?_
 refine X0.arraylength hx (by rw [e0]; exact A1.1) (State.isArrayOf_alike hZ.alike A1.2.1) (g := (mkF m 1 #[oA o0_, oA o1_, .unset, .unset, .unset, .unset, .unset, .unset] [(.ref o1_)])) rfl rfl (oG hby d38 1 rfl) _ ?_
 rw [len_of S1 M1]
 refine st2 _ ?_
 refine XS.astoreN X2.here hx rfl (oG hby d38 3 rfl) rfl rfl (l' := #[oA o0_, oA o1_, oA b2, .unset, .unset, .unset, .unset, .unset]) rfl ?_
 refine XS.aloadN X2.here hx rfl (oG hby d38 4 rfl) rfl rfl ?_
 refine X2.arraylength hx (by rw [e2]; exact A4.1) (State.isArrayOf_alike hZ.alike A4.2.1) (g := (mkF m 6 #[oA o0_, oA o1_, oA b2, .unset, .unset, .unset, .unset, .unset] [(.ref o0_)])) rfl rfl (oG hby d38 5 rfl) _ ?_
 rw [len_of S4 M4]
 refine st5 _ ?_
 refine XS.astoreN X5.here hx rfl (oG hby d38 7 rfl) rfl rfl (l' := #[oA o0_, oA o1_, oA b2, oA b5, .unset, .unset, .unset, .unset]) rfl ?_
 refine XS.iconst X5.here hx rfl (oG hby d38 8 rfl) ?_
 refine XS.istore X5.here hx rfl (oG hby d38 9 rfl) rfl (l' := #[oA o0_, oA o1_, oA b2, oA b5, oI 0, .unset, .unset, .unset]) rfl ?_
 refine XS.iconst X5.here hx rfl (oG hby d38 10 rfl) ?_
 show oZ p e below T5 (mkF m 14 #[oA o0_, oA o1_, oA b2, oA b5, oI 0, .unset, .unset, .unset] [(.int 0)]) _
 refine XS.istore X5.here hx rfl (oG hby d38 11 rfl) rfl (l' := #[oA o0_, oA o1_, oA b2, oA b5, oI 0, oI 0, .unset, .unset]) rfl ?_
 refine XS.iconst X5.here hx rfl (oG hby d38 12 rfl) ?_
 refine XS.istore X5.here hx rfl (oG hby d38 13 rfl) rfl (l' := #[oA o0_, oA o1_, oA b2, oA b5, oI 0, oI 0, oI 0, .unset]) rfl ?_
 refine XS.iconst X5.here hx rfl (oG hby d38 14 rfl) ?_
 refine XS.istore X5.here hx rfl (oG hby d38 15 rfl) rfl (l' := #[oA o0_, oA o1_, oA b2, oA b5, oI 0, oI 0, oI 0, oI 0]) rfl ?_
 exact kt
def Qown_b41_x (Z : State) (a0_ : Addr) (a1_ : Addr) (a2_ : Addr) (u_added_a0_ : Value) (u_removed_a0_ : Value) (h0 : Heap) (n0 : Nat) (v : Option Value) (h : Heap) (L : List Loc) : Prop := v = none ∧ Fr n0 L ∧ Keep h0 h [a0_] ∧ Exa Z h a0_ oC4 ∧ Fld Z h a0_ oC4 "added" "[I" (.ref a1_) ∧ Fld Z h a0_ oC4 "removed" "[I" (.ref a2_)
theorem own_b41_x (l : Launch) (Z : State) (a0 : Array Value) (hw : oH a0 Z) (ws : List Jvm.Cond) (a0_ : Addr) (a1_ : Addr) (a2_ : Addr) (u_added_a0_ : Value) (u_removed_a0_ : Value) (h0 : Heap) (n0 : Nat) (Z0 : n0 ≤ h0.size) (E_a0_ : Exa Z h0 a0_ oC4) (F_added_a0_ : Fld Z h0 a0_ oC4 "added" "[I" u_added_a0_) (g_a0_ : n0 ≤ a0_) (F_removed_a0_ : Fld Z h0 a0_ oC4 "removed" "[I" u_removed_a0_) :
   oMet l oM29 prog_28_method_1_code 3 none ws (oR 1 0 0 12) Z h0 #[(.ref a0_), (.ref a1_), (.ref a2_)] (Qown_b41_x Z a0_ a1_ a2_ u_added_a0_ u_removed_a0_ h0 n0) := by
 refine oBd n0 (plainFor_of_name own_pn7) ?_
 intro p e s m below meth c s₁ Bd hx hZ hby hml hown hnm X0 e0 N0
 obtain ⟨T1, X1, e1, st1⟩ := initO X0 hx hZ hown (oW hw 239 rfl) (oW hw 12 rfl) (oW hw 13 rfl) e0 (g := (mkF m 1 #[oA a0_, oA a1_, oA a2_] [(.ref a0_)])) rfl (by rw [hml]; rfl) rfl (oG hby d41 1 rfl) (by decide) (W := 0) (by show 2 * 0 + _ ≤ _; exact Nat.le_of_eq rfl) (by decide)
 obtain ⟨T2, h2, X2, e2, W2, st2⟩ := putF X1 hx hZ hown (host := "") (Or.inl (oW hw 240 rfl)) Via.refl e1 F_added_a0_ E_a0_ (Or.inr ⟨(oW hw 241 rfl), rfl, hnm⟩) (oW hw 222 rfl) (ty := (.array .int)) (by decide) rfl rfl (g := (mkF m 6 #[oA a0_, oA a1_, oA a2_] [(.ref a1_), (.ref a0_)])) rfl rfl (oG hby d41 4 rfl)
 have Fw2 := F_added_a0_.same W2
 have K2 : Keep h0 h2 [a0_] := (Keep.refl h0 [a0_]).wr W2 (Or.inl (oX 0 rfl))
 have N2 := Fr.snoc X2 N0 g_a0_
 have f3_a0_ := (E_a0_.wr W2)
 have f4_a0__removed := (F_removed_a0_.other W2 (oN (Or.inr (oW hw 243 rfl)) (Or.inr (oW hw 241 rfl)) (t := (.array .int)) (t' := (.array .int))))
 obtain ⟨T5, h5, X5, e5, W5, st5⟩ := putF X2 hx hZ hown (host := "") (Or.inl (oW hw 242 rfl)) Via.refl e2 f4_a0__removed f3_a0_ (Or.inr ⟨(oW hw 243 rfl), rfl, hnm⟩) (oW hw 222 rfl) (ty := (.array .int)) (by decide) rfl rfl (g := (mkF m 11 #[oA a0_, oA a1_, oA a2_] [(.ref a2_), (.ref a0_)])) rfl rfl (oG hby d41 7 rfl)
 have Fw5 := f4_a0__removed.same W5
 have K5 : Keep h0 h5 [a0_] := K2.wr W5 (Or.inl (oX 0 rfl))
 have N5 := Fr.snoc X5 N2 g_a0_
 have f6_a0_ := (f3_a0_.wr W5)
 have f7_a0__added := (Fw2.other W5 (oN (Or.inr (oW hw 241 rfl)) (Or.inr (oW hw 243 rfl)) (t := (.array .int)) (t' := (.array .int))))
 obtain ⟨fs, hr, hrun, hended, hW, hsame⟩ := X5.leave (v := none) (fun _ => rfl)
 refine ⟨_, _, castTop (own_ef32 m a0_ a1_ a2_) ?_, hrun, hended, _, _, rfl, ?_, ⟨_, rfl⟩, hW, (hsame.mono (by decide) (by decide))⟩
 · show oZ p e below s₁ (mkF m 0 #[oA a0_, oA a1_, oA a2_] []) _
   refine XS.aloadN X0.here hx rfl (oG hby d41 0 rfl) rfl rfl ?_
   refine st1 _ ?_
   refine XS.aloadN X1.here hx rfl (oG hby d41 2 rfl) rfl rfl ?_
   refine XS.aloadN X1.here hx rfl (oG hby d41 3 rfl) rfl rfl ?_
   refine st2 _ ?_
   refine XS.aloadN X2.here hx rfl (oG hby d41 5 rfl) rfl rfl ?_
   refine XS.aloadN X2.here hx rfl (oG hby d41 6 rfl) rfl rfl ?_
   refine st5 _ ?_
   show oZ p e below T5 (mkF m 14 #[oA a0_, oA a1_, oA a2_] []) _
   exact X5.returnOut hx Bd.returns (oG hby d41 8 rfl) hr
 · show Qown_b41_x Z a0_ a1_ a2_ u_added_a0_ u_removed_a0_ h0 n0 _ T5.heap _
   rw [e5]
   exact ⟨rfl, N5, K5, f6_a0_, f7_a0__added, Fw5⟩
theorem own_bt_T (rc : Nat) (rs : Nat) (o0_ : Addr) (o1_ : Addr) (o2_ : Addr) (o3_ : Addr) (i4_ : Int32) (i5_ : Int32) (i6_ : Int32) (i7_ : Int32) (cnt0_ : Nat) (nn0_ : Nat) (w_NONE : Addr) (n_w_NONE : Int32) (n_o2_ : Int32) (cnt1_ : Nat) (nn1_ : Nat) (n_o3_ : Int32)
   (X0 : Stand p l e (oR 4 rc rs 150) s m args below meth c T0 locs cells slots) (hx : p.tables.exec = Jvm.exec) (hZ : Z.Warmed39 s.vm) (hw : oH a0 Z) (hby : c.code = prog_28_method_2_code) (hml : c.maxLocals = 8) (hown : s.vm.findClass oC4 = some m.cls) (e0 : T0.heap = h0) (N0 : Fr n0 locs) (Z0 : n0 ≤ h0.size) (S_NONE : Sta Z h0 oC4 "NONE" "[I" (.ref w_NONE)) (A_w_NONE : own_ia Z h0 w_NONE n_w_NONE) (A_o2_ : own_ia Z h0 o2_ n_o2_) (E_o2_ : Exa Z h0 o2_ "[I") (A_o3_ : own_ia Z h0 o3_ n_o3_) (E_o3_ : Exa Z h0 o3_ "[I") (hf0 : n_o2_ = Int32.ofNat nn0_) (hf1 : i4_ = Int32.ofNat cnt0_) (hf2 : cnt0_ ≤ nn0_) (hf3 : nn0_ ≤ 16) (hf4 : n_o3_ = Int32.ofNat nn1_) (hf5 : i5_ = Int32.ofNat cnt1_) (hf6 : cnt1_ ≤ nn1_) (hf7 : nn1_ ≤ 16) (hc : cells + (1 + 1 + 1) ≤ rc) (hs : slots + (2 + 16 + 16) ≤ rs) :
   ∃ (b1 : Addr) (r2_r : Addr) (r7_r : Addr) (v2_y : Int32) (v7_y : Int32) (T' : State) (locs' : List Loc), Stand p l e (oR 4 rc rs 150) s m args below meth c T' locs' (cells + 1 + 1 + 1) (slots + 2 + 16 + 16) ∧ Fr n0 locs' ∧ Keep h0 T'.heap [] ∧ h0.size ≤ b1 ∧ Exa Z T'.heap b1 oC4 ∧ Fld Z T'.heap b1 oC4 "added" "[I" (.ref r2_r) ∧ Fld Z T'.heap b1 oC4 "removed" "[I" (.ref r7_r) ∧ own_ia Z T'.heap r2_r v2_y ∧ own_ia Z T'.heap r7_r v7_y ∧
     ∀ target, Steps p.tables e below (T'.setTop (mkF m 141 #[oA o0_, oA o1_, oA o2_, oA o3_, oI i4_, oI i5_, oI i6_, oI i7_] [(.ref b1)])) target → Steps p.tables e below (T0.setTop (mkF m 122 #[oA o0_, oA o1_, oA o2_, oA o3_, oI i4_, oI i5_, oI i6_, oI i7_] [])) target := by
 obtain ⟨T1, h1, X1, e1, E1, A1, D1, -, st1⟩ := newO X0 hx hZ hown (oW hw 221 rfl) (oW hw 222 rfl) (oW hw 219 rfl) e0 (g := (mkF m 122 #[oA o0_, oA o1_, oA o2_, oA o3_, oI i4_, oI i5_, oI i6_, oI i7_] [])) rfl (oG hby d38 71 rfl) (show cells + 1 ≤ rc from by omega) (show slots + 2 ≤ rs from by omega)
 obtain ⟨b1, g1⟩ : ∃ z, z = h0.size := ⟨_, rfl⟩
 rw [← g1] at A1 D1 st1
 have lo_b1 : h0.size ≤ b1 := Nat.le_of_eq g1.symm
 have sz_b1 : h0.size ≤ b1 := Nat.le_trans (Keep.refl h0 []).1 lo_b1
 have g_b1 : n0 ≤ b1 := Nat.le_trans Z0 sz_b1
 have K1 : Keep h0 h1 [] := (Keep.refl h0 []).ext E1
 have F1_added : Fld Z h1 b1 oC4 "added" "[I" .null := D1 (Or.inr (oW hw 241 rfl)) (ty := (.array .int)) (by decide)
 have F1_removed : Fld Z h1 b1 oC4 "removed" "[I" .null := D1 (Or.inr (oW hw 243 rfl)) (ty := (.array .int)) (by decide)
 have f3_com_example_narrows_narr := (S_NONE.ext E1)
 have f4_w_NONE := (A_w_NONE.ext E1)
 have f5_o2_ := (A_o2_.ext E1)
 have f6_o2_ := (E_o2_.ext E1)
 obtain ⟨_, _, ⟨T2, L2, k2, n2⟩, -, X2, ⟨Lc2, hQ2, l2, y2, z2⟩, st2⟩ := Jvm.LawKit.callS X1 hx (y := oM9) hown (mvT hZ (oW hw 223 rfl)) (mvT hZ (oW hw 224 rfl)) (mvT hZ (oW hw 219 rfl)) (mvT hZ (oW hw 225 rfl)) (by decide) (backOf (W := 2) (own_tmC l Z a0 hw [] o2_ i4_ w_NONE n_o2_ n_w_NONE cnt0_ nn0_ h1 n0 (Nat.le_trans Z0 K1.1) f3_com_example_narrows_narr f4_w_NONE f5_o2_ f6_o2_ hf0 hf1 hf2 hf3) hZ (oW hw 225 rfl) (oW hw 219 rfl) (Nat.le_of_ble_eq_true rfl) (Nat.le_of_ble_eq_true rfl)) (g := (mkF m 129 #[oA o0_, oA o1_, oA o2_, oA o3_, oI i4_, oI i5_, oI i6_, oI i7_] [(.int i4_), (.ref o2_), (.ref b1), (.ref b1)])) rfl (by rw [hml]; rfl) (argsL := [(.ref o2_), (.int i4_)]) (rest := [(.ref b1), (.ref b1)]) (lenOf own_pd17 rfl) rfl (by show 2 * 0 + _ ≤ _; exact Nat.le_of_eq rfl) (oG hby d38 75 rfl) (fun _ _ => ⟨rfl, e1, (show cells + 1 + 1 ≤ rc from by omega), (show slots + 2 + 16 ≤ rs from by omega)⟩)
 dsimp only [Pt.U, Pt.locs, Pt.cells, Pt.slots] at X2 l2 y2 z2 st2 hQ2
 subst l2; rw [y2, z2] at X2
 obtain ⟨r2_r, v2_y, rfl, N2q, Kq2, Q2_0, Q2_1⟩ := hQ2
 have N2 := Fr.app N0 N2q
 have ne_b1_r2_r : b1 ≠ r2_r := Ne.symm (Q2_1 b1 A1.lt (Ne.symm (oV A_w_NONE.lt sz_b1)))
 have K2 : Keep h0 T2.heap [] := K1.trans Kq2 own_a0
 have f8_com_example_narrows_narr := (own_sta_k f3_com_example_narrows_narr Kq2 (own_a0 ))
 have f9_w_NONE := (f4_w_NONE.keep Kq2 (own_n0 _))
 have f10_o3_ := ((A_o3_.ext E1).keep Kq2 (own_n0 _))
 have f11_o3_ := ((E_o3_.ext E1).keep Kq2)
 obtain ⟨_, _, ⟨T7, L7, k7, n7⟩, -, X7, ⟨Lc7, hQ7, l7, y7, z7⟩, st7⟩ := Jvm.LawKit.callS X2 hx (y := oM9) hown (mvT hZ (oW hw 223 rfl)) (mvT hZ (oW hw 224 rfl)) (mvT hZ (oW hw 219 rfl)) (mvT hZ (oW hw 225 rfl)) (by decide) (backOf (W := 3) (own_tmC l Z a0 hw [] o3_ i5_ w_NONE n_o3_ n_w_NONE cnt1_ nn1_ T2.heap n0 (Nat.le_trans Z0 K2.1) f8_com_example_narrows_narr f9_w_NONE f10_o3_ f11_o3_ hf4 hf5 hf6 hf7) hZ (oW hw 225 rfl) (oW hw 219 rfl) (Nat.le_of_ble_eq_true rfl) (Nat.le_of_ble_eq_true rfl)) (g := (mkF m 135 #[oA o0_, oA o1_, oA o2_, oA o3_, oI i4_, oI i5_, oI i6_, oI i7_] [(.int i5_), (.ref o3_), (.ref r2_r), (.ref b1), (.ref b1)])) rfl (by rw [hml]; rfl) (argsL := [(.ref o3_), (.int i5_)]) (rest := [(.ref r2_r), (.ref b1), (.ref b1)]) (lenOf own_pd17 rfl) rfl (by show 2 * 0 + _ ≤ _; exact Nat.le_of_eq rfl) (oG hby d38 78 rfl) (fun _ _ => ⟨rfl, rfl, (show cells + 1 + 1 + 1 ≤ rc from by omega), (show slots + 2 + 16 + 16 ≤ rs from by omega)⟩)
 dsimp only [Pt.U, Pt.locs, Pt.cells, Pt.slots] at X7 l7 y7 z7 st7 hQ7
 subst l7; rw [y7, z7] at X7
 obtain ⟨r7_r, v7_y, rfl, N7q, Kq7, Q7_0, Q7_1⟩ := hQ7
 have N7 := Fr.app N2 N7q
 have f12_b1 := (A1.keep Kq2)
 have ne_b1_r7_r : b1 ≠ r7_r := Ne.symm (Q7_1 b1 f12_b1.lt (Ne.symm (oV A_w_NONE.lt sz_b1)))
 have K7 : Keep h0 T7.heap [] := K2.trans Kq7 own_a0
 have f14_b1 := (f12_b1.keep Kq7)
 have f15_b1_added := ((F1_added.keep Kq2 (own_n0 _)).keep Kq7 (own_n0 _))
 have f16_b1_removed := ((F1_removed.keep Kq2 (own_n0 _)).keep Kq7 (own_n0 _))
 obtain ⟨_, _, ⟨T13, L13, k13, n13⟩, -, X13, ⟨Lc13, hQ13, l13, y13, z13⟩, st13⟩ := X7.specialBack hx (y := oM29) rfl hown (mvT hZ (oW hw 236 rfl)) (mvT hZ (oW hw 237 rfl)) (mvT hZ (oW hw 238 rfl)) (by decide) (backOf (W := 1) (own_b41_x l Z a0 hw [] b1 r2_r r7_r .null .null T7.heap n0 (Nat.le_trans Z0 K7.1) f14_b1 f15_b1_added g_b1 f16_b1_removed) hZ (oW hw 238 rfl) (oW hw 219 rfl) (Nat.le_of_ble_eq_true rfl) (Nat.le_of_ble_eq_true rfl)) (g := (mkF m 138 #[oA o0_, oA o1_, oA o2_, oA o3_, oI i4_, oI i5_, oI i6_, oI i7_] [(.ref r7_r), (.ref r2_r), (.ref b1), (.ref b1)])) rfl (by rw [hml]; rfl) (Steps.refl _) (a := b1) (argsL := [(.ref r2_r), (.ref r7_r)]) (rest := [(.ref b1)]) (lenOf own_pd18 rfl) rfl (by show 2 * 0 + _ ≤ _; exact Nat.le_of_eq rfl) (oG hby d38 79 rfl) (fun _ _ => ⟨rfl, rfl, (show cells + 1 + 1 + 1 + 0 ≤ rc from by omega), (show slots + 2 + 16 + 16 + 0 ≤ rs from by omega)⟩)
 dsimp only [Pt.U, Pt.locs, Pt.cells, Pt.slots] at X13 l13 y13 z13 st13 hQ13
 subst l13; rw [y13, z13] at X13
 obtain ⟨rfl, N13q, Kq13, Q13_0, Q13_1, Q13_2⟩ := hQ13
 have N13 := Fr.app N7 N13q
 have K13 : Keep h0 T13.heap [] := K7.trans Kq13 (own_a1 (Or.inr sz_b1))
 have f17_r2_r := ((Q2_0.keep Kq7 (own_n0 _)).keep Kq13 (own_n1 (Ne.symm ne_b1_r2_r)))
 have f18_r7_r := (Q7_0.keep Kq13 (own_n1 (Ne.symm ne_b1_r7_r)))
 refine ⟨b1, r2_r, r7_r, v2_y, v7_y, T13, _, own_same X13 (by omega) (by omega), N13, K13, sz_b1, Q13_0, Q13_1, Q13_2, f17_r2_r, f18_r7_r, fun target kt => ?_⟩
 show oZ p e below T0 (mkF m 122 #[oA o0_, oA o1_, oA o2_, oA o3_, oI i4_, oI i5_, oI i6_, oI i7_] []) _
 refine st1 _ ?_
 refine XS.dup X1.here hx rfl (oG hby d38 72 rfl) rfl rfl ?_
 refine XS.aloadN X1.here hx rfl (oG hby d38 73 rfl) rfl rfl ?_
 refine XS.iload X1.here hx rfl (oG hby d38 74 rfl) rfl ?_
 refine st2 _ ?_
 refine XS.aloadN X2.here hx rfl (oG hby d38 76 rfl) rfl rfl ?_
 refine XS.iload X2.here hx rfl (oG hby d38 77 rfl) rfl ?_
 refine st7 _ ?_
 refine st13.trans ?_
 exact kt
section OwnBetween
def own_QX (Z : State) (h0 : Heap) (n0 : Nat) (v : Option Value) (h : Heap) (L : List Loc) : Prop := ∃ (r rr : Addr) (y : Int32), v = some (.ref r) ∧ Fr n0 L ∧ Keep h0 h [] ∧ h0.size ≤ r ∧ Exa Z h r oC4 ∧ Fld Z h r oC4 "removed" "[I" (.ref rr) ∧ own_ia Z h rr y
theorem own_btC (l : Launch) (Z : State) (a0 : Array Value) (hw : oH a0 Z) (ws : List Jvm.Cond) (o0 o1 : Addr) (w : Addr) (n1 n2 n3 : Int32) (h0 : Heap) (n0 : Nat) (Z0 : n0 ≤ h0.size)
   (SN : Sta Z h0 oC4 "NONE" "[I" (.ref w)) (AN : own_ia Z h0 w n3) (A0 : own_ia Z h0 o0 n1) (A1 : own_ia Z h0 o1 n2) (c1 : n1.toNatClampNeg ≤ 16) (c2 : n2.toNatClampNeg ≤ 16) :
   oMet l oM19 prog_28_method_2_code 8 (some (.object oC4)) ws (oR 4 5 (4 * 16 + 2) 150) Z h0 #[(.ref o0), (.ref o1)] (own_QX Z h0 n0) := by
 obtain ⟨-, -, -, p1, -⟩ := id A0
 obtain ⟨-, -, -, p2, -⟩ := id A1
 obtain ⟨nb, hnb⟩ : ∃ k, k = n1.toNatClampNeg := ⟨_, rfl⟩
 obtain ⟨na, hna⟩ : ∃ k, k = n2.toNatClampNeg := ⟨_, rfl⟩
 have e1 : n1 = Int32.ofNat nb := by rw [hnb]; exact own_nat_of p1
 have e2 : n2 = Int32.ofNat na := by rw [hna]; exact own_nat_of p2
 rw [← hnb] at c1
 rw [← hna] at c2
 refine oBd n0 (plainFor_of_name own_pn7) ?_
 intro p e s m below meth c s₁ Bd hx hZ hby hml hown hnm X0 e0 N0
 obtain ⟨ad, rm, T1, L1, X1, N1, K1, g1, g2, m1, E1, B1, E2, B2, st1⟩ := own_bt_H (o0_ := o0) (o1_ := o1) (n_o1_ := n2) (n_o0_ := n1) 5 (4 * 16 + 2) X0 hx hZ hw hby hml hown e0 N0 Z0 A1 A0 p2 (by rw [← hna]; exact c2) p1 (by rw [← hnb]; exact c1) (by omega) (by omega)
 have x1 := own_ext K1
 rw [e1] at A0 B2
 rw [e2] at A1 B1
 obtain ⟨vs0, V0⟩ := (A0.ext x1).il
 obtain ⟨vs1, V1⟩ := (A1.ext x1).il
 have ol : ∀ x, x < h0.size → x ≠ ad ∧ x ≠ rm := fun x hx => ⟨Nat.ne_of_lt (Nat.lt_of_lt_of_le hx g1), Nat.ne_of_lt (Nat.lt_of_lt_of_le hx g2)⟩
 obtain ⟨T2, L2, u, v, X2, N2, K2, D2, D3, r1, r2, st2⟩ := own_merge (rc := 5) (rs := 4 * 16 + 2) hx hZ hw hby hml hown (by omega) (by omega) (Nat.le_trans Z0 g1) (Nat.le_trans Z0 g2) (ol _ A0.lt).1 (ol _ A0.lt).2 (ol _ A1.lt).1 (ol _ A1.lt).2 m1 (by omega) (by omega) _ 0 0 0 0 T1 L1 (Nat.le_refl _) (by omega) (by omega) (by omega) (by omega) X1 N1 (Nat.le_trans Z0 K1.1) V0 V1 B1 B2
 have SN2 := own_sta_k (SN.ext x1) K2 (own_a2 (own_ns_ia B1) (own_ns_ia B2))
 have AN2 := (AN.ext x1).keep K2 (own_n2 (ol _ AN.lt).1 (ol _ AN.lt).2)
 obtain ⟨b, ra, rr, ya, yr, T3, L3, X3, N3, K3, g3, E3, F3, F4, Q1, Q2, st3⟩ := own_bt_T (o0_ := o0) (o1_ := o1) (o2_ := ad) (o3_ := rm) (i4_ := Int32.ofNat u) (i5_ := Int32.ofNat v) (i6_ := Int32.ofNat nb) (i7_ := Int32.ofNat na) (cnt0_ := u) (nn0_ := na) (w_NONE := w) (n_w_NONE := n3) (n_o2_ := Int32.ofNat na) (cnt1_ := v) (nn1_ := nb) (n_o3_ := Int32.ofNat nb) 5 (4 * 16 + 2) X2 hx hZ hw hby hml hown rfl N2 (Nat.le_trans (Nat.le_trans Z0 K1.1) K2.1) SN2 AN2 D2 (E1.keep K2) D3 (E2.keep K2) rfl rfl r1 c2 rfl rfl r2 c1 (by omega) (by omega)
 obtain ⟨fs, hr, hrun, hended, hW, hsame⟩ := X3.leave (v := some (.ref b)) (fun h => by rw [Bd.returns] at h; cases h)
 refine ⟨_, _, castTop (own_ef33 m o0 o1) (st1 _ (st2 _ (st3 _ ?_))), hrun, hended, _, _, rfl, ⟨b, rr, yr, rfl, N3, ?_, Nat.le_trans K1.1 (Nat.le_trans K2.1 g3), E3, F4, Q2⟩, ⟨_, rfl⟩, hW, hsame.mono (by decide) (by decide)⟩
 · jvm_step X3.here [X3.here.top, hx, (oG hby d38 80 rfl), X3.method', Bd.returns, Value.isRef, FieldType.isReference]
   first | (intro acts; rw [hr _ acts rfl rfl rfl]) | rw [hr _ _ rfl rfl rfl]
   exact Steps.refl _
 · show Keep h0 T3.heap []
   exact (K1.trans K2 (own_a2 (Or.inr g1) (Or.inr g2))).trans K3 own_a0
end OwnBetween

theorem own_b1_f (l : Launch) (Z : State) (a0 : Array Value) (hw : oH a0 Z) (ws : List Jvm.Cond) (p0_ : Int32) (p1_ : Int32) (h0 : Heap) (n0 : Nat) (Z0 : n0 ≤ h0.size) (hf0 : ¬ (p0_ < p1_)) :
   oMet l oM12 jdk_29_method_65_code 2 (some .int) ws (oR 0 0 0 0) Z h0 #[(.int p0_), (.int p1_)] (own_QP (some (.int p0_)) h0 n0) := by
 refine oBd n0 (Jvm.Free.JP.mathPlain rfl (by decide +kernel)) ?_
 intro p e s m below meth c s₁ Bd hx hZ hby hml hown hnm X0 e0 N0
 obtain ⟨fs, hr, hrun, hended, hW, hsame⟩ := X0.leave (v := some (.int p0_)) (fun h => by rw [Bd.returns] at h; cases h)
 refine ⟨_, _, castTop (own_ef34 m p0_ p1_) ?_, hrun, hended, _, _, rfl, ?_, ⟨_, rfl⟩, hW, (hsame.mono (by decide) (by decide))⟩
 · show oZ p e below s₁ (mkF m 0 #[oI p0_, oI p1_] []) _
   refine XS.iloadN X0.here hx rfl (oG hby d1 0 rfl) rfl ?_
   refine XS.iloadN X0.here hx rfl (oG hby d1 1 rfl) rfl ?_
   refine XS.icmpNo X0.here hx rfl (oG hby d1 2 rfl) rfl (flt hf0).1 ?_
   refine XS.iloadN X0.here hx rfl (oG hby d1 3 rfl) rfl ?_
   refine XS.goto X0.here hx rfl (pc0 := 6) (pc' := 10) rfl (oG hby d1 4 rfl) (by decide) (by decide) ?_
   show oZ p e below s₁ (mkF m 10 #[oI p0_, oI p1_] [(.int p0_)]) _
   exact retI X0 hx Bd.returns (oG hby d1 6 rfl) hr
 · show own_QP (some (.int p0_)) h0 n0 _ s₁.heap _
   exact ⟨rfl, N0, e0⟩
theorem own_b1_t (l : Launch) (Z : State) (a0 : Array Value) (hw : oH a0 Z) (ws : List Jvm.Cond) (p0_ : Int32) (p1_ : Int32) (h0 : Heap) (n0 : Nat) (Z0 : n0 ≤ h0.size) (hf0 : p0_ < p1_) :
   oMet l oM12 jdk_29_method_65_code 2 (some .int) ws (oR 0 0 0 0) Z h0 #[(.int p0_), (.int p1_)] (own_QP (some (.int p1_)) h0 n0) := by
 refine oBd n0 (Jvm.Free.JP.mathPlain rfl (by decide +kernel)) ?_
 intro p e s m below meth c s₁ Bd hx hZ hby hml hown hnm X0 e0 N0
 obtain ⟨fs, hr, hrun, hended, hW, hsame⟩ := X0.leave (v := some (.int p1_)) (fun h => by rw [Bd.returns] at h; cases h)
 refine ⟨_, _, castTop (own_ef34 m p0_ p1_) ?_, hrun, hended, _, _, rfl, ?_, ⟨_, rfl⟩, hW, (hsame.mono (by decide) (by decide))⟩
 · show oZ p e below s₁ (mkF m 0 #[oI p0_, oI p1_] []) _
   refine XS.iloadN X0.here hx rfl (oG hby d1 0 rfl) rfl ?_
   refine XS.iloadN X0.here hx rfl (oG hby d1 1 rfl) rfl ?_
   refine XS.icmpYes X0.here hx rfl (pc0 := 2) (pc' := 9) rfl (oG hby d1 2 rfl) rfl (tlt hf0).1 (by decide) (by decide) ?_
   refine XS.iloadN X0.here hx rfl (oG hby d1 5 rfl) rfl ?_
   show oZ p e below s₁ (mkF m 10 #[oI p0_, oI p1_] [(.int p1_)]) _
   exact retI X0 hx Bd.returns (oG hby d1 6 rfl) hr
 · show own_QP (some (.int p1_)) h0 n0 _ s₁.heap _
   exact ⟨rfl, N0, e0⟩
theorem own_b7_f (l : Launch) (Z : State) (a0 : Array Value) (hw : oH a0 Z) (ws : List Jvm.Cond) (p0_ : Int32) (p1_ : Int32) (h0 : Heap) (n0 : Nat) (Z0 : n0 ≤ h0.size) (hf0 : ¬ (p1_ < p0_)) :
   oMet l oM18 jdk_29_method_69_code 2 (some .int) ws (oR 0 0 0 0) Z h0 #[(.int p0_), (.int p1_)] (own_QP (some (.int p0_)) h0 n0) := by
 refine oBd n0 (Jvm.Free.JP.mathPlain rfl (by decide +kernel)) ?_
 intro p e s m below meth c s₁ Bd hx hZ hby hml hown hnm X0 e0 N0
 obtain ⟨fs, hr, hrun, hended, hW, hsame⟩ := X0.leave (v := some (.int p0_)) (fun h => by rw [Bd.returns] at h; cases h)
 refine ⟨_, _, castTop (own_ef30 m p0_ p1_) ?_, hrun, hended, _, _, rfl, ?_, ⟨_, rfl⟩, hW, (hsame.mono (by decide) (by decide))⟩
 · show oZ p e below s₁ (mkF m 0 #[oI p0_, oI p1_] []) _
   refine XS.iloadN X0.here hx rfl (oG hby d7 0 rfl) rfl ?_
   refine XS.iloadN X0.here hx rfl (oG hby d7 1 rfl) rfl ?_
   refine XS.icmpNo X0.here hx rfl (oG hby d7 2 rfl) rfl (flt hf0).2.2.1 ?_
   refine XS.iloadN X0.here hx rfl (oG hby d7 3 rfl) rfl ?_
   refine XS.goto X0.here hx rfl (pc0 := 6) (pc' := 10) rfl (oG hby d7 4 rfl) (by decide) (by decide) ?_
   show oZ p e below s₁ (mkF m 10 #[oI p0_, oI p1_] [(.int p0_)]) _
   exact retI X0 hx Bd.returns (oG hby d7 6 rfl) hr
 · show own_QP (some (.int p0_)) h0 n0 _ s₁.heap _
   exact ⟨rfl, N0, e0⟩
theorem own_b6_ff (l : Launch) (Z : State) (a0 : Array Value) (hw : oH a0 Z) (ws : List Jvm.Cond) (p0_ : Int32) (h0 : Heap) (n0 : Nat) (Z0 : n0 ≤ h0.size) (hf0 : ¬ ((0 : Int32) < p0_)) (hf1 : p0_ = (0 : Int32)) :
   oMet l oM16 jdk_33_method_47_code 2 (some .int) ws (oR 0 0 0 0) Z h0 #[(.int p0_)] (own_QP (some (.int 32)) h0 n0) := by
 refine oBd n0 (plainFor_of_name own_pn5) ?_
 intro p e s m below meth c s₁ Bd hx hZ hby hml hown hnm X0 e0 N0
 obtain ⟨fs, hr, hrun, hended, hW, hsame⟩ := X0.leave (v := some (.int 32)) (fun h => by rw [Bd.returns] at h; cases h)
 refine ⟨_, _, castTop (own_ef35 m p0_) ?_, hrun, hended, _, _, rfl, ?_, ⟨_, rfl⟩, hW, (hsame.mono (by decide) (by decide))⟩
 · show oZ p e below s₁ (mkF m 0 #[oI p0_, .unset] []) _
   refine XS.iloadN X0.here hx rfl (oG hby d6 0 rfl) rfl ?_
   refine XS.ifNo X0.here hx rfl (oG hby d6 1 rfl) rfl ((if0 _ _).trans (flt hf0).2.2.1) ?_
   refine XS.iloadN X0.here hx rfl (oG hby d6 2 rfl) rfl ?_
   refine XS.ifNo X0.here hx rfl (oG hby d6 3 rfl) rfl ((if0 _ _).trans (teq hf1).2) ?_
   refine XS.bipush X0.here hx rfl (oG hby d6 4 rfl) ?_
   refine XS.goto X0.here hx rfl (pc0 := 10) (pc' := 14) rfl (oG hby d6 5 rfl) (by decide) (by decide) ?_
   show oZ p e below s₁ (mkF m 14 #[oI p0_, .unset] [(.int 32)]) _
   exact retI X0 hx Bd.returns (oG hby d6 6 rfl) hr
 · show own_QP (some (.int 32)) h0 n0 _ s₁.heap _
   exact ⟨rfl, N0, e0⟩
theorem own_b6_ttttt (l : Launch) (Z : State) (a0 : Array Value) (hw : oH a0 Z) (ws : List Jvm.Cond) (p0_ : Int32) (h0 : Heap) (n0 : Nat) (Z0 : n0 ≤ h0.size) (hf0 : (0 : Int32) < p0_) (hf1 : p0_ < (65536 : Int32)) (hf2 : p0_ < (256 : Int32)) (hf3 : p0_ < (16 : Int32)) (hf4 : p0_ < (4 : Int32)) :
   oMet l oM16 jdk_33_method_47_code 2 (some .int) ws (oR 0 0 0 0) Z h0 #[(.int p0_)] (own_QP (some (.int ((31 : Int32) - (own_us p0_ (1 : Int32))))) h0 n0) := by
 refine oBd n0 (plainFor_of_name own_pn5) ?_
 intro p e s m below meth c s₁ Bd hx hZ hby hml hown hnm X0 e0 N0
 obtain ⟨fs, hr, hrun, hended, hW, hsame⟩ := X0.leave (v := some (.int ((31 : Int32) - (own_us p0_ (1 : Int32))))) (fun h => by rw [Bd.returns] at h; cases h)
 refine ⟨_, _, castTop (own_ef35 m p0_) ?_, hrun, hended, _, _, rfl, ?_, ⟨_, rfl⟩, hW, (hsame.mono (by decide) (by decide))⟩
 · show oZ p e below s₁ (mkF m 0 #[oI p0_, .unset] []) _
   refine XS.iloadN X0.here hx rfl (oG hby d6 0 rfl) rfl ?_
   refine XS.ifYes X0.here hx rfl (pc0 := 1) (pc' := 15) rfl (oG hby d6 1 rfl) rfl ((if0 _ _).trans (tlt hf0).2.2.1) (by decide) (by decide) ?_
   refine XS.bipush X0.here hx rfl (oG hby d6 7 rfl) ?_
   refine XS.istoreN X0.here hx rfl (oG hby d6 8 rfl) rfl (l' := #[oI p0_, oI 31]) rfl ?_
   refine XS.iloadN X0.here hx rfl (oG hby d6 9 rfl) rfl ?_
   refine X0.ldcwInt hx hown (mvT hZ (oW hw 261 rfl)) (g := (mkF m 19 #[oI p0_, oI 31] [(.int p0_)])) rfl (oG hby d6 10 rfl) _ ?_
   refine XS.icmpYes X0.here hx rfl (pc0 := 22) (pc' := 33) rfl (oG hby d6 11 rfl) rfl (tlt hf1).1 (by decide) (by decide) ?_
   refine XS.iloadN X0.here hx rfl (oG hby d6 12 rfl) rfl ?_
   refine XS.sipush X0.here hx rfl (oG hby d6 13 rfl) ?_
   refine XS.icmpYes X0.here hx rfl (pc0 := 37) (pc' := 48) rfl (oG hby d6 14 rfl) rfl (tlt hf2).1 (by decide) (by decide) ?_
   refine XS.iloadN X0.here hx rfl (oG hby d6 15 rfl) rfl ?_
   show oZ p e below s₁ (mkF m 49 #[oI p0_, oI 31] [(.int p0_)]) _
   refine XS.bipush X0.here hx rfl (oG hby d6 16 rfl) ?_
   refine XS.icmpYes X0.here hx rfl (pc0 := 51) (pc' := 61) rfl (oG hby d6 17 rfl) rfl (tlt hf3).1 (by decide) (by decide) ?_
   refine XS.iloadN X0.here hx rfl (oG hby d6 18 rfl) rfl ?_
   refine XS.iconst X0.here hx rfl (oG hby d6 19 rfl) ?_
   refine XS.icmpYes X0.here hx rfl (pc0 := 63) (pc' := 73) rfl (oG hby d6 20 rfl) rfl (tlt hf4).1 (by decide) (by decide) ?_
   refine XS.iloadN X0.here hx rfl (oG hby d6 21 rfl) rfl ?_
   refine XS.iloadN X0.here hx rfl (oG hby d6 22 rfl) rfl ?_
   refine XS.iconst X0.here hx rfl (oG hby d6 23 rfl) ?_
   refine XS.iushr X0.here hx rfl (oG hby d6 24 rfl) rfl ?_
   refine XS.isub X0.here hx rfl (oG hby d6 25 rfl) rfl ?_
   show oZ p e below s₁ (mkF m 78 #[oI p0_, oI 31] [(.int ((31 : Int32) - (own_us p0_ (1 : Int32))))]) _
   exact retI X0 hx Bd.returns (oG hby d6 26 rfl) hr
 · show own_QP (some (.int ((31 : Int32) - (own_us p0_ (1 : Int32))))) h0 n0 _ s₁.heap _
   exact ⟨rfl, N0, e0⟩
def own_mx (a b : Int32) : Int32 := if a < b then b else a
def own_mi (a b : Int32) : Int32 := if b < a then b else a
def own_nz (a : Int32) : Int32 := if a = (0 : Int32) then (32 : Int32) else (31 : Int32) - (own_us a (1 : Int32))
def own_sm (a : Int32) : Prop := a = (0 : Int32) ∨ (¬ a = (0 : Int32) ∧ (0 : Int32) < a ∧ a < (4 : Int32) ∧ a < (16 : Int32) ∧ a < (256 : Int32) ∧ a < (65536 : Int32))
theorem own_mxC (l : Launch) (Z : State) (a0 : Array Value) (hw : oH a0 Z) (ws : List Jvm.Cond) (p0 p1 : Int32) (h0 : Heap) (n0 : Nat) (Z0 : n0 ≤ h0.size) : oMet l oM12 jdk_29_method_65_code 2 (some .int) ws (oR 0 0 0 0) Z h0 #[(.int p0), (.int p1)] (own_QP (some (.int (own_mx p0 p1))) h0 n0) := by
 by_cases q : p0 < p1
 · rw [show own_mx p0 p1 = p1 from if_pos q]; exact own_b1_t l Z a0 hw ws p0 p1 h0 n0 Z0 q
 · rw [show own_mx p0 p1 = p0 from if_neg q]; exact own_b1_f l Z a0 hw ws p0 p1 h0 n0 Z0 q
theorem own_miC (l : Launch) (Z : State) (a0 : Array Value) (hw : oH a0 Z) (ws : List Jvm.Cond) (p0 p1 : Int32) (h0 : Heap) (n0 : Nat) (Z0 : n0 ≤ h0.size) : oMet l oM18 jdk_29_method_69_code 2 (some .int) ws (oR 0 0 0 0) Z h0 #[(.int p0), (.int p1)] (own_QP (some (.int (own_mi p0 p1))) h0 n0) := by
 by_cases q : p1 < p0
 · rw [show own_mi p0 p1 = p1 from if_pos q]; exact own_b7_t l Z a0 hw ws p0 p1 h0 n0 Z0 q
 · rw [show own_mi p0 p1 = p0 from if_neg q]; exact own_b7_f l Z a0 hw ws p0 p1 h0 n0 Z0 q
theorem own_nzC (l : Launch) (Z : State) (a0 : Array Value) (hw : oH a0 Z) (ws : List Jvm.Cond) (p0 : Int32) (h0 : Heap) (n0 : Nat) (Z0 : n0 ≤ h0.size) (ok : own_sm p0) : oMet l oM16 jdk_33_method_47_code 2 (some .int) ws (oR 0 0 0 0) Z h0 #[(.int p0)] (own_QP (some (.int (own_nz p0))) h0 n0) := by
 rcases ok with rfl | ⟨q0, q1, q2, q3, q4, q5⟩
 · exact own_b6_ff l Z a0 hw ws (0 : Int32) h0 n0 Z0 (by decide) (by decide)
 · rw [show own_nz p0 = ((31 : Int32) - (own_us p0 (1 : Int32))) from if_neg q0]; exact own_b6_ttttt l Z a0 hw ws p0 h0 n0 Z0 q1 q5 q4 q3 q2
def Qown_b5_tttt_58 (Z : State) (a0_ : Addr) (p1_ : Int32) (p2_ : Int32) (u_backends_a0_ : Value) (u_subsetSize_a0_ : Value) (x_ : Int32) (u_lots_a0_ : Value) (y_ : Int32) (u_ringBits_a0_ : Value) (u_fitsInARow_a0_ : Value) (h0 : Heap) (n0 : Nat) (v : Option Value) (h : Heap) (L : List Loc) : Prop := v = none ∧ Fr n0 L ∧ Keep h0 h [a0_] ∧ Exa Z h a0_ oC0 ∧ Fld Z h a0_ oC0 "backends" "I" (.int p1_) ∧ Fld Z h a0_ oC0 "subsetSize" "I" (.int p2_) ∧ Fld Z h a0_ oC0 "lots" "I" (.int x_) ∧ Fld Z h a0_ oC0 "ringBits" "I" (.int y_) ∧ Fld Z h a0_ oC0 "fitsInARow" "Z" (.int 0)
theorem own_b5_tttt_58 (l : Launch) (Z : State) (a0 : Array Value) (hw : oH a0 Z) (ws : List Jvm.Cond) (a0_ : Addr) (p1_ : Int32) (p2_ : Int32) (u_backends_a0_ : Value) (u_subsetSize_a0_ : Value) (x_ : Int32) (u_lots_a0_ : Value) (y_ : Int32) (u_ringBits_a0_ : Value) (u_fitsInARow_a0_ : Value) (h0 : Heap) (n0 : Nat) (Z0 : n0 ≤ h0.size) (E_a0_ : Exa Z h0 a0_ oC0) (F_backends_a0_ : Fld Z h0 a0_ oC0 "backends" "I" u_backends_a0_) (g_a0_ : n0 ≤ a0_) (F_subsetSize_a0_ : Fld Z h0 a0_ oC0 "subsetSize" "I" u_subsetSize_a0_) (F_lots_a0_ : Fld Z h0 a0_ oC0 "lots" "I" u_lots_a0_) (F_ringBits_a0_ : Fld Z h0 a0_ oC0 "ringBits" "I" u_ringBits_a0_) (F_fitsInARow_a0_ : Fld Z h0 a0_ oC0 "fitsInARow" "Z" u_fitsInARow_a0_) (hf0 : ¬ (p1_ < (1 : Int32))) (hf1 : ¬ (p2_ < (1 : Int32))) (hf2 : ¬ (p1_ < p2_)) (hf3 : (((p1_ - (1 : Int32)) / (10 : Int32)) + (1 : Int32)) = x_) (hf4 : own_sm (x_ - (1 : Int32))) (hf5 : (own_mx (1 : Int32) ((32 : Int32) - (own_nz (x_ - (1 : Int32))))) = y_) (hf6 : (p1_ / (10 : Int32)) < p2_) :
   oMet l oM14 prog_29_method_1_code 3 none ws (oR 1 0 0 16) Z h0 #[(.ref a0_), (.int p1_), (.int p2_)] (Qown_b5_tttt_58 Z a0_ p1_ p2_ u_backends_a0_ u_subsetSize_a0_ x_ u_lots_a0_ y_ u_ringBits_a0_ u_fitsInARow_a0_ h0 n0) := by
 refine oBd n0 (plainFor_of_name own_pn4) ?_
 intro p e s m below meth c s₁ Bd hx hZ hby hml hown hnm X0 e0 N0
 obtain ⟨T1, X1, e1, st1⟩ := initO X0 hx hZ hown (oW hw 23 rfl) (oW hw 12 rfl) (oW hw 13 rfl) e0 (g := (mkF m 1 #[oA a0_, oI p1_, oI p2_] [(.ref a0_)])) rfl (by rw [hml]; rfl) rfl (oG hby d5 1 rfl) (by decide) (W := 0) (by show 2 * 0 + _ ≤ _; exact Nat.le_of_eq rfl) (by decide)
 obtain ⟨T2, h2, X2, e2, W2, st2⟩ := putF X1 hx hZ hown (host := "") (Or.inl (oW hw 24 rfl)) Via.refl e1 F_backends_a0_ E_a0_ (Or.inr ⟨(oW hw 25 rfl), rfl, hnm⟩) (oW hw 19 rfl) (ty := .int) (by decide) rfl rfl (g := (mkF m 64 #[oA a0_, oI p1_, oI p2_] [(.int p1_), (.ref a0_)])) rfl rfl (oG hby d5 13 rfl)
 have Fw2 := F_backends_a0_.same W2
 have K2 : Keep h0 h2 [a0_] := (Keep.refl h0 [a0_]).wr W2 (Or.inl (oX 0 rfl))
 have N2 := Fr.snoc X2 N0 g_a0_
 have f3_a0_ := (E_a0_.wr W2)
 have f4_a0__subsetSize := (F_subsetSize_a0_.other W2 (oN (Or.inr (oW hw 27 rfl)) (Or.inr (oW hw 25 rfl)) (t := .int) (t' := .int)))
 obtain ⟨T5, h5, X5, e5, W5, st5⟩ := putF X2 hx hZ hown (host := "") (Or.inl (oW hw 26 rfl)) Via.refl e2 f4_a0__subsetSize f3_a0_ (Or.inr ⟨(oW hw 27 rfl), rfl, hnm⟩) (oW hw 19 rfl) (ty := .int) (by decide) rfl rfl (g := (mkF m 69 #[oA a0_, oI p1_, oI p2_] [(.int p2_), (.ref a0_)])) rfl rfl (oG hby d5 16 rfl)
 have Fw5 := f4_a0__subsetSize.same W5
 have K5 : Keep h0 h5 [a0_] := K2.wr W5 (Or.inl (oX 0 rfl))
 have N5 := Fr.snoc X5 N2 g_a0_
 have f6_a0_ := (f3_a0_.wr W5)
 have f7_a0__lots := ((F_lots_a0_.other W2 (oN (Or.inr (oW hw 29 rfl)) (Or.inr (oW hw 25 rfl)) (t := .int) (t' := .int))).other W5 (oN (Or.inr (oW hw 29 rfl)) (Or.inr (oW hw 27 rfl)) (t := .int) (t' := .int)))
 obtain ⟨T8, h8, X8, e8, W8, st8⟩ := putF X5 hx hZ hown (host := "") (Or.inl (oW hw 28 rfl)) Via.refl e5 f7_a0__lots f6_a0_ (Or.inr ⟨(oW hw 29 rfl), rfl, hnm⟩) (oW hw 19 rfl) (ty := .int) (by decide) rfl rfl (g := (mkF m 81 #[oA a0_, oI p1_, oI p2_] [(.int x_), (.ref a0_)])) rfl rfl (oG hby d5 25 rfl)
 have Fw8 := f7_a0__lots.same W8
 have K8 : Keep h0 h8 [a0_] := K5.wr W8 (Or.inl (oX 0 rfl))
 have N8 := Fr.snoc X8 N5 g_a0_
 obtain ⟨T9, X9, e9, st9⟩ := getF X8 hx hZ hown (host := "") (Or.inl (oW hw 28 rfl)) Via.refl e8 Fw8 (g := (mkF m 89 #[oA a0_, oI p1_, oI p2_] [(.ref a0_), (.int 32), (.int 1), (.ref a0_)])) rfl rfl (oG hby d5 30 rfl)
 obtain ⟨_, _, ⟨T10, L10, k10, n10⟩, -, X10, ⟨Lc10, hQ10, l10, y10, z10⟩, st10⟩ := Jvm.LawKit.callS X9 hx (y := oM16) hown (mvT hZ (oW hw 30 rfl)) (mvT hZ (oW hw 31 rfl)) (mvT hZ (oW hw 32 rfl)) (mvT hZ (oW hw 33 rfl)) (by decide) (backOf (W := 3) (own_nzC l Z a0 hw [] (x_ - (1 : Int32)) h8 n0 (Nat.le_trans Z0 K8.1) hf4) hZ (oW hw 33 rfl) (oW hw 32 rfl) (by decide) (by decide)) (g := (mkF m 94 #[oA a0_, oI p1_, oI p2_] [(.int (x_ - (1 : Int32))), (.int 32), (.int 1), (.ref a0_)])) rfl (by rw [hml]; rfl) (argsL := [(.int (x_ - (1 : Int32)))]) (rest := [(.int 32), (.int 1), (.ref a0_)]) (lenOf own_pd1 rfl) rfl (by show 2 * 0 + _ ≤ _; exact Nat.le_of_eq rfl) (oG hby d5 33 rfl) (fun _ _ => ⟨rfl, e9, (by decide : 0 + 0 ≤ _), (by decide : 0 + 0 ≤ _)⟩)
 dsimp only [Pt.U, Pt.locs, Pt.cells, Pt.slots] at X10 l10 y10 z10 st10 hQ10
 subst l10 y10 z10
 obtain ⟨rfl, N10q, e10⟩ := hQ10
 have N10 := Fr.app N8 N10q
 obtain ⟨_, _, ⟨T11, L11, k11, n11⟩, -, X11, ⟨Lc11, hQ11, l11, y11, z11⟩, st11⟩ := Jvm.LawKit.callS X10 hx (y := oM12) hown (mvT hZ (oW hw 34 rfl)) (mvT hZ (oW hw 2 rfl)) (mvT hZ (oW hw 3 rfl)) (mvT hZ (oW hw 4 rfl)) (by decide) (backOf (W := 1) (own_mxC l Z a0 hw [] (1 : Int32) ((32 : Int32) - (own_nz (x_ - (1 : Int32)))) h8 n0 (Nat.le_trans Z0 K8.1) ) hZ (oW hw 4 rfl) (oW hw 3 rfl) (by decide) (by decide)) (g := (mkF m 98 #[oA a0_, oI p1_, oI p2_] [(.int ((32 : Int32) - (own_nz (x_ - (1 : Int32))))), (.int 1), (.ref a0_)])) rfl (by rw [hml]; rfl) (argsL := [(.int 1), (.int ((32 : Int32) - (own_nz (x_ - (1 : Int32)))))]) (rest := [(.ref a0_)]) (lenOf own_pd16 rfl) rfl (by show 2 * 0 + _ ≤ _; exact Nat.le_of_eq rfl) (oG hby d5 35 rfl) (fun _ _ => ⟨rfl, e10, (by decide : 0 + 0 ≤ _), (by decide : 0 + 0 ≤ _)⟩)
 dsimp only [Pt.U, Pt.locs, Pt.cells, Pt.slots] at X11 l11 y11 z11 st11 hQ11
 subst l11 y11 z11
 obtain ⟨rfl, N11q, e11⟩ := hQ11
 have N11 := Fr.app N10 N11q
 have f12_a0_ := (f6_a0_.wr W8)
 have f13_a0__ringBits := (((F_ringBits_a0_.other W2 (oN (Or.inr (oW hw 36 rfl)) (Or.inr (oW hw 25 rfl)) (t := .int) (t' := .int))).other W5 (oN (Or.inr (oW hw 36 rfl)) (Or.inr (oW hw 27 rfl)) (t := .int) (t' := .int))).other W8 (oN (Or.inr (oW hw 36 rfl)) (Or.inr (oW hw 29 rfl)) (t := .int) (t' := .int)))
 obtain ⟨T14, h14, X14, e14, W14, st14⟩ := putF X11 hx hZ hown (host := "") (Or.inl (oW hw 35 rfl)) Via.refl e11 f13_a0__ringBits f12_a0_ (Or.inr ⟨(oW hw 36 rfl), rfl, hnm⟩) (oW hw 19 rfl) (ty := .int) (by decide) rfl rfl (g := (mkF m 101 #[oA a0_, oI p1_, oI p2_] [(.int y_), (.ref a0_)])) rfl rfl (oG hby d5 36 rfl)
 have Fw14 := f13_a0__ringBits.same W14
 have K14 : Keep h0 h14 [a0_] := K8.wr W14 (Or.inl (oX 0 rfl))
 have N14 := Fr.snoc X14 N11 g_a0_
 have f15_a0_ := (f12_a0_.wr W14)
 have f16_a0__fitsInARow := ((((F_fitsInARow_a0_.other W2 (oN (Or.inr (oW hw 38 rfl)) (Or.inr (oW hw 25 rfl)) (t := .boolean) (t' := .int))).other W5 (oN (Or.inr (oW hw 38 rfl)) (Or.inr (oW hw 27 rfl)) (t := .boolean) (t' := .int))).other W8 (oN (Or.inr (oW hw 38 rfl)) (Or.inr (oW hw 29 rfl)) (t := .boolean) (t' := .int))).other W14 (oN (Or.inr (oW hw 38 rfl)) (Or.inr (oW hw 36 rfl)) (t := .boolean) (t' := .int)))
 obtain ⟨T17, h17, X17, e17, W17, st17⟩ := putFN X14 hx hZ hown (oW hw 37 rfl) Via.refl e14 f16_a0__fitsInARow f15_a0_ (Or.inr ⟨(oW hw 38 rfl), rfl, hnm⟩) (oW hw 19 rfl) (ty := .boolean) (v' := (.int 0)) (by decide) rfl rfl (g := (mkF m 118 #[oA a0_, oI p1_, oI p2_] [(.int 0), (.ref a0_)])) rfl rfl (oG hby d5 46 rfl)
 have Fw17 := f16_a0__fitsInARow.same W17
 have K17 : Keep h0 h17 [a0_] := K14.wr W17 (Or.inl (oX 0 rfl))
 have N17 := Fr.snoc X17 N14 g_a0_
 have f18_a0_ := (f15_a0_.wr W17)
 have f19_a0__backends := ((((Fw2.other W5 (oN (Or.inr (oW hw 25 rfl)) (Or.inr (oW hw 27 rfl)) (t := .int) (t' := .int))).other W8 (oN (Or.inr (oW hw 25 rfl)) (Or.inr (oW hw 29 rfl)) (t := .int) (t' := .int))).other W14 (oN (Or.inr (oW hw 25 rfl)) (Or.inr (oW hw 36 rfl)) (t := .int) (t' := .int))).other W17 (oN (Or.inr (oW hw 25 rfl)) (Or.inr (oW hw 38 rfl)) (t := .int) (t' := .boolean)))
 have f20_a0__subsetSize := (((Fw5.other W8 (oN (Or.inr (oW hw 27 rfl)) (Or.inr (oW hw 29 rfl)) (t := .int) (t' := .int))).other W14 (oN (Or.inr (oW hw 27 rfl)) (Or.inr (oW hw 36 rfl)) (t := .int) (t' := .int))).other W17 (oN (Or.inr (oW hw 27 rfl)) (Or.inr (oW hw 38 rfl)) (t := .int) (t' := .boolean)))
 have f21_a0__lots := ((Fw8.other W14 (oN (Or.inr (oW hw 29 rfl)) (Or.inr (oW hw 36 rfl)) (t := .int) (t' := .int))).other W17 (oN (Or.inr (oW hw 29 rfl)) (Or.inr (oW hw 38 rfl)) (t := .int) (t' := .boolean)))
 have f22_a0__ringBits := (Fw14.other W17 (oN (Or.inr (oW hw 36 rfl)) (Or.inr (oW hw 38 rfl)) (t := .int) (t' := .boolean)))
 obtain ⟨fs, hr, hrun, hended, hW, hsame⟩ := X17.leave (v := none) (fun _ => rfl)
 refine ⟨_, _, castTop (own_ef36 m a0_ p1_ p2_) ?_, hrun, hended, _, _, rfl, ?_, ⟨_, rfl⟩, hW, (hsame.mono (by decide) (by decide))⟩
 · show oZ p e below s₁ (mkF m 0 #[oA a0_, oI p1_, oI p2_] []) _
   refine XS.aloadN X0.here hx rfl (oG hby d5 0 rfl) rfl rfl ?_
   refine st1 _ ?_
   refine XS.iloadN X1.here hx rfl (oG hby d5 2 rfl) rfl ?_
   refine XS.iconst X1.here hx rfl (oG hby d5 3 rfl) ?_
   refine XS.icmpYes X1.here hx rfl (pc0 := 6) (pc' := 23) rfl (oG hby d5 4 rfl) rfl (flt hf0).2.1 (by decide) (by decide) ?_
   refine XS.iloadN X1.here hx rfl (oG hby d5 5 rfl) rfl ?_
   refine XS.iconst X1.here hx rfl (oG hby d5 6 rfl) ?_
   refine XS.icmpYes X1.here hx rfl (pc0 := 25) (pc' := 42) rfl (oG hby d5 7 rfl) rfl (flt hf1).2.1 (by decide) (by decide) ?_
   refine XS.iloadN X1.here hx rfl (oG hby d5 8 rfl) rfl ?_
   refine XS.iloadN X1.here hx rfl (oG hby d5 9 rfl) rfl ?_
   refine XS.icmpYes X1.here hx rfl (pc0 := 44) (pc' := 62) rfl (oG hby d5 10 rfl) rfl (flt hf2).2.2.2 (by decide) (by decide) ?_
   show oZ p e below T1 (mkF m 62 #[oA a0_, oI p1_, oI p2_] []) _
   refine XS.aloadN X1.here hx rfl (oG hby d5 11 rfl) rfl rfl ?_
   refine XS.iloadN X1.here hx rfl (oG hby d5 12 rfl) rfl ?_
   refine st2 _ ?_
   refine XS.aloadN X2.here hx rfl (oG hby d5 14 rfl) rfl rfl ?_
   refine XS.iloadN X2.here hx rfl (oG hby d5 15 rfl) rfl ?_
   refine st5 _ ?_
   refine XS.aloadN X5.here hx rfl (oG hby d5 17 rfl) rfl rfl ?_
   refine XS.iloadN X5.here hx rfl (oG hby d5 18 rfl) rfl ?_
   refine XS.iconst X5.here hx rfl (oG hby d5 19 rfl) ?_
   refine XS.isub X5.here hx rfl (oG hby d5 20 rfl) rfl ?_
   refine XS.bipush X5.here hx rfl (oG hby d5 21 rfl) ?_
   show oZ p e below T5 (mkF m 78 #[oA a0_, oI p1_, oI p2_] [(.int 10), (.int (p1_ - (1 : Int32))), (.ref a0_)]) _
   refine XS.idiv X5.here hx rfl (oG hby d5 22 rfl) rfl (by decide +kernel) ?_
   refine XS.iconst X5.here hx rfl (oG hby d5 23 rfl) ?_
   refine XS.iadd X5.here hx rfl (oG hby d5 24 rfl) rfl ?_
   show oZ p e below T5 (mkF m 81 #[oA a0_, oI p1_, oI p2_] [(.int (((p1_ - (1 : Int32)) / (10 : Int32)) + (1 : Int32))), (.ref a0_)]) _
   rw [hf3]
   refine st8 _ ?_
   refine XS.aloadN X8.here hx rfl (oG hby d5 26 rfl) rfl rfl ?_
   refine XS.iconst X8.here hx rfl (oG hby d5 27 rfl) ?_
   refine XS.bipush X8.here hx rfl (oG hby d5 28 rfl) ?_
   refine XS.aloadN X8.here hx rfl (oG hby d5 29 rfl) rfl rfl ?_
   refine st9 _ ?_
   refine XS.iconst X9.here hx rfl (oG hby d5 31 rfl) ?_
   refine XS.isub X9.here hx rfl (oG hby d5 32 rfl) rfl ?_
   refine st10 _ ?_
   refine XS.isub X10.here hx rfl (oG hby d5 34 rfl) rfl ?_
   show oZ p e below T10 (mkF m 98 #[oA a0_, oI p1_, oI p2_] [(.int ((32 : Int32) - (own_nz (x_ - (1 : Int32))))), (.int 1), (.ref a0_)]) _
   refine st11 _ ?_
   show oZ p e below T11 (mkF m 101 #[oA a0_, oI p1_, oI p2_] [(.int (own_mx (1 : Int32) ((32 : Int32) - (own_nz (x_ - (1 : Int32)))))), (.ref a0_)]) _
   rw [hf5]
   refine st14 _ ?_
   refine XS.aloadN X14.here hx rfl (oG hby d5 37 rfl) rfl rfl ?_
   refine XS.iloadN X14.here hx rfl (oG hby d5 38 rfl) rfl ?_
   refine XS.iloadN X14.here hx rfl (oG hby d5 39 rfl) rfl ?_
   refine XS.bipush X14.here hx rfl (oG hby d5 40 rfl) ?_
   refine XS.idiv X14.here hx rfl (oG hby d5 41 rfl) rfl (by decide +kernel) ?_
   refine XS.icmpYes X14.here hx rfl (pc0 := 110) (pc' := 117) rfl (oG hby d5 42 rfl) rfl (tlt hf6).2.2.1 (by decide) (by decide) ?_
   refine XS.iconst X14.here hx rfl (oG hby d5 45 rfl) ?_
   refine st17 _ ?_
   show oZ p e below T17 (mkF m 121 #[oA a0_, oI p1_, oI p2_] []) _
   exact X17.returnOut hx Bd.returns (oG hby d5 47 rfl) hr
 · show Qown_b5_tttt_58 Z a0_ p1_ p2_ u_backends_a0_ u_subsetSize_a0_ x_ u_lots_a0_ y_ u_ringBits_a0_ u_fitsInARow_a0_ h0 n0 _ T17.heap _
   rw [e17]
   exact ⟨rfl, N17, K17, f18_a0_, f19_a0__backends, f20_a0__subsetSize, f21_a0__lots, f22_a0__ringBits, Fw17⟩
def Qown_b5_tttf_59 (Z : State) (a0_ : Addr) (p1_ : Int32) (p2_ : Int32) (u_backends_a0_ : Value) (u_subsetSize_a0_ : Value) (x_ : Int32) (u_lots_a0_ : Value) (y_ : Int32) (u_ringBits_a0_ : Value) (u_fitsInARow_a0_ : Value) (h0 : Heap) (n0 : Nat) (v : Option Value) (h : Heap) (L : List Loc) : Prop := v = none ∧ Fr n0 L ∧ Keep h0 h [a0_] ∧ Exa Z h a0_ oC0 ∧ Fld Z h a0_ oC0 "backends" "I" (.int p1_) ∧ Fld Z h a0_ oC0 "subsetSize" "I" (.int p2_) ∧ Fld Z h a0_ oC0 "lots" "I" (.int x_) ∧ Fld Z h a0_ oC0 "ringBits" "I" (.int y_) ∧ Fld Z h a0_ oC0 "fitsInARow" "Z" (.int 1)
theorem own_b5_tttf_59 (l : Launch) (Z : State) (a0 : Array Value) (hw : oH a0 Z) (ws : List Jvm.Cond) (a0_ : Addr) (p1_ : Int32) (p2_ : Int32) (u_backends_a0_ : Value) (u_subsetSize_a0_ : Value) (x_ : Int32) (u_lots_a0_ : Value) (y_ : Int32) (u_ringBits_a0_ : Value) (u_fitsInARow_a0_ : Value) (h0 : Heap) (n0 : Nat) (Z0 : n0 ≤ h0.size) (E_a0_ : Exa Z h0 a0_ oC0) (F_backends_a0_ : Fld Z h0 a0_ oC0 "backends" "I" u_backends_a0_) (g_a0_ : n0 ≤ a0_) (F_subsetSize_a0_ : Fld Z h0 a0_ oC0 "subsetSize" "I" u_subsetSize_a0_) (F_lots_a0_ : Fld Z h0 a0_ oC0 "lots" "I" u_lots_a0_) (F_ringBits_a0_ : Fld Z h0 a0_ oC0 "ringBits" "I" u_ringBits_a0_) (F_fitsInARow_a0_ : Fld Z h0 a0_ oC0 "fitsInARow" "Z" u_fitsInARow_a0_) (hf0 : ¬ (p1_ < (1 : Int32))) (hf1 : ¬ (p2_ < (1 : Int32))) (hf2 : ¬ (p1_ < p2_)) (hf3 : (((p1_ - (1 : Int32)) / (10 : Int32)) + (1 : Int32)) = x_) (hf4 : own_sm (x_ - (1 : Int32))) (hf5 : (own_mx (1 : Int32) ((32 : Int32) - (own_nz (x_ - (1 : Int32))))) = y_) (hf6 : ¬ ((p1_ / (10 : Int32)) < p2_)) :
   oMet l oM14 prog_29_method_1_code 3 none ws (oR 1 0 0 16) Z h0 #[(.ref a0_), (.int p1_), (.int p2_)] (Qown_b5_tttf_59 Z a0_ p1_ p2_ u_backends_a0_ u_subsetSize_a0_ x_ u_lots_a0_ y_ u_ringBits_a0_ u_fitsInARow_a0_ h0 n0) := by
 refine oBd n0 (plainFor_of_name own_pn4) ?_
 intro p e s m below meth c s₁ Bd hx hZ hby hml hown hnm X0 e0 N0
 obtain ⟨T1, X1, e1, st1⟩ := initO X0 hx hZ hown (oW hw 23 rfl) (oW hw 12 rfl) (oW hw 13 rfl) e0 (g := (mkF m 1 #[oA a0_, oI p1_, oI p2_] [(.ref a0_)])) rfl (by rw [hml]; rfl) rfl (oG hby d5 1 rfl) (by decide) (W := 0) (by show 2 * 0 + _ ≤ _; exact Nat.le_of_eq rfl) (by decide)
 obtain ⟨T2, h2, X2, e2, W2, st2⟩ := putF X1 hx hZ hown (host := "") (Or.inl (oW hw 24 rfl)) Via.refl e1 F_backends_a0_ E_a0_ (Or.inr ⟨(oW hw 25 rfl), rfl, hnm⟩) (oW hw 19 rfl) (ty := .int) (by decide) rfl rfl (g := (mkF m 64 #[oA a0_, oI p1_, oI p2_] [(.int p1_), (.ref a0_)])) rfl rfl (oG hby d5 13 rfl)
 have Fw2 := F_backends_a0_.same W2
 have K2 : Keep h0 h2 [a0_] := (Keep.refl h0 [a0_]).wr W2 (Or.inl (oX 0 rfl))
 have N2 := Fr.snoc X2 N0 g_a0_
 have f3_a0_ := (E_a0_.wr W2)
 have f4_a0__subsetSize := (F_subsetSize_a0_.other W2 (oN (Or.inr (oW hw 27 rfl)) (Or.inr (oW hw 25 rfl)) (t := .int) (t' := .int)))
 obtain ⟨T5, h5, X5, e5, W5, st5⟩ := putF X2 hx hZ hown (host := "") (Or.inl (oW hw 26 rfl)) Via.refl e2 f4_a0__subsetSize f3_a0_ (Or.inr ⟨(oW hw 27 rfl), rfl, hnm⟩) (oW hw 19 rfl) (ty := .int) (by decide) rfl rfl (g := (mkF m 69 #[oA a0_, oI p1_, oI p2_] [(.int p2_), (.ref a0_)])) rfl rfl (oG hby d5 16 rfl)
 have Fw5 := f4_a0__subsetSize.same W5
 have K5 : Keep h0 h5 [a0_] := K2.wr W5 (Or.inl (oX 0 rfl))
 have N5 := Fr.snoc X5 N2 g_a0_
 have f6_a0_ := (f3_a0_.wr W5)
 have f7_a0__lots := ((F_lots_a0_.other W2 (oN (Or.inr (oW hw 29 rfl)) (Or.inr (oW hw 25 rfl)) (t := .int) (t' := .int))).other W5 (oN (Or.inr (oW hw 29 rfl)) (Or.inr (oW hw 27 rfl)) (t := .int) (t' := .int)))
 obtain ⟨T8, h8, X8, e8, W8, st8⟩ := putF X5 hx hZ hown (host := "") (Or.inl (oW hw 28 rfl)) Via.refl e5 f7_a0__lots f6_a0_ (Or.inr ⟨(oW hw 29 rfl), rfl, hnm⟩) (oW hw 19 rfl) (ty := .int) (by decide) rfl rfl (g := (mkF m 81 #[oA a0_, oI p1_, oI p2_] [(.int x_), (.ref a0_)])) rfl rfl (oG hby d5 25 rfl)
 have Fw8 := f7_a0__lots.same W8
 have K8 : Keep h0 h8 [a0_] := K5.wr W8 (Or.inl (oX 0 rfl))
 have N8 := Fr.snoc X8 N5 g_a0_
 obtain ⟨T9, X9, e9, st9⟩ := getF X8 hx hZ hown (host := "") (Or.inl (oW hw 28 rfl)) Via.refl e8 Fw8 (g := (mkF m 89 #[oA a0_, oI p1_, oI p2_] [(.ref a0_), (.int 32), (.int 1), (.ref a0_)])) rfl rfl (oG hby d5 30 rfl)
 obtain ⟨_, _, ⟨T10, L10, k10, n10⟩, -, X10, ⟨Lc10, hQ10, l10, y10, z10⟩, st10⟩ := Jvm.LawKit.callS X9 hx (y := oM16) hown (mvT hZ (oW hw 30 rfl)) (mvT hZ (oW hw 31 rfl)) (mvT hZ (oW hw 32 rfl)) (mvT hZ (oW hw 33 rfl)) (by decide) (backOf (W := 3) (own_nzC l Z a0 hw [] (x_ - (1 : Int32)) h8 n0 (Nat.le_trans Z0 K8.1) hf4) hZ (oW hw 33 rfl) (oW hw 32 rfl) (by decide) (by decide)) (g := (mkF m 94 #[oA a0_, oI p1_, oI p2_] [(.int (x_ - (1 : Int32))), (.int 32), (.int 1), (.ref a0_)])) rfl (by rw [hml]; rfl) (argsL := [(.int (x_ - (1 : Int32)))]) (rest := [(.int 32), (.int 1), (.ref a0_)]) (lenOf own_pd1 rfl) rfl (by show 2 * 0 + _ ≤ _; exact Nat.le_of_eq rfl) (oG hby d5 33 rfl) (fun _ _ => ⟨rfl, e9, (by decide : 0 + 0 ≤ _), (by decide : 0 + 0 ≤ _)⟩)
 dsimp only [Pt.U, Pt.locs, Pt.cells, Pt.slots] at X10 l10 y10 z10 st10 hQ10
 subst l10 y10 z10
 obtain ⟨rfl, N10q, e10⟩ := hQ10
 have N10 := Fr.app N8 N10q
 obtain ⟨_, _, ⟨T11, L11, k11, n11⟩, -, X11, ⟨Lc11, hQ11, l11, y11, z11⟩, st11⟩ := Jvm.LawKit.callS X10 hx (y := oM12) hown (mvT hZ (oW hw 34 rfl)) (mvT hZ (oW hw 2 rfl)) (mvT hZ (oW hw 3 rfl)) (mvT hZ (oW hw 4 rfl)) (by decide) (backOf (W := 1) (own_mxC l Z a0 hw [] (1 : Int32) ((32 : Int32) - (own_nz (x_ - (1 : Int32)))) h8 n0 (Nat.le_trans Z0 K8.1) ) hZ (oW hw 4 rfl) (oW hw 3 rfl) (by decide) (by decide)) (g := (mkF m 98 #[oA a0_, oI p1_, oI p2_] [(.int ((32 : Int32) - (own_nz (x_ - (1 : Int32))))), (.int 1), (.ref a0_)])) rfl (by rw [hml]; rfl) (argsL := [(.int 1), (.int ((32 : Int32) - (own_nz (x_ - (1 : Int32)))))]) (rest := [(.ref a0_)]) (lenOf own_pd16 rfl) rfl (by show 2 * 0 + _ ≤ _; exact Nat.le_of_eq rfl) (oG hby d5 35 rfl) (fun _ _ => ⟨rfl, e10, (by decide : 0 + 0 ≤ _), (by decide : 0 + 0 ≤ _)⟩)
 dsimp only [Pt.U, Pt.locs, Pt.cells, Pt.slots] at X11 l11 y11 z11 st11 hQ11
 subst l11 y11 z11
 obtain ⟨rfl, N11q, e11⟩ := hQ11
 have N11 := Fr.app N10 N11q
 have f12_a0_ := (f6_a0_.wr W8)
 have f13_a0__ringBits := (((F_ringBits_a0_.other W2 (oN (Or.inr (oW hw 36 rfl)) (Or.inr (oW hw 25 rfl)) (t := .int) (t' := .int))).other W5 (oN (Or.inr (oW hw 36 rfl)) (Or.inr (oW hw 27 rfl)) (t := .int) (t' := .int))).other W8 (oN (Or.inr (oW hw 36 rfl)) (Or.inr (oW hw 29 rfl)) (t := .int) (t' := .int)))
 obtain ⟨T14, h14, X14, e14, W14, st14⟩ := putF X11 hx hZ hown (host := "") (Or.inl (oW hw 35 rfl)) Via.refl e11 f13_a0__ringBits f12_a0_ (Or.inr ⟨(oW hw 36 rfl), rfl, hnm⟩) (oW hw 19 rfl) (ty := .int) (by decide) rfl rfl (g := (mkF m 101 #[oA a0_, oI p1_, oI p2_] [(.int y_), (.ref a0_)])) rfl rfl (oG hby d5 36 rfl)
 have Fw14 := f13_a0__ringBits.same W14
 have K14 : Keep h0 h14 [a0_] := K8.wr W14 (Or.inl (oX 0 rfl))
 have N14 := Fr.snoc X14 N11 g_a0_
 have f15_a0_ := (f12_a0_.wr W14)
 have f16_a0__fitsInARow := ((((F_fitsInARow_a0_.other W2 (oN (Or.inr (oW hw 38 rfl)) (Or.inr (oW hw 25 rfl)) (t := .boolean) (t' := .int))).other W5 (oN (Or.inr (oW hw 38 rfl)) (Or.inr (oW hw 27 rfl)) (t := .boolean) (t' := .int))).other W8 (oN (Or.inr (oW hw 38 rfl)) (Or.inr (oW hw 29 rfl)) (t := .boolean) (t' := .int))).other W14 (oN (Or.inr (oW hw 38 rfl)) (Or.inr (oW hw 36 rfl)) (t := .boolean) (t' := .int)))
 obtain ⟨T17, h17, X17, e17, W17, st17⟩ := putFN X14 hx hZ hown (oW hw 37 rfl) Via.refl e14 f16_a0__fitsInARow f15_a0_ (Or.inr ⟨(oW hw 38 rfl), rfl, hnm⟩) (oW hw 19 rfl) (ty := .boolean) (v' := (.int 1)) (by decide) rfl rfl (g := (mkF m 118 #[oA a0_, oI p1_, oI p2_] [(.int 1), (.ref a0_)])) rfl rfl (oG hby d5 46 rfl)
 have Fw17 := f16_a0__fitsInARow.same W17
 have K17 : Keep h0 h17 [a0_] := K14.wr W17 (Or.inl (oX 0 rfl))
 have N17 := Fr.snoc X17 N14 g_a0_
 have f18_a0_ := (f15_a0_.wr W17)
 have f19_a0__backends := ((((Fw2.other W5 (oN (Or.inr (oW hw 25 rfl)) (Or.inr (oW hw 27 rfl)) (t := .int) (t' := .int))).other W8 (oN (Or.inr (oW hw 25 rfl)) (Or.inr (oW hw 29 rfl)) (t := .int) (t' := .int))).other W14 (oN (Or.inr (oW hw 25 rfl)) (Or.inr (oW hw 36 rfl)) (t := .int) (t' := .int))).other W17 (oN (Or.inr (oW hw 25 rfl)) (Or.inr (oW hw 38 rfl)) (t := .int) (t' := .boolean)))
 have f20_a0__subsetSize := (((Fw5.other W8 (oN (Or.inr (oW hw 27 rfl)) (Or.inr (oW hw 29 rfl)) (t := .int) (t' := .int))).other W14 (oN (Or.inr (oW hw 27 rfl)) (Or.inr (oW hw 36 rfl)) (t := .int) (t' := .int))).other W17 (oN (Or.inr (oW hw 27 rfl)) (Or.inr (oW hw 38 rfl)) (t := .int) (t' := .boolean)))
 have f21_a0__lots := ((Fw8.other W14 (oN (Or.inr (oW hw 29 rfl)) (Or.inr (oW hw 36 rfl)) (t := .int) (t' := .int))).other W17 (oN (Or.inr (oW hw 29 rfl)) (Or.inr (oW hw 38 rfl)) (t := .int) (t' := .boolean)))
 have f22_a0__ringBits := (Fw14.other W17 (oN (Or.inr (oW hw 36 rfl)) (Or.inr (oW hw 38 rfl)) (t := .int) (t' := .boolean)))
 obtain ⟨fs, hr, hrun, hended, hW, hsame⟩ := X17.leave (v := none) (fun _ => rfl)
 refine ⟨_, _, castTop (own_ef36 m a0_ p1_ p2_) ?_, hrun, hended, _, _, rfl, ?_, ⟨_, rfl⟩, hW, (hsame.mono (by decide) (by decide))⟩
 · show oZ p e below s₁ (mkF m 0 #[oA a0_, oI p1_, oI p2_] []) _
   refine XS.aloadN X0.here hx rfl (oG hby d5 0 rfl) rfl rfl ?_
   refine st1 _ ?_
   refine XS.iloadN X1.here hx rfl (oG hby d5 2 rfl) rfl ?_
   refine XS.iconst X1.here hx rfl (oG hby d5 3 rfl) ?_
   refine XS.icmpYes X1.here hx rfl (pc0 := 6) (pc' := 23) rfl (oG hby d5 4 rfl) rfl (flt hf0).2.1 (by decide) (by decide) ?_
   refine XS.iloadN X1.here hx rfl (oG hby d5 5 rfl) rfl ?_
   refine XS.iconst X1.here hx rfl (oG hby d5 6 rfl) ?_
   refine XS.icmpYes X1.here hx rfl (pc0 := 25) (pc' := 42) rfl (oG hby d5 7 rfl) rfl (flt hf1).2.1 (by decide) (by decide) ?_
   refine XS.iloadN X1.here hx rfl (oG hby d5 8 rfl) rfl ?_
   refine XS.iloadN X1.here hx rfl (oG hby d5 9 rfl) rfl ?_
   refine XS.icmpYes X1.here hx rfl (pc0 := 44) (pc' := 62) rfl (oG hby d5 10 rfl) rfl (flt hf2).2.2.2 (by decide) (by decide) ?_
   show oZ p e below T1 (mkF m 62 #[oA a0_, oI p1_, oI p2_] []) _
   refine XS.aloadN X1.here hx rfl (oG hby d5 11 rfl) rfl rfl ?_
   refine XS.iloadN X1.here hx rfl (oG hby d5 12 rfl) rfl ?_
   refine st2 _ ?_
   refine XS.aloadN X2.here hx rfl (oG hby d5 14 rfl) rfl rfl ?_
   refine XS.iloadN X2.here hx rfl (oG hby d5 15 rfl) rfl ?_
   refine st5 _ ?_
   refine XS.aloadN X5.here hx rfl (oG hby d5 17 rfl) rfl rfl ?_
   refine XS.iloadN X5.here hx rfl (oG hby d5 18 rfl) rfl ?_
   refine XS.iconst X5.here hx rfl (oG hby d5 19 rfl) ?_
   refine XS.isub X5.here hx rfl (oG hby d5 20 rfl) rfl ?_
   refine XS.bipush X5.here hx rfl (oG hby d5 21 rfl) ?_
   show oZ p e below T5 (mkF m 78 #[oA a0_, oI p1_, oI p2_] [(.int 10), (.int (p1_ - (1 : Int32))), (.ref a0_)]) _
   refine XS.idiv X5.here hx rfl (oG hby d5 22 rfl) rfl (by decide +kernel) ?_
   refine XS.iconst X5.here hx rfl (oG hby d5 23 rfl) ?_
   refine XS.iadd X5.here hx rfl (oG hby d5 24 rfl) rfl ?_
   show oZ p e below T5 (mkF m 81 #[oA a0_, oI p1_, oI p2_] [(.int (((p1_ - (1 : Int32)) / (10 : Int32)) + (1 : Int32))), (.ref a0_)]) _
   rw [hf3]
   refine st8 _ ?_
   refine XS.aloadN X8.here hx rfl (oG hby d5 26 rfl) rfl rfl ?_
   refine XS.iconst X8.here hx rfl (oG hby d5 27 rfl) ?_
   refine XS.bipush X8.here hx rfl (oG hby d5 28 rfl) ?_
   refine XS.aloadN X8.here hx rfl (oG hby d5 29 rfl) rfl rfl ?_
   refine st9 _ ?_
   refine XS.iconst X9.here hx rfl (oG hby d5 31 rfl) ?_
   refine XS.isub X9.here hx rfl (oG hby d5 32 rfl) rfl ?_
   refine st10 _ ?_
   refine XS.isub X10.here hx rfl (oG hby d5 34 rfl) rfl ?_
   show oZ p e below T10 (mkF m 98 #[oA a0_, oI p1_, oI p2_] [(.int ((32 : Int32) - (own_nz (x_ - (1 : Int32))))), (.int 1), (.ref a0_)]) _
   refine st11 _ ?_
   show oZ p e below T11 (mkF m 101 #[oA a0_, oI p1_, oI p2_] [(.int (own_mx (1 : Int32) ((32 : Int32) - (own_nz (x_ - (1 : Int32)))))), (.ref a0_)]) _
   rw [hf5]
   refine st14 _ ?_
   refine XS.aloadN X14.here hx rfl (oG hby d5 37 rfl) rfl rfl ?_
   refine XS.iloadN X14.here hx rfl (oG hby d5 38 rfl) rfl ?_
   refine XS.iloadN X14.here hx rfl (oG hby d5 39 rfl) rfl ?_
   refine XS.bipush X14.here hx rfl (oG hby d5 40 rfl) ?_
   refine XS.idiv X14.here hx rfl (oG hby d5 41 rfl) rfl (by decide +kernel) ?_
   refine XS.icmpNo X14.here hx rfl (oG hby d5 42 rfl) rfl (flt hf6).2.2.1 ?_
   refine XS.iconst X14.here hx rfl (oG hby d5 43 rfl) ?_
   refine XS.goto X14.here hx rfl (pc0 := 114) (pc' := 118) rfl (oG hby d5 44 rfl) (by decide) (by decide) ?_
   refine st17 _ ?_
   show oZ p e below T17 (mkF m 121 #[oA a0_, oI p1_, oI p2_] []) _
   exact X17.returnOut hx Bd.returns (oG hby d5 47 rfl) hr
 · show Qown_b5_tttf_59 Z a0_ p1_ p2_ u_backends_a0_ u_subsetSize_a0_ x_ u_lots_a0_ y_ u_ringBits_a0_ u_fitsInARow_a0_ h0 n0 _ T17.heap _
   rw [e17]
   exact ⟨rfl, N17, K17, f18_a0_, f19_a0__backends, f20_a0__subsetSize, f21_a0__lots, f22_a0__ringBits, Fw17⟩
def own_siOK (b n : Int32) (L : Nat) (ft : Int32) : Prop := ¬ (b < (1 : Int32)) ∧ ¬ (n < (1 : Int32)) ∧ ¬ (b < n) ∧ (((b - (1 : Int32)) / (10 : Int32)) + (1 : Int32)) = (Int32.ofNat L) ∧ own_sm ((Int32.ofNat L) - (1 : Int32)) ∧ (own_mx (1 : Int32) ((32 : Int32) - (own_nz ((Int32.ofNat L) - (1 : Int32))))) = (own_rb L) ∧ ((ft = (0 : Int32) ∧ (b / (10 : Int32)) < n) ∨ (ft = (1 : Int32) ∧ ¬ ((b / (10 : Int32)) < n)))
def own_QSI (Z : State) (o : Addr) (b n : Int32) (L : Nat) (ft : Int32) (h0 : Heap) (n0 : Nat) (v : Option Value) (h : Heap) (L' : List Loc) : Prop := v = none ∧ Fr n0 L' ∧ Keep h0 h [o] ∧ own_SUB Z h o b n L ft
theorem own_siC (l : Launch) (Z : State) (a0 : Array Value) (hw : oH a0 Z) (ws : List Jvm.Cond) (o0 : Addr) (b n : Int32) (L : Nat) (ft : Int32) (u0 u1 u2 u3 u4 : Value) (h0 : Heap) (n0 : Nat) (Z0 : n0 ≤ h0.size) (E0 : Exa Z h0 o0 oC0) (F0 : Fld Z h0 o0 oC0 "backends" "I" u0) (F1 : Fld Z h0 o0 oC0 "subsetSize" "I" u1) (F2 : Fld Z h0 o0 oC0 "lots" "I" u2) (F3 : Fld Z h0 o0 oC0 "ringBits" "I" u3) (F4 : Fld Z h0 o0 oC0 "fitsInARow" "Z" u4) (g0 : n0 ≤ o0) (ok : own_siOK b n L ft) :
   oMet l oM14 prog_29_method_1_code 3 none ws (oR 1 0 0 16) Z h0 #[(.ref o0), (.int b), (.int n)] (own_QSI Z o0 b n L ft h0 n0) := by
 obtain ⟨k1, k2, k3, k4, k5, k6, k7⟩ := ok
 rcases k7 with ⟨rfl, k7⟩ | ⟨rfl, k7⟩
 · exact own_mono (own_b5_tttt_58 l Z a0 hw ws o0 b n u0 u1 (Int32.ofNat L) u2 (own_rb L) u3 u4 h0 n0 Z0 E0 F0 g0 F1 F2 F3 F4 k1 k2 k3 k4 k5 k6 k7) fun v h Lc q => q
 · exact own_mono (own_b5_tttf_59 l Z a0 hw ws o0 b n u0 u1 (Int32.ofNat L) u2 (own_rb L) u3 u4 h0 n0 Z0 E0 F0 g0 F1 F2 F3 F4 k1 k2 k3 k4 k5 k6 k7) fun v h Lc q => q
theorem own_subD (l : Launch) (Z : State) (a0 : Array Value) (hw : oH a0 Z) (ws : List Jvm.Cond) (o0 : Addr) (cli : Int32) (o4 : Addr) (b n lo rb ft vn : Int32) (vv : List Int32) (L R cx cl : Nat) (h0 : Heap) (n0 : Nat) (Z0 : n0 ≤ h0.size) (E0 : Exa Z h0 o0 oC0) (F0 : Fld Z h0 o0 oC0 "backends" "I" (.int b)) (F1 : Fld Z h0 o0 oC0 "subsetSize" "I" (.int n)) (F2 : Fld Z h0 o0 oC0 "lots" "I" (.int lo)) (F3 : Fld Z h0 o0 oC0 "ringBits" "I" (.int rb)) (F4 : Fld Z h0 o0 oC0 "fitsInARow" "Z" (.int ft)) (S0 : Sta Z h0 oC0 "START_ROWS" "[I" (.ref o4)) (A0 : own_il Z h0 o4 vn vv) (B0 : Sta Z h0 oC2 "$assertionsDisabled" "Z" (.int 1)) (e1 : lo = Int32.ofNat L) (e2 : rb = own_rb L) (e3 : vn = (10 : Int32)) (e4 : vv = ([0, 8, 2, 4, 6, 1, 9, 5, 3, 7] : List Int32)) (ok : own_suOK b n cli ft L R cx cl) :
   oMet l oM3 prog_29_method_2_code 5 (some (.array .int)) ws (oR 8 (10 + 2 * cl) (80 + 11 * cl) 230) Z h0 #[(.ref o0), (.int cli)] (own_QC Z n h0 n0) := by
 subst e1 e2 e3 e4
 exact own_subC l Z a0 hw ws o0 cli o4 b n ft L R cx cl h0 n0 Z0 ⟨E0, F0, F1, F2, F3, F4⟩ ⟨S0, A0, B0⟩ ok
theorem own_b42_x (l : Launch) (Z : State) (a0 : Array Value) (hw : oH a0 Z) (ws : List Jvm.Cond) (a0_ : Addr) (f_removed_a0_ : Addr) (n_f_removed_a0_ : Int32) (h0 : Heap) (n0 : Nat) (Z0 : n0 ≤ h0.size) (F_removed_a0_ : Fld Z h0 a0_ oC4 "removed" "[I" (.ref f_removed_a0_)) (A_f_removed_a0_ : own_ia Z h0 f_removed_a0_ n_f_removed_a0_) :
   oMet l oM17 prog_28_method_6_code 1 (some .int) ws (oR 0 0 0 0) Z h0 #[(.ref a0_)] (own_QP (some (.int n_f_removed_a0_)) h0 n0) := by
 refine oBd n0 (plainFor_of_name own_pn7) ?_
 intro p e s m below meth c s₁ Bd hx hZ hby hml hown hnm X0 e0 N0
 obtain ⟨T1, X1, e1, st1⟩ := getF X0 hx hZ hown (host := "") (Or.inl (oW hw 242 rfl)) Via.refl e0 F_removed_a0_ (g := (mkF m 1 #[oA a0_] [(.ref a0_)])) rfl rfl (oG hby d42 1 rfl)
 obtain ⟨c2, A2, S2, M2⟩ := own_ia_cell A_f_removed_a0_
 obtain ⟨fs, hr, hrun, hended, hW, hsame⟩ := X1.leave (v := some (.int n_f_removed_a0_)) (fun h => by rw [Bd.returns] at h; cases h)
 refine ⟨_, _, castTop (own_ef37 m a0_) ?_, hrun, hended, _, _, rfl, ?_, ⟨_, rfl⟩, hW, (hsame.mono (by decide) (by decide))⟩
 · show oZ p e below s₁ (mkF m 0 #[oA a0_] []) _
   refine XS.aloadN X0.here hx rfl (oG hby d42 0 rfl) rfl rfl ?_
   refine st1 _ ?_
   refine X1.arraylength hx (by rw [e1]; exact A2.1) (State.isArrayOf_alike hZ.alike A2.2.1) (g := (mkF m 4 #[oA a0_] [(.ref f_removed_a0_)])) rfl rfl (oG hby d42 2 rfl) _ ?_
   rw [len_of S2 M2]
   show oZ p e below T1 (mkF m 5 #[oA a0_] [(.int n_f_removed_a0_)]) _
   exact retI X1 hx Bd.returns (oG hby d42 3 rfl) hr
 · show own_QP (some (.int n_f_removed_a0_)) h0 n0 _ T1.heap _
   exact ⟨rfl, N0, e1⟩
theorem own_b4_t (l : Launch) (Z : State) (a0 : Array Value) (hw : oH a0 Z) (ws : List Jvm.Cond) (p0_ : Int32) (h0 : Heap) (n0 : Nat) (Z0 : n0 ≤ h0.size) (hf0 : ¬ (p0_ < (1 : Int32))) :
   oMet l oM30 prog_29_method_15_code 1 none ws (oR 0 0 0 0) Z h0 #[(.int p0_)] (own_QP (none) h0 n0) := by
 refine oBd n0 (plainFor_of_name own_pn4) ?_
 intro p e s m below meth c s₁ Bd hx hZ hby hml hown hnm X0 e0 N0
 obtain ⟨fs, hr, hrun, hended, hW, hsame⟩ := X0.leave (v := none) (fun _ => rfl)
 refine ⟨_, _, castTop (own_ef38 m p0_) ?_, hrun, hended, _, _, rfl, ?_, ⟨_, rfl⟩, hW, (hsame.mono (by decide) (by decide))⟩
 · show oZ p e below s₁ (mkF m 0 #[oI p0_] []) _
   refine XS.iloadN X0.here hx rfl (oG hby d4 0 rfl) rfl ?_
   refine XS.iconst X0.here hx rfl (oG hby d4 1 rfl) ?_
   refine XS.icmpYes X0.here hx rfl (pc0 := 2) (pc' := 19) rfl (oG hby d4 2 rfl) rfl (flt hf0).2.1 (by decide) (by decide) ?_
   show oZ p e below s₁ (mkF m 19 #[oI p0_] []) _
   exact X0.returnOut hx Bd.returns (oG hby d4 3 rfl) hr
 · show own_QP (none) h0 n0 _ s₁.heap _
   exact ⟨rfl, N0, e0⟩
theorem own_ch_H (rc : Nat) (rs : Nat) (o0_ : Addr) (i1_ : Int32) (i2_ : Int32) (i3_ : Int32) (i4_ : Int32) (i5_ : Int32) (i6_ : Int32) (l0_ : Nat) (ft0_ : Int32) (l1_ : Nat) (ft1_ : Int32) (u_clients_o0_ : Value) (u_backends_o0_ : Value) (u_subsetSize_o0_ : Value) (u_toClients_o0_ : Value) (u_toBackends_o0_ : Value) (u_toSubsetSize_o0_ : Value) (k_ : Int32) (u_replaced_o0_ : Value) (u_mostReplacedByOneClient_o0_ : Value) (u_whollyNewSubsets_o0_ : Value)
   (X0 : Stand p l e (oR 9 rc rs 256) s m args below meth c T0 locs cells slots) (hx : p.tables.exec = Jvm.exec) (hZ : Z.Warmed39 s.vm) (hw : oH a0 Z) (hby : c.code = prog_7_method_1_code) (hml : c.maxLocals = 17) (hown : s.vm.findClass oC3 = some m.cls) (e0 : T0.heap = h0) (N0 : Fr n0 locs) (Z0 : n0 ≤ h0.size) (hnm : meth.name = "<init>") (E_o0_ : Exa Z h0 o0_ oC3) (F_clients_o0_ : Fld Z h0 o0_ oC3 "clients" "I" u_clients_o0_) (g_o0_ : n0 ≤ o0_) (F_backends_o0_ : Fld Z h0 o0_ oC3 "backends" "I" u_backends_o0_) (F_subsetSize_o0_ : Fld Z h0 o0_ oC3 "subsetSize" "I" u_subsetSize_o0_) (F_toClients_o0_ : Fld Z h0 o0_ oC3 "toClients" "I" u_toClients_o0_) (F_toBackends_o0_ : Fld Z h0 o0_ oC3 "toBackends" "I" u_toBackends_o0_) (F_toSubsetSize_o0_ : Fld Z h0 o0_ oC3 "toSubsetSize" "I" u_toSubsetSize_o0_) (F_replaced_o0_ : Fld Z h0 o0_ oC3 "replaced" "J" u_replaced_o0_) (F_mostReplacedByOneClient_o0_ : Fld Z h0 o0_ oC3 "mostReplacedByOneClient" "I" u_mostReplacedByOneClient_o0_) (F_whollyNewSubsets_o0_ : Fld Z h0 o0_ oC3 "whollyNewSubsets" "I" u_whollyNewSubsets_o0_) (hf0 : ¬ (i1_ < (1 : Int32))) (hf1 : ¬ (i4_ < (1 : Int32))) (hf2 : own_siOK i2_ i3_ l0_ ft0_) (hf3 : own_siOK i5_ i6_ l1_ ft1_) (hf4 : (own_mi i1_ i4_) = k_) (hc : cells + (1 + 1) ≤ rc) (hs : slots + (5 + 5) ≤ rs) :
   ∃ (b3 : Addr) (b5 : Addr) (T' : State) (locs' : List Loc), Stand p l e (oR 9 rc rs 256) s m args below meth c T' locs' (cells + 1 + 1) (slots + 5 + 5) ∧ Fr n0 locs' ∧ Keep h0 T'.heap [o0_] ∧ h0.size ≤ b3 ∧ h0.size ≤ b5 ∧ b3 ≠ b5 ∧ Exa Z T'.heap o0_ oC3 ∧ Fld Z T'.heap o0_ oC3 "clients" "I" (.int i1_) ∧ Fld Z T'.heap o0_ oC3 "subsetSize" "I" (.int i3_) ∧ Fld Z T'.heap o0_ oC3 "replaced" "J" u_replaced_o0_ ∧ Fld Z T'.heap o0_ oC3 "mostReplacedByOneClient" "I" u_mostReplacedByOneClient_o0_ ∧ Fld Z T'.heap o0_ oC3 "whollyNewSubsets" "I" u_whollyNewSubsets_o0_ ∧ Exa Z T'.heap b3 oC0 ∧ Fld Z T'.heap b3 oC0 "backends" "I" (.int i2_) ∧ Fld Z T'.heap b3 oC0 "subsetSize" "I" (.int i3_) ∧ Fld Z T'.heap b3 oC0 "lots" "I" (.int (Int32.ofNat l0_)) ∧ Fld Z T'.heap b3 oC0 "ringBits" "I" (.int (own_rb l0_)) ∧ Fld Z T'.heap b3 oC0 "fitsInARow" "Z" (.int ft0_) ∧ Exa Z T'.heap b5 oC0 ∧ Fld Z T'.heap b5 oC0 "backends" "I" (.int i5_) ∧ Fld Z T'.heap b5 oC0 "subsetSize" "I" (.int i6_) ∧ Fld Z T'.heap b5 oC0 "lots" "I" (.int (Int32.ofNat l1_)) ∧ Fld Z T'.heap b5 oC0 "ringBits" "I" (.int (own_rb l1_)) ∧ Fld Z T'.heap b5 oC0 "fitsInARow" "Z" (.int ft1_) ∧
     ∀ target, Steps p.tables e below (T'.setTop (mkF m 106 #[oA o0_, oI i1_, oI i2_, oI i3_, oI i4_, oI i5_, oI i6_, oA b3, oA b5, oJ 0, .second, oI 0, oI 0, oI k_, oI 0, .unset, .unset] [])) target → Steps p.tables e below (T0.setTop (mkF m 0 #[oA o0_, oI i1_, oI i2_, oI i3_, oI i4_, oI i5_, oI i6_, .unset, .unset, .unset, .unset, .unset, .unset, .unset, .unset, .unset, .unset] [])) target := by
 obtain ⟨T1, X1, e1, st1⟩ := initO X0 hx hZ hown (oW hw 11 rfl) (oW hw 12 rfl) (oW hw 13 rfl) e0 (g := (mkF m 1 #[oA o0_, oI i1_, oI i2_, oI i3_, oI i4_, oI i5_, oI i6_, .unset, .unset, .unset, .unset, .unset, .unset, .unset, .unset, .unset, .unset] [(.ref o0_)])) rfl (by rw [hml]; rfl) rfl (oG hby d2 1 rfl) (Nat.le_of_ble_eq_true rfl) (W := 0) (by show 2 * 0 + _ ≤ _; exact Nat.le_of_eq rfl) (Nat.le_of_ble_eq_true rfl)
 obtain ⟨_, _, ⟨T2, L2, k2, n2⟩, -, X2, ⟨Lc2, hQ2, l2, y2, z2⟩, st2⟩ := Jvm.LawKit.callS X1 hx (y := oM30) hown (mvT hZ (oW hw 14 rfl)) (mvT hZ (oW hw 15 rfl)) (mvT hZ (oW hw 16 rfl)) (mvT hZ (oW hw 17 rfl)) (by decide) (backOf (W := 0) (own_b4_t l Z a0 hw [] i1_ h0 n0 Z0 hf0) hZ (oW hw 17 rfl) (oW hw 16 rfl) (Nat.le_of_ble_eq_true rfl) (Nat.le_of_ble_eq_true rfl)) (g := (mkF m 5 #[oA o0_, oI i1_, oI i2_, oI i3_, oI i4_, oI i5_, oI i6_, .unset, .unset, .unset, .unset, .unset, .unset, .unset, .unset, .unset, .unset] [(.int i1_)])) rfl (by rw [hml]; rfl) (argsL := [(.int i1_)]) (rest := []) (lenOf own_pd3 rfl) rfl (by show 2 * 0 + _ ≤ _; exact Nat.le_of_eq rfl) (oG hby d2 3 rfl) (fun _ _ => ⟨rfl, e1, (show cells + 0 ≤ rc from by omega), (show slots + 0 ≤ rs from by omega)⟩)
 dsimp only [Pt.U, Pt.locs, Pt.cells, Pt.slots] at X2 l2 y2 z2 st2 hQ2
 subst l2; rw [y2, z2] at X2
 obtain ⟨rfl, N2q, e2⟩ := hQ2
 have N2 := Fr.app N0 N2q
 obtain ⟨T3, h3, X3, e3, E3, A3, D3, -, st3⟩ := newO X2 hx hZ hown (oW hw 18 rfl) (oW hw 19 rfl) (oW hw 16 rfl) e2 (g := (mkF m 29 #[oA o0_, oI i1_, oI i2_, oI i3_, oI i4_, oI i5_, oI i6_, .unset, .unset, .unset, .unset, .unset, .unset, .unset, .unset, .unset, .unset] [])) rfl (oG hby d2 7 rfl) (show cells + 1 ≤ rc from by omega) (show slots + 5 ≤ rs from by omega)
 obtain ⟨b3, g3⟩ : ∃ z, z = h0.size := ⟨_, rfl⟩
 rw [← g3] at A3 D3 st3
 have lo_b3 : h0.size ≤ b3 := Nat.le_of_eq g3.symm
 have sz_b3 : h0.size ≤ b3 := Nat.le_trans (Keep.refl h0 [o0_]).1 lo_b3
 have g_b3 : n0 ≤ b3 := Nat.le_trans Z0 sz_b3
 have K3 : Keep h0 h3 [o0_] := (Keep.refl h0 [o0_]).ext E3
 have F3_backends : Fld Z h3 b3 oC0 "backends" "I" (.int 0) := D3 (Or.inr (oW hw 25 rfl)) (ty := .int) (by decide)
 have F3_subsetSize : Fld Z h3 b3 oC0 "subsetSize" "I" (.int 0) := D3 (Or.inr (oW hw 27 rfl)) (ty := .int) (by decide)
 have F3_lots : Fld Z h3 b3 oC0 "lots" "I" (.int 0) := D3 (Or.inr (oW hw 29 rfl)) (ty := .int) (by decide)
 have F3_ringBits : Fld Z h3 b3 oC0 "ringBits" "I" (.int 0) := D3 (Or.inr (oW hw 36 rfl)) (ty := .int) (by decide)
 have F3_fitsInARow : Fld Z h3 b3 oC0 "fitsInARow" "Z" (.int 0) := D3 (Or.inr (oW hw 38 rfl)) (ty := .boolean) (by decide)
 obtain ⟨_, _, ⟨T4, L4, k4, n4⟩, -, X4, ⟨Lc4, hQ4, l4, y4, z4⟩, st4⟩ := X3.specialBack hx (y := oM14) rfl hown (mvT hZ (oW hw 20 rfl)) (mvT hZ (oW hw 21 rfl)) (mvT hZ (oW hw 22 rfl)) (by decide) (backOf (W := 1) (own_siC l Z a0 hw [] b3 i2_ i3_ l0_ ft0_ (.int 0) (.int 0) (.int 0) (.int 0) (.int 0) h3 n0 (Nat.le_trans Z0 K3.1) A3 F3_backends F3_subsetSize F3_lots F3_ringBits F3_fitsInARow g_b3 hf2) hZ (oW hw 22 rfl) (oW hw 16 rfl) (Nat.le_of_ble_eq_true rfl) (Nat.le_of_ble_eq_true rfl)) (g := (mkF m 35 #[oA o0_, oI i1_, oI i2_, oI i3_, oI i4_, oI i5_, oI i6_, .unset, .unset, .unset, .unset, .unset, .unset, .unset, .unset, .unset, .unset] [(.int i3_), (.int i2_), (.ref b3), (.ref b3)])) rfl (by rw [hml]; rfl) (Steps.refl _) (a := b3) (argsL := [(.int i2_), (.int i3_)]) (rest := [(.ref b3)]) (lenOf own_pd19 rfl) rfl (by show 2 * 0 + _ ≤ _; exact Nat.le_of_eq rfl) (oG hby d2 11 rfl) (fun _ _ => ⟨rfl, e3, (show cells + 1 + 0 ≤ rc from by omega), (show slots + 5 + 0 ≤ rs from by omega)⟩)
 dsimp only [Pt.U, Pt.locs, Pt.cells, Pt.slots] at X4 l4 y4 z4 st4 hQ4
 subst l4; rw [y4, z4] at X4
 obtain ⟨rfl, N4q, Kq4, Q4_0, Q4_1, Q4_2, Q4_3, Q4_4, Q4_5⟩ := hQ4
 have N4 := Fr.app N2 N4q
 have K4 : Keep h0 T4.heap [o0_] := K3.trans Kq4 (own_a1 (Or.inr sz_b3))
 obtain ⟨T5, h5, X5, e5, E5, A5, D5, -, st5⟩ := newO X4 hx hZ hown (oW hw 18 rfl) (oW hw 19 rfl) (oW hw 16 rfl) rfl (g := (mkF m 40 #[oA o0_, oI i1_, oI i2_, oI i3_, oI i4_, oI i5_, oI i6_, oA b3, .unset, .unset, .unset, .unset, .unset, .unset, .unset, .unset, .unset] [])) rfl (oG hby d2 13 rfl) (show cells + 1 + 1 ≤ rc from by omega) (show slots + 5 + 5 ≤ rs from by omega)
 obtain ⟨b5, g5⟩ : ∃ z, z = T4.heap.size := ⟨_, rfl⟩
 rw [← g5] at A5 D5 st5
 have lo_b5 : T4.heap.size ≤ b5 := Nat.le_of_eq g5.symm
 have ne_b3_b5 : b3 ≠ b5 := oV Q4_0.lt lo_b5
 have sz_b5 : h0.size ≤ b5 := Nat.le_trans K4.1 lo_b5
 have g_b5 : n0 ≤ b5 := Nat.le_trans Z0 sz_b5
 have K5 : Keep h0 h5 [o0_] := K4.ext E5
 have F5_backends : Fld Z h5 b5 oC0 "backends" "I" (.int 0) := D5 (Or.inr (oW hw 25 rfl)) (ty := .int) (by decide)
 have F5_subsetSize : Fld Z h5 b5 oC0 "subsetSize" "I" (.int 0) := D5 (Or.inr (oW hw 27 rfl)) (ty := .int) (by decide)
 have F5_lots : Fld Z h5 b5 oC0 "lots" "I" (.int 0) := D5 (Or.inr (oW hw 29 rfl)) (ty := .int) (by decide)
 have F5_ringBits : Fld Z h5 b5 oC0 "ringBits" "I" (.int 0) := D5 (Or.inr (oW hw 36 rfl)) (ty := .int) (by decide)
 have F5_fitsInARow : Fld Z h5 b5 oC0 "fitsInARow" "Z" (.int 0) := D5 (Or.inr (oW hw 38 rfl)) (ty := .boolean) (by decide)
 obtain ⟨_, _, ⟨T6, L6, k6, n6⟩, -, X6, ⟨Lc6, hQ6, l6, y6, z6⟩, st6⟩ := X5.specialBack hx (y := oM14) rfl hown (mvT hZ (oW hw 20 rfl)) (mvT hZ (oW hw 21 rfl)) (mvT hZ (oW hw 22 rfl)) (by decide) (backOf (W := 1) (own_siC l Z a0 hw [] b5 i5_ i6_ l1_ ft1_ (.int 0) (.int 0) (.int 0) (.int 0) (.int 0) h5 n0 (Nat.le_trans Z0 K5.1) A5 F5_backends F5_subsetSize F5_lots F5_ringBits F5_fitsInARow g_b5 hf3) hZ (oW hw 22 rfl) (oW hw 16 rfl) (Nat.le_of_ble_eq_true rfl) (Nat.le_of_ble_eq_true rfl)) (g := (mkF m 48 #[oA o0_, oI i1_, oI i2_, oI i3_, oI i4_, oI i5_, oI i6_, oA b3, .unset, .unset, .unset, .unset, .unset, .unset, .unset, .unset, .unset] [(.int i6_), (.int i5_), (.ref b5), (.ref b5)])) rfl (by rw [hml]; rfl) (Steps.refl _) (a := b5) (argsL := [(.int i5_), (.int i6_)]) (rest := [(.ref b5)]) (lenOf own_pd19 rfl) rfl (by show 2 * 0 + _ ≤ _; exact Nat.le_of_eq rfl) (oG hby d2 17 rfl) (fun _ _ => ⟨rfl, e5, (show cells + 1 + 1 + 0 ≤ rc from by omega), (show slots + 5 + 5 + 0 ≤ rs from by omega)⟩)
 dsimp only [Pt.U, Pt.locs, Pt.cells, Pt.slots] at X6 l6 y6 z6 st6 hQ6
 subst l6; rw [y6, z6] at X6
 obtain ⟨rfl, N6q, Kq6, Q6_0, Q6_1, Q6_2, Q6_3, Q6_4, Q6_5⟩ := hQ6
 have N6 := Fr.app N4 N6q
 have K6 : Keep h0 T6.heap [o0_] := K5.trans Kq6 (own_a1 (Or.inr sz_b5))
 have f7_o0_ := ((((E_o0_.ext E3).keep Kq4).ext E5).keep Kq6)
 have f8_o0__clients := ((((F_clients_o0_.ext E3).keep Kq4 (own_n1 (oV E_o0_.lt sz_b3))).ext E5).keep Kq6 (own_n1 (oV E_o0_.lt sz_b5)))
 obtain ⟨T9, h9, X9, e9, W9, st9⟩ := putF X6 hx hZ hown (host := "") (Or.inl (oW hw 39 rfl)) Via.refl rfl f8_o0__clients f7_o0_ (Or.inr ⟨(oW hw 40 rfl), rfl, hnm⟩) (oW hw 6 rfl) (ty := .int) (by decide) rfl rfl (g := (mkF m 55 #[oA o0_, oI i1_, oI i2_, oI i3_, oI i4_, oI i5_, oI i6_, oA b3, oA b5, .unset, .unset, .unset, .unset, .unset, .unset, .unset, .unset] [(.int i1_), (.ref o0_)])) rfl rfl (oG hby d2 21 rfl)
 have Fw9 := f8_o0__clients.same W9
 have K9 : Keep h0 h9 [o0_] := K6.wr W9 (Or.inl (oX 0 rfl))
 have N9 := Fr.snoc X9 N6 g_o0_
 have f10_o0_ := (f7_o0_.wr W9)
 have f11_o0__backends := (((((F_backends_o0_.ext E3).keep Kq4 (own_n1 (oV E_o0_.lt sz_b3))).ext E5).keep Kq6 (own_n1 (oV E_o0_.lt sz_b5))).other W9 (oN (Or.inr (oW hw 42 rfl)) (Or.inr (oW hw 40 rfl)) (t := .int) (t' := .int)))
 obtain ⟨T12, h12, X12, e12, W12, st12⟩ := putF X9 hx hZ hown (host := "") (Or.inl (oW hw 41 rfl)) Via.refl e9 f11_o0__backends f10_o0_ (Or.inr ⟨(oW hw 42 rfl), rfl, hnm⟩) (oW hw 6 rfl) (ty := .int) (by decide) rfl rfl (g := (mkF m 60 #[oA o0_, oI i1_, oI i2_, oI i3_, oI i4_, oI i5_, oI i6_, oA b3, oA b5, .unset, .unset, .unset, .unset, .unset, .unset, .unset, .unset] [(.int i2_), (.ref o0_)])) rfl rfl (oG hby d2 24 rfl)
 have Fw12 := f11_o0__backends.same W12
 have K12 : Keep h0 h12 [o0_] := K9.wr W12 (Or.inl (oX 0 rfl))
 have N12 := Fr.snoc X12 N9 g_o0_
 have f13_o0_ := (f10_o0_.wr W12)
 have f14_o0__subsetSize := ((((((F_subsetSize_o0_.ext E3).keep Kq4 (own_n1 (oV E_o0_.lt sz_b3))).ext E5).keep Kq6 (own_n1 (oV E_o0_.lt sz_b5))).other W9 (oN (Or.inr (oW hw 44 rfl)) (Or.inr (oW hw 40 rfl)) (t := .int) (t' := .int))).other W12 (oN (Or.inr (oW hw 44 rfl)) (Or.inr (oW hw 42 rfl)) (t := .int) (t' := .int)))
 obtain ⟨T15, h15, X15, e15, W15, st15⟩ := putF X12 hx hZ hown (host := "") (Or.inl (oW hw 43 rfl)) Via.refl e12 f14_o0__subsetSize f13_o0_ (Or.inr ⟨(oW hw 44 rfl), rfl, hnm⟩) (oW hw 6 rfl) (ty := .int) (by decide) rfl rfl (g := (mkF m 65 #[oA o0_, oI i1_, oI i2_, oI i3_, oI i4_, oI i5_, oI i6_, oA b3, oA b5, .unset, .unset, .unset, .unset, .unset, .unset, .unset, .unset] [(.int i3_), (.ref o0_)])) rfl rfl (oG hby d2 27 rfl)
 have Fw15 := f14_o0__subsetSize.same W15
 have K15 : Keep h0 h15 [o0_] := K12.wr W15 (Or.inl (oX 0 rfl))
 have N15 := Fr.snoc X15 N12 g_o0_
 have f16_o0_ := (f13_o0_.wr W15)
 have f17_o0__toClients := (((((((F_toClients_o0_.ext E3).keep Kq4 (own_n1 (oV E_o0_.lt sz_b3))).ext E5).keep Kq6 (own_n1 (oV E_o0_.lt sz_b5))).other W9 (oN (Or.inr (oW hw 46 rfl)) (Or.inr (oW hw 40 rfl)) (t := .int) (t' := .int))).other W12 (oN (Or.inr (oW hw 46 rfl)) (Or.inr (oW hw 42 rfl)) (t := .int) (t' := .int))).other W15 (oN (Or.inr (oW hw 46 rfl)) (Or.inr (oW hw 44 rfl)) (t := .int) (t' := .int)))
 obtain ⟨T18, h18, X18, e18, W18, st18⟩ := putF X15 hx hZ hown (host := "") (Or.inl (oW hw 45 rfl)) Via.refl e15 f17_o0__toClients f16_o0_ (Or.inr ⟨(oW hw 46 rfl), rfl, hnm⟩) (oW hw 6 rfl) (ty := .int) (by decide) rfl rfl (g := (mkF m 71 #[oA o0_, oI i1_, oI i2_, oI i3_, oI i4_, oI i5_, oI i6_, oA b3, oA b5, .unset, .unset, .unset, .unset, .unset, .unset, .unset, .unset] [(.int i4_), (.ref o0_)])) rfl rfl (oG hby d2 30 rfl)
 have Fw18 := f17_o0__toClients.same W18
 have K18 : Keep h0 h18 [o0_] := K15.wr W18 (Or.inl (oX 0 rfl))
 have N18 := Fr.snoc X18 N15 g_o0_
 have f19_o0_ := (f16_o0_.wr W18)
 have f20_o0__toBackends := ((((((((F_toBackends_o0_.ext E3).keep Kq4 (own_n1 (oV E_o0_.lt sz_b3))).ext E5).keep Kq6 (own_n1 (oV E_o0_.lt sz_b5))).other W9 (oN (Or.inr (oW hw 48 rfl)) (Or.inr (oW hw 40 rfl)) (t := .int) (t' := .int))).other W12 (oN (Or.inr (oW hw 48 rfl)) (Or.inr (oW hw 42 rfl)) (t := .int) (t' := .int))).other W15 (oN (Or.inr (oW hw 48 rfl)) (Or.inr (oW hw 44 rfl)) (t := .int) (t' := .int))).other W18 (oN (Or.inr (oW hw 48 rfl)) (Or.inr (oW hw 46 rfl)) (t := .int) (t' := .int)))
 obtain ⟨T21, h21, X21, e21, W21, st21⟩ := putF X18 hx hZ hown (host := "") (Or.inl (oW hw 47 rfl)) Via.refl e18 f20_o0__toBackends f19_o0_ (Or.inr ⟨(oW hw 48 rfl), rfl, hnm⟩) (oW hw 6 rfl) (ty := .int) (by decide) rfl rfl (g := (mkF m 77 #[oA o0_, oI i1_, oI i2_, oI i3_, oI i4_, oI i5_, oI i6_, oA b3, oA b5, .unset, .unset, .unset, .unset, .unset, .unset, .unset, .unset] [(.int i5_), (.ref o0_)])) rfl rfl (oG hby d2 33 rfl)
 have Fw21 := f20_o0__toBackends.same W21
 have K21 : Keep h0 h21 [o0_] := K18.wr W21 (Or.inl (oX 0 rfl))
 have N21 := Fr.snoc X21 N18 g_o0_
 have f22_o0_ := (f19_o0_.wr W21)
 have f23_o0__toSubsetSize := (((((((((F_toSubsetSize_o0_.ext E3).keep Kq4 (own_n1 (oV E_o0_.lt sz_b3))).ext E5).keep Kq6 (own_n1 (oV E_o0_.lt sz_b5))).other W9 (oN (Or.inr (oW hw 50 rfl)) (Or.inr (oW hw 40 rfl)) (t := .int) (t' := .int))).other W12 (oN (Or.inr (oW hw 50 rfl)) (Or.inr (oW hw 42 rfl)) (t := .int) (t' := .int))).other W15 (oN (Or.inr (oW hw 50 rfl)) (Or.inr (oW hw 44 rfl)) (t := .int) (t' := .int))).other W18 (oN (Or.inr (oW hw 50 rfl)) (Or.inr (oW hw 46 rfl)) (t := .int) (t' := .int))).other W21 (oN (Or.inr (oW hw 50 rfl)) (Or.inr (oW hw 48 rfl)) (t := .int) (t' := .int)))
 obtain ⟨T24, h24, X24, e24, W24, st24⟩ := putF X21 hx hZ hown (host := "") (Or.inl (oW hw 49 rfl)) Via.refl e21 f23_o0__toSubsetSize f22_o0_ (Or.inr ⟨(oW hw 50 rfl), rfl, hnm⟩) (oW hw 6 rfl) (ty := .int) (by decide) rfl rfl (g := (mkF m 83 #[oA o0_, oI i1_, oI i2_, oI i3_, oI i4_, oI i5_, oI i6_, oA b3, oA b5, .unset, .unset, .unset, .unset, .unset, .unset, .unset, .unset] [(.int i6_), (.ref o0_)])) rfl rfl (oG hby d2 36 rfl)
 have Fw24 := f23_o0__toSubsetSize.same W24
 have K24 : Keep h0 h24 [o0_] := K21.wr W24 (Or.inl (oX 0 rfl))
 have N24 := Fr.snoc X24 N21 g_o0_
 obtain ⟨_, _, ⟨T25, L25, k25, n25⟩, -, X25, ⟨Lc25, hQ25, l25, y25, z25⟩, st25⟩ := Jvm.LawKit.callS X24 hx (y := oM18) hown (mvT hZ (oW hw 51 rfl)) (mvT hZ (oW hw 52 rfl)) (mvT hZ (oW hw 3 rfl)) (mvT hZ (oW hw 53 rfl)) (by decide) (backOf (W := 0) (own_miC l Z a0 hw [] i1_ i4_ h24 n0 (Nat.le_trans Z0 K24.1) ) hZ (oW hw 53 rfl) (oW hw 3 rfl) (Nat.le_of_ble_eq_true rfl) (Nat.le_of_ble_eq_true rfl)) (g := (mkF m 98 #[oA o0_, oI i1_, oI i2_, oI i3_, oI i4_, oI i5_, oI i6_, oA b3, oA b5, oJ 0, .second, oI 0, oI 0, .unset, .unset, .unset, .unset] [(.int i4_), (.int i1_)])) rfl (by rw [hml]; rfl) (argsL := [(.int i1_), (.int i4_)]) (rest := []) (lenOf own_pd16 rfl) rfl (by show 2 * 0 + _ ≤ _; exact Nat.le_of_eq rfl) (oG hby d2 45 rfl) (fun _ _ => ⟨rfl, e24, (show cells + 1 + 1 + 0 ≤ rc from by omega), (show slots + 5 + 5 + 0 ≤ rs from by omega)⟩)
 dsimp only [Pt.U, Pt.locs, Pt.cells, Pt.slots] at X25 l25 y25 z25 st25 hQ25
 subst l25; rw [y25, z25] at X25
 obtain ⟨rfl, N25q, e25⟩ := hQ25
 have N25 := Fr.app N24 N25q
 have f26_o0__replaced := ((((((((((F_replaced_o0_.ext E3).keep Kq4 (own_n1 (oV E_o0_.lt sz_b3))).ext E5).keep Kq6 (own_n1 (oV E_o0_.lt sz_b5))).other W9 (oN (Or.inr (oW hw 251 rfl)) (Or.inr (oW hw 40 rfl)) (t := .long) (t' := .int))).other W12 (oN (Or.inr (oW hw 251 rfl)) (Or.inr (oW hw 42 rfl)) (t := .long) (t' := .int))).other W15 (oN (Or.inr (oW hw 251 rfl)) (Or.inr (oW hw 44 rfl)) (t := .long) (t' := .int))).other W18 (oN (Or.inr (oW hw 251 rfl)) (Or.inr (oW hw 46 rfl)) (t := .long) (t' := .int))).other W21 (oN (Or.inr (oW hw 251 rfl)) (Or.inr (oW hw 48 rfl)) (t := .long) (t' := .int))).other W24 (oN (Or.inr (oW hw 251 rfl)) (Or.inr (oW hw 50 rfl)) (t := .long) (t' := .int)))
 have f27_o0__mostReplacedByOneCli := ((((((((((F_mostReplacedByOneClient_o0_.ext E3).keep Kq4 (own_n1 (oV E_o0_.lt sz_b3))).ext E5).keep Kq6 (own_n1 (oV E_o0_.lt sz_b5))).other W9 (oN (Or.inr (oW hw 253 rfl)) (Or.inr (oW hw 40 rfl)) (t := .int) (t' := .int))).other W12 (oN (Or.inr (oW hw 253 rfl)) (Or.inr (oW hw 42 rfl)) (t := .int) (t' := .int))).other W15 (oN (Or.inr (oW hw 253 rfl)) (Or.inr (oW hw 44 rfl)) (t := .int) (t' := .int))).other W18 (oN (Or.inr (oW hw 253 rfl)) (Or.inr (oW hw 46 rfl)) (t := .int) (t' := .int))).other W21 (oN (Or.inr (oW hw 253 rfl)) (Or.inr (oW hw 48 rfl)) (t := .int) (t' := .int))).other W24 (oN (Or.inr (oW hw 253 rfl)) (Or.inr (oW hw 50 rfl)) (t := .int) (t' := .int)))
 have f28_o0__whollyNewSubsets := ((((((((((F_whollyNewSubsets_o0_.ext E3).keep Kq4 (own_n1 (oV E_o0_.lt sz_b3))).ext E5).keep Kq6 (own_n1 (oV E_o0_.lt sz_b5))).other W9 (oN (Or.inr (oW hw 255 rfl)) (Or.inr (oW hw 40 rfl)) (t := .int) (t' := .int))).other W12 (oN (Or.inr (oW hw 255 rfl)) (Or.inr (oW hw 42 rfl)) (t := .int) (t' := .int))).other W15 (oN (Or.inr (oW hw 255 rfl)) (Or.inr (oW hw 44 rfl)) (t := .int) (t' := .int))).other W18 (oN (Or.inr (oW hw 255 rfl)) (Or.inr (oW hw 46 rfl)) (t := .int) (t' := .int))).other W21 (oN (Or.inr (oW hw 255 rfl)) (Or.inr (oW hw 48 rfl)) (t := .int) (t' := .int))).other W24 (oN (Or.inr (oW hw 255 rfl)) (Or.inr (oW hw 50 rfl)) (t := .int) (t' := .int)))
 have f29_o0_ := (f22_o0_.wr W24)
 have f30_o0__clients := (((((Fw9.other W12 (oN (Or.inr (oW hw 40 rfl)) (Or.inr (oW hw 42 rfl)) (t := .int) (t' := .int))).other W15 (oN (Or.inr (oW hw 40 rfl)) (Or.inr (oW hw 44 rfl)) (t := .int) (t' := .int))).other W18 (oN (Or.inr (oW hw 40 rfl)) (Or.inr (oW hw 46 rfl)) (t := .int) (t' := .int))).other W21 (oN (Or.inr (oW hw 40 rfl)) (Or.inr (oW hw 48 rfl)) (t := .int) (t' := .int))).other W24 (oN (Or.inr (oW hw 40 rfl)) (Or.inr (oW hw 50 rfl)) (t := .int) (t' := .int)))
 have f31_o0__subsetSize := (((Fw15.other W18 (oN (Or.inr (oW hw 44 rfl)) (Or.inr (oW hw 46 rfl)) (t := .int) (t' := .int))).other W21 (oN (Or.inr (oW hw 44 rfl)) (Or.inr (oW hw 48 rfl)) (t := .int) (t' := .int))).other W24 (oN (Or.inr (oW hw 44 rfl)) (Or.inr (oW hw 50 rfl)) (t := .int) (t' := .int)))
 have f32_b3 := ((((((((Q4_0.ext E5).keep Kq6).wr W9).wr W12).wr W15).wr W18).wr W21).wr W24)
 have f33_b3_backends := ((((((((Q4_1.ext E5).keep Kq6 (own_n1 ne_b3_b5)).other W9 (Or.inl (Ne.symm (oV E_o0_.lt sz_b3)))).other W12 (Or.inl (Ne.symm (oV E_o0_.lt sz_b3)))).other W15 (Or.inl (Ne.symm (oV E_o0_.lt sz_b3)))).other W18 (Or.inl (Ne.symm (oV E_o0_.lt sz_b3)))).other W21 (Or.inl (Ne.symm (oV E_o0_.lt sz_b3)))).other W24 (Or.inl (Ne.symm (oV E_o0_.lt sz_b3))))
 have f34_b3_subsetSize := ((((((((Q4_2.ext E5).keep Kq6 (own_n1 ne_b3_b5)).other W9 (Or.inl (Ne.symm (oV E_o0_.lt sz_b3)))).other W12 (Or.inl (Ne.symm (oV E_o0_.lt sz_b3)))).other W15 (Or.inl (Ne.symm (oV E_o0_.lt sz_b3)))).other W18 (Or.inl (Ne.symm (oV E_o0_.lt sz_b3)))).other W21 (Or.inl (Ne.symm (oV E_o0_.lt sz_b3)))).other W24 (Or.inl (Ne.symm (oV E_o0_.lt sz_b3))))
 have f35_b3_lots := ((((((((Q4_3.ext E5).keep Kq6 (own_n1 ne_b3_b5)).other W9 (Or.inl (Ne.symm (oV E_o0_.lt sz_b3)))).other W12 (Or.inl (Ne.symm (oV E_o0_.lt sz_b3)))).other W15 (Or.inl (Ne.symm (oV E_o0_.lt sz_b3)))).other W18 (Or.inl (Ne.symm (oV E_o0_.lt sz_b3)))).other W21 (Or.inl (Ne.symm (oV E_o0_.lt sz_b3)))).other W24 (Or.inl (Ne.symm (oV E_o0_.lt sz_b3))))
 have f36_b3_ringBits := ((((((((Q4_4.ext E5).keep Kq6 (own_n1 ne_b3_b5)).other W9 (Or.inl (Ne.symm (oV E_o0_.lt sz_b3)))).other W12 (Or.inl (Ne.symm (oV E_o0_.lt sz_b3)))).other W15 (Or.inl (Ne.symm (oV E_o0_.lt sz_b3)))).other W18 (Or.inl (Ne.symm (oV E_o0_.lt sz_b3)))).other W21 (Or.inl (Ne.symm (oV E_o0_.lt sz_b3)))).other W24 (Or.inl (Ne.symm (oV E_o0_.lt sz_b3))))
 have f37_b3_fitsInARow := ((((((((Q4_5.ext E5).keep Kq6 (own_n1 ne_b3_b5)).other W9 (Or.inl (Ne.symm (oV E_o0_.lt sz_b3)))).other W12 (Or.inl (Ne.symm (oV E_o0_.lt sz_b3)))).other W15 (Or.inl (Ne.symm (oV E_o0_.lt sz_b3)))).other W18 (Or.inl (Ne.symm (oV E_o0_.lt sz_b3)))).other W21 (Or.inl (Ne.symm (oV E_o0_.lt sz_b3)))).other W24 (Or.inl (Ne.symm (oV E_o0_.lt sz_b3))))
 have f38_b5 := ((((((Q6_0.wr W9).wr W12).wr W15).wr W18).wr W21).wr W24)
 have f39_b5_backends := ((((((Q6_1.other W9 (Or.inl (Ne.symm (oV E_o0_.lt sz_b5)))).other W12 (Or.inl (Ne.symm (oV E_o0_.lt sz_b5)))).other W15 (Or.inl (Ne.symm (oV E_o0_.lt sz_b5)))).other W18 (Or.inl (Ne.symm (oV E_o0_.lt sz_b5)))).other W21 (Or.inl (Ne.symm (oV E_o0_.lt sz_b5)))).other W24 (Or.inl (Ne.symm (oV E_o0_.lt sz_b5))))
 have f40_b5_subsetSize := ((((((Q6_2.other W9 (Or.inl (Ne.symm (oV E_o0_.lt sz_b5)))).other W12 (Or.inl (Ne.symm (oV E_o0_.lt sz_b5)))).other W15 (Or.inl (Ne.symm (oV E_o0_.lt sz_b5)))).other W18 (Or.inl (Ne.symm (oV E_o0_.lt sz_b5)))).other W21 (Or.inl (Ne.symm (oV E_o0_.lt sz_b5)))).other W24 (Or.inl (Ne.symm (oV E_o0_.lt sz_b5))))
 have f41_b5_lots := ((((((Q6_3.other W9 (Or.inl (Ne.symm (oV E_o0_.lt sz_b5)))).other W12 (Or.inl (Ne.symm (oV E_o0_.lt sz_b5)))).other W15 (Or.inl (Ne.symm (oV E_o0_.lt sz_b5)))).other W18 (Or.inl (Ne.symm (oV E_o0_.lt sz_b5)))).other W21 (Or.inl (Ne.symm (oV E_o0_.lt sz_b5)))).other W24 (Or.inl (Ne.symm (oV E_o0_.lt sz_b5))))
 have f42_b5_ringBits := ((((((Q6_4.other W9 (Or.inl (Ne.symm (oV E_o0_.lt sz_b5)))).other W12 (Or.inl (Ne.symm (oV E_o0_.lt sz_b5)))).other W15 (Or.inl (Ne.symm (oV E_o0_.lt sz_b5)))).other W18 (Or.inl (Ne.symm (oV E_o0_.lt sz_b5)))).other W21 (Or.inl (Ne.symm (oV E_o0_.lt sz_b5)))).other W24 (Or.inl (Ne.symm (oV E_o0_.lt sz_b5))))
 have f43_b5_fitsInARow := ((((((Q6_5.other W9 (Or.inl (Ne.symm (oV E_o0_.lt sz_b5)))).other W12 (Or.inl (Ne.symm (oV E_o0_.lt sz_b5)))).other W15 (Or.inl (Ne.symm (oV E_o0_.lt sz_b5)))).other W18 (Or.inl (Ne.symm (oV E_o0_.lt sz_b5)))).other W21 (Or.inl (Ne.symm (oV E_o0_.lt sz_b5)))).other W24 (Or.inl (Ne.symm (oV E_o0_.lt sz_b5))))
 subst e25
 refine ⟨b3, b5, T25, _, own_same X25 (by omega) (by omega), N25, K24, sz_b3, sz_b5, ne_b3_b5, f29_o0_, f30_o0__clients, f31_o0__subsetSize, f26_o0__replaced, f27_o0__mostReplacedByOneCli, f28_o0__whollyNewSubsets, f32_b3, f33_b3_backends, f34_b3_subsetSize, f35_b3_lots, f36_b3_ringBits, f37_b3_fitsInARow, f38_b5, f39_b5_backends, f40_b5_subsetSize, f41_b5_lots, f42_b5_ringBits, f43_b5_fitsInARow, fun target kt => ?_⟩
 show oZ p e below T0 (mkF m 0 #[oA o0_, oI i1_, oI i2_, oI i3_, oI i4_, oI i5_, oI i6_, .unset, .unset, .unset, .unset, .unset, .unset, .unset, .unset, .unset, .unset] []) _
 refine XS.aloadN X0.here hx rfl (oG hby d2 0 rfl) rfl rfl ?_
 refine st1 _ ?_
 refine XS.iloadN X1.here hx rfl (oG hby d2 2 rfl) rfl ?_
 refine st2 _ ?_
 refine XS.iload X2.here hx rfl (oG hby d2 4 rfl) rfl ?_
 refine XS.iconst X2.here hx rfl (oG hby d2 5 rfl) ?_
 refine XS.icmpYes X2.here hx rfl (pc0 := 11) (pc' := 29) rfl (oG hby d2 6 rfl) rfl (flt hf1).2.1 (by decide) (by decide) ?_
 refine st3 _ ?_
 refine XS.dup X3.here hx rfl (oG hby d2 8 rfl) rfl rfl ?_
 refine XS.iloadN X3.here hx rfl (oG hby d2 9 rfl) rfl ?_
 refine XS.iloadN X3.here hx rfl (oG hby d2 10 rfl) rfl ?_
 show oZ p e below T3 (mkF m 35 #[oA o0_, oI i1_, oI i2_, oI i3_, oI i4_, oI i5_, oI i6_, .unset, .unset, .unset, .unset, .unset, .unset, .unset, .unset, .unset, .unset] [(.int i3_), (.int i2_), (.ref b3), (.ref b3)]) _
 refine st4.trans ?_
 refine XS.astore X4.here hx rfl (oG hby d2 12 rfl) rfl rfl (l' := #[oA o0_, oI i1_, oI i2_, oI i3_, oI i4_, oI i5_, oI i6_, oA b3, .unset, .unset, .unset, .unset, .unset, .unset, .unset, .unset, .unset]) rfl ?_
 refine st5 _ ?_
 refine XS.dup X5.here hx rfl (oG hby d2 14 rfl) rfl rfl ?_
 refine XS.iload X5.here hx rfl (oG hby d2 15 rfl) rfl ?_
 refine XS.iload X5.here hx rfl (oG hby d2 16 rfl) rfl ?_
 refine st6.trans ?_
 refine XS.astore X6.here hx rfl (oG hby d2 18 rfl) rfl rfl (l' := #[oA o0_, oI i1_, oI i2_, oI i3_, oI i4_, oI i5_, oI i6_, oA b3, oA b5, .unset, .unset, .unset, .unset, .unset, .unset, .unset, .unset]) rfl ?_
 refine XS.aloadN X6.here hx rfl (oG hby d2 19 rfl) rfl rfl ?_
 refine XS.iloadN X6.here hx rfl (oG hby d2 20 rfl) rfl ?_
 refine st9 _ ?_
 show oZ p e below T9 (mkF m 58 #[oA o0_, oI i1_, oI i2_, oI i3_, oI i4_, oI i5_, oI i6_, oA b3, oA b5, .unset, .unset, .unset, .unset, .unset, .unset, .unset, .unset] []) _
 refine XS.aloadN X9.here hx rfl (oG hby d2 22 rfl) rfl rfl ?_
 refine XS.iloadN X9.here hx rfl (oG hby d2 23 rfl) rfl ?_
 refine st12 _ ?_
 refine XS.aloadN X12.here hx rfl (oG hby d2 25 rfl) rfl rfl ?_
 refine XS.iloadN X12.here hx rfl (oG hby d2 26 rfl) rfl ?_
 refine st15 _ ?_
 refine XS.aloadN X15.here hx rfl (oG hby d2 28 rfl) rfl rfl ?_
 refine XS.iload X15.here hx rfl (oG hby d2 29 rfl) rfl ?_
 refine st18 _ ?_
 refine XS.aloadN X18.here hx rfl (oG hby d2 31 rfl) rfl rfl ?_
 refine XS.iload X18.here hx rfl (oG hby d2 32 rfl) rfl ?_
 show oZ p e below T18 (mkF m 77 #[oA o0_, oI i1_, oI i2_, oI i3_, oI i4_, oI i5_, oI i6_, oA b3, oA b5, .unset, .unset, .unset, .unset, .unset, .unset, .unset, .unset] [(.int i5_), (.ref o0_)]) _
 refine st21 _ ?_
 refine XS.aloadN X21.here hx rfl (oG hby d2 34 rfl) rfl rfl ?_
 refine XS.iload X21.here hx rfl (oG hby d2 35 rfl) rfl ?_
 refine st24 _ ?_
 refine XS.lconst X24.here hx rfl (oG hby d2 37 rfl) ?_
 show oZ p e below T24 (mkF m 87 #[oA o0_, oI i1_, oI i2_, oI i3_, oI i4_, oI i5_, oI i6_, oA b3, oA b5, .unset, .unset, .unset, .unset, .unset, .unset, .unset, .unset] [(.long 0)]) _
 refine XS.lstore X24.here hx rfl (oG hby d2 38 rfl) rfl (l' := #[oA o0_, oI i1_, oI i2_, oI i3_, oI i4_, oI i5_, oI i6_, oA b3, oA b5, oJ 0, .second, .unset, .unset, .unset, .unset, .unset, .unset]) rfl ?_
 refine XS.iconst X24.here hx rfl (oG hby d2 39 rfl) ?_
 refine XS.istore X24.here hx rfl (oG hby d2 40 rfl) rfl (l' := #[oA o0_, oI i1_, oI i2_, oI i3_, oI i4_, oI i5_, oI i6_, oA b3, oA b5, oJ 0, .second, oI 0, .unset, .unset, .unset, .unset, .unset]) rfl ?_
 refine XS.iconst X24.here hx rfl (oG hby d2 41 rfl) ?_
 refine XS.istore X24.here hx rfl (oG hby d2 42 rfl) rfl (l' := #[oA o0_, oI i1_, oI i2_, oI i3_, oI i4_, oI i5_, oI i6_, oA b3, oA b5, oJ 0, .second, oI 0, oI 0, .unset, .unset, .unset, .unset]) rfl ?_
 refine XS.iloadN X24.here hx rfl (oG hby d2 43 rfl) rfl ?_
 refine XS.iload X24.here hx rfl (oG hby d2 44 rfl) rfl ?_
 refine st25 _ ?_
 show oZ p e below T25 (mkF m 101 #[oA o0_, oI i1_, oI i2_, oI i3_, oI i4_, oI i5_, oI i6_, oA b3, oA b5, oJ 0, .second, oI 0, oI 0, .unset, .unset, .unset, .unset] [(.int (own_mi i1_ i4_))]) _
 rw [hf4]
 refine XS.istore X25.here hx rfl (oG hby d2 46 rfl) rfl (l' := #[oA o0_, oI i1_, oI i2_, oI i3_, oI i4_, oI i5_, oI i6_, oA b3, oA b5, oJ 0, .second, oI 0, oI 0, oI k_, .unset, .unset, .unset]) rfl ?_
 refine XS.iconst X25.here hx rfl (oG hby d2 47 rfl) ?_
 refine XS.istore X25.here hx rfl (oG hby d2 48 rfl) rfl (l' := #[oA o0_, oI i1_, oI i2_, oI i3_, oI i4_, oI i5_, oI i6_, oA b3, oA b5, oJ 0, .second, oI 0, oI 0, oI k_, oI 0, .unset, .unset]) rfl ?_
 exact kt
theorem own_ch_A (rc : Nat) (rs : Nat) (o0_ : Addr) (i1_ : Int32) (i2_ : Int32) (i3_ : Int32) (i4_ : Int32) (i5_ : Int32) (i6_ : Int32) (o7_ : Addr) (o8_ : Addr) (j9_ : Int64) (i11_ : Int32) (i12_ : Int32) (i13_ : Int32) (i14_ : Int32) (s15_ : Slot) (s16_ : Slot) (l0_ : Nat) (rd0_ : Nat) (cx0_ : Nat) (f_backends_o7_ : Int32) (f_subsetSize_o7_ : Int32) (f_lots_o7_ : Int32) (f_ringBits_o7_ : Int32) (f_fitsInARow_o7_ : Int32) (w_START_ROWS : Addr) (n_w_START_ROWS : Int32) (vs_w_START_ROWS : List Int32) (l1_ : Nat) (rd1_ : Nat) (cx1_ : Nat) (f_backends_o8_ : Int32) (f_subsetSize_o8_ : Int32) (f_lots_o8_ : Int32) (f_ringBits_o8_ : Int32) (f_fitsInARow_o8_ : Int32) (w_NONE : Addr) (n_w_NONE : Int32)
   (X0 : Stand p l e (oR 9 rc rs 256) s m args below meth c T0 locs cells slots) (hx : p.tables.exec = Jvm.exec) (hZ : Z.Warmed39 s.vm) (hw : oH a0 Z) (hby : c.code = prog_7_method_1_code) (hml : c.maxLocals = 17) (hown : s.vm.findClass oC3 = some m.cls) (e0 : T0.heap = h0) (N0 : Fr n0 locs) (Z0 : n0 ≤ h0.size) (E_o7_ : Exa Z h0 o7_ oC0) (F_backends_o7_ : Fld Z h0 o7_ oC0 "backends" "I" (.int f_backends_o7_)) (F_subsetSize_o7_ : Fld Z h0 o7_ oC0 "subsetSize" "I" (.int f_subsetSize_o7_)) (F_lots_o7_ : Fld Z h0 o7_ oC0 "lots" "I" (.int f_lots_o7_)) (F_ringBits_o7_ : Fld Z h0 o7_ oC0 "ringBits" "I" (.int f_ringBits_o7_)) (F_fitsInARow_o7_ : Fld Z h0 o7_ oC0 "fitsInARow" "Z" (.int f_fitsInARow_o7_)) (S_START_ROWS : Sta Z h0 oC0 "START_ROWS" "[I" (.ref w_START_ROWS)) (A_w_START_ROWS : own_il Z h0 w_START_ROWS n_w_START_ROWS vs_w_START_ROWS) (S__assertionsDisabled : Sta Z h0 oC2 "$assertionsDisabled" "Z" (.int 1)) (H_s15_ : (s15_ = .unset ∨ ∃ z : Addr, s15_ = oA z)) (E_o8_ : Exa Z h0 o8_ oC0) (F_backends_o8_ : Fld Z h0 o8_ oC0 "backends" "I" (.int f_backends_o8_)) (F_subsetSize_o8_ : Fld Z h0 o8_ oC0 "subsetSize" "I" (.int f_subsetSize_o8_)) (F_lots_o8_ : Fld Z h0 o8_ oC0 "lots" "I" (.int f_lots_o8_)) (F_ringBits_o8_ : Fld Z h0 o8_ oC0 "ringBits" "I" (.int f_ringBits_o8_)) (F_fitsInARow_o8_ : Fld Z h0 o8_ oC0 "fitsInARow" "Z" (.int f_fitsInARow_o8_)) (S_NONE : Sta Z h0 oC4 "NONE" "[I" (.ref w_NONE)) (A_w_NONE : own_ia Z h0 w_NONE n_w_NONE) (H_s16_ : (s16_ = .unset ∨ ∃ z : Int32, s16_ = oI z)) (hf0 : i14_ < i13_) (hf1 : f_lots_o7_ = Int32.ofNat l0_) (hf2 : f_ringBits_o7_ = own_rb l0_) (hf3 : n_w_START_ROWS = (10 : Int32)) (hf4 : vs_w_START_ROWS = ([0, 8, 2, 4, 6, 1, 9, 5, 3, 7] : List Int32)) (hf5 : own_suOK f_backends_o7_ f_subsetSize_o7_ i14_ f_fitsInARow_o7_ l0_ rd0_ cx0_ 91) (hf6 : f_lots_o8_ = Int32.ofNat l1_) (hf7 : f_ringBits_o8_ = own_rb l1_) (hf8 : own_suOK f_backends_o8_ f_subsetSize_o8_ i14_ f_fitsInARow_o8_ l1_ rd1_ cx1_ 57) (hf9 : f_subsetSize_o7_.toNatClampNeg ≤ 16) (hf10 : f_subsetSize_o8_.toNatClampNeg ≤ 16) (hc : cells + ((10 + 2 * 91) + (10 + 2 * 57) + 5) ≤ rc) (hs : slots + ((80 + 11 * 91) + (80 + 11 * 57) + (4 * 16 + 2)) ≤ rs) :
   ∃ (r1_r : Addr) (v13_y : Int32) (T' : State) (locs' : List Loc), Stand p l e (oR 9 rc rs 256) s m args below meth c T' locs' (cells + (10 + 2 * 91) + (10 + 2 * 57) + 5) (slots + (80 + 11 * 91) + (80 + 11 * 57) + (4 * 16 + 2)) ∧ Fr n0 locs' ∧ Keep h0 T'.heap [] ∧ h0.size ≤ r1_r ∧ own_ia Z T'.heap r1_r f_subsetSize_o7_ ∧
     ∀ target, Steps p.tables e below (T'.setTop (mkF m 139 #[oA o0_, oI i1_, oI i2_, oI i3_, oI i4_, oI i5_, oI i6_, oA o7_, oA o8_, oJ j9_, .second, oI i11_, oI i12_, oI i13_, oI i14_, oA r1_r, oI v13_y] [])) target → Steps p.tables e below (T0.setTop (mkF m 106 #[oA o0_, oI i1_, oI i2_, oI i3_, oI i4_, oI i5_, oI i6_, oA o7_, oA o8_, oJ j9_, .second, oI i11_, oI i12_, oI i13_, oI i14_, s15_, s16_] [])) target := by
 obtain ⟨cq1, kq1, q1a, q1b, q1c⟩ := isOf hZ e0 E_o7_
 obtain ⟨_, _, ⟨T1, L1, k1, n1⟩, -, X1, ⟨Lc1, hQ1, l1, y1, z1⟩, st1⟩ := X0.virtualBack hx (y := oM3) (z := oM3) hown (mvT hZ (oW hw 54 rfl)) (mvT hZ (oW hw 55 rfl)) (notFace_of_selects (args := #[]) (mvT hZ (oW hw 57 rfl))) (mvT hZ (oW hw 57 rfl)) (mvT hZ (oW hw 56 rfl)) (by decide) (backOf (W := 0) (own_subD l Z a0 hw [] o7_ i14_ w_START_ROWS f_backends_o7_ f_subsetSize_o7_ f_lots_o7_ f_ringBits_o7_ f_fitsInARow_o7_ n_w_START_ROWS vs_w_START_ROWS l0_ rd0_ cx0_ 91 h0 n0 Z0 E_o7_ F_backends_o7_ F_subsetSize_o7_ F_lots_o7_ F_ringBits_o7_ F_fitsInARow_o7_ S_START_ROWS A_w_START_ROWS S__assertionsDisabled hf1 hf2 hf3 hf4 hf5) hZ (oW hw 58 rfl) (oW hw 16 rfl) (Nat.le_of_ble_eq_true rfl) (Nat.le_of_ble_eq_true rfl)) q1a q1c (g := (mkF m 117 #[oA o0_, oI i1_, oI i2_, oI i3_, oI i4_, oI i5_, oI i6_, oA o7_, oA o8_, oJ j9_, .second, oI i11_, oI i12_, oI i13_, oI i14_, s15_, s16_] [(.int i14_), (.ref o7_)])) rfl (by rw [hml]; rfl) (Steps.refl _) (argsL := [(.int i14_)]) (rest := []) (lenOf own_pd15 rfl) rfl (by show 2 * 0 + _ ≤ _; exact Nat.le_of_eq rfl) (oG hby d2 54 rfl) (fun _ _ => ⟨rfl, e0, (show cells + (10 + 2 * 91) ≤ rc from by omega), (show slots + (80 + 11 * 91) ≤ rs from by omega)⟩)
 dsimp only [Pt.U, Pt.locs, Pt.cells, Pt.slots] at X1 l1 y1 z1 st1 hQ1
 subst l1; rw [y1, z1] at X1
 obtain ⟨r1_r, rfl, N1q, Kq1, lo_r1_r, Q1_0⟩ := hQ1
 have N1 := Fr.app N0 N1q
 have ne_o7__r1_r : o7_ ≠ r1_r := oV E_o7_.lt lo_r1_r
 have ne_w_START_ROWS_r1_r : w_START_ROWS ≠ r1_r := oV A_w_START_ROWS.lt lo_r1_r
 have sz_r1_r : h0.size ≤ r1_r := Nat.le_trans (Keep.refl h0 []).1 lo_r1_r
 have g_r1_r : n0 ≤ r1_r := Nat.le_trans Z0 sz_r1_r
 have K1 : Keep h0 T1.heap [] := (Keep.refl h0 []).trans Kq1 own_a0
 have f3_o8_ := (E_o8_.keep Kq1)
 have f4_o8__backends := (F_backends_o8_.keep Kq1 (own_n0 _))
 have f5_o8__subsetSize := (F_subsetSize_o8_.keep Kq1 (own_n0 _))
 have f6_o8__lots := (F_lots_o8_.keep Kq1 (own_n0 _))
 have f7_o8__ringBits := (F_ringBits_o8_.keep Kq1 (own_n0 _))
 have f8_o8__fitsInARow := (F_fitsInARow_o8_.keep Kq1 (own_n0 _))
 have f9_com_example_narrows_narr := (own_sta_k S_START_ROWS Kq1 (own_a0 ))
 have f10_w_START_ROWS := (A_w_START_ROWS.keep Kq1 (own_n0 _))
 have f11_java_util_BitSet__assert := (own_sta_k S__assertionsDisabled Kq1 (own_a0 ))
 obtain ⟨cq2, kq2, q2a, q2b, q2c⟩ := isOf hZ rfl f3_o8_
 obtain ⟨_, _, ⟨T2, L2, k2, n2⟩, -, X2, ⟨Lc2, hQ2, l2, y2, z2⟩, st2⟩ := X1.virtualBack hx (y := oM3) (z := oM3) hown (mvT hZ (oW hw 54 rfl)) (mvT hZ (oW hw 55 rfl)) (notFace_of_selects (args := #[]) (mvT hZ (oW hw 57 rfl))) (mvT hZ (oW hw 57 rfl)) (mvT hZ (oW hw 56 rfl)) (by decide) (backOf (W := 1) (own_subD l Z a0 hw [] o8_ i14_ w_START_ROWS f_backends_o8_ f_subsetSize_o8_ f_lots_o8_ f_ringBits_o8_ f_fitsInARow_o8_ n_w_START_ROWS vs_w_START_ROWS l1_ rd1_ cx1_ 57 T1.heap n0 (Nat.le_trans Z0 K1.1) f3_o8_ f4_o8__backends f5_o8__subsetSize f6_o8__lots f7_o8__ringBits f8_o8__fitsInARow f9_com_example_narrows_narr f10_w_START_ROWS f11_java_util_BitSet__assert hf6 hf7 hf3 hf4 hf8) hZ (oW hw 58 rfl) (oW hw 16 rfl) (Nat.le_of_ble_eq_true rfl) (Nat.le_of_ble_eq_true rfl)) q2a q2c (g := (mkF m 128 #[oA o0_, oI i1_, oI i2_, oI i3_, oI i4_, oI i5_, oI i6_, oA o7_, oA o8_, oJ j9_, .second, oI i11_, oI i12_, oI i13_, oI i14_, oA r1_r, s16_] [(.int i14_), (.ref o8_), (.ref r1_r)])) rfl (by rw [hml]; rfl) (Steps.refl _) (argsL := [(.int i14_)]) (rest := [(.ref r1_r)]) (lenOf own_pd15 rfl) rfl (by show 2 * 0 + _ ≤ _; exact Nat.le_of_eq rfl) (oG hby d2 59 rfl) (fun _ _ => ⟨rfl, rfl, (show cells + (10 + 2 * 91) + (10 + 2 * 57) ≤ rc from by omega), (show slots + (80 + 11 * 91) + (80 + 11 * 57) ≤ rs from by omega)⟩)
 dsimp only [Pt.U, Pt.locs, Pt.cells, Pt.slots] at X2 l2 y2 z2 st2 hQ2
 subst l2; rw [y2, z2] at X2
 obtain ⟨r2_r, rfl, N2q, Kq2, lo_r2_r, Q2_0⟩ := hQ2
 have N2 := Fr.app N1 N2q
 have f12_o7_ := (E_o7_.keep Kq1)
 have ne_o7__r2_r : o7_ ≠ r2_r := oV f12_o7_.lt lo_r2_r
 have ne_o8__r2_r : o8_ ≠ r2_r := oV f3_o8_.lt lo_r2_r
 have ne_w_START_ROWS_r2_r : w_START_ROWS ≠ r2_r := oV f10_w_START_ROWS.lt lo_r2_r
 have ne_r1_r_r2_r : r1_r ≠ r2_r := oV Q1_0.lt lo_r2_r
 have sz_r2_r : h0.size ≤ r2_r := Nat.le_trans K1.1 lo_r2_r
 have g_r2_r : n0 ≤ r2_r := Nat.le_trans Z0 sz_r2_r
 have K2 : Keep h0 T2.heap [] := K1.trans Kq2 own_a0
 have f14_com_example_narrows_narr := (own_sta_k (own_sta_k S_NONE Kq1 (own_a0 )) Kq2 (own_a0 ))
 have f15_w_NONE := ((A_w_NONE.keep Kq1 (own_n0 _)).keep Kq2 (own_n0 _))
 have f16_r1_r := (Q1_0.keep Kq2 (own_n0 _))
 obtain ⟨_, _, ⟨T13, L13, k13, n13⟩, -, X13, ⟨Lc13, hQ13, l13, y13, z13⟩, st13⟩ := Jvm.LawKit.callS X2 hx (y := oM19) hown (mvT hZ (oW hw 217 rfl)) (mvT hZ (oW hw 218 rfl)) (mvT hZ (oW hw 219 rfl)) (mvT hZ (oW hw 220 rfl)) (by decide) (backOf (W := 0) (own_btC l Z a0 hw [] r1_r r2_r w_NONE f_subsetSize_o7_ f_subsetSize_o8_ n_w_NONE T2.heap n0 (Nat.le_trans Z0 K2.1) f14_com_example_narrows_narr f15_w_NONE f16_r1_r Q2_0 hf9 hf10) hZ (oW hw 220 rfl) (oW hw 219 rfl) (Nat.le_of_ble_eq_true rfl) (Nat.le_of_ble_eq_true rfl)) (g := (mkF m 131 #[oA o0_, oI i1_, oI i2_, oI i3_, oI i4_, oI i5_, oI i6_, oA o7_, oA o8_, oJ j9_, .second, oI i11_, oI i12_, oI i13_, oI i14_, oA r1_r, s16_] [(.ref r2_r), (.ref r1_r)])) rfl (by rw [hml]; rfl) (argsL := [(.ref r1_r), (.ref r2_r)]) (rest := []) (lenOf own_pd20 rfl) rfl (by show 2 * 0 + _ ≤ _; exact Nat.le_of_eq rfl) (oG hby d2 60 rfl) (fun _ _ => ⟨rfl, rfl, (show cells + (10 + 2 * 91) + (10 + 2 * 57) + 5 ≤ rc from by omega), (show slots + (80 + 11 * 91) + (80 + 11 * 57) + (4 * 16 + 2) ≤ rs from by omega)⟩)
 dsimp only [Pt.U, Pt.locs, Pt.cells, Pt.slots] at X13 l13 y13 z13 st13 hQ13
 subst l13; rw [y13, z13] at X13
 obtain ⟨r13_r, r13_rr, v13_y, rfl, N13q, Kq13, lo_r13_r, Q13_0, Q13_1, Q13_2⟩ := hQ13
 have N13 := Fr.app N2 N13q
 have f17_o7_ := (f12_o7_.keep Kq2)
 have ne_o7__r13_r : o7_ ≠ r13_r := oV f17_o7_.lt lo_r13_r
 have f18_o8_ := (f3_o8_.keep Kq2)
 have ne_o8__r13_r : o8_ ≠ r13_r := oV f18_o8_.lt lo_r13_r
 have f19_w_START_ROWS := (f10_w_START_ROWS.keep Kq2 (own_n0 _))
 have ne_w_START_ROWS_r13_r : w_START_ROWS ≠ r13_r := oV f19_w_START_ROWS.lt lo_r13_r
 have ne_r1_r_r13_r : r1_r ≠ r13_r := oV f16_r1_r.lt lo_r13_r
 have ne_r2_r_r13_r : r2_r ≠ r13_r := oV Q2_0.lt lo_r13_r
 have ne_w_NONE_r13_r : w_NONE ≠ r13_r := oV f15_w_NONE.lt lo_r13_r
 have sz_r13_r : h0.size ≤ r13_r := Nat.le_trans K2.1 lo_r13_r
 have g_r13_r : n0 ≤ r13_r := Nat.le_trans Z0 sz_r13_r
 have K13 : Keep h0 T13.heap [] := K2.trans Kq13 own_a0
 obtain ⟨cq20, kq20, q20a, q20b, q20c⟩ := isOf hZ rfl Q13_0
 obtain ⟨_, _, ⟨T20, L20, k20, n20⟩, -, X20, ⟨Lc20, hQ20, l20, y20, z20⟩, st20⟩ := X13.virtualBack hx (y := oM17) (z := oM17) hown (mvT hZ (oW hw 244 rfl)) (mvT hZ (oW hw 245 rfl)) (notFace_of_selects (args := #[]) (mvT hZ (oW hw 247 rfl))) (mvT hZ (oW hw 247 rfl)) (mvT hZ (oW hw 246 rfl)) (by decide) (backOf (W := 0) (own_b42_x l Z a0 hw [] r13_r r13_rr v13_y T13.heap n0 (Nat.le_trans Z0 K13.1) Q13_1 Q13_2) hZ (oW hw 248 rfl) (oW hw 219 rfl) (Nat.le_of_ble_eq_true rfl) (Nat.le_of_ble_eq_true rfl)) q20a q20c (g := (mkF m 134 #[oA o0_, oI i1_, oI i2_, oI i3_, oI i4_, oI i5_, oI i6_, oA o7_, oA o8_, oJ j9_, .second, oI i11_, oI i12_, oI i13_, oI i14_, oA r1_r, s16_] [(.ref r13_r)])) rfl (by rw [hml]; rfl) (Steps.refl _) (argsL := []) (rest := []) (lenOf own_pd21 rfl) rfl (by show 2 * 0 + _ ≤ _; exact Nat.le_of_eq rfl) (oG hby d2 61 rfl) (fun _ _ => ⟨rfl, rfl, (show cells + (10 + 2 * 91) + (10 + 2 * 57) + 5 + 0 ≤ rc from by omega), (show slots + (80 + 11 * 91) + (80 + 11 * 57) + (4 * 16 + 2) + 0 ≤ rs from by omega)⟩)
 dsimp only [Pt.U, Pt.locs, Pt.cells, Pt.slots] at X20 l20 y20 z20 st20 hQ20
 subst l20; rw [y20, z20] at X20
 obtain ⟨rfl, N20q, e20⟩ := hQ20
 have N20 := Fr.app N13 N20q
 have f21_r1_r := (f16_r1_r.keep Kq13 (own_n0 _))
 refine ⟨r1_r, v13_y, T20, _, own_same X20 (by omega) (by omega), N20, (by rw [e20]; exact K13), sz_r1_r, (by rw [e20]; exact f21_r1_r), fun target kt => ?_⟩
 show oZ p e below T0 (mkF m 106 #[oA o0_, oI i1_, oI i2_, oI i3_, oI i4_, oI i5_, oI i6_, oA o7_, oA o8_, oJ j9_, .second, oI i11_, oI i12_, oI i13_, oI i14_, s15_, s16_] []) _
 refine XS.iload X0.here hx rfl (oG hby d2 49 rfl) rfl ?_
 refine XS.iload X0.here hx rfl (oG hby d2 50 rfl) rfl ?_
 refine XS.icmpNo X0.here hx rfl (oG hby d2 51 rfl) rfl (tlt hf0).2.1 ?_
 refine XS.aload X0.here hx rfl (oG hby d2 52 rfl) rfl rfl ?_
 refine XS.iload X0.here hx rfl (oG hby d2 53 rfl) rfl ?_
 refine st1.trans ?_
 refine XS.astore X1.here hx rfl (oG hby d2 55 rfl) rfl rfl (l' := #[oA o0_, oI i1_, oI i2_, oI i3_, oI i4_, oI i5_, oI i6_, oA o7_, oA o8_, oJ j9_, .second, oI i11_, oI i12_, oI i13_, oI i14_, oA r1_r, s16_]) (by rcases H_s15_ with rfl | ⟨_, rfl⟩ <;> rfl) ?_
 refine XS.aload X1.here hx rfl (oG hby d2 56 rfl) rfl rfl ?_
 refine XS.aload X1.here hx rfl (oG hby d2 57 rfl) rfl rfl ?_
 refine XS.iload X1.here hx rfl (oG hby d2 58 rfl) rfl ?_
 refine st2.trans ?_
 show oZ p e below T2 (mkF m 131 #[oA o0_, oI i1_, oI i2_, oI i3_, oI i4_, oI i5_, oI i6_, oA o7_, oA o8_, oJ j9_, .second, oI i11_, oI i12_, oI i13_, oI i14_, oA r1_r, s16_] [(.ref r2_r), (.ref r1_r)]) _
 refine st13 _ ?_
 refine st20.trans ?_
 refine XS.istore X20.here hx rfl (oG hby d2 62 rfl) rfl (l' := #[oA o0_, oI i1_, oI i2_, oI i3_, oI i4_, oI i5_, oI i6_, oA o7_, oA o8_, oJ j9_, .second, oI i11_, oI i12_, oI i13_, oI i14_, oA r1_r, oI v13_y]) (by rcases H_s16_ with rfl | ⟨_, rfl⟩ <;> rfl) ?_
 exact kt
theorem own_ch_B (rc : Nat) (rs : Nat) (o0_ : Addr) (i1_ : Int32) (i2_ : Int32) (i3_ : Int32) (i4_ : Int32) (i5_ : Int32) (i6_ : Int32) (o7_ : Addr) (o8_ : Addr) (j9_ : Int64) (i11_ : Int32) (i12_ : Int32) (i13_ : Int32) (i14_ : Int32) (o15_ : Addr) (i16_ : Int32) (n_o15_ : Int32) (k_ : Int32)
   (X0 : Stand p l e (oR 9 rc rs 256) s m args below meth c T0 locs cells slots) (hx : p.tables.exec = Jvm.exec) (hZ : Z.Warmed39 s.vm) (hw : oH a0 Z) (hby : c.code = prog_7_method_1_code) (hml : c.maxLocals = 17) (hown : s.vm.findClass oC3 = some m.cls) (e0 : T0.heap = h0) (N0 : Fr n0 locs) (Z0 : n0 ≤ h0.size) (A_o15_ : own_ia Z h0 o15_ n_o15_) (hf0 : ¬ (i16_ = n_o15_)) (hf1 : (i14_ + (1 : Int32)) = k_) (hc : cells + (0) ≤ rc) (hs : slots + (0) ≤ rs) :
   ∃ (T' : State) (locs' : List Loc), Stand p l e (oR 9 rc rs 256) s m args below meth c T' locs' cells slots ∧ Fr n0 locs' ∧ T'.heap = h0 ∧
     ∀ target, Steps p.tables e below (T'.setTop (mkF m 106 #[oA o0_, oI i1_, oI i2_, oI i3_, oI i4_, oI i5_, oI i6_, oA o7_, oA o8_, oJ (j9_ + (i16_.toInt64)), .second, oI (own_mx i11_ i16_), oI i12_, oI i13_, oI k_, oA o15_, oI i16_] [])) target → Steps p.tables e below (T0.setTop (mkF m 139 #[oA o0_, oI i1_, oI i2_, oI i3_, oI i4_, oI i5_, oI i6_, oA o7_, oA o8_, oJ j9_, .second, oI i11_, oI i12_, oI i13_, oI i14_, oA o15_, oI i16_] [])) target := by
 obtain ⟨_, _, ⟨T1, L1, k1, n1⟩, -, X1, ⟨Lc1, hQ1, l1, y1, z1⟩, st1⟩ := Jvm.LawKit.callS X0 hx (y := oM12) hown (mvT hZ (oW hw 249 rfl)) (mvT hZ (oW hw 2 rfl)) (mvT hZ (oW hw 3 rfl)) (mvT hZ (oW hw 4 rfl)) (by decide) (backOf (W := 0) (own_mxC l Z a0 hw [] i11_ i16_ h0 n0 Z0 ) hZ (oW hw 4 rfl) (oW hw 3 rfl) (Nat.le_of_ble_eq_true rfl) (Nat.le_of_ble_eq_true rfl)) (g := (mkF m 151 #[oA o0_, oI i1_, oI i2_, oI i3_, oI i4_, oI i5_, oI i6_, oA o7_, oA o8_, oJ (j9_ + (i16_.toInt64)), .second, oI i11_, oI i12_, oI i13_, oI i14_, oA o15_, oI i16_] [(.int i16_), (.int i11_)])) rfl (by rw [hml]; rfl) (argsL := [(.int i11_), (.int i16_)]) (rest := []) (lenOf own_pd16 rfl) rfl (by show 2 * 0 + _ ≤ _; exact Nat.le_of_eq rfl) (oG hby d2 70 rfl) (fun _ _ => ⟨rfl, e0, (show cells + 0 ≤ rc from by omega), (show slots + 0 ≤ rs from by omega)⟩)
 dsimp only [Pt.U, Pt.locs, Pt.cells, Pt.slots] at X1 l1 y1 z1 st1 hQ1
 subst l1; rw [y1, z1] at X1
 obtain ⟨rfl, N1q, e1⟩ := hQ1
 have N1 := Fr.app N0 N1q
 obtain ⟨c2, A2, S2, M2⟩ := own_ia_cell A_o15_
 refine ⟨T1, _, X1, N1, e1, fun target kt => ?_⟩
 show oZ p e below T0 (mkF m 139 #[oA o0_, oI i1_, oI i2_, oI i3_, oI i4_, oI i5_, oI i6_, oA o7_, oA o8_, oJ j9_, .second, oI i11_, oI i12_, oI i13_, oI i14_, oA o15_, oI i16_] []) _
 refine XS.lload X0.here hx rfl (oG hby d2 63 rfl) rfl ?_
 refine XS.iload X0.here hx rfl (oG hby d2 64 rfl) rfl ?_
 refine XS.i2l X0.here hx rfl (oG hby d2 65 rfl) rfl ?_
 refine XS.ladd X0.here hx rfl (oG hby d2 66 rfl) rfl ?_
 refine XS.lstore X0.here hx rfl (oG hby d2 67 rfl) rfl (l' := #[oA o0_, oI i1_, oI i2_, oI i3_, oI i4_, oI i5_, oI i6_, oA o7_, oA o8_, oJ (j9_ + (i16_.toInt64)), .second, oI i11_, oI i12_, oI i13_, oI i14_, oA o15_, oI i16_]) rfl ?_
 refine XS.iload X0.here hx rfl (oG hby d2 68 rfl) rfl ?_
 refine XS.iload X0.here hx rfl (oG hby d2 69 rfl) rfl ?_
 refine st1 _ ?_
 refine XS.istore X1.here hx rfl (oG hby d2 71 rfl) rfl (l' := #[oA o0_, oI i1_, oI i2_, oI i3_, oI i4_, oI i5_, oI i6_, oA o7_, oA o8_, oJ (j9_ + (i16_.toInt64)), .second, oI (own_mx i11_ i16_), oI i12_, oI i13_, oI i14_, oA o15_, oI i16_]) rfl ?_
 refine XS.iload X1.here hx rfl (oG hby d2 72 rfl) rfl ?_
 refine XS.aload X1.here hx rfl (oG hby d2 73 rfl) rfl rfl ?_
 show oZ p e below T1 (mkF m 160 #[oA o0_, oI i1_, oI i2_, oI i3_, oI i4_, oI i5_, oI i6_, oA o7_, oA o8_, oJ (j9_ + (i16_.toInt64)), .second, oI (own_mx i11_ i16_), oI i12_, oI i13_, oI i14_, oA o15_, oI i16_] [(.ref o15_), (.int i16_)]) _
 refine X1.arraylength hx (by rw [e1]; exact A2.1) (State.isArrayOf_alike hZ.alike A2.2.1) (g := (mkF m 160 #[oA o0_, oI i1_, oI i2_, oI i3_, oI i4_, oI i5_, oI i6_, oA o7_, oA o8_, oJ (j9_ + (i16_.toInt64)), .second, oI (own_mx i11_ i16_), oI i12_, oI i13_, oI i14_, oA o15_, oI i16_] [(.ref o15_), (.int i16_)])) rfl rfl (oG hby d2 74 rfl) _ ?_
 rw [len_of S2 M2]
 refine XS.icmpYes X1.here hx rfl (pc0 := 161) (pc' := 167) rfl (oG hby d2 75 rfl) rfl (feq hf0).2 (by decide) (by decide) ?_
 refine XS.iinc X1.here hx rfl (oG hby d2 77 rfl) rfl (l' := #[oA o0_, oI i1_, oI i2_, oI i3_, oI i4_, oI i5_, oI i6_, oA o7_, oA o8_, oJ (j9_ + (i16_.toInt64)), .second, oI (own_mx i11_ i16_), oI i12_, oI i13_, oI (i14_ + (1 : Int32)), oA o15_, oI i16_]) rfl ?_
 show oZ p e below T1 (mkF m 170 #[oA o0_, oI i1_, oI i2_, oI i3_, oI i4_, oI i5_, oI i6_, oA o7_, oA o8_, oJ (j9_ + (i16_.toInt64)), .second, oI (own_mx i11_ i16_), oI i12_, oI i13_, oI (i14_ + (1 : Int32)), oA o15_, oI i16_] []) _
 rw [hf1]
 refine XS.goto X1.here hx rfl (pc0 := 170) (pc' := 106) rfl (oG hby d2 78 rfl) (by decide) (by decide) ?_
 exact kt
theorem own_ch_C (rc : Nat) (rs : Nat) (o0_ : Addr) (i1_ : Int32) (i2_ : Int32) (i3_ : Int32) (i4_ : Int32) (i5_ : Int32) (i6_ : Int32) (o7_ : Addr) (o8_ : Addr) (j9_ : Int64) (i11_ : Int32) (i12_ : Int32) (i13_ : Int32) (i14_ : Int32) (o15_ : Addr) (i16_ : Int32) (n_o15_ : Int32) (k_ : Int32)
   (X0 : Stand p l e (oR 9 rc rs 256) s m args below meth c T0 locs cells slots) (hx : p.tables.exec = Jvm.exec) (hZ : Z.Warmed39 s.vm) (hw : oH a0 Z) (hby : c.code = prog_7_method_1_code) (hml : c.maxLocals = 17) (hown : s.vm.findClass oC3 = some m.cls) (e0 : T0.heap = h0) (N0 : Fr n0 locs) (Z0 : n0 ≤ h0.size) (A_o15_ : own_ia Z h0 o15_ n_o15_) (hf0 : i16_ = n_o15_) (hf1 : (i14_ + (1 : Int32)) = k_) (hc : cells + (0) ≤ rc) (hs : slots + (0) ≤ rs) :
   ∃ (T' : State) (locs' : List Loc), Stand p l e (oR 9 rc rs 256) s m args below meth c T' locs' cells slots ∧ Fr n0 locs' ∧ T'.heap = h0 ∧
     ∀ target, Steps p.tables e below (T'.setTop (mkF m 106 #[oA o0_, oI i1_, oI i2_, oI i3_, oI i4_, oI i5_, oI i6_, oA o7_, oA o8_, oJ (j9_ + (i16_.toInt64)), .second, oI (own_mx i11_ i16_), oI (i12_ + (1 : Int32)), oI i13_, oI k_, oA o15_, oI i16_] [])) target → Steps p.tables e below (T0.setTop (mkF m 139 #[oA o0_, oI i1_, oI i2_, oI i3_, oI i4_, oI i5_, oI i6_, oA o7_, oA o8_, oJ j9_, .second, oI i11_, oI i12_, oI i13_, oI i14_, oA o15_, oI i16_] [])) target := by
 obtain ⟨_, _, ⟨T1, L1, k1, n1⟩, -, X1, ⟨Lc1, hQ1, l1, y1, z1⟩, st1⟩ := Jvm.LawKit.callS X0 hx (y := oM12) hown (mvT hZ (oW hw 249 rfl)) (mvT hZ (oW hw 2 rfl)) (mvT hZ (oW hw 3 rfl)) (mvT hZ (oW hw 4 rfl)) (by decide) (backOf (W := 0) (own_mxC l Z a0 hw [] i11_ i16_ h0 n0 Z0 ) hZ (oW hw 4 rfl) (oW hw 3 rfl) (Nat.le_of_ble_eq_true rfl) (Nat.le_of_ble_eq_true rfl)) (g := (mkF m 151 #[oA o0_, oI i1_, oI i2_, oI i3_, oI i4_, oI i5_, oI i6_, oA o7_, oA o8_, oJ (j9_ + (i16_.toInt64)), .second, oI i11_, oI i12_, oI i13_, oI i14_, oA o15_, oI i16_] [(.int i16_), (.int i11_)])) rfl (by rw [hml]; rfl) (argsL := [(.int i11_), (.int i16_)]) (rest := []) (lenOf own_pd16 rfl) rfl (by show 2 * 0 + _ ≤ _; exact Nat.le_of_eq rfl) (oG hby d2 70 rfl) (fun _ _ => ⟨rfl, e0, (show cells + 0 ≤ rc from by omega), (show slots + 0 ≤ rs from by omega)⟩)
 dsimp only [Pt.U, Pt.locs, Pt.cells, Pt.slots] at X1 l1 y1 z1 st1 hQ1
 subst l1; rw [y1, z1] at X1
 obtain ⟨rfl, N1q, e1⟩ := hQ1
 have N1 := Fr.app N0 N1q
 obtain ⟨c2, A2, S2, M2⟩ := own_ia_cell A_o15_
 refine ⟨T1, _, X1, N1, e1, fun target kt => ?_⟩
 show oZ p e below T0 (mkF m 139 #[oA o0_, oI i1_, oI i2_, oI i3_, oI i4_, oI i5_, oI i6_, oA o7_, oA o8_, oJ j9_, .second, oI i11_, oI i12_, oI i13_, oI i14_, oA o15_, oI i16_] []) _
 refine XS.lload X0.here hx rfl (oG hby d2 63 rfl) rfl ?_
 refine XS.iload X0.here hx rfl (oG hby d2 64 rfl) rfl ?_
 refine XS.i2l X0.here hx rfl (oG hby d2 65 rfl) rfl ?_
 refine XS.ladd X0.here hx rfl (oG hby d2 66 rfl) rfl ?_
 refine XS.lstore X0.here hx rfl (oG hby d2 67 rfl) rfl (l' := #[oA o0_, oI i1_, oI i2_, oI i3_, oI i4_, oI i5_, oI i6_, oA o7_, oA o8_, oJ (j9_ + (i16_.toInt64)), .second, oI i11_, oI i12_, oI i13_, oI i14_, oA o15_, oI i16_]) rfl ?_
 refine XS.iload X0.here hx rfl (oG hby d2 68 rfl) rfl ?_
 refine XS.iload X0.here hx rfl (oG hby d2 69 rfl) rfl ?_
 refine st1 _ ?_
 refine XS.istore X1.here hx rfl (oG hby d2 71 rfl) rfl (l' := #[oA o0_, oI i1_, oI i2_, oI i3_, oI i4_, oI i5_, oI i6_, oA o7_, oA o8_, oJ (j9_ + (i16_.toInt64)), .second, oI (own_mx i11_ i16_), oI i12_, oI i13_, oI i14_, oA o15_, oI i16_]) rfl ?_
 refine XS.iload X1.here hx rfl (oG hby d2 72 rfl) rfl ?_
 refine XS.aload X1.here hx rfl (oG hby d2 73 rfl) rfl rfl ?_
 show oZ p e below T1 (mkF m 160 #[oA o0_, oI i1_, oI i2_, oI i3_, oI i4_, oI i5_, oI i6_, oA o7_, oA o8_, oJ (j9_ + (i16_.toInt64)), .second, oI (own_mx i11_ i16_), oI i12_, oI i13_, oI i14_, oA o15_, oI i16_] [(.ref o15_), (.int i16_)]) _
 refine X1.arraylength hx (by rw [e1]; exact A2.1) (State.isArrayOf_alike hZ.alike A2.2.1) (g := (mkF m 160 #[oA o0_, oI i1_, oI i2_, oI i3_, oI i4_, oI i5_, oI i6_, oA o7_, oA o8_, oJ (j9_ + (i16_.toInt64)), .second, oI (own_mx i11_ i16_), oI i12_, oI i13_, oI i14_, oA o15_, oI i16_] [(.ref o15_), (.int i16_)])) rfl rfl (oG hby d2 74 rfl) _ ?_
 rw [len_of S2 M2]
 refine XS.icmpNo X1.here hx rfl (oG hby d2 75 rfl) rfl (teq hf0).2 ?_
 refine XS.iinc X1.here hx rfl (oG hby d2 76 rfl) rfl (l' := #[oA o0_, oI i1_, oI i2_, oI i3_, oI i4_, oI i5_, oI i6_, oA o7_, oA o8_, oJ (j9_ + (i16_.toInt64)), .second, oI (own_mx i11_ i16_), oI (i12_ + (1 : Int32)), oI i13_, oI i14_, oA o15_, oI i16_]) rfl ?_
 refine XS.iinc X1.here hx rfl (oG hby d2 77 rfl) rfl (l' := #[oA o0_, oI i1_, oI i2_, oI i3_, oI i4_, oI i5_, oI i6_, oA o7_, oA o8_, oJ (j9_ + (i16_.toInt64)), .second, oI (own_mx i11_ i16_), oI (i12_ + (1 : Int32)), oI i13_, oI (i14_ + (1 : Int32)), oA o15_, oI i16_]) rfl ?_
 show oZ p e below T1 (mkF m 170 #[oA o0_, oI i1_, oI i2_, oI i3_, oI i4_, oI i5_, oI i6_, oA o7_, oA o8_, oJ (j9_ + (i16_.toInt64)), .second, oI (own_mx i11_ i16_), oI (i12_ + (1 : Int32)), oI i13_, oI (i14_ + (1 : Int32)), oA o15_, oI i16_] []) _
 rw [hf1]
 refine XS.goto X1.here hx rfl (pc0 := 170) (pc' := 106) rfl (oG hby d2 78 rfl) (by decide) (by decide) ?_
 exact kt
theorem own_ch_E (rc : Nat) (rs : Nat) (o0_ : Addr) (i1_ : Int32) (i2_ : Int32) (i3_ : Int32) (i4_ : Int32) (i5_ : Int32) (i6_ : Int32) (o7_ : Addr) (o8_ : Addr) (j9_ : Int64) (i11_ : Int32) (i12_ : Int32) (i13_ : Int32) (i14_ : Int32) (s15_ : Slot) (s16_ : Slot) 
   (X0 : Stand p l e (oR 9 rc rs 256) s m args below meth c T0 locs cells slots) (hx : p.tables.exec = Jvm.exec) (hZ : Z.Warmed39 s.vm) (hw : oH a0 Z) (hby : c.code = prog_7_method_1_code) (hml : c.maxLocals = 17) (hown : s.vm.findClass oC3 = some m.cls) (e0 : T0.heap = h0) (N0 : Fr n0 locs) (Z0 : n0 ≤ h0.size) (hf0 : ¬ (i14_ < i13_)) (hc : cells + (0) ≤ rc) (hs : slots + (0) ≤ rs) :
   ∃ (T' : State) (locs' : List Loc), Stand p l e (oR 9 rc rs 256) s m args below meth c T' locs' cells slots ∧ Fr n0 locs' ∧ T'.heap = h0 ∧
     ∀ target, Steps p.tables e below (T'.setTop (mkF m 173 #[oA o0_, oI i1_, oI i2_, oI i3_, oI i4_, oI i5_, oI i6_, oA o7_, oA o8_, oJ j9_, .second, oI i11_, oI i12_, oI i13_, oI i14_, s15_, s16_] [])) target → Steps p.tables e below (T0.setTop (mkF m 106 #[oA o0_, oI i1_, oI i2_, oI i3_, oI i4_, oI i5_, oI i6_, oA o7_, oA o8_, oJ j9_, .second, oI i11_, oI i12_, oI i13_, oI i14_, s15_, s16_] [])) target := by
 refine ⟨T0, _, X0, N0, e0, fun target kt => ?_⟩
 show oZ p e below T0 (mkF m 106 #[oA o0_, oI i1_, oI i2_, oI i3_, oI i4_, oI i5_, oI i6_, oA o7_, oA o8_, oJ j9_, .second, oI i11_, oI i12_, oI i13_, oI i14_, s15_, s16_] []) _
 refine XS.iload X0.here hx rfl (oG hby d2 49 rfl) rfl ?_
 refine XS.iload X0.here hx rfl (oG hby d2 50 rfl) rfl ?_
 refine XS.icmpYes X0.here hx rfl (pc0 := 110) (pc' := 173) rfl (oG hby d2 51 rfl) rfl (flt hf0).2.1 (by decide) (by decide) ?_
 exact kt
theorem own_ch_T (rc : Nat) (rs : Nat) (o0_ : Addr) (i1_ : Int32) (i2_ : Int32) (i3_ : Int32) (i4_ : Int32) (i5_ : Int32) (i6_ : Int32) (o7_ : Addr) (o8_ : Addr) (j9_ : Int64) (i11_ : Int32) (i12_ : Int32) (i13_ : Int32) (i14_ : Int32) (s15_ : Slot) (s16_ : Slot) (u_replaced_o0_ : Value) (u_mostReplacedByOneClient_o0_ : Value) (u_whollyNewSubsets_o0_ : Value) (u_clients_o0_ : Value) (u_subsetSize_o0_ : Value)
   (X0 : Stand p l e (oR 9 rc rs 256) s m args below meth c T0 locs cells slots) (hx : p.tables.exec = Jvm.exec) (hZ : Z.Warmed39 s.vm) (hw : oH a0 Z) (hby : c.code = prog_7_method_1_code) (hml : c.maxLocals = 17) (hown : s.vm.findClass oC3 = some m.cls) (e0 : T0.heap = h0) (N0 : Fr n0 locs) (Z0 : n0 ≤ h0.size) (hnm : meth.name = "<init>") (E_o0_ : Exa Z h0 o0_ oC3) (F_replaced_o0_ : Fld Z h0 o0_ oC3 "replaced" "J" u_replaced_o0_) (g_o0_ : n0 ≤ o0_) (F_mostReplacedByOneClient_o0_ : Fld Z h0 o0_ oC3 "mostReplacedByOneClient" "I" u_mostReplacedByOneClient_o0_) (F_whollyNewSubsets_o0_ : Fld Z h0 o0_ oC3 "whollyNewSubsets" "I" u_whollyNewSubsets_o0_) (F_clients_o0_ : Fld Z h0 o0_ oC3 "clients" "I" u_clients_o0_) (F_subsetSize_o0_ : Fld Z h0 o0_ oC3 "subsetSize" "I" u_subsetSize_o0_) (hc : cells + (0) ≤ rc) (hs : slots + (0) ≤ rs) :
   ∃ (T' : State) (locs' : List Loc), Stand p l e (oR 9 rc rs 256) s m args below meth c T' locs' cells slots ∧ Fr n0 locs' ∧ Keep h0 T'.heap [o0_] ∧ Exa Z T'.heap o0_ oC3 ∧ Fld Z T'.heap o0_ oC3 "replaced" "J" (.long j9_) ∧ Fld Z T'.heap o0_ oC3 "mostReplacedByOneClient" "I" (.int i11_) ∧ Fld Z T'.heap o0_ oC3 "whollyNewSubsets" "I" (.int i12_) ∧ Fld Z T'.heap o0_ oC3 "clients" "I" u_clients_o0_ ∧ Fld Z T'.heap o0_ oC3 "subsetSize" "I" u_subsetSize_o0_ ∧
     ∀ target, Steps p.tables e below (T'.setTop (mkF m 191 #[oA o0_, oI i1_, oI i2_, oI i3_, oI i4_, oI i5_, oI i6_, oA o7_, oA o8_, oJ j9_, .second, oI i11_, oI i12_, oI i13_, oI i14_, s15_, s16_] [])) target → Steps p.tables e below (T0.setTop (mkF m 173 #[oA o0_, oI i1_, oI i2_, oI i3_, oI i4_, oI i5_, oI i6_, oA o7_, oA o8_, oJ j9_, .second, oI i11_, oI i12_, oI i13_, oI i14_, s15_, s16_] [])) target := by
 obtain ⟨T1, h1, X1, e1, W1, st1⟩ := putF X0 hx hZ hown (host := "") (Or.inl (oW hw 250 rfl)) Via.refl e0 F_replaced_o0_ E_o0_ (Or.inr ⟨(oW hw 251 rfl), rfl, hnm⟩) (oW hw 6 rfl) (ty := .long) (by decide) rfl rfl (g := (mkF m 176 #[oA o0_, oI i1_, oI i2_, oI i3_, oI i4_, oI i5_, oI i6_, oA o7_, oA o8_, oJ j9_, .second, oI i11_, oI i12_, oI i13_, oI i14_, s15_, s16_] [(.long j9_), (.ref o0_)])) rfl rfl (oG hby d2 81 rfl)
 have Fw1 := F_replaced_o0_.same W1
 have K1 : Keep h0 h1 [o0_] := (Keep.refl h0 [o0_]).wr W1 (Or.inl (oX 0 rfl))
 have N1 := Fr.snoc X1 N0 g_o0_
 have f2_o0_ := (E_o0_.wr W1)
 have f3_o0__mostReplacedByOneCli := (F_mostReplacedByOneClient_o0_.other W1 (oN (Or.inr (oW hw 253 rfl)) (Or.inr (oW hw 251 rfl)) (t := .int) (t' := .long)))
 obtain ⟨T4, h4, X4, e4, W4, st4⟩ := putF X1 hx hZ hown (host := "") (Or.inl (oW hw 252 rfl)) Via.refl e1 f3_o0__mostReplacedByOneCli f2_o0_ (Or.inr ⟨(oW hw 253 rfl), rfl, hnm⟩) (oW hw 6 rfl) (ty := .int) (by decide) rfl rfl (g := (mkF m 182 #[oA o0_, oI i1_, oI i2_, oI i3_, oI i4_, oI i5_, oI i6_, oA o7_, oA o8_, oJ j9_, .second, oI i11_, oI i12_, oI i13_, oI i14_, s15_, s16_] [(.int i11_), (.ref o0_)])) rfl rfl (oG hby d2 84 rfl)
 have Fw4 := f3_o0__mostReplacedByOneCli.same W4
 have K4 : Keep h0 h4 [o0_] := K1.wr W4 (Or.inl (oX 0 rfl))
 have N4 := Fr.snoc X4 N1 g_o0_
 have f5_o0_ := (f2_o0_.wr W4)
 have f6_o0__whollyNewSubsets := ((F_whollyNewSubsets_o0_.other W1 (oN (Or.inr (oW hw 255 rfl)) (Or.inr (oW hw 251 rfl)) (t := .int) (t' := .long))).other W4 (oN (Or.inr (oW hw 255 rfl)) (Or.inr (oW hw 253 rfl)) (t := .int) (t' := .int)))
 obtain ⟨T7, h7, X7, e7, W7, st7⟩ := putF X4 hx hZ hown (host := "") (Or.inl (oW hw 254 rfl)) Via.refl e4 f6_o0__whollyNewSubsets f5_o0_ (Or.inr ⟨(oW hw 255 rfl), rfl, hnm⟩) (oW hw 6 rfl) (ty := .int) (by decide) rfl rfl (g := (mkF m 188 #[oA o0_, oI i1_, oI i2_, oI i3_, oI i4_, oI i5_, oI i6_, oA o7_, oA o8_, oJ j9_, .second, oI i11_, oI i12_, oI i13_, oI i14_, s15_, s16_] [(.int i12_), (.ref o0_)])) rfl rfl (oG hby d2 87 rfl)
 have Fw7 := f6_o0__whollyNewSubsets.same W7
 have K7 : Keep h0 h7 [o0_] := K4.wr W7 (Or.inl (oX 0 rfl))
 have N7 := Fr.snoc X7 N4 g_o0_
 have f8_o0__clients := (((F_clients_o0_.other W1 (oN (Or.inr (oW hw 40 rfl)) (Or.inr (oW hw 251 rfl)) (t := .int) (t' := .long))).other W4 (oN (Or.inr (oW hw 40 rfl)) (Or.inr (oW hw 253 rfl)) (t := .int) (t' := .int))).other W7 (oN (Or.inr (oW hw 40 rfl)) (Or.inr (oW hw 255 rfl)) (t := .int) (t' := .int)))
 have f9_o0__subsetSize := (((F_subsetSize_o0_.other W1 (oN (Or.inr (oW hw 44 rfl)) (Or.inr (oW hw 251 rfl)) (t := .int) (t' := .long))).other W4 (oN (Or.inr (oW hw 44 rfl)) (Or.inr (oW hw 253 rfl)) (t := .int) (t' := .int))).other W7 (oN (Or.inr (oW hw 44 rfl)) (Or.inr (oW hw 255 rfl)) (t := .int) (t' := .int)))
 have f10_o0_ := (f5_o0_.wr W7)
 have f11_o0__replaced := ((Fw1.other W4 (oN (Or.inr (oW hw 251 rfl)) (Or.inr (oW hw 253 rfl)) (t := .long) (t' := .int))).other W7 (oN (Or.inr (oW hw 251 rfl)) (Or.inr (oW hw 255 rfl)) (t := .long) (t' := .int)))
 have f12_o0__mostReplacedByOneCli := (Fw4.other W7 (oN (Or.inr (oW hw 253 rfl)) (Or.inr (oW hw 255 rfl)) (t := .int) (t' := .int)))
 subst e7
 refine ⟨T7, _, X7, N7, K7, f10_o0_, f11_o0__replaced, f12_o0__mostReplacedByOneCli, Fw7, f8_o0__clients, f9_o0__subsetSize, fun target kt => ?_⟩
 show oZ p e below T0 (mkF m 173 #[oA o0_, oI i1_, oI i2_, oI i3_, oI i4_, oI i5_, oI i6_, oA o7_, oA o8_, oJ j9_, .second, oI i11_, oI i12_, oI i13_, oI i14_, s15_, s16_] []) _
 refine XS.aloadN X0.here hx rfl (oG hby d2 79 rfl) rfl rfl ?_
 refine XS.lload X0.here hx rfl (oG hby d2 80 rfl) rfl ?_
 refine st1 _ ?_
 refine XS.aloadN X1.here hx rfl (oG hby d2 82 rfl) rfl rfl ?_
 refine XS.iload X1.here hx rfl (oG hby d2 83 rfl) rfl ?_
 refine st4 _ ?_
 refine XS.aloadN X4.here hx rfl (oG hby d2 85 rfl) rfl rfl ?_
 refine XS.iload X4.here hx rfl (oG hby d2 86 rfl) rfl ?_
 refine st7 _ ?_
 exact kt
section OwnChurn
theorem own_SUB.ext {Z : State} {h h' : Heap} {o : Addr} {b n : Int32} {L : Nat} {ft : Int32} (U : own_SUB Z h o b n L ft) (E : Ext h h') : own_SUB Z h' o b n L ft := ⟨U.1.ext E, U.2.1.ext E, U.2.2.1.ext E, U.2.2.2.1.ext E, U.2.2.2.2.1.ext E, U.2.2.2.2.2.ext E⟩
theorem own_SR.ext {Z : State} {h h' : Heap} {o4 : Addr} (Y : own_SR Z h o4) (E : Ext h h') : own_SR Z h' o4 := ⟨Y.1.ext E, Y.2.1.ext E, Y.2.2.ext E⟩
def own_CHP (Z : State) (h : Heap) (sb sa o4 w : Addr) (b n : Int32) (L : Nat) (ft b' n' : Int32) (L' : Nat) (ft' nw : Int32) : Prop :=
 own_SUB Z h sb b n L ft ∧ own_SUB Z h sa b' n' L' ft' ∧ own_SR Z h o4 ∧ Sta Z h oC4 "NONE" "[I" (.ref w) ∧ own_ia Z h w nw
theorem own_CHP.ext {Z : State} {h h' : Heap} {sb sa o4 w : Addr} {b n : Int32} {L : Nat} {ft b' n' : Int32} {L' : Nat} {ft' nw : Int32} (V : own_CHP Z h sb sa o4 w b n L ft b' n' L' ft' nw) (E : Ext h h') : own_CHP Z h' sb sa o4 w b n L ft b' n' L' ft' nw :=
 ⟨V.1.ext E, V.2.1.ext E, V.2.2.1.ext E, V.2.2.2.1.ext E, V.2.2.2.2.ext E⟩
theorem own_turns {p : Program} {l : Launch} {e : Env} {s : State} {m : MethodId} {args : Array Value} {below : List Frame} {meth : Method} {c : Code} {Z : State} {a0 : Array Value} {n0 : Nat} {rc rs : Nat} {o0 sb sa o4 w : Addr} {i1 i2 i3 i4 i5 i6 b n ft b' n' ft' nw : Int32} {L R cx L' R' cx' cnt : Nat}
   (hx : p.tables.exec = Jvm.exec) (hZ : Z.Warmed39 s.vm) (hw : oH a0 Z) (hby : c.code = prog_7_method_1_code) (hml : c.maxLocals = 17) (hown : s.vm.findClass oC3 = some m.cls)
   (hcnt : cnt < 1000) (hp1 : n.toNatClampNeg ≤ 16) (hp2 : n'.toNatClampNeg ≤ 16) (ok1 : ∀ i, i < cnt → own_suOK b n (Int32.ofNat i) ft L R cx 91) (ok2 : ∀ i, i < cnt → own_suOK b' n' (Int32.ofNat i) ft' L' R' cx' 57) :
   ∀ (k i : Nat) (j9 : Int64) (i11 i12 : Int32) (s15 s16 : Slot) (T0 : State) (locs : List Loc) (cells slots : Nat), i + k = cnt → (s15 = .unset ∨ ∃ z : Addr, s15 = oA z) → (s16 = .unset ∨ ∃ z : Int32, s16 = oI z) →
     Stand p l e (oR 9 rc rs 256) s m args below meth c T0 locs cells slots → Fr n0 locs → n0 ≤ T0.heap.size → own_CHP Z T0.heap sb sa o4 w b n L ft b' n' L' ft' nw →
     cells + 321 * k ≤ rc → slots + 1854 * k ≤ rs →
     ∃ (T' : State) (locs' : List Loc) (j9' : Int64) (i11' i12' i14' : Int32) (s15' s16' : Slot), Stand p l e (oR 9 rc rs 256) s m args below meth c T' locs' (cells + 321 * k) (slots + 1854 * k) ∧ Fr n0 locs' ∧ Keep T0.heap T'.heap [] ∧
     ∀ target, Steps p.tables e below (T'.setTop (mkF m 173 #[oA o0, oI i1, oI i2, oI i3, oI i4, oI i5, oI i6, oA sb, oA sa, oJ j9', .second, oI i11', oI i12', oI (Int32.ofNat cnt), oI i14', s15', s16'] [])) target →
       Steps p.tables e below (T0.setTop (mkF m 106 #[oA o0, oI i1, oI i2, oI i3, oI i4, oI i5, oI i6, oA sb, oA sa, oJ j9, .second, oI i11, oI i12, oI (Int32.ofNat cnt), oI (Int32.ofNat i), s15, s16] [])) target := by
 intro k
 induction k with
 | zero =>
   intro i j9 i11 i12 s15 s16 T0 locs cells slots hik h15 h16 X N Z0 V hc hs
   obtain ⟨T', L1, X', N', e', st'⟩ := own_ch_E (o0_ := o0) (i1_ := i1) (i2_ := i2) (i3_ := i3) (i4_ := i4) (i5_ := i5) (i6_ := i6) (o7_ := sb) (o8_ := sa) (j9_ := j9) (i11_ := i11) (i12_ := i12) (i13_ := Int32.ofNat cnt) (i14_ := Int32.ofNat i) (s15_ := s15) (s16_ := s16) rc rs X hx hZ hw hby hml hown rfl N Z0 (own_ofNat_nlt (i := i) (c := cnt) (by omega) (by omega)) (by omega) (by omega)
   exact ⟨T', L1, _, _, _, _, _, _, X', N', by rw [e']; exact Keep.refl _ _, st'⟩
 | succ k ih =>
   intro i j9 i11 i12 s15 s16 T0 locs cells slots hik h15 h16 X N Z0 V hc hs
   have hi : i < cnt := by omega
   obtain ⟨U1, U2, Y, SN, AN⟩ := V
   obtain ⟨r, y, T1, L1, X1, N1, K1, g1, A1, st1⟩ := own_ch_A (o0_ := o0) (i1_ := i1) (i2_ := i2) (i3_ := i3) (i4_ := i4) (i5_ := i5) (i6_ := i6) (o7_ := sb) (o8_ := sa) (j9_ := j9) (i11_ := i11) (i12_ := i12) (i13_ := Int32.ofNat cnt) (i14_ := Int32.ofNat i) (s15_ := s15) (s16_ := s16) (l0_ := L) (rd0_ := R) (cx0_ := cx) (f_backends_o7_ := b) (f_subsetSize_o7_ := n) (f_lots_o7_ := Int32.ofNat L) (f_ringBits_o7_ := own_rb L) (f_fitsInARow_o7_ := ft) (w_START_ROWS := o4) (n_w_START_ROWS := 10) (vs_w_START_ROWS := [0, 8, 2, 4, 6, 1, 9, 5, 3, 7]) (l1_ := L') (rd1_ := R') (cx1_ := cx') (f_backends_o8_ := b') (f_subsetSize_o8_ := n') (f_lots_o8_ := Int32.ofNat L') (f_ringBits_o8_ := own_rb L') (f_fitsInARow_o8_ := ft') (w_NONE := w) (n_w_NONE := nw) rc rs X hx hZ hw hby hml hown rfl N Z0 U1.1 U1.2.1 U1.2.2.1 U1.2.2.2.1 U1.2.2.2.2.1 U1.2.2.2.2.2 Y.1 Y.2.1 Y.2.2 h15 U2.1 U2.2.1 U2.2.2.1 U2.2.2.2.1 U2.2.2.2.2.1 U2.2.2.2.2.2 SN AN h16 (own_ofNat_lt (i := i) (c := cnt) hi (by omega)) rfl rfl rfl rfl (ok1 i hi) rfl rfl (ok2 i hi) hp1 hp2 (by omega) (by omega)
   have V1 := (show own_CHP Z T0.heap sb sa o4 w b n L ft b' n' L' ft' nw from ⟨U1, U2, Y, SN, AN⟩).ext (own_ext K1)
   by_cases q : y = n
   · obtain ⟨T2, L2, X2, N2, e2, st2⟩ := own_ch_C (o0_ := o0) (i1_ := i1) (i2_ := i2) (i3_ := i3) (i4_ := i4) (i5_ := i5) (i6_ := i6) (o7_ := sb) (o8_ := sa) (j9_ := j9) (i11_ := i11) (i12_ := i12) (i13_ := Int32.ofNat cnt) (i14_ := Int32.ofNat i) (o15_ := r) (i16_ := y) (n_o15_ := n) (k_ := Int32.ofNat (i + 1)) rc rs X1 hx hZ hw hby hml hown rfl N1 (Nat.le_trans Z0 K1.1) A1 q (own_ofNat_succ i) (by omega) (by omega)
     obtain ⟨T', L3, j9', i11', i12', i14', s15', s16', X', N', K', st'⟩ := ih (i + 1) _ _ _ (oA r) (oI y) T2 L2 _ _ (by omega) (Or.inr ⟨_, rfl⟩) (Or.inr ⟨_, rfl⟩) X2 N2 (by rw [e2]; exact Nat.le_trans Z0 K1.1) (by rw [e2]; exact V1) (by omega) (by omega)
     exact ⟨T', L3, j9', i11', i12', i14', s15', s16', own_same X' (by omega) (by omega), N', K1.trans (by rw [← e2]; exact K') own_a0, fun target kt => st1 _ (st2 _ (st' _ kt))⟩
   · obtain ⟨T2, L2, X2, N2, e2, st2⟩ := own_ch_B (o0_ := o0) (i1_ := i1) (i2_ := i2) (i3_ := i3) (i4_ := i4) (i5_ := i5) (i6_ := i6) (o7_ := sb) (o8_ := sa) (j9_ := j9) (i11_ := i11) (i12_ := i12) (i13_ := Int32.ofNat cnt) (i14_ := Int32.ofNat i) (o15_ := r) (i16_ := y) (n_o15_ := n) (k_ := Int32.ofNat (i + 1)) rc rs X1 hx hZ hw hby hml hown rfl N1 (Nat.le_trans Z0 K1.1) A1 q (own_ofNat_succ i) (by omega) (by omega)
     obtain ⟨T', L3, j9', i11', i12', i14', s15', s16', X', N', K', st'⟩ := ih (i + 1) _ _ _ (oA r) (oI y) T2 L2 _ _ (by omega) (Or.inr ⟨_, rfl⟩) (Or.inr ⟨_, rfl⟩) X2 N2 (by rw [e2]; exact Nat.le_trans Z0 K1.1) (by rw [e2]; exact V1) (by omega) (by omega)
     exact ⟨T', L3, j9', i11', i12', i14', s15', s16', own_same X' (by omega) (by omega), N', K1.trans (by rw [← e2]; exact K') own_a0, fun target kt => st1 _ (st2 _ (st' _ kt))⟩
def own_chOK (i1 i2 i3 i4 i5 i6 : Int32) : Prop := ∃ (cnt L : Nat) (ft : Int32) (R cx L' : Nat) (ft' : Int32) (R' cx' : Nat),
 ¬ (i1 < (1 : Int32)) ∧ ¬ (i4 < (1 : Int32)) ∧ own_siOK i2 i3 L ft ∧ own_siOK i5 i6 L' ft' ∧ own_mi i1 i4 = Int32.ofNat cnt ∧ cnt ≤ 4 ∧ i3.toNatClampNeg ≤ 16 ∧ i6.toNatClampNeg ≤ 16 ∧
 (∀ i, i < cnt → own_suOK i2 i3 (Int32.ofNat i) ft L R cx 91) ∧ (∀ i, i < cnt → own_suOK i5 i6 (Int32.ofNat i) ft' L' R' cx' 57)
def own_QH (Z : State) (o : Addr) (x y : Int32) (h0 : Heap) (n0 : Nat) (v : Option Value) (h : Heap) (L : List Loc) : Prop := v = none ∧ Fr n0 L ∧ Keep h0 h [o] ∧ Exa Z h o oC3 ∧ Fld Z h o oC3 "clients" "I" (.int x) ∧ Fld Z h o oC3 "subsetSize" "I" (.int y)
theorem own_chC (l : Launch) (Z : State) (a0 : Array Value) (hw : oH a0 Z) (ws : List Jvm.Cond) (o0 : Addr) (i1 i2 i3 i4 i5 i6 : Int32) (o4 w : Addr) (vn nw : Int32) (vv : List Int32) (u0 u1 u2 u3 u4 u5 u6 u7 u8 : Value) (h0 : Heap) (n0 : Nat) (Z0 : n0 ≤ h0.size)
   (E0 : Exa Z h0 o0 oC3) (F0 : Fld Z h0 o0 oC3 "clients" "I" u0) (F1 : Fld Z h0 o0 oC3 "backends" "I" u1) (F2 : Fld Z h0 o0 oC3 "subsetSize" "I" u2) (F3 : Fld Z h0 o0 oC3 "toClients" "I" u3) (F4 : Fld Z h0 o0 oC3 "toBackends" "I" u4) (F5 : Fld Z h0 o0 oC3 "toSubsetSize" "I" u5) (F6 : Fld Z h0 o0 oC3 "replaced" "J" u6) (F7 : Fld Z h0 o0 oC3 "mostReplacedByOneClient" "I" u7) (F8 : Fld Z h0 o0 oC3 "whollyNewSubsets" "I" u8) (g0 : n0 ≤ o0)
   (S0 : Sta Z h0 oC0 "START_ROWS" "[I" (.ref o4)) (A0 : own_il Z h0 o4 vn vv) (B0 : Sta Z h0 oC2 "$assertionsDisabled" "Z" (.int 1)) (SN : Sta Z h0 oC4 "NONE" "[I" (.ref w)) (AN : own_ia Z h0 w nw)
   (e3 : vn = (10 : Int32)) (e4 : vv = ([0, 8, 2, 4, 6, 1, 9, 5, 3, 7] : List Int32)) (v1 : ¬ (o4 = o0)) (v2 : ¬ (w = o0)) (ok : own_chOK i1 i2 i3 i4 i5 i6) :
   oMet l oM33 prog_7_method_1_code 17 none ws (oR 9 1286 7426 256) Z h0 #[(.ref o0), (.int i1), (.int i2), (.int i3), (.int i4), (.int i5), (.int i6)] (own_QH Z o0 i1 i3 h0 n0) := by
 subst e3 e4
 obtain ⟨cnt, L, ft, R, cx, L', ft', R', cx', k1, k2, k3, k4, k5, k6, k7, k8, k9, k10⟩ := ok
 refine oBd n0 (plainFor_of_name own_pn8) ?_
 intro p e s m below meth c s₁ Bd hx hZ hby hml hown hnm X0 e0 N0
 obtain ⟨sb, sa, T1, L1, X1, N1, K1, g1, g2, nab, E1, f0, f2, f6, f7, f8, EB, b1, b2, b3, b4, b5, EA, c1, c2, c3, c4, c5, st1⟩ := own_ch_H (o0_ := o0) (i1_ := i1) (i2_ := i2) (i3_ := i3) (i4_ := i4) (i5_ := i5) (i6_ := i6) (l0_ := L) (ft0_ := ft) (l1_ := L') (ft1_ := ft') (k_ := Int32.ofNat cnt) (u_clients_o0_ := u0) (u_backends_o0_ := u1) (u_subsetSize_o0_ := u2) (u_toClients_o0_ := u3) (u_toBackends_o0_ := u4) (u_toSubsetSize_o0_ := u5) (u_replaced_o0_ := u6) (u_mostReplacedByOneClient_o0_ := u7) (u_whollyNewSubsets_o0_ := u8) 1286 7426 X0 hx hZ hw hby hml hown e0 N0 Z0 hnm E0 F0 g0 F1 F2 F3 F4 F5 F6 F7 F8 k1 k2 k3 k4 k5 (by omega) (by omega)
 have V1 : own_CHP Z T1.heap sb sa o4 w i2 i3 L ft i5 i6 L' ft' nw := ⟨⟨EB, b1, b2, b3, b4, b5⟩, ⟨EA, c1, c2, c3, c4, c5⟩, ⟨own_sta_k S0 K1 (own_a1 (own_ns_E E0)), A0.keep K1 (own_n1 v1), own_sta_k B0 K1 (own_a1 (own_ns_E E0))⟩, own_sta_k SN K1 (own_a1 (own_ns_E E0)), AN.keep K1 (own_n1 v2)⟩
 obtain ⟨T2, L2, j9, i11, i12, i14, s15, s16, X2, N2, K2, st2⟩ := own_turns (o0 := o0) (i1 := i1) (i2 := i2) (i3 := i3) (i4 := i4) (i5 := i5) (i6 := i6) hx hZ hw hby hml hown (by omega) k7 k8 k9 k10 cnt 0 0 0 0 .unset .unset T1 L1 _ _ (by omega) (Or.inl rfl) (Or.inl rfl) X1 N1 (Nat.le_trans Z0 K1.1) V1 (by omega) (by omega)
 have x2 := own_ext K2
 obtain ⟨T3, L3, X3, N3, K3, E3, t6, t7, t8, t0, t2, st3⟩ := own_ch_T (o0_ := o0) (i1_ := i1) (i2_ := i2) (i3_ := i3) (i4_ := i4) (i5_ := i5) (i6_ := i6) (o7_ := sb) (o8_ := sa) (j9_ := j9) (i11_ := i11) (i12_ := i12) (i13_ := Int32.ofNat cnt) (i14_ := i14) (s15_ := s15) (s16_ := s16) (u_replaced_o0_ := u6) (u_mostReplacedByOneClient_o0_ := u7) (u_whollyNewSubsets_o0_ := u8) (u_clients_o0_ := (.int i1)) (u_subsetSize_o0_ := (.int i3)) 1286 7426 X2 hx hZ hw hby hml hown rfl N2 (Nat.le_trans (Nat.le_trans Z0 K1.1) K2.1) hnm (E1.ext x2) (f6.ext x2) g0 (f7.ext x2) (f8.ext x2) (f0.ext x2) (f2.ext x2) (by omega) (by omega)
 obtain ⟨fs, hr, hrun, hended, hW, hsame⟩ := X3.leave (v := none) (fun _ => rfl)
 refine ⟨_, _, castTop (own_ef39 m o0 i1 i2 i3 i4 i5 i6) (st1 _ (st2 _ (st3 _ ?_))), hrun, hended, _, _, rfl, ⟨rfl, N3, ?_, E3, t0, t2⟩, ⟨_, rfl⟩, hW, hsame.mono (show 0 + 1 + 1 + 321 * cnt ≤ 1286 by omega) (show 0 + 5 + 5 + 1854 * cnt ≤ 7426 by omega)⟩
 · exact X3.returnOut hx Bd.returns (oG hby d2 88 rfl) hr
 · show Keep h0 T3.heap [o0]
   exact (K1.trans K2 own_a0).trans K3 (own_a1 (Or.inl (oX 0 rfl)))
end OwnChurn

theorem own_b43_x (l : Launch) (Z : State) (a0 : Array Value) (hw : oH a0 Z) (ws : List Jvm.Cond) (a0_ : Addr) (f_clients_a0_ : Int32) (f_subsetSize_a0_ : Int32) (h0 : Heap) (n0 : Nat) (Z0 : n0 ≤ h0.size) (F_clients_a0_ : Fld Z h0 a0_ oC3 "clients" "I" (.int f_clients_a0_)) (F_subsetSize_a0_ : Fld Z h0 a0_ oC3 "subsetSize" "I" (.int f_subsetSize_a0_)) :
   oMet l oM20 prog_7_method_8_code 1 (some .long) ws (oR 0 0 0 0) Z h0 #[(.ref a0_)] (own_QP (some (.long ((f_clients_a0_.toInt64) * (f_subsetSize_a0_.toInt64)))) h0 n0) := by
 refine oBd n0 (plainFor_of_name own_pn8) ?_
 intro p e s m below meth c s₁ Bd hx hZ hby hml hown hnm X0 e0 N0
 obtain ⟨T1, X1, e1, st1⟩ := getF X0 hx hZ hown (host := "") (Or.inl (oW hw 39 rfl)) Via.refl e0 F_clients_a0_ (g := (mkF m 1 #[oA a0_] [(.ref a0_)])) rfl rfl (oG hby d43 1 rfl)
 obtain ⟨T2, X2, e2, st2⟩ := getF X1 hx hZ hown (host := "") (Or.inl (oW hw 43 rfl)) Via.refl e1 F_subsetSize_a0_ (g := (mkF m 6 #[oA a0_] [(.ref a0_), (.long (f_clients_a0_.toInt64))])) rfl rfl (oG hby d43 4 rfl)
 obtain ⟨fs, hr, hrun, hended, hW, hsame⟩ := X2.leave (v := some (.long ((f_clients_a0_.toInt64) * (f_subsetSize_a0_.toInt64)))) (fun h => by rw [Bd.returns] at h; cases h)
 refine ⟨_, _, castTop (own_ef40 m a0_) ?_, hrun, hended, _, _, rfl, ?_, ⟨_, rfl⟩, hW, (hsame.mono (by decide) (by decide))⟩
 · show oZ p e below s₁ (mkF m 0 #[oA a0_] []) _
   refine XS.aloadN X0.here hx rfl (oG hby d43 0 rfl) rfl rfl ?_
   refine st1 _ ?_
   refine XS.i2l X1.here hx rfl (oG hby d43 2 rfl) rfl ?_
   refine XS.aloadN X1.here hx rfl (oG hby d43 3 rfl) rfl rfl ?_
   refine st2 _ ?_
   refine XS.i2l X2.here hx rfl (oG hby d43 5 rfl) rfl ?_
   refine XS.lmul X2.here hx rfl (oG hby d43 6 rfl) rfl ?_
   show oZ p e below T2 (mkF m 11 #[oA a0_] [(.long ((f_clients_a0_.toInt64) * (f_subsetSize_a0_.toInt64)))]) _
   exact X2.lreturnOut hx Bd.returns (oG hby d43 7 rfl) hr
 · show own_QP (some (.long ((f_clients_a0_.toInt64) * (f_subsetSize_a0_.toInt64)))) h0 n0 _ T2.heap _
   exact ⟨rfl, N0, e2⟩
theorem own_law (l : Launch) (Z : State) (a0 : Array Value) (hw : oH a0 Z) (ws : List Jvm.Cond) (p0_ : Int32) (p1_ : Int32) (p2_ : Int32) (p3_ : Int32) (k1_ : Int32) (k3_ : Int32) (k2_ : Int32) (k4_ : Int32) (k6_ : Int32) (k5_ : Int32) (w_START_ROWS : Addr) (n_w_START_ROWS : Int32) (vs_w_START_ROWS : List Int32) (w_NONE : Addr) (n_w_NONE : Int32) (h0 : Heap) (n0 : Nat) (Z0 : n0 ≤ h0.size) (S_START_ROWS : Sta Z h0 oC0 "START_ROWS" "[I" (.ref w_START_ROWS)) (A_w_START_ROWS : own_il Z h0 w_START_ROWS n_w_START_ROWS vs_w_START_ROWS) (S__assertionsDisabled : Sta Z h0 oC2 "$assertionsDisabled" "Z" (.int 1)) (S_NONE : Sta Z h0 oC4 "NONE" "[I" (.ref w_NONE)) (A_w_NONE : own_ia Z h0 w_NONE n_w_NONE) (hf0 : (own_mx (1 : Int32) (p0_ &&& (2147483647 : Int32))) = k1_) (hf1 : ((1 : Int32) + (p1_ &&& (15 : Int32))) = k3_) (hf2 : (k3_ + ((own_us p1_ (4 : Int32)) &&& (15 : Int32))) = k2_) (hf3 : ((1 : Int32) + (p2_ &&& (3 : Int32))) = k4_) (hf4 : ((1 : Int32) + (p3_ &&& (7 : Int32))) = k6_) (hf5 : (k6_ + ((own_us p3_ (3 : Int32)) &&& (7 : Int32))) = k5_) (hf6 : n_w_START_ROWS = (10 : Int32)) (hf7 : vs_w_START_ROWS = ([0, 8, 2, 4, 6, 1, 9, 5, 3, 7] : List Int32)) (hf8 : own_chOK k1_ k2_ k3_ k4_ k5_ k6_) (hf9 : (lcmpW ((k1_.toInt64) * (k3_.toInt64)) ((k1_.toInt64) * (k3_.toInt64))) = (0 : Int32)) :
   MetFree l x (head1 (Jvm.Cond.code x code maxLocals ret :: ws) room_1) (fun a U => a = #[(.int p0_), (.int p1_), (.int p2_), (.int p3_)] ∧ Z.Warmed39 U.vm ∧ U.heap = h0) (fun _ _ _ _ _ => True) (fun _ U o U' => ∃ v L, o = .returned v ∧ own_QL n0 v U'.heap L ∧ FrameEnd U o U' L room_1.cells room_1.slots) := by
 refine MetFree.of_bodySF (plainFor_of_name own_pn9) hisR ?_
 intro p e s m args below meth c s₁ Bd hml0 hP hK
 obtain ⟨rfl, hZ, hh⟩ := hP
 have hx := Bd.exec
 have hby := Bd.bytes
 have hml : c.maxLocals = 13 := hml0
 have hown : s.vm.findClass "com/example/narrows/narrows/ChurnConnectionsBeforePinLaw" = some m.cls := findClass_of_methodNamed Bd.named
 have hnm := (name_of_methodNamed Bd.named Bd.method).1
 have X0 : Stand p l e room_1 s m #[(.int p0_), (.int p1_), (.int p2_), (.int p3_)] below meth c s₁ [] 0 0 := Stand.of_body Bd
 have e0 : s₁.heap = h0 := by rw [← hh, Bd.state]; rfl
 have N0 := Fr.nil n0
 obtain ⟨_, _, ⟨T1, L1, k1, n1⟩, -, X1, ⟨Lc1, hQ1, l1, y1, z1⟩, st1⟩ := Jvm.LawKit.callS X0 hx (y := oM12) hown (mvT hZ (oW hw 1 rfl)) (mvT hZ (oW hw 2 rfl)) (mvT hZ (oW hw 3 rfl)) (mvT hZ (oW hw 4 rfl)) (by decide) (backOf (W := 0) (own_mxC l Z a0 hw [] (1 : Int32) (p0_ &&& (2147483647 : Int32)) h0 n0 Z0 ) hZ (oW hw 4 rfl) (oW hw 3 rfl) (by decide) (by decide)) (g := (mkF m 5 #[oI p0_, oI p1_, oI p2_, oI p3_, .unset, .unset, .unset, .unset, .unset, .unset, .unset, .unset, .unset] [(.int (p0_ &&& (2147483647 : Int32))), (.int 1)])) rfl (by rw [hml]; rfl) (argsL := [(.int 1), (.int (p0_ &&& (2147483647 : Int32)))]) (rest := []) (lenOf own_pd16 rfl) rfl (by show 2 * 0 + _ ≤ _; exact Nat.le_of_eq rfl) (hb hby at_5) (fun _ _ => ⟨rfl, e0, (by decide : 0 + 0 ≤ _), (by decide : 0 + 0 ≤ _)⟩)
 dsimp only [Pt.U, Pt.locs, Pt.cells, Pt.slots] at X1 l1 y1 z1 st1 hQ1
 subst l1 y1 z1
 obtain ⟨rfl, N1q, e1⟩ := hQ1
 have N1 := Fr.app N0 N1q
 obtain ⟨T2, h2, X2, e2, E2, A2, D2, -, st2⟩ := newO X1 hx hZ hown (oW hw 5 rfl) (oW hw 6 rfl) (oW hw 7 rfl) e1 (g := (mkF m 55 #[oI p0_, oI p1_, oI p2_, oI p3_, oI k1_, oI k3_, oI k2_, oI k4_, oI k6_, oI k5_, .unset, .unset, .unset] [])) rfl (hb hby at_55) (by decide) (by decide)
 obtain ⟨b2, g2⟩ : ∃ z, z = h0.size := ⟨_, rfl⟩
 rw [← g2] at A2 D2 st2
 have lo_b2 : h0.size ≤ b2 := Nat.le_of_eq g2.symm
 have sz_b2 : h0.size ≤ b2 := Nat.le_trans (Keep.refl h0 []).1 lo_b2
 have g_b2 : n0 ≤ b2 := Nat.le_trans Z0 sz_b2
 have K2 : Keep h0 h2 [] := (Keep.refl h0 []).ext E2
 have F2_clients : Fld Z h2 b2 oC3 "clients" "I" (.int 0) := D2 (Or.inr (oW hw 40 rfl)) (ty := .int) (by decide)
 have F2_backends : Fld Z h2 b2 oC3 "backends" "I" (.int 0) := D2 (Or.inr (oW hw 42 rfl)) (ty := .int) (by decide)
 have F2_subsetSize : Fld Z h2 b2 oC3 "subsetSize" "I" (.int 0) := D2 (Or.inr (oW hw 44 rfl)) (ty := .int) (by decide)
 have F2_toClients : Fld Z h2 b2 oC3 "toClients" "I" (.int 0) := D2 (Or.inr (oW hw 46 rfl)) (ty := .int) (by decide)
 have F2_toBackends : Fld Z h2 b2 oC3 "toBackends" "I" (.int 0) := D2 (Or.inr (oW hw 48 rfl)) (ty := .int) (by decide)
 have F2_toSubsetSize : Fld Z h2 b2 oC3 "toSubsetSize" "I" (.int 0) := D2 (Or.inr (oW hw 50 rfl)) (ty := .int) (by decide)
 have F2_replaced : Fld Z h2 b2 oC3 "replaced" "J" (.long 0) := D2 (Or.inr (oW hw 251 rfl)) (ty := .long) (by decide)
 have F2_mostReplacedByOneClient : Fld Z h2 b2 oC3 "mostReplacedByOneClient" "I" (.int 0) := D2 (Or.inr (oW hw 253 rfl)) (ty := .int) (by decide)
 have F2_whollyNewSubsets : Fld Z h2 b2 oC3 "whollyNewSubsets" "I" (.int 0) := D2 (Or.inr (oW hw 255 rfl)) (ty := .int) (by decide)
 have f4_com_example_narrows_narr := (S_START_ROWS.ext E2)
 have f5_w_START_ROWS := (A_w_START_ROWS.ext E2)
 have f6_java_util_BitSet__assert := (S__assertionsDisabled.ext E2)
 have f7_com_example_narrows_narr := (S_NONE.ext E2)
 have f8_w_NONE := (A_w_NONE.ext E2)
 obtain ⟨_, _, ⟨T3, L3, k3, n3⟩, -, X3, ⟨Lc3, hQ3, l3, y3, z3⟩, st3⟩ := X2.specialBack hx (y := oM33) rfl hown (mvT hZ (oW hw 8 rfl)) (mvT hZ (oW hw 9 rfl)) (mvT hZ (oW hw 10 rfl)) (by decide) (backOf (W := 1) (own_chC l Z a0 hw [] b2 k1_ k2_ k3_ k4_ k5_ k6_ w_START_ROWS w_NONE n_w_START_ROWS n_w_NONE vs_w_START_ROWS (.int 0) (.int 0) (.int 0) (.int 0) (.int 0) (.int 0) (.long 0) (.int 0) (.int 0) h2 n0 (Nat.le_trans Z0 K2.1) A2 F2_clients F2_backends F2_subsetSize F2_toClients F2_toBackends F2_toSubsetSize F2_replaced F2_mostReplacedByOneClient F2_whollyNewSubsets g_b2 f4_com_example_narrows_narr f5_w_START_ROWS f6_java_util_BitSet__assert f7_com_example_narrows_narr f8_w_NONE hf6 hf7 (oV A_w_START_ROWS.lt sz_b2) (oV A_w_NONE.lt sz_b2) hf8) hZ (oW hw 10 rfl) (oW hw 7 rfl) (by decide) (by decide)) (g := (mkF m 71 #[oI p0_, oI p1_, oI p2_, oI p3_, oI k1_, oI k3_, oI k2_, oI k4_, oI k6_, oI k5_, .unset, .unset, .unset] [(.int k6_), (.int k5_), (.int k4_), (.int k3_), (.int k2_), (.int k1_), (.ref b2), (.ref b2)])) rfl (by rw [hml]; rfl) (Steps.refl _) (a := b2) (argsL := [(.int k1_), (.int k2_), (.int k3_), (.int k4_), (.int k5_), (.int k6_)]) (rest := [(.ref b2)]) (lenOf own_pd22 rfl) rfl (by show 2 * 0 + _ ≤ _; exact Nat.le_of_eq rfl) (hb hby at_71) (fun _ _ => ⟨rfl, e2, (by decide : 1 + 1286 ≤ _), (by decide : 9 + 7426 ≤ _)⟩)
 dsimp only [Pt.U, Pt.locs, Pt.cells, Pt.slots] at X3 l3 y3 z3 st3 hQ3
 subst l3 y3 z3
 obtain ⟨rfl, N3q, Kq3, Q3_0, Q3_1, Q3_2⟩ := hQ3
 have N3 := Fr.app N1 N3q
 have K3 : Keep h0 T3.heap [] := K2.trans Kq3 (own_a1 (Or.inr sz_b2))
 obtain ⟨cq9, kq9, q9a, q9b, q9c⟩ := isOf hZ rfl Q3_0
 obtain ⟨_, _, ⟨T9, L9, k9, n9⟩, -, X9, ⟨Lc9, hQ9, l9, y9, z9⟩, st9⟩ := X3.virtualBack hx (y := oM20) (z := oM20) hown (mvT hZ (oW hw 256 rfl)) (mvT hZ (oW hw 257 rfl)) (notFace_of_selects (args := #[]) (mvT hZ (oW hw 259 rfl))) (mvT hZ (oW hw 259 rfl)) (mvT hZ (oW hw 258 rfl)) (by decide) (backOf (W := 0) (own_b43_x l Z a0 hw [] b2 k1_ k3_ T3.heap n0 (Nat.le_trans Z0 K3.1) Q3_1 Q3_2) hZ (oW hw 260 rfl) (oW hw 7 rfl) (by decide) (by decide)) q9a q9c (g := (mkF m 87 #[oI p0_, oI p1_, oI p2_, oI p3_, oI k1_, oI k3_, oI k2_, oI k4_, oI k6_, oI k5_, oA b2, oJ ((k1_.toInt64) * (k3_.toInt64)), .second] [(.ref b2)])) rfl (by rw [hml]; rfl) (Steps.refl _) (argsL := []) (rest := []) (lenOf own_pd6 rfl) rfl (by show 2 * 0 + _ ≤ _; exact Nat.le_of_eq rfl) (hb hby at_87) (fun _ _ => ⟨rfl, rfl, (by decide : 1287 + 0 ≤ _), (by decide : 7435 + 0 ≤ _)⟩)
 dsimp only [Pt.U, Pt.locs, Pt.cells, Pt.slots] at X9 l9 y9 z9 st9 hQ9
 subst l9 y9 z9
 obtain ⟨rfl, N9q, e9⟩ := hQ9
 have N9 := Fr.app N3 N9q
 obtain ⟨fs, hr, hrun, hended, hW, hsame⟩ := X9.leave (v := some (.int 1)) (fun h => by rw [Bd.returns] at h; cases h)
 refine ⟨_, _, castTop (own_ef41 m p0_ p1_ p2_ p3_) ?_, hrun, hended, _, _, rfl, ?_, ⟨_, rfl⟩, hW, (hsame.mono (by decide) (by decide))⟩
 · show oZ p e below s₁ (mkF m 0 #[oI p0_, oI p1_, oI p2_, oI p3_, .unset, .unset, .unset, .unset, .unset, .unset, .unset, .unset, .unset] []) _
   refine XS.iconst X0.here hx rfl (hb hby at_0) ?_
   refine XS.iloadN X0.here hx rfl (hb hby at_1) rfl ?_
   refine X0.ldcInt hx hown (mvT hZ (oW hw 0 rfl)) (g := (mkF m 2 #[oI p0_, oI p1_, oI p2_, oI p3_, .unset, .unset, .unset, .unset, .unset, .unset, .unset, .unset, .unset] [(.int p0_), (.int 1)])) rfl (hb hby at_2) _ ?_
   refine XS.iand X0.here hx rfl (hb hby at_4) rfl ?_
   refine st1 _ ?_
   show oZ p e below T1 (mkF m 8 #[oI p0_, oI p1_, oI p2_, oI p3_, .unset, .unset, .unset, .unset, .unset, .unset, .unset, .unset, .unset] [(.int (own_mx (1 : Int32) (p0_ &&& (2147483647 : Int32))))]) _
   rw [hf0]
   refine XS.istore X1.here hx rfl (hb hby at_8) rfl (l' := #[oI p0_, oI p1_, oI p2_, oI p3_, oI k1_, .unset, .unset, .unset, .unset, .unset, .unset, .unset, .unset]) rfl ?_
   refine XS.iconst X1.here hx rfl (hb hby at_10) ?_
   refine XS.iloadN X1.here hx rfl (hb hby at_11) rfl ?_
   refine XS.bipush X1.here hx rfl (hb hby at_12) ?_
   refine XS.iand X1.here hx rfl (hb hby at_14) rfl ?_
   refine XS.iadd X1.here hx rfl (hb hby at_15) rfl ?_
   show oZ p e below T1 (mkF m 16 #[oI p0_, oI p1_, oI p2_, oI p3_, oI k1_, .unset, .unset, .unset, .unset, .unset, .unset, .unset, .unset] [(.int ((1 : Int32) + (p1_ &&& (15 : Int32))))]) _
   rw [hf1]
   refine XS.istore X1.here hx rfl (hb hby at_16) rfl (l' := #[oI p0_, oI p1_, oI p2_, oI p3_, oI k1_, oI k3_, .unset, .unset, .unset, .unset, .unset, .unset, .unset]) rfl ?_
   refine XS.iload X1.here hx rfl (hb hby at_18) rfl ?_
   refine XS.iloadN X1.here hx rfl (hb hby at_20) rfl ?_
   refine XS.iconst X1.here hx rfl (hb hby at_21) ?_
   refine XS.iushr X1.here hx rfl (hb hby at_22) rfl ?_
   refine XS.bipush X1.here hx rfl (hb hby at_23) ?_
   refine XS.iand X1.here hx rfl (hb hby at_25) rfl ?_
   refine XS.iadd X1.here hx rfl (hb hby at_26) rfl ?_
   show oZ p e below T1 (mkF m 27 #[oI p0_, oI p1_, oI p2_, oI p3_, oI k1_, oI k3_, .unset, .unset, .unset, .unset, .unset, .unset, .unset] [(.int (k3_ + ((own_us p1_ (4 : Int32)) &&& (15 : Int32))))]) _
   rw [hf2]
   refine XS.istore X1.here hx rfl (hb hby at_27) rfl (l' := #[oI p0_, oI p1_, oI p2_, oI p3_, oI k1_, oI k3_, oI k2_, .unset, .unset, .unset, .unset, .unset, .unset]) rfl ?_
   refine XS.iconst X1.here hx rfl (hb hby at_29) ?_
   refine XS.iloadN X1.here hx rfl (hb hby at_30) rfl ?_
   refine XS.iconst X1.here hx rfl (hb hby at_31) ?_
   refine XS.iand X1.here hx rfl (hb hby at_32) rfl ?_
   refine XS.iadd X1.here hx rfl (hb hby at_33) rfl ?_
   show oZ p e below T1 (mkF m 34 #[oI p0_, oI p1_, oI p2_, oI p3_, oI k1_, oI k3_, oI k2_, .unset, .unset, .unset, .unset, .unset, .unset] [(.int ((1 : Int32) + (p2_ &&& (3 : Int32))))]) _
   rw [hf3]
   refine XS.istore X1.here hx rfl (hb hby at_34) rfl (l' := #[oI p0_, oI p1_, oI p2_, oI p3_, oI k1_, oI k3_, oI k2_, oI k4_, .unset, .unset, .unset, .unset, .unset]) rfl ?_
   refine XS.iconst X1.here hx rfl (hb hby at_36) ?_
   refine XS.iloadN X1.here hx rfl (hb hby at_37) rfl ?_
   refine XS.bipush X1.here hx rfl (hb hby at_38) ?_
   refine XS.iand X1.here hx rfl (hb hby at_40) rfl ?_
   refine XS.iadd X1.here hx rfl (hb hby at_41) rfl ?_
   show oZ p e below T1 (mkF m 42 #[oI p0_, oI p1_, oI p2_, oI p3_, oI k1_, oI k3_, oI k2_, oI k4_, .unset, .unset, .unset, .unset, .unset] [(.int ((1 : Int32) + (p3_ &&& (7 : Int32))))]) _
   rw [hf4]
   refine XS.istore X1.here hx rfl (hb hby at_42) rfl (l' := #[oI p0_, oI p1_, oI p2_, oI p3_, oI k1_, oI k3_, oI k2_, oI k4_, oI k6_, .unset, .unset, .unset, .unset]) rfl ?_
   refine XS.iload X1.here hx rfl (hb hby at_44) rfl ?_
   refine XS.iloadN X1.here hx rfl (hb hby at_46) rfl ?_
   refine XS.iconst X1.here hx rfl (hb hby at_47) ?_
   refine XS.iushr X1.here hx rfl (hb hby at_48) rfl ?_
   refine XS.bipush X1.here hx rfl (hb hby at_49) ?_
   refine XS.iand X1.here hx rfl (hb hby at_51) rfl ?_
   refine XS.iadd X1.here hx rfl (hb hby at_52) rfl ?_
   show oZ p e below T1 (mkF m 53 #[oI p0_, oI p1_, oI p2_, oI p3_, oI k1_, oI k3_, oI k2_, oI k4_, oI k6_, .unset, .unset, .unset, .unset] [(.int (k6_ + ((own_us p3_ (3 : Int32)) &&& (7 : Int32))))]) _
   rw [hf5]
   refine XS.istore X1.here hx rfl (hb hby at_53) rfl (l' := #[oI p0_, oI p1_, oI p2_, oI p3_, oI k1_, oI k3_, oI k2_, oI k4_, oI k6_, oI k5_, .unset, .unset, .unset]) rfl ?_
   refine st2 _ ?_
   refine XS.dup X2.here hx rfl (hb hby at_58) rfl rfl ?_
   refine XS.iload X2.here hx rfl (hb hby at_59) rfl ?_
   refine XS.iload X2.here hx rfl (hb hby at_61) rfl ?_
   refine XS.iload X2.here hx rfl (hb hby at_63) rfl ?_
   refine XS.iload X2.here hx rfl (hb hby at_65) rfl ?_
   refine XS.iload X2.here hx rfl (hb hby at_67) rfl ?_
   refine XS.iload X2.here hx rfl (hb hby at_69) rfl ?_
   refine st3.trans ?_
   show oZ p e below T3 (mkF m 74 #[oI p0_, oI p1_, oI p2_, oI p3_, oI k1_, oI k3_, oI k2_, oI k4_, oI k6_, oI k5_, .unset, .unset, .unset] [(.ref b2)]) _
   refine XS.astore X3.here hx rfl (hb hby at_74) rfl rfl (l' := #[oI p0_, oI p1_, oI p2_, oI p3_, oI k1_, oI k3_, oI k2_, oI k4_, oI k6_, oI k5_, oA b2, .unset, .unset]) rfl ?_
   refine XS.iload X3.here hx rfl (hb hby at_76) rfl ?_
   refine XS.i2l X3.here hx rfl (hb hby at_78) rfl ?_
   refine XS.iload X3.here hx rfl (hb hby at_79) rfl ?_
   refine XS.i2l X3.here hx rfl (hb hby at_81) rfl ?_
   refine XS.lmul X3.here hx rfl (hb hby at_82) rfl ?_
   refine XS.lstore X3.here hx rfl (hb hby at_83) rfl (l' := #[oI p0_, oI p1_, oI p2_, oI p3_, oI k1_, oI k3_, oI k2_, oI k4_, oI k6_, oI k5_, oA b2, oJ ((k1_.toInt64) * (k3_.toInt64)), .second]) rfl ?_
   refine XS.aload X3.here hx rfl (hb hby at_85) rfl rfl ?_
   refine st9.trans ?_
   refine XS.lload X9.here hx rfl (hb hby at_90) rfl ?_
   refine XS.lcmp X9.here hx rfl (hb hby at_92) rfl ?_
   show oZ p e below T9 (mkF m 93 #[oI p0_, oI p1_, oI p2_, oI p3_, oI k1_, oI k3_, oI k2_, oI k4_, oI k6_, oI k5_, oA b2, oJ ((k1_.toInt64) * (k3_.toInt64)), .second] [(.int (lcmpW ((k1_.toInt64) * (k3_.toInt64)) ((k1_.toInt64) * (k3_.toInt64))))]) _
   refine XS.ifNo X9.here hx rfl (hb hby at_93) rfl ((if0 _ _).trans (teq hf9).2) ?_
   refine XS.iconst X9.here hx rfl (hb hby at_96) ?_
   refine XS.goto X9.here hx rfl (pc0 := 97) (pc' := 101) rfl (hb hby at_97) (by decide) (by decide) ?_
   show oZ p e below T9 (mkF m 101 #[oI p0_, oI p1_, oI p2_, oI p3_, oI k1_, oI k3_, oI k2_, oI k4_, oI k6_, oI k5_, oA b2, oJ ((k1_.toInt64) * (k3_.toInt64)), .second] [(.int 1)]) _
   exact retN X9 hx (t := .boolean) Bd.returns (by simp) (hb hby at_101) hr
 · show own_QL n0 _ T9.heap _
   exact ⟨rfl, N9⟩
section OwnNumbers
def own_L (b : Nat) : Nat := (b - 1) / 10 + 1
def own_ftN (b n : Nat) : Int32 := if b / 10 < n then 0 else 1
def own_R (b n : Nat) : Nat := 10 * n / b
def own_cx (b n : Nat) : Nat := if own_L b ≤ n + 1 then own_L b else n + 1
def own_siD (b n : Int32) (L : Nat) (ft : Int32) : Decidable (own_siOK b n L ft) := by
 delta own_siOK
 delta own_sm
 infer_instance
def own_suD (b n cli ft : Int32) (L R cx cl : Nat) : Decidable (own_suOK b n cli ft L R cx cl) := by
 delta own_suOK
 delta own_swOK own_wkOK
 delta own_pairs
 infer_instance
def own_ckB (cl cn b n : Nat) : Bool := @decide _ (own_siD (Int32.ofNat b) (Int32.ofNat n) (own_L b) (own_ftN b n)) && (List.range cn).all fun i => @decide _ (own_suD (Int32.ofNat b) (Int32.ofNat n) (Int32.ofNat i) (own_ftN b n) (own_L b) (own_R b n) (own_cx b n) cl)
theorem own_ck_spec {cl cn b n : Nat} (h : own_ckB cl cn b n = true) : own_siOK (Int32.ofNat b) (Int32.ofNat n) (own_L b) (own_ftN b n) ∧ ∀ i, i < cn → own_suOK (Int32.ofNat b) (Int32.ofNat n) (Int32.ofNat i) (own_ftN b n) (own_L b) (own_R b n) (own_cx b n) cl := by
 obtain ⟨h1, h2⟩ := (Bool.and_eq_true _ _).mp (show (@decide _ (own_siD (Int32.ofNat b) (Int32.ofNat n) (own_L b) (own_ftN b n)) && (List.range cn).all fun i => @decide _ (own_suD (Int32.ofNat b) (Int32.ofNat n) (Int32.ofNat i) (own_ftN b n) (own_L b) (own_R b n) (own_cx b n) cl)) = true from h)
 exact ⟨@of_decide_eq_true _ (own_siD _ _ _ _) h1, fun i hi => @of_decide_eq_true _ (own_suD _ _ _ _ _ _ _ _) (List.all_eq_true.mp h2 i (List.mem_range.mpr hi))⟩
set_option maxRecDepth 100000 in
theorem own_ev1 : ∀ k : Fin 16, ∀ d : Fin 16, own_ckB 91 4 (k.1 + 1 + d.1) (k.1 + 1) = true := by decide +kernel
set_option maxRecDepth 100000 in
theorem own_ev2 : ∀ k : Fin 8, ∀ d : Fin 8, own_ckB 57 4 (k.1 + 1 + d.1) (k.1 + 1) = true := by decide +kernel
theorem own_lt1 {x : Int32} (hx : ¬ (x < (1 : Int32))) : ¬ (x < 0) := fun q => hx (by
 rw [Int32.lt_iff_toInt_lt] at q ⊢
 have e1 : (1 : Int32).toInt = 1 := rfl
 have e0 : (0 : Int32).toInt = 0 := rfl
 omega)
theorem own_clamp {x y : Int32} (q : ¬ (y < x)) : x.toNatClampNeg ≤ y.toNatClampNeg := by
 rw [Int32.lt_iff_toInt_lt] at q
 show x.toInt.toNat ≤ y.toInt.toNat
 omega
theorem own_miN {a b : Int32} (ha : ¬ (a < (1 : Int32))) (hb : ¬ (b < (1 : Int32))) : ∃ cnt : Nat, own_mi a b = Int32.ofNat cnt ∧ cnt ≤ a.toNatClampNeg ∧ cnt ≤ b.toNatClampNeg := by
 by_cases q : b < a
 · exact ⟨b.toNatClampNeg, (show own_mi a b = b from if_pos q).trans (own_nat_of (own_lt1 hb)), own_clamp (fun r => by rw [Int32.lt_iff_toInt_lt] at q r; omega), Nat.le_refl _⟩
 · exact ⟨a.toNatClampNeg, (show own_mi a b = a from if_neg q).trans (own_nat_of (own_lt1 ha)), Nat.le_refl _, own_clamp q⟩
theorem own_mx1 (x : Int32) : ¬ (own_mx (1 : Int32) x < (1 : Int32)) := by
 by_cases q : (1 : Int32) < x
 · rw [show own_mx (1 : Int32) x = x from if_pos q]
   intro r
   rw [Int32.lt_iff_toInt_lt] at q r
   omega
 · rw [show own_mx (1 : Int32) x = 1 from if_neg q]
   decide
theorem own_ch_ok {k1 k4 : Int32} {b n b' n' : Nat} (h1 : ¬ (k1 < (1 : Int32))) (h4 : ¬ (k4 < (1 : Int32))) (hc : k4.toNatClampNeg ≤ 4) (hn : n ≤ 16) (hn' : n' ≤ 16) (c1 : own_ckB 91 4 b n = true) (c2 : own_ckB 57 4 b' n' = true) : own_chOK k1 (Int32.ofNat b) (Int32.ofNat n) k4 (Int32.ofNat b') (Int32.ofNat n') := by
 obtain ⟨cnt, q1, q2, q3⟩ := own_miN h1 h4
 exact ⟨cnt, own_L b, own_ftN b n, own_R b n, own_cx b n, own_L b', own_ftN b' n', own_R b' n', own_cx b' n', h1, h4, (own_ck_spec c1).1, (own_ck_spec c2).1, q1, by omega, by rw [own_ofNat_nat (by omega)]; exact hn, by rw [own_ofNat_nat (by omega)]; exact hn', fun i hi => (own_ck_spec c1).2 i (by omega), fun i hi => (own_ck_spec c2).2 i (by omega)⟩
theorem own_msk {x y : Int32} {M : Nat} (h : y.toInt = x.toInt % (M : Int)) (h0 : 0 < M) : ∃ j : Nat, j < M ∧ y = Int32.ofNat j := by
 have h1 := Int.emod_nonneg x.toInt (show (M : Int) ≠ 0 by omega)
 have h2 := Int.emod_lt_of_pos x.toInt (show (0 : Int) < M by omega)
 rw [← h] at h1 h2
 refine ⟨y.toNatClampNeg, ?_, own_nat_of (fun q => ?_)⟩
 · show y.toInt.toNat < M
   omega
 · rw [Int32.lt_iff_toInt_lt] at q
   have e0 : (0 : Int32).toInt = 0 := rfl
   omega
theorem own_one (j : Nat) : (1 : Int32) + Int32.ofNat j = Int32.ofNat (j + 1) := by
 rw [Nat.add_comm, Int32.ofNat_add]; rfl
theorem own_lc0 (x : Int64) : lcmpW x x = 0 := by
 show (if x > x then (1 : Int32) else if x = x then 0 else -1) = 0
 rw [if_neg (fun q => absurd q (by rw [gt_iff_lt, Int64.lt_iff_toInt_lt]; omega)), if_pos rfl]
theorem own_len {args : Array Value} {s : State} {t : Term} {n : Int32} {a : Addr} {c : Cell} (h : (Term.length t).eval args s none [] s = some (.int n)) (ht : t.eval args s none [] s = some (.ref a)) (hc : s.heap[a]? = some c) : c.slots.size = n.toNatClampNeg ∧ ¬ n < 0 := by
 obtain ⟨a', c', ha', hat, hv⟩ := Term.length_spec h
 cases ht.symm.trans ha'
 cases hc.symm.trans (State.arrayAt?_spec hat).1
 have hl : c.slots.size < 2 ^ 31 := by
   rcases Nat.lt_or_ge c.slots.size (2 ^ 31) with q | q
   · exact q
   · exfalso
     simp [Term.eval, ht, hat, Nat.not_lt.mpr q] at h
 cases hv
 refine ⟨?_, fun q => ?_⟩
 · show _ = (c.slots.size.toInt32).toInt.toNat
   rw [len_toInt hl]; omega
 · rw [Int32.lt_iff_toInt_lt, len_toInt hl] at q
   have e0 : (0 : Int32).toInt = 0 := rfl
   omega
end OwnNumbers

theorem comes_1 {Post : Tables → Env → Array Value → State → Outcome → State → Prop} (hpost : ∀ tb e args s v u, (limb_1_1.after args s (.returned v) u = true ∧ limb_1_2.after args s (.returned v) u = true ∧ True) → FrameEnd s (.returned v) u (Jvm.fieldLocs frame_1_writes args s ++ Jvm.arrayLocs frame_1_arrays args s ++ Jvm.staticLocs frame_1_statics s) 1376 7616 → Post tb e args s (.returned v) u) :
   ArmFor flags0 classFile x code maxLocals ret World_1 tables_1 room_1 Calls_1 rest_1 Pre_1 Post := by
 intro l hfl _ _ p e ha hc hk s m args below hf hA hF happ hP
 obtain ⟨hcalls, hrest, hpre⟩ := hP
 obtain ⟨-, -, -, hnamed, -, -, -, hat⟩ := (Spec.applies_iff hf).mp happ
 obtain ⟨hg, hn⟩ := and_e (Cond.before_iff.mp (show (Jvm.Cond.and given_1 narrow_1).before args s = true from hpre))
 obtain ⟨hg0, hgr⟩ := and_e hg
 obtain ⟨ga0, gr0⟩ := and_e hgr
 obtain ⟨ga1, gr1⟩ := and_e gr0
 obtain ⟨ga2, gr2⟩ := and_e gr1
 have ga3 := gr2
 obtain ⟨w0_, w1_, w2_, w3_, rfl⟩ : ∃ w0_ w1_ w2_ w3_ : Value, args = #[w0_, w1_, w2_, w3_] := by
   have hs : args.size = 4 := by simpa [Cond.value, given_1] using hg0
   obtain ⟨L⟩ := args
   match L, hs with
   | [w0_, w1_, w2_, w3_], _ => exact ⟨w0_, w1_, w2_, w3_, rfl⟩
 have hw := fun d (hd : d ∈ tables_1) => atoms_spec (ws := Jvm.Cond.code x code maxLocals ret :: tables_1) hat d (List.mem_cons_of_mem _ hd)
 obtain ⟨p0_, ei0⟩ := is_v ga0
 obtain rfl : w0_ = (.int p0_) := Option.some.inj ei0
 obtain ⟨p1_, ei1⟩ := is_v ga1
 obtain rfl : w1_ = (.int p1_) := Option.some.inj ei1
 obtain ⟨p2_, ei2⟩ := is_v ga2
 obtain rfl : w2_ = (.int p2_) := Option.some.inj ei2
 obtain ⟨p3_, ei3⟩ := is_v ga3
 obtain rfl : w3_ = (.int p3_) := Option.some.inj ei3
 obtain ⟨c0, r0⟩ := and_e hn
 obtain ⟨c1, r1⟩ := and_e r0
 obtain ⟨c2, r2⟩ := and_e r1
 obtain ⟨c3, r3⟩ := and_e r2
 obtain ⟨c4, r4⟩ := and_e r3
 obtain ⟨c5, r5⟩ := and_e r4
 obtain ⟨c6, r6⟩ := and_e r5
 obtain ⟨c7, r7⟩ := and_e r6
 obtain ⟨c8, r8⟩ := and_e r7
 obtain ⟨c9, r9⟩ := and_e r8
 obtain ⟨c10, r10⟩ := and_e r9
 obtain ⟨c11, r11⟩ := and_e r10
 obtain ⟨c12, r12⟩ := and_e r11
 have c13 := r12
 obtain ⟨oS, evS⟩ := arr_v c0
 obtain ⟨oN, evN⟩ := arr_v c2
 have S_START := Sta.start evS (Or.inr ⟨(oW hw 16 rfl), (oW hw 135 rfl)⟩)
 have S_NONE := Sta.start evN (Or.inr ⟨(oW hw 219 rfl), (oW hw 227 rfl)⟩)
 obtain ⟨cS, ArS⟩ := Arr.start evS c0
 obtain ⟨cN, ArN⟩ := Arr.start evN c2
 obtain ⟨zS, mS⟩ := own_len (own_eqI c1) evS ArS.1
 obtain ⟨zN, mN⟩ := own_len (own_eqI c3) evN ArN.1
 have y0 : cS.slots[0]? = some (.int 0) := (elem_in (own_eqI c4) evS (Term.int_eval (0)) ArS.1).2
 have y1 : cS.slots[1]? = some (.int 8) := (elem_in (own_eqI c5) evS (Term.int_eval (1)) ArS.1).2
 have y2 : cS.slots[2]? = some (.int 2) := (elem_in (own_eqI c6) evS (Term.int_eval (2)) ArS.1).2
 have y3 : cS.slots[3]? = some (.int 4) := (elem_in (own_eqI c7) evS (Term.int_eval (3)) ArS.1).2
 have y4 : cS.slots[4]? = some (.int 6) := (elem_in (own_eqI c8) evS (Term.int_eval (4)) ArS.1).2
 have y5 : cS.slots[5]? = some (.int 1) := (elem_in (own_eqI c9) evS (Term.int_eval (5)) ArS.1).2
 have y6 : cS.slots[6]? = some (.int 9) := (elem_in (own_eqI c10) evS (Term.int_eval (6)) ArS.1).2
 have y7 : cS.slots[7]? = some (.int 5) := (elem_in (own_eqI c11) evS (Term.int_eval (7)) ArS.1).2
 have y8 : cS.slots[8]? = some (.int 3) := (elem_in (own_eqI c12) evS (Term.int_eval (8)) ArS.1).2
 have y9 : cS.slots[9]? = some (.int 7) := (elem_in (own_eqI c13) evS (Term.int_eval (9)) ArS.1).2
 have A_START : own_il s s.heap oS (10 : Int32) ([0, 8, 2, 4, 6, 1, 9, 5, 3, 7] : List Int32) := ⟨cS, ArS, zS, mS, fun k hk => by
   have hk' : k < 10 := Nat.lt_of_lt_of_eq hk zS
   match k, hk' with
   | 0, _ => exact y0
   | 1, _ => exact y1
   | 2, _ => exact y2
   | 3, _ => exact y3
   | 4, _ => exact y4
   | 5, _ => exact y5
   | 6, _ => exact y6
   | 7, _ => exact y7
   | 8, _ => exact y8
   | 9, _ => exact y9
   | k + 10, h => exact absurd h (by omega)⟩
 have A_NONE : own_ia s s.heap oN (0 : Int32) := ⟨cN, ArN, zN, mN, fun k hk => absurd (Nat.lt_of_lt_of_eq hk zN) (Nat.not_lt_zero k)⟩
 obtain ⟨hsets, hown0⟩ := atoms_of _ (rest_1_c_eq ▸ (show rest_1_c.before _ s = true from hrest))
 have S_BIT := Sta.start (own_eqI (Cond.before_iff.mp (hsets _ (oX 2 rfl)))) (Or.inl (hsets _ (oX 1 rfl)))
 obtain ⟨js, hjs, ejs⟩ := own_msk (M := 16) (Jvm.Kit.i32_mask p1_ 15 (k := 4) (by decide) (by decide)) (by decide)
 obtain ⟨jd, hjd, ejd⟩ := own_msk (M := 16) (Jvm.Kit.i32_mask (own_us p1_ (4 : Int32)) 15 (k := 4) (by decide) (by decide)) (by decide)
 obtain ⟨jt, hjt, ejt⟩ := own_msk (M := 4) (Jvm.Kit.i32_mask p2_ 3 (k := 2) (by decide) (by decide)) (by decide)
 obtain ⟨ju, hju, eju⟩ := own_msk (M := 8) (Jvm.Kit.i32_mask p3_ 7 (k := 3) (by decide) (by decide)) (by decide)
 obtain ⟨jv, hjv, ejv⟩ := own_msk (M := 8) (Jvm.Kit.i32_mask (own_us p3_ (3 : Int32)) 7 (k := 3) (by decide) (by decide)) (by decide)
 have key : MetFree l x (head1 (Jvm.Cond.code x code maxLocals ret :: tables_1) room_1) (fun a U => a = #[(.int p0_), (.int p1_), (.int p2_), (.int p3_)] ∧ s.Warmed39 U.vm ∧ U.heap = s.heap) (fun _ _ _ _ _ => True) (fun _ U o U' => ∃ v L, o = .returned v ∧ own_QL s.heap.size v U'.heap L ∧ FrameEnd U o U' L room_1.cells room_1.slots) := by
   exact own_law l s _ hw tables_1 p0_ p1_ p2_ p3_ (own_mx (1 : Int32) (p0_ &&& (2147483647 : Int32))) (Int32.ofNat (js + 1)) (Int32.ofNat (js + 1 + jd)) (Int32.ofNat (jt + 1)) (Int32.ofNat (ju + 1)) (Int32.ofNat (ju + 1 + jv)) oS (10 : Int32) ([0, 8, 2, 4, 6, 1, 9, 5, 3, 7] : List Int32) oN (0 : Int32) s.heap s.heap.size (Nat.le_refl _) S_START A_START S_BIT S_NONE A_NONE rfl (by rw [ejs]; exact own_one _) (by rw [ejd, ← Int32.ofNat_add]) (by rw [ejt]; exact own_one _) (by rw [eju]; exact own_one _) (by rw [ejv, ← Int32.ofNat_add]) rfl rfl (own_ch_ok (own_mx1 _) (own_ofNat_nlt (i := jt + 1) (c := 1) (by omega) (by omega)) (by rw [own_ofNat_nat (by omega)]; omega) (by omega) (by omega) (own_ev1 ⟨js, hjs⟩ ⟨jd, hjd⟩) (own_ev2 ⟨ju, hju⟩ ⟨jv, hjv⟩)) (own_lc0 _)
 obtain ⟨n, o, h1, h2, h3, _, L, rfl, ⟨rfl, N⟩, hq⟩ := key p e ha hc hk s m _ below hf ((Spec.applies_iff_loose hf).mp happ).1 ⟨rfl, State.Warmed39.refl s, rfl⟩ trivial
 refine ⟨n, _, h1, h2, h3, hpost _ _ _ _ _ _ ⟨Cond.after_iff.mpr rfl, Cond.after_iff.mpr (eq_i res_at (Term.int_eval (1)) rfl), trivial⟩ ⟨hq.1, hq.2.1, (hq.2.2.sift fun y hy => Or.inr (N y hy)).mono (by decide) (by decide)⟩⟩
theorem main_1_1 : Claimed_1_1 := comes_1 fun _ _ _ _ _ _ h hF => ⟨h.1, hF⟩
theorem main_1_2 : Claimed_1_2 := comes_1 fun _ _ _ _ _ _ h hF => ⟨h.2.1, hF⟩
end Jvm.Pilot.@@N@@
namespace Jvm.Pilot.@@N@@
open Jvm Jvm.ClassFile Sem Op Lib Jvm.Free Jvm.Stand Jvm.Pilot.@@N@@.Jvm.D
/-! MADE BY PROGRAM (witnessworld.py) out of the Statement's table words and the real class files: 26 classes; the members and pool entries that the words name. The judged class is class 1, her method 1. -/
namespace start1
open Jvm.ClassFile
def u (s : String) : CpInfo := .utf8 (stringToUtf16 s)
/-- a pool by its gaps: so many unusable entries, then the entry; so many at the end -/
def gap : Nat → List CpInfo → List CpInfo
  | 0, r => r
  | n + 1, r => .unusable :: gap n r
def poolList (es : List (Nat × CpInfo)) (last : Nat) : List CpInfo := es.foldr (fun e r => gap e.1 (e.2 :: r)) (gap last [])
def pool (es : List (Nat × CpInfo)) (last : Nat) : Array CpInfo := ⟨poolList es last⟩
def fileOf (pool : Array CpInfo) (this : Nat) (attrs : Array Attribute := #[]) (ms : Array MethodInfo := #[]) (fl : Nat := 33) (sup : Nat := 0) (ifs : Array Nat := #[]) (fds : Array FieldInfo := #[]) : ClassFile where
  minorVersion := 0
  majorVersion := 65
  constantPool := pool
  accessFlags := fl
  thisClass := this
  superClass := sup
  interfaces := ifs
  fields := fds
  methods := ms
  attributes := attrs
def plain (name : String) (sup : Option ClassId) : Class where
  name := name
  kind := .ordinary
  loader := none
  accessFlags := 33
  super := sup
  interfaces := #[]
  cf := none
  fields := #[]
  methods := #[]
  instanceTypes := #[]
  staticTypes := #[]
  resolved := #[]
  callSites := []
  init := .initialized
  statics := none
  mirror := none

def pool0 : Array CpInfo := pool [(5, u "<init>"), (0, u "()V"), (1, .class_ 10), (1, u "java/lang/Object"), (85, u "clone"), (0, u "()Ljava/lang/Object;")] 26

def k0c0 : Code := { maxStack := 0, maxLocals := 1, code := object_method_1_code, exceptionTable := #[], attributes := #[] }
def k0m0 : Method := { name := "<init>", desc := "()V", sig := { parameters := [], returnType := none }, accessFlags := 1, code := some k0c0 }
def k0m1 : Method := { name := "clone", desc := "()Ljava/lang/Object;", sig := { parameters := [], returnType := some (.object "java/lang/Object") }, accessFlags := 260, code := none }
/-- java/lang/Object -/
def k0 : Class := { plain "java/lang/Object" none with
  accessFlags := 33
  interfaces := #[]
  cf := some (fileOf pool0 8 #[] #[{ accessFlags := 1, nameIndex := 5, descriptorIndex := 6, attributes := #[] }, { accessFlags := 260, nameIndex := 96, descriptorIndex := 97, attributes := #[] }] 33 0 #[] #[])
  fields := #[]
  methods := #[k0m0, k0m1]
  instanceTypes := #[]
  staticTypes := #[]
  resolved := Array.replicate 124 none
  statics := none }

def pool1 : Array CpInfo := pool [(2, .class_ 4), (1, u "java/lang/Object"), (0, u "<init>"), (0, u "()V"), (0, .integer 2147483647), (0, .methodref 9 10), (0, .class_ 11), (0, .nameAndType 12 13), (0, u "java/lang/Math"), (0, u "max"), (0, u "(II)I"), (0, .class_ 15), (0, u "com/example/narrows/narrows/Churn"), (0, .methodref 14 17), (0, .nameAndType 5 18), (0, u "(IIIIII)V"), (0, .methodref 14 20), (0, .nameAndType 21 22), (0, u "connectionsBefore"), (0, u "()J"), (0, .class_ 24), (0, u "com/example/narrows/narrows/ChurnConnectionsBeforePinLaw"), (2, u "law"), (0, u "(IIII)Z")] 3

def k1m0 : Method := { name := "<init>", desc := "()V", sig := { parameters := [], returnType := none }, accessFlags := 1, code := none }
def k1c1 : Code := { maxStack := 8, maxLocals := 13, code := code, exceptionTable := #[], attributes := #[] }
def k1m1 : Method := { name := "law", desc := "(IIII)Z", sig := { parameters := [.int, .int, .int, .int], returnType := some .boolean }, accessFlags := 9, code := some k1c1 }
/-- com/example/narrows/narrows/ChurnConnectionsBeforePinLaw -/
def k1 : Class := { plain "com/example/narrows/narrows/ChurnConnectionsBeforePinLaw" (some 0) with
  accessFlags := 49
  interfaces := #[]
  cf := some (fileOf pool1 23 #[] #[{ accessFlags := 1, nameIndex := 5, descriptorIndex := 6, attributes := #[] }, { accessFlags := 9, nameIndex := 27, descriptorIndex := 28, attributes := #[] }] 49 2 #[] #[])
  fields := #[]
  methods := #[k1m0, k1m1]
  instanceTypes := #[]
  staticTypes := #[]
  resolved := Array.replicate 32 none
  statics := none }

def pool2 : Array CpInfo := pool [(1, .class_ 2), (0, u "java/lang/Math"), (1, .class_ 6), (1, u "java/lang/Object"), (0, u "<init>"), (0, u "()V"), (89, .class_ 100), (1, u "java/lang/Math$RandomNumberGeneratorHolder"), (20, u "(JJ)J"), (50, u "negativeZeroFloatBits"), (0, u "J"), (2, u "negativeZeroDoubleBits"), (21, u "max"), (2, u "min"), (43, u "$assertionsDisabled"), (0, u "Z"), (88, u "(II)I"), (2, u "twoToTheDoubleScaleDown"), (0, u "D"), (4, u "twoToTheDoubleScaleUp"), (9, u "E"), (3, u "PI"), (2, u "TAU"), (2, u "DEGREES_TO_RADIANS"), (0, u "RADIANS_TO_DEGREES")] 94

def k2m0 : Method := { name := "<init>", desc := "()V", sig := { parameters := [], returnType := none }, accessFlags := 2, code := none }
def k2c1 : Code := { maxStack := 2, maxLocals := 2, code := jdk_29_method_65_code, exceptionTable := #[], attributes := #[] }
def k2m1 : Method := { name := "max", desc := "(II)I", sig := { parameters := [.int, .int], returnType := some .int }, accessFlags := 9, code := some k2c1 }
def k2c2 : Code := { maxStack := 2, maxLocals := 2, code := jdk_29_method_69_code, exceptionTable := #[], attributes := #[] }
def k2m2 : Method := { name := "min", desc := "(II)I", sig := { parameters := [.int, .int], returnType := some .int }, accessFlags := 9, code := some k2c2 }
def k2c3 : Code := { maxStack := 4, maxLocals := 4, code := jdk_29_method_70_code, exceptionTable := #[], attributes := #[] }
def k2m3 : Method := { name := "min", desc := "(JJ)J", sig := { parameters := [.long, .long], returnType := some .long }, accessFlags := 9, code := some k2c3 }
/-- java/lang/Math -/
def k2 : Class := { plain "java/lang/Math" (some 0) with
  accessFlags := 49
  interfaces := #[]
  cf := some (fileOf pool2 1 #[.nestMembers #[98]] #[{ accessFlags := 2, nameIndex := 7, descriptorIndex := 8, attributes := #[] }, { accessFlags := 9, nameIndex := 198, descriptorIndex := 335, attributes := #[] }, { accessFlags := 9, nameIndex := 201, descriptorIndex := 335, attributes := #[] }, { accessFlags := 9, nameIndex := 201, descriptorIndex := 121, attributes := #[] }] 49 4 #[] #[{ accessFlags := 25, nameIndex := 354, descriptorIndex := 339, attributes := #[] }, { accessFlags := 25, nameIndex := 358, descriptorIndex := 339, attributes := #[] }, { accessFlags := 25, nameIndex := 361, descriptorIndex := 339, attributes := #[] }, { accessFlags := 26, nameIndex := 364, descriptorIndex := 339, attributes := #[] }, { accessFlags := 26, nameIndex := 365, descriptorIndex := 339, attributes := #[] }, { accessFlags := 26, nameIndex := 172, descriptorIndex := 173, attributes := #[] }, { accessFlags := 26, nameIndex := 176, descriptorIndex := 173, attributes := #[] }, { accessFlags := 8, nameIndex := 344, descriptorIndex := 339, attributes := #[] }, { accessFlags := 8, nameIndex := 338, descriptorIndex := 339, attributes := #[] }, { accessFlags := 4120, nameIndex := 245, descriptorIndex := 246, attributes := #[] }])
  fields := #[{ name := "E", type := .double, accessFlags := 25, slot := 0, constantValue := 0 }, { name := "PI", type := .double, accessFlags := 25, slot := 1, constantValue := 0 }, { name := "TAU", type := .double, accessFlags := 25, slot := 2, constantValue := 0 }, { name := "DEGREES_TO_RADIANS", type := .double, accessFlags := 26, slot := 3, constantValue := 0 }, { name := "RADIANS_TO_DEGREES", type := .double, accessFlags := 26, slot := 4, constantValue := 0 }, { name := "negativeZeroFloatBits", type := .long, accessFlags := 26, slot := 5, constantValue := 0 }, { name := "negativeZeroDoubleBits", type := .long, accessFlags := 26, slot := 6, constantValue := 0 }, { name := "twoToTheDoubleScaleUp", type := .double, accessFlags := 8, slot := 7, constantValue := 0 }, { name := "twoToTheDoubleScaleDown", type := .double, accessFlags := 8, slot := 8, constantValue := 0 }, { name := "$assertionsDisabled", type := .boolean, accessFlags := 4120, slot := 9, constantValue := 0 }]
  methods := #[k2m0, k2m1, k2m2, k2m3]
  instanceTypes := #[]
  staticTypes := #[.double, .double, .double, .double, .double, .long, .long, .double, .double, .boolean]
  resolved := Array.replicate 460 none
  statics := none }

def pool3 : Array CpInfo := pool [(1, .methodref 2 3), (0, .class_ 4), (0, .nameAndType 5 6), (0, u "java/lang/Object"), (0, u "<init>"), (0, u "()V"), (0, .methodref 8 9), (0, .class_ 10), (0, .nameAndType 11 12), (0, u "com/example/narrows/narrows/Subsetter"), (0, u "checkClients"), (0, u "(I)V"), (9, .methodref 8 23), (0, .nameAndType 5 24), (0, u "(II)V"), (0, .fieldref 26 27), (0, .class_ 28), (0, .nameAndType 29 30), (0, u "com/example/narrows/narrows/Churn"), (0, u "clients"), (0, u "I"), (0, .fieldref 26 32), (0, .nameAndType 33 30), (0, u "backends"), (0, .fieldref 26 35), (0, .nameAndType 36 30), (0, u "subsetSize"), (0, .fieldref 26 38), (0, .nameAndType 39 30), (0, u "toClients"), (0, .fieldref 26 41), (0, .nameAndType 42 30), (0, u "toBackends"), (0, .fieldref 26 44), (0, .nameAndType 45 30), (0, u "toSubsetSize"), (0, .methodref 47 48), (0, .class_ 49), (0, .nameAndType 50 51), (0, u "java/lang/Math"), (0, u "min"), (0, u "(II)I"), (0, .methodref 8 53), (0, .nameAndType 54 55), (0, u "subset"), (0, u "(I)[I"), (0, .methodref 57 58), (0, .class_ 59), (0, .nameAndType 60 61), (0, u "com/example/narrows/narrows/SubsetChange"), (0, u "between"), (0, u "([I[I)Lcom/example/narrows/narrows/SubsetChange;"), (0, .methodref 57 63), (0, .nameAndType 64 65), (0, u "removedCount"), (0, u "()I"), (0, .methodref 47 67), (0, .nameAndType 68 51), (0, u "max"), (0, .fieldref 26 70), (0, .nameAndType 71 72), (0, u "replaced"), (0, u "J"), (0, .fieldref 26 74), (0, .nameAndType 75 30), (0, u "mostReplacedByOneClient"), (0, .fieldref 26 77), (0, .nameAndType 78 30), (0, u "whollyNewSubsets"), (0, u "(IIIIII)V"), (3, u "connectionsBefore"), (0, u "()J")] 18

def k3c0 : Code := { maxStack := 4, maxLocals := 17, code := prog_7_method_1_code, exceptionTable := #[], attributes := #[] }
def k3m0 : Method := { name := "<init>", desc := "(IIIIII)V", sig := { parameters := [.int, .int, .int, .int, .int, .int], returnType := none }, accessFlags := 1, code := some k3c0 }
def k3c1 : Code := { maxStack := 4, maxLocals := 1, code := prog_7_method_8_code, exceptionTable := #[], attributes := #[] }
def k3m1 : Method := { name := "connectionsBefore", desc := "()J", sig := { parameters := [], returnType := some .long }, accessFlags := 1, code := some k3c1 }
/-- com/example/narrows/narrows/Churn -/
def k3 : Class := { plain "com/example/narrows/narrows/Churn" (some 0) with
  accessFlags := 49
  interfaces := #[]
  cf := some (fileOf pool3 26 #[] #[{ accessFlags := 1, nameIndex := 5, descriptorIndex := 79, attributes := #[] }, { accessFlags := 1, nameIndex := 83, descriptorIndex := 84, attributes := #[] }] 49 2 #[] #[{ accessFlags := 18, nameIndex := 29, descriptorIndex := 30, attributes := #[] }, { accessFlags := 18, nameIndex := 33, descriptorIndex := 30, attributes := #[] }, { accessFlags := 18, nameIndex := 36, descriptorIndex := 30, attributes := #[] }, { accessFlags := 18, nameIndex := 39, descriptorIndex := 30, attributes := #[] }, { accessFlags := 18, nameIndex := 42, descriptorIndex := 30, attributes := #[] }, { accessFlags := 18, nameIndex := 45, descriptorIndex := 30, attributes := #[] }, { accessFlags := 18, nameIndex := 71, descriptorIndex := 72, attributes := #[] }, { accessFlags := 18, nameIndex := 75, descriptorIndex := 30, attributes := #[] }, { accessFlags := 18, nameIndex := 78, descriptorIndex := 30, attributes := #[] }])
  fields := #[{ name := "clients", type := .int, accessFlags := 18, slot := 0, constantValue := 0 }, { name := "backends", type := .int, accessFlags := 18, slot := 1, constantValue := 0 }, { name := "subsetSize", type := .int, accessFlags := 18, slot := 2, constantValue := 0 }, { name := "toClients", type := .int, accessFlags := 18, slot := 3, constantValue := 0 }, { name := "toBackends", type := .int, accessFlags := 18, slot := 4, constantValue := 0 }, { name := "toSubsetSize", type := .int, accessFlags := 18, slot := 5, constantValue := 0 }, { name := "replaced", type := .long, accessFlags := 18, slot := 6, constantValue := 0 }, { name := "mostReplacedByOneClient", type := .int, accessFlags := 18, slot := 7, constantValue := 0 }, { name := "whollyNewSubsets", type := .int, accessFlags := 18, slot := 8, constantValue := 0 }]
  methods := #[k3m0, k3m1]
  instanceTypes := #[.int, .int, .int, .int, .int, .int, .long, .int, .int]
  staticTypes := #[]
  resolved := Array.replicate 103 none
  statics := none }

def pool4 : Array CpInfo := pool [(1, .methodref 2 3), (0, .class_ 4), (0, .nameAndType 5 6), (0, u "java/lang/Object"), (0, u "<init>"), (0, u "()V"), (13, .fieldref 21 22), (0, .class_ 23), (0, .nameAndType 24 25), (0, u "com/example/narrows/narrows/Subsetter"), (0, u "backends"), (0, u "I"), (0, .fieldref 21 27), (0, .nameAndType 28 25), (0, u "subsetSize"), (0, .fieldref 21 30), (0, .nameAndType 31 25), (0, u "lots"), (0, .class_ 33), (0, u "java/lang/Integer"), (0, .methodref 32 35), (0, .nameAndType 36 37), (0, u "numberOfLeadingZeros"), (0, u "(I)I"), (0, .methodref 39 40), (0, .class_ 41), (0, .nameAndType 42 43), (0, u "java/lang/Math"), (0, u "max"), (0, u "(II)I"), (0, .fieldref 21 45), (0, .nameAndType 46 25), (0, u "ringBits"), (0, .fieldref 21 48), (0, .nameAndType 49 50), (0, u "fitsInARow"), (0, u "Z"), (1, .methodref 21 53), (0, .nameAndType 54 55), (0, u "sharedWalk"), (0, u "(I)[I"), (3, .fieldref 21 60), (0, .nameAndType 61 62), (0, u "START_ROWS"), (0, u "[I"), (0, .methodref 21 64), (0, .nameAndType 65 66), (0, u "walk"), (0, u "(II)[I"), (0, .methodref 68 69), (0, .class_ 70), (0, .nameAndType 71 72), (0, u "java/util/Arrays"), (0, u "sort"), (0, u "([I)V"), (2, u "subset"), (10, .methodref 21 87), (0, .nameAndType 88 66), (0, u "walkOrder"), (0, .long 10), (1, .methodref 21 92), (0, .nameAndType 93 94), (0, u "lotsHolding"), (0, u "([IJ)I"), (0, .class_ 96), (0, u "com/example/narrows/narrows/Subsetter$Stretch"), (0, .methodref 95 98), (0, .nameAndType 5 99), (0, u "(JII)V"), (0, .methodref 21 101), (0, .nameAndType 102 103), (0, u "offerRows"), (0, u "([IILcom/example/narrows/narrows/Subsetter$Stretch;)Z"), (0, .fieldref 95 105), (0, .nameAndType 106 62), (0, u "chosen"), (0, .methodref 39 108), (0, .nameAndType 109 110), (0, u "min"), (0, u "(JJ)J"), (13, u "(I)Z"), (0, .methodref 95 126), (0, .nameAndType 127 124), (0, u "offer"), (2, u "(I)V"), (3, .methodref 21 135), (0, .nameAndType 136 137), (0, u "takeRow"), (0, u "(I[II[II)I"), (0, .methodref 21 139), (0, .nameAndType 140 141), (0, u "backendAt"), (0, u "(III)I"), (0, .methodref 21 143), (0, .nameAndType 144 37), (0, u "firstSlotAtOrAfter"), (0, .methodref 21 146), (0, .nameAndType 147 37), (0, u "lotAt"), (0, .methodref 21 149), (0, .nameAndType 150 66), (0, u "shuffle"), (1, .methodref 32 153), (0, .nameAndType 154 37), (0, u "reverse"), (0, .methodref 32 156), (0, .nameAndType 157 158), (0, u "toUnsignedLong"), (0, u "(I)J"), (0, .long 9), (1, .methodref 162 163), (0, .class_ 164), (0, .nameAndType 165 166), (0, u "com/example/narrows/narrows/SplitMix64"), (0, u "afterDraws"), (0, u "(JJ)Lcom/example/narrows/narrows/SplitMix64;"), (0, .methodref 162 168), (0, .nameAndType 169 170), (0, u "nextLong"), (0, u "()J"), (0, .methodref 172 173), (0, .class_ 174), (0, .nameAndType 175 110), (0, u "java/lang/Long"), (0, u "remainderUnsigned"), (0, u "LOT_SIZE"), (2, u "(II)V"), (7, u "checkClients")] 29

def k4c0 : Code := { maxStack := 5, maxLocals := 3, code := prog_29_method_1_code, exceptionTable := #[], attributes := #[] }
def k4m0 : Method := { name := "<init>", desc := "(II)V", sig := { parameters := [.int, .int], returnType := none }, accessFlags := 1, code := some k4c0 }
def k4c1 : Code := { maxStack := 4, maxLocals := 5, code := prog_29_method_2_code, exceptionTable := #[], attributes := #[] }
def k4m1 : Method := { name := "subset", desc := "(I)[I", sig := { parameters := [.int], returnType := some (.array .int) }, accessFlags := 1, code := some k4c1 }
def k4c2 : Code := { maxStack := 8, maxLocals := 11, code := prog_29_method_5_code, exceptionTable := #[], attributes := #[] }
def k4m2 : Method := { name := "sharedWalk", desc := "(I)[I", sig := { parameters := [.int], returnType := some (.array .int) }, accessFlags := 2, code := some k4c2 }
def k4c3 : Code := { maxStack := 4, maxLocals := 9, code := prog_29_method_9_code, exceptionTable := #[], attributes := #[] }
def k4m3 : Method := { name := "takeRow", desc := "(I[II[II)I", sig := { parameters := [.int, (.array .int), .int, (.array .int), .int], returnType := some .int }, accessFlags := 2, code := some k4c3 }
def k4c4 : Code := { maxStack := 4, maxLocals := 10, code := prog_29_method_10_code, exceptionTable := #[], attributes := #[] }
def k4m4 : Method := { name := "offerRows", desc := "([IILcom/example/narrows/narrows/Subsetter$Stretch;)Z", sig := { parameters := [(.array .int), .int, (.object "com/example/narrows/narrows/Subsetter$Stretch")], returnType := some .boolean }, accessFlags := 2, code := some k4c4 }
def k4c5 : Code := { maxStack := 8, maxLocals := 8, code := prog_29_method_11_code, exceptionTable := #[], attributes := #[] }
def k4m5 : Method := { name := "lotsHolding", desc := "([IJ)I", sig := { parameters := [(.array .int), .long], returnType := some .int }, accessFlags := 2, code := some k4c5 }
def k4c6 : Code := { maxStack := 8, maxLocals := 7, code := prog_29_method_12_code, exceptionTable := #[], attributes := #[] }
def k4m6 : Method := { name := "walk", desc := "(II)[I", sig := { parameters := [.int, .int], returnType := some (.array .int) }, accessFlags := 2, code := some k4c6 }
def k4c7 : Code := { maxStack := 4, maxLocals := 9, code := prog_29_method_13_code, exceptionTable := #[], attributes := #[] }
def k4m7 : Method := { name := "walkOrder", desc := "(II)[I", sig := { parameters := [.int, .int], returnType := some (.array .int) }, accessFlags := 2, code := some k4c7 }
def k4c8 : Code := { maxStack := 4, maxLocals := 6, code := prog_29_method_14_code, exceptionTable := #[], attributes := #[] }
def k4m8 : Method := { name := "backendAt", desc := "(III)I", sig := { parameters := [.int, .int, .int], returnType := some .int }, accessFlags := 2, code := some k4c8 }
def k4c9 : Code := { maxStack := 3, maxLocals := 1, code := prog_29_method_15_code, exceptionTable := #[], attributes := #[] }
def k4m9 : Method := { name := "checkClients", desc := "(I)V", sig := { parameters := [.int], returnType := none }, accessFlags := 8, code := some k4c9 }
def k4c10 : Code := { maxStack := 5, maxLocals := 5, code := prog_29_method_17_code, exceptionTable := #[], attributes := #[] }
def k4m10 : Method := { name := "firstSlotAtOrAfter", desc := "(I)I", sig := { parameters := [.int], returnType := some .int }, accessFlags := 2, code := some k4c10 }
def k4c11 : Code := { maxStack := 3, maxLocals := 2, code := prog_29_method_18_code, exceptionTable := #[], attributes := #[] }
def k4m11 : Method := { name := "lotAt", desc := "(I)I", sig := { parameters := [.int], returnType := some .int }, accessFlags := 2, code := some k4c11 }
def k4c12 : Code := { maxStack := 6, maxLocals := 7, code := prog_29_method_19_code, exceptionTable := #[], attributes := #[] }
def k4m12 : Method := { name := "shuffle", desc := "(II)[I", sig := { parameters := [.int, .int], returnType := some (.array .int) }, accessFlags := 10, code := some k4c12 }
/-- com/example/narrows/narrows/Subsetter -/
def k4 : Class := { plain "com/example/narrows/narrows/Subsetter" (some 0) with
  accessFlags := 49
  interfaces := #[]
  cf := some (fileOf pool4 21 #[.nestMembers #[95]] #[{ accessFlags := 1, nameIndex := 5, descriptorIndex := 179, attributes := #[] }, { accessFlags := 1, nameIndex := 75, descriptorIndex := 55, attributes := #[] }, { accessFlags := 2, nameIndex := 54, descriptorIndex := 55, attributes := #[] }, { accessFlags := 2, nameIndex := 136, descriptorIndex := 137, attributes := #[] }, { accessFlags := 2, nameIndex := 102, descriptorIndex := 103, attributes := #[] }, { accessFlags := 2, nameIndex := 93, descriptorIndex := 94, attributes := #[] }, { accessFlags := 2, nameIndex := 65, descriptorIndex := 66, attributes := #[] }, { accessFlags := 2, nameIndex := 88, descriptorIndex := 66, attributes := #[] }, { accessFlags := 2, nameIndex := 140, descriptorIndex := 141, attributes := #[] }, { accessFlags := 8, nameIndex := 187, descriptorIndex := 130, attributes := #[] }, { accessFlags := 2, nameIndex := 144, descriptorIndex := 37, attributes := #[] }, { accessFlags := 2, nameIndex := 147, descriptorIndex := 37, attributes := #[] }, { accessFlags := 10, nameIndex := 150, descriptorIndex := 66, attributes := #[] }] 49 2 #[] #[{ accessFlags := 26, nameIndex := 176, descriptorIndex := 25, attributes := #[] }, { accessFlags := 26, nameIndex := 61, descriptorIndex := 62, attributes := #[] }, { accessFlags := 18, nameIndex := 24, descriptorIndex := 25, attributes := #[] }, { accessFlags := 18, nameIndex := 28, descriptorIndex := 25, attributes := #[] }, { accessFlags := 18, nameIndex := 31, descriptorIndex := 25, attributes := #[] }, { accessFlags := 18, nameIndex := 49, descriptorIndex := 50, attributes := #[] }, { accessFlags := 18, nameIndex := 46, descriptorIndex := 25, attributes := #[] }])
  fields := #[{ name := "LOT_SIZE", type := .int, accessFlags := 26, slot := 0, constantValue := 0 }, { name := "START_ROWS", type := (.array .int), accessFlags := 26, slot := 1, constantValue := 0 }, { name := "backends", type := .int, accessFlags := 18, slot := 0, constantValue := 0 }, { name := "subsetSize", type := .int, accessFlags := 18, slot := 1, constantValue := 0 }, { name := "lots", type := .int, accessFlags := 18, slot := 2, constantValue := 0 }, { name := "fitsInARow", type := .boolean, accessFlags := 18, slot := 3, constantValue := 0 }, { name := "ringBits", type := .int, accessFlags := 18, slot := 4, constantValue := 0 }]
  methods := #[k4m0, k4m1, k4m2, k4m3, k4m4, k4m5, k4m6, k4m7, k4m8, k4m9, k4m10, k4m11, k4m12]
  instanceTypes := #[.int, .int, .int, .boolean, .int]
  staticTypes := #[.int, (.array .int)]
  resolved := ⟨List.replicate 104 none ++ some (.field 11 1) :: List.replicate 112 none⟩
  statics := some 0 }

def pool5 : Array CpInfo := pool [(1, .class_ 2), (0, u "java/io/Serializable"), (0, .class_ 4), (0, u "java/lang/Object")] 2

/-- java/io/Serializable -/
def k5 : Class := { plain "java/io/Serializable" (some 0) with
  accessFlags := 1537
  interfaces := #[]
  cf := some (fileOf pool5 1 #[] #[] 1537 3 #[] #[])
  fields := #[]
  methods := #[]
  instanceTypes := #[]
  staticTypes := #[]
  resolved := Array.replicate 7 none
  statics := none }

def pool6 : Array CpInfo := pool [(2, .class_ 4), (1, u "java/lang/Object"), (0, u "<init>"), (0, u "()V"), (1, .class_ 10), (1, u "java/lang/Number"), (2, .class_ 14), (0, u "java/io/Serializable"), (0, u "serialVersionUID"), (0, u "J")] 20

def k6m0 : Method := { name := "<init>", desc := "()V", sig := { parameters := [], returnType := none }, accessFlags := 1, code := none }
/-- java/lang/Number -/
def k6 : Class := { plain "java/lang/Number" (some 0) with
  accessFlags := 1057
  interfaces := #[5]
  cf := some (fileOf pool6 8 #[] #[{ accessFlags := 1, nameIndex := 5, descriptorIndex := 6, attributes := #[] }] 1057 2 #[13] #[{ accessFlags := 26, nameIndex := 15, descriptorIndex := 16, attributes := #[] }])
  fields := #[{ name := "serialVersionUID", type := .long, accessFlags := 26, slot := 0, constantValue := 0 }]
  methods := #[k6m0]
  instanceTypes := #[]
  staticTypes := #[.long]
  resolved := Array.replicate 37 none
  statics := none }

def pool7 : Array CpInfo := pool [(1, .class_ 2), (0, u "java/lang/Comparable"), (0, .class_ 4), (0, u "java/lang/Object")] 7

/-- java/lang/Comparable -/
def k7 : Class := { plain "java/lang/Comparable" (some 0) with
  accessFlags := 1537
  interfaces := #[]
  cf := some (fileOf pool7 1 #[] #[] 1537 3 #[] #[])
  fields := #[]
  methods := #[]
  instanceTypes := #[]
  staticTypes := #[]
  resolved := Array.replicate 12 none
  statics := none }

def pool8 : Array CpInfo := pool [(1, .class_ 2), (0, u "java/lang/constant/Constable"), (0, .class_ 4), (0, u "java/lang/Object")] 6

/-- java/lang/constant/Constable -/
def k8 : Class := { plain "java/lang/constant/Constable" (some 0) with
  accessFlags := 1537
  interfaces := #[]
  cf := some (fileOf pool8 1 #[] #[] 1537 3 #[] #[])
  fields := #[]
  methods := #[]
  instanceTypes := #[]
  staticTypes := #[]
  resolved := Array.replicate 11 none
  statics := none }

def pool9 : Array CpInfo := pool [(1, .class_ 2), (0, u "java/lang/constant/ConstantDesc"), (0, .class_ 4), (0, u "java/lang/Object")] 32

/-- java/lang/constant/ConstantDesc -/
def k9 : Class := { plain "java/lang/constant/ConstantDesc" (some 0) with
  accessFlags := 1537
  interfaces := #[]
  cf := some (fileOf pool9 1 #[] #[] 1537 3 #[] #[])
  fields := #[]
  methods := #[]
  instanceTypes := #[]
  staticTypes := #[]
  resolved := Array.replicate 37 none
  statics := none }

def pool10 : Array CpInfo := pool [(1, .class_ 2), (0, u "java/lang/Integer"), (16, u "digits"), (0, u "[C"), (19, u "toUnsignedLong"), (0, u "(I)J"), (11, u "numberOfLeadingZeros"), (0, u "(I)I"), (30, u "DigitOnes"), (0, u "[B"), (2, u "DigitTens"), (99, .class_ 190), (0, u "java/lang/Integer$IntegerCache"), (3, u "I"), (8, .class_ 204), (0, u "java/lang/Number"), (2, u "value"), (54, .long 4294967295), (1, .integer 65536), (0, .integer 1431655765), (0, .integer 858993459), (0, .integer 252645135), (0, .methodref 1 269), (0, .nameAndType 270 54), (0, u "reverseBytes"), (3, .integer 65280), (27, u "TYPE"), (0, u "Ljava/lang/Class;"), (0, .class_ 305), (0, u "java/lang/Comparable"), (0, .class_ 307), (0, u "java/lang/constant/Constable"), (0, .class_ 309), (0, u "java/lang/constant/ConstantDesc"), (0, u "MIN_VALUE"), (1, u "MAX_VALUE"), (3, u "SIZE"), (1, u "BYTES"), (1, u "serialVersionUID"), (0, u "J"), (89, u "reverse")] 41

def k10c0 : Code := { maxStack := 4, maxLocals := 1, code := jdk_33_method_42_code, exceptionTable := #[], attributes := #[] }
def k10m0 : Method := { name := "toUnsignedLong", desc := "(I)J", sig := { parameters := [.int], returnType := some .long }, accessFlags := 9, code := some k10c0 }
def k10c1 : Code := { maxStack := 3, maxLocals := 2, code := jdk_33_method_47_code, exceptionTable := #[], attributes := #[] }
def k10m1 : Method := { name := "numberOfLeadingZeros", desc := "(I)I", sig := { parameters := [.int], returnType := some .int }, accessFlags := 9, code := some k10c1 }
def k10c2 : Code := { maxStack := 3, maxLocals := 1, code := jdk_33_method_52_code, exceptionTable := #[], attributes := #[] }
def k10m2 : Method := { name := "reverse", desc := "(I)I", sig := { parameters := [.int], returnType := some .int }, accessFlags := 9, code := some k10c2 }
def k10c3 : Code := { maxStack := 3, maxLocals := 1, code := jdk_33_method_57_code, exceptionTable := #[], attributes := #[] }
def k10m3 : Method := { name := "reverseBytes", desc := "(I)I", sig := { parameters := [.int], returnType := some .int }, accessFlags := 9, code := some k10c3 }
/-- java/lang/Integer -/
def k10 : Class := { plain "java/lang/Integer" (some 6) with
  accessFlags := 49
  interfaces := #[7, 8, 9]
  cf := some (fileOf pool10 1 #[.nestMembers #[189]] #[{ accessFlags := 9, nameIndex := 40, descriptorIndex := 41, attributes := #[] }, { accessFlags := 9, nameIndex := 53, descriptorIndex := 54, attributes := #[] }, { accessFlags := 9, nameIndex := 411, descriptorIndex := 54, attributes := #[] }, { accessFlags := 9, nameIndex := 270, descriptorIndex := 54, attributes := #[] }] 49 203 #[304, 306, 308] #[{ accessFlags := 25, nameIndex := 310, descriptorIndex := 194, attributes := #[] }, { accessFlags := 25, nameIndex := 312, descriptorIndex := 194, attributes := #[] }, { accessFlags := 25, nameIndex := 302, descriptorIndex := 303, attributes := #[] }, { accessFlags := 24, nameIndex := 19, descriptorIndex := 20, attributes := #[] }, { accessFlags := 24, nameIndex := 89, descriptorIndex := 86, attributes := #[] }, { accessFlags := 24, nameIndex := 85, descriptorIndex := 86, attributes := #[] }, { accessFlags := 18, nameIndex := 207, descriptorIndex := 194, attributes := #[] }, { accessFlags := 25, nameIndex := 316, descriptorIndex := 194, attributes := #[] }, { accessFlags := 25, nameIndex := 318, descriptorIndex := 194, attributes := #[] }, { accessFlags := 26, nameIndex := 320, descriptorIndex := 321, attributes := #[] }])
  fields := #[{ name := "MIN_VALUE", type := .int, accessFlags := 25, slot := 0, constantValue := 0 }, { name := "MAX_VALUE", type := .int, accessFlags := 25, slot := 1, constantValue := 0 }, { name := "TYPE", type := (.object "java/lang/Class"), accessFlags := 25, slot := 2, constantValue := 0 }, { name := "digits", type := (.array .char), accessFlags := 24, slot := 3, constantValue := 0 }, { name := "DigitTens", type := (.array .byte), accessFlags := 24, slot := 4, constantValue := 0 }, { name := "DigitOnes", type := (.array .byte), accessFlags := 24, slot := 5, constantValue := 0 }, { name := "value", type := .int, accessFlags := 18, slot := 0, constantValue := 0 }, { name := "SIZE", type := .int, accessFlags := 25, slot := 6, constantValue := 0 }, { name := "BYTES", type := .int, accessFlags := 25, slot := 7, constantValue := 0 }, { name := "serialVersionUID", type := .long, accessFlags := 26, slot := 8, constantValue := 0 }]
  methods := #[k10m0, k10m1, k10m2, k10m3]
  instanceTypes := #[.int]
  staticTypes := #[.int, .int, (.object "java/lang/Class"), (.array .char), (.array .byte), (.array .byte), .int, .int, .long]
  resolved := Array.replicate 453 none
  statics := none }

def pool11 : Array CpInfo := pool [(1, .methodref 2 3), (0, .class_ 4), (0, .nameAndType 5 6), (0, u "java/lang/Object"), (0, u "<init>"), (0, u "()V"), (0, .fieldref 8 9), (0, .class_ 10), (0, .nameAndType 11 12), (0, u "com/example/narrows/narrows/Subsetter$Stretch"), (0, u "toSkip"), (0, u "J"), (0, .fieldref 8 14), (0, .nameAndType 15 16), (0, u "chosen"), (0, u "[I"), (0, .class_ 18), (0, u "java/util/BitSet"), (0, .methodref 17 20), (0, .nameAndType 5 21), (0, u "(I)V"), (0, .fieldref 8 23), (0, .nameAndType 24 25), (0, u "has"), (0, u "Ljava/util/BitSet;"), (0, .fieldref 8 27), (0, .nameAndType 28 29), (0, u "taken"), (0, u "I"), (0, .methodref 17 31), (0, .nameAndType 32 33), (0, u "get"), (0, u "(I)Z"), (0, .methodref 17 35), (0, .nameAndType 36 21), (0, u "set"), (0, u "(JII)V"), (2, u "offer"), (4, .class_ 46), (0, u "com/example/narrows/narrows/Subsetter")] 2

def k11c0 : Code := { maxStack := 4, maxLocals := 5, code := prog_30_method_1_code, exceptionTable := #[], attributes := #[] }
def k11m0 : Method := { name := "<init>", desc := "(JII)V", sig := { parameters := [.long, .int, .int], returnType := none }, accessFlags := 0, code := some k11c0 }
def k11c1 : Code := { maxStack := 5, maxLocals := 2, code := prog_30_method_2_code, exceptionTable := #[], attributes := #[] }
def k11m1 : Method := { name := "offer", desc := "(I)Z", sig := { parameters := [.int], returnType := some .boolean }, accessFlags := 0, code := some k11c1 }
/-- com/example/narrows/narrows/Subsetter$Stretch -/
def k11 : Class := { plain "com/example/narrows/narrows/Subsetter$Stretch" (some 0) with
  accessFlags := 48
  interfaces := #[]
  cf := some (fileOf pool11 8 #[.nestHost 45] #[{ accessFlags := 0, nameIndex := 5, descriptorIndex := 37, attributes := #[] }, { accessFlags := 0, nameIndex := 40, descriptorIndex := 33, attributes := #[] }] 48 2 #[] #[{ accessFlags := 2, nameIndex := 11, descriptorIndex := 12, attributes := #[] }, { accessFlags := 18, nameIndex := 15, descriptorIndex := 16, attributes := #[] }, { accessFlags := 2, nameIndex := 28, descriptorIndex := 29, attributes := #[] }, { accessFlags := 18, nameIndex := 24, descriptorIndex := 25, attributes := #[] }])
  fields := #[{ name := "toSkip", type := .long, accessFlags := 2, slot := 0, constantValue := 0 }, { name := "chosen", type := (.array .int), accessFlags := 18, slot := 1, constantValue := 0 }, { name := "taken", type := .int, accessFlags := 2, slot := 2, constantValue := 0 }, { name := "has", type := (.object "java/util/BitSet"), accessFlags := 18, slot := 3, constantValue := 0 }]
  methods := #[k11m0, k11m1]
  instanceTypes := #[.long, (.array .int), .int, (.object "java/util/BitSet")]
  staticTypes := #[]
  resolved := Array.replicate 49 none
  statics := none }

def pool12 : Array CpInfo := pool [(1, .class_ 2), (0, u "java/lang/Cloneable"), (0, .class_ 4), (0, u "java/lang/Object")] 2

/-- java/lang/Cloneable -/
def k12 : Class := { plain "java/lang/Cloneable" (some 0) with
  accessFlags := 1537
  interfaces := #[]
  cf := some (fileOf pool12 1 #[] #[] 1537 3 #[] #[])
  fields := #[]
  methods := #[]
  instanceTypes := #[]
  staticTypes := #[]
  resolved := Array.replicate 7 none
  statics := none }

def pool13 : Array CpInfo := pool [(1, .class_ 2), (0, u "java/util/BitSet"), (0, .fieldref 1 4), (0, .nameAndType 5 6), (0, u "$assertionsDisabled"), (0, u "Z"), (0, .fieldref 1 8), (0, .nameAndType 9 10), (0, u "wordsInUse"), (0, u "I"), (0, .fieldref 1 12), (0, .nameAndType 13 14), (0, u "words"), (0, u "[J"), (3, .nameAndType 19 20), (0, u "<init>"), (0, u "()V"), (0, .methodref 22 18), (0, .class_ 23), (0, u "java/lang/Object"), (0, .fieldref 1 25), (0, .nameAndType 26 6), (0, u "sizeIsSticky"), (0, .methodref 1 28), (0, .nameAndType 29 30), (0, u "initWords"), (0, u "(I)V"), (21, .methodref 1 53), (0, .nameAndType 54 55), (0, u "wordIndex"), (0, u "(I)I"), (0, .methodref 1 57), (0, .nameAndType 58 20), (0, u "checkInvariants"), (21, u "get"), (58, .methodref 1 140), (0, .nameAndType 141 30), (0, u "ensureCapacity"), (13, .methodref 1 156), (0, .nameAndType 157 30), (0, u "expandTo"), (11, u "set"), (99, .class_ 270), (0, u "java/util/BitSet$1BitSetSpliterator"), (22, u "serialPersistentFields"), (0, u "[Ljava/io/ObjectStreamField;"), (0, .class_ 296), (0, u "java/lang/Cloneable"), (0, .class_ 298), (0, u "java/io/Serializable"), (0, u "ADDRESS_BITS_PER_WORD"), (2, u "BITS_PER_WORD"), (1, u "BIT_INDEX_MASK"), (1, u "WORD_MASK"), (0, u "J"), (0, u "serialVersionUID"), (42, u "(I)Z")] 65

def k13c0 : Code := { maxStack := 2, maxLocals := 1, code := jdk_92_method_1_code, exceptionTable := #[], attributes := #[] }
def k13m0 : Method := { name := "wordIndex", desc := "(I)I", sig := { parameters := [.int], returnType := some .int }, accessFlags := 10, code := some k13c0 }
def k13c1 : Code := { maxStack := 4, maxLocals := 1, code := jdk_92_method_2_code, exceptionTable := #[], attributes := #[] }
def k13m1 : Method := { name := "checkInvariants", desc := "()V", sig := { parameters := [], returnType := none }, accessFlags := 2, code := some k13c1 }
def k13m2 : Method := { name := "<init>", desc := "()V", sig := { parameters := [], returnType := none }, accessFlags := 1, code := none }
def k13c3 : Code := { maxStack := 4, maxLocals := 2, code := jdk_92_method_5_code, exceptionTable := #[], attributes := #[] }
def k13m3 : Method := { name := "<init>", desc := "(I)V", sig := { parameters := [.int], returnType := none }, accessFlags := 1, code := some k13c3 }
def k13c4 : Code := { maxStack := 3, maxLocals := 2, code := jdk_92_method_6_code, exceptionTable := #[], attributes := #[] }
def k13m4 : Method := { name := "initWords", desc := "(I)V", sig := { parameters := [.int], returnType := none }, accessFlags := 2, code := some k13c4 }
def k13c5 : Code := { maxStack := 3, maxLocals := 3, code := jdk_92_method_14_code, exceptionTable := #[], attributes := #[] }
def k13m5 : Method := { name := "ensureCapacity", desc := "(I)V", sig := { parameters := [.int], returnType := none }, accessFlags := 2, code := some k13c5 }
def k13c6 : Code := { maxStack := 2, maxLocals := 3, code := jdk_92_method_15_code, exceptionTable := #[], attributes := #[] }
def k13m6 : Method := { name := "expandTo", desc := "(I)V", sig := { parameters := [.int], returnType := none }, accessFlags := 2, code := some k13c6 }
def k13c7 : Code := { maxStack := 7, maxLocals := 3, code := jdk_92_method_19_code, exceptionTable := #[], attributes := #[] }
def k13m7 : Method := { name := "set", desc := "(I)V", sig := { parameters := [.int], returnType := none }, accessFlags := 1, code := some k13c7 }
def k13c8 : Code := { maxStack := 5, maxLocals := 3, code := jdk_92_method_26_code, exceptionTable := #[], attributes := #[] }
def k13m8 : Method := { name := "get", desc := "(I)Z", sig := { parameters := [.int], returnType := some .boolean }, accessFlags := 1, code := some k13c8 }
/-- java/util/BitSet -/
def k13 : Class := { plain "java/util/BitSet" (some 0) with
  accessFlags := 33
  interfaces := #[12, 5]
  cf := some (fileOf pool13 1 #[.nestMembers #[269]] #[{ accessFlags := 10, nameIndex := 54, descriptorIndex := 55, attributes := #[] }, { accessFlags := 2, nameIndex := 58, descriptorIndex := 20, attributes := #[] }, { accessFlags := 1, nameIndex := 19, descriptorIndex := 20, attributes := #[] }, { accessFlags := 1, nameIndex := 19, descriptorIndex := 30, attributes := #[] }, { accessFlags := 2, nameIndex := 29, descriptorIndex := 30, attributes := #[] }, { accessFlags := 2, nameIndex := 141, descriptorIndex := 30, attributes := #[] }, { accessFlags := 2, nameIndex := 157, descriptorIndex := 30, attributes := #[] }, { accessFlags := 1, nameIndex := 169, descriptorIndex := 30, attributes := #[] }, { accessFlags := 1, nameIndex := 80, descriptorIndex := 351, attributes := #[] }] 33 22 #[295, 297] #[{ accessFlags := 26, nameIndex := 299, descriptorIndex := 10, attributes := #[] }, { accessFlags := 26, nameIndex := 302, descriptorIndex := 10, attributes := #[] }, { accessFlags := 26, nameIndex := 304, descriptorIndex := 10, attributes := #[] }, { accessFlags := 26, nameIndex := 306, descriptorIndex := 307, attributes := #[] }, { accessFlags := 26, nameIndex := 293, descriptorIndex := 294, attributes := #[] }, { accessFlags := 2, nameIndex := 13, descriptorIndex := 14, attributes := #[] }, { accessFlags := 130, nameIndex := 9, descriptorIndex := 10, attributes := #[] }, { accessFlags := 130, nameIndex := 26, descriptorIndex := 6, attributes := #[] }, { accessFlags := 26, nameIndex := 308, descriptorIndex := 307, attributes := #[] }, { accessFlags := 4120, nameIndex := 5, descriptorIndex := 6, attributes := #[] }])
  fields := #[{ name := "ADDRESS_BITS_PER_WORD", type := .int, accessFlags := 26, slot := 0, constantValue := 0 }, { name := "BITS_PER_WORD", type := .int, accessFlags := 26, slot := 1, constantValue := 0 }, { name := "BIT_INDEX_MASK", type := .int, accessFlags := 26, slot := 2, constantValue := 0 }, { name := "WORD_MASK", type := .long, accessFlags := 26, slot := 3, constantValue := 0 }, { name := "serialPersistentFields", type := (.array (.object "java/io/ObjectStreamField")), accessFlags := 26, slot := 4, constantValue := 0 }, { name := "words", type := (.array .long), accessFlags := 2, slot := 0, constantValue := 0 }, { name := "wordsInUse", type := .int, accessFlags := 130, slot := 1, constantValue := 0 }, { name := "sizeIsSticky", type := .boolean, accessFlags := 130, slot := 2, constantValue := 0 }, { name := "serialVersionUID", type := .long, accessFlags := 26, slot := 5, constantValue := 0 }, { name := "$assertionsDisabled", type := .boolean, accessFlags := 4120, slot := 6, constantValue := 0 }]
  methods := #[k13m0, k13m1, k13m2, k13m3, k13m4, k13m5, k13m6, k13m7, k13m8]
  instanceTypes := #[(.array .long), .int, .boolean]
  staticTypes := #[.int, .int, .int, .long, (.array (.object "java/io/ObjectStreamField")), .long, .boolean]
  resolved := Array.replicate 417 none
  statics := some 1 }

def pool14 : Array CpInfo := pool [(1, .methodref 2 3), (0, .class_ 4), (0, .nameAndType 5 6), (0, u "java/lang/Object"), (0, u "<init>"), (0, u "()V"), (0, .fieldref 8 9), (0, .class_ 10), (0, .nameAndType 11 12), (0, u "com/example/narrows/narrows/SplitMix64"), (0, u "state"), (0, u "J"), (0, .long 11400714819323198485), (1, .methodref 8 16), (0, .nameAndType 5 17), (0, u "(J)V"), (0, .long 13787848793156543929), (1, .long 10723151780598845931), (1, u "GAMMA"), (3, u "afterDraws"), (0, u "(JJ)Lcom/example/narrows/narrows/SplitMix64;"), (0, u "nextLong"), (0, u "()J")] 2

def k14c0 : Code := { maxStack := 3, maxLocals := 3, code := prog_27_method_1_code, exceptionTable := #[], attributes := #[] }
def k14m0 : Method := { name := "<init>", desc := "(J)V", sig := { parameters := [.long], returnType := none }, accessFlags := 2, code := some k14c0 }
def k14c1 : Code := { maxStack := 8, maxLocals := 4, code := prog_27_method_2_code, exceptionTable := #[], attributes := #[] }
def k14m1 : Method := { name := "afterDraws", desc := "(JJ)Lcom/example/narrows/narrows/SplitMix64;", sig := { parameters := [.long, .long], returnType := some (.object "com/example/narrows/narrows/SplitMix64") }, accessFlags := 8, code := some k14c1 }
def k14c2 : Code := { maxStack := 5, maxLocals := 3, code := prog_27_method_3_code, exceptionTable := #[], attributes := #[] }
def k14m2 : Method := { name := "nextLong", desc := "()J", sig := { parameters := [], returnType := some .long }, accessFlags := 0, code := some k14c2 }
/-- com/example/narrows/narrows/SplitMix64 -/
def k14 : Class := { plain "com/example/narrows/narrows/SplitMix64" (some 0) with
  accessFlags := 48
  interfaces := #[]
  cf := some (fileOf pool14 8 #[] #[{ accessFlags := 2, nameIndex := 5, descriptorIndex := 17, attributes := #[] }, { accessFlags := 8, nameIndex := 26, descriptorIndex := 27, attributes := #[] }, { accessFlags := 0, nameIndex := 28, descriptorIndex := 29, attributes := #[] }] 48 2 #[] #[{ accessFlags := 24, nameIndex := 22, descriptorIndex := 12, attributes := #[] }, { accessFlags := 2, nameIndex := 11, descriptorIndex := 12, attributes := #[] }])
  fields := #[{ name := "GAMMA", type := .long, accessFlags := 24, slot := 0, constantValue := 0 }, { name := "state", type := .long, accessFlags := 2, slot := 0, constantValue := 0 }]
  methods := #[k14m0, k14m1, k14m2]
  instanceTypes := #[.long]
  staticTypes := #[.long]
  resolved := Array.replicate 32 none
  statics := none }

def pool15 : Array CpInfo := pool [(1, .class_ 2), (0, u "java/lang/Long"), (232, .class_ 237), (1, u "java/lang/Long$LongCache"), (33, .class_ 272), (0, u "java/lang/Number"), (2, u "value"), (0, u "J"), (29, .long 18446744073709551615), (26, u "(JJ)J"), (27, u "TYPE"), (0, u "Ljava/lang/Class;"), (0, .class_ 364), (0, u "java/lang/Comparable"), (0, .class_ 366), (0, u "java/lang/constant/Constable"), (0, .class_ 368), (0, u "java/lang/constant/ConstantDesc"), (0, u "MIN_VALUE"), (1, u "MAX_VALUE"), (4, u "SIZE"), (0, u "I"), (1, u "BYTES"), (1, u "serialVersionUID"), (91, u "remainderUnsigned")] 50

def k15c0 : Code := { maxStack := 8, maxLocals := 8, code := jdk_35_method_45_code, exceptionTable := #[], attributes := #[] }
def k15m0 : Method := { name := "remainderUnsigned", desc := "(JJ)J", sig := { parameters := [.long, .long], returnType := some .long }, accessFlags := 9, code := some k15c0 }
/-- java/lang/Long -/
def k15 : Class := { plain "java/lang/Long" (some 6) with
  accessFlags := 49
  interfaces := #[7, 8, 9]
  cf := some (fileOf pool15 1 #[.nestMembers #[235]] #[{ accessFlags := 9, nameIndex := 473, descriptorIndex := 333, attributes := #[] }] 49 271 #[363, 365, 367] #[{ accessFlags := 25, nameIndex := 369, descriptorIndex := 276, attributes := #[] }, { accessFlags := 25, nameIndex := 371, descriptorIndex := 276, attributes := #[] }, { accessFlags := 25, nameIndex := 361, descriptorIndex := 362, attributes := #[] }, { accessFlags := 18, nameIndex := 275, descriptorIndex := 276, attributes := #[] }, { accessFlags := 25, nameIndex := 376, descriptorIndex := 377, attributes := #[] }, { accessFlags := 25, nameIndex := 379, descriptorIndex := 377, attributes := #[] }, { accessFlags := 26, nameIndex := 381, descriptorIndex := 276, attributes := #[] }])
  fields := #[{ name := "MIN_VALUE", type := .long, accessFlags := 25, slot := 0, constantValue := 0 }, { name := "MAX_VALUE", type := .long, accessFlags := 25, slot := 1, constantValue := 0 }, { name := "TYPE", type := (.object "java/lang/Class"), accessFlags := 25, slot := 2, constantValue := 0 }, { name := "value", type := .long, accessFlags := 18, slot := 0, constantValue := 0 }, { name := "SIZE", type := .int, accessFlags := 25, slot := 3, constantValue := 0 }, { name := "BYTES", type := .int, accessFlags := 25, slot := 4, constantValue := 0 }, { name := "serialVersionUID", type := .long, accessFlags := 26, slot := 5, constantValue := 0 }]
  methods := #[k15m0]
  instanceTypes := #[.long]
  staticTypes := #[.long, .long, (.object "java/lang/Class"), .int, .int, .long]
  resolved := Array.replicate 524 none
  statics := none }

def pool16 : Array CpInfo := pool [(2, .class_ 4), (1, u "java/lang/Object"), (0, u "<init>"), (0, u "()V"), (0, .methodref 8 9), (0, .class_ 10), (0, .nameAndType 11 12), (0, u "java/util/DualPivotQuicksort"), (0, u "sort"), (0, u "([IIII)V"), (1, .class_ 16), (1, u "java/util/Arrays"), (57, .class_ 76), (1, u "java/util/Arrays$NaturalOrder"), (32, u "()Ljava/lang/Object;"), (3, .class_ 115), (1, u "java/util/Arrays$LegacyMergeSort"), (1, u "Z"), (10, .nameAndType 129 109), (0, u "clone"), (20, .methodref 151 152), (0, .class_ 153), (0, .nameAndType 154 155), (0, u "java/lang/System"), (0, u "arraycopy"), (0, u "(Ljava/lang/Object;ILjava/lang/Object;II)V"), (146, u "copyOf"), (1, .methodref 305 306), (0, .class_ 307), (0, .nameAndType 308 309), (0, u "java/lang/Math"), (0, u "min"), (0, u "(II)I"), (6, .methodref 317 128), (0, .class_ 318), (0, u "[I"), (56, .class_ 376), (0, u "java/util/Arrays$ArrayList"), (68, u "$assertionsDisabled"), (269, u "MIN_ARRAY_SORT_GRAN"), (0, u "I"), (2, u "INSERTIONSORT_THRESHOLD"), (6, u "([I)V"), (144, u "([II)[I"), (103, .class_ 976), (0, u "java/util/Arrays$ArrayItr")] 52

def k16m0 : Method := { name := "<init>", desc := "()V", sig := { parameters := [], returnType := none }, accessFlags := 2, code := none }
def k16c1 : Code := { maxStack := 4, maxLocals := 1, code := jdk_65_method_2_code, exceptionTable := #[], attributes := #[] }
def k16m1 : Method := { name := "sort", desc := "([I)V", sig := { parameters := [(.array .int)], returnType := none }, accessFlags := 9, code := some k16c1 }
def k16c2 : Code := { maxStack := 6, maxLocals := 3, code := jdk_65_method_123_code, exceptionTable := #[], attributes := #[] }
def k16m2 : Method := { name := "copyOf", desc := "([II)[I", sig := { parameters := [(.array .int), .int], returnType := some (.array .int) }, accessFlags := 9, code := some k16c2 }
/-- java/util/Arrays -/
def k16 : Class := { plain "java/util/Arrays" (some 0) with
  accessFlags := 49
  interfaces := #[]
  cf := some (fileOf pool16 14 #[.nestMembers #[975, 375, 113, 74]] #[{ accessFlags := 2, nameIndex := 5, descriptorIndex := 6, attributes := #[] }, { accessFlags := 9, nameIndex := 11, descriptorIndex := 726, attributes := #[] }, { accessFlags := 9, nameIndex := 302, descriptorIndex := 871, attributes := #[] }] 49 2 #[] #[{ accessFlags := 26, nameIndex := 715, descriptorIndex := 716, attributes := #[] }, { accessFlags := 26, nameIndex := 719, descriptorIndex := 716, attributes := #[] }, { accessFlags := 4120, nameIndex := 445, descriptorIndex := 117, attributes := #[] }])
  fields := #[{ name := "MIN_ARRAY_SORT_GRAN", type := .int, accessFlags := 26, slot := 0, constantValue := 0 }, { name := "INSERTIONSORT_THRESHOLD", type := .int, accessFlags := 26, slot := 1, constantValue := 0 }, { name := "$assertionsDisabled", type := .boolean, accessFlags := 4120, slot := 2, constantValue := 0 }]
  methods := #[k16m0, k16m1, k16m2]
  instanceTypes := #[]
  staticTypes := #[.int, .int, .boolean]
  resolved := Array.replicate 1029 none
  statics := none }

def pool17 : Array CpInfo := pool [(1, .class_ 2), (0, u "java/util/DualPivotQuicksort"), (5, .class_ 10), (1, u "java/lang/Object"), (0, u "<init>"), (0, u "()V"), (4, .class_ 18), (0, u "java/util/DualPivotQuicksort$Sorter"), (7, .methodref 1 27), (0, .nameAndType 28 29), (0, u "sort"), (0, u "(Ljava/util/DualPivotQuicksort$Sorter;[IIII)V"), (3, u "([IIII)V"), (0, .methodref 1 35), (0, .nameAndType 36 37), (0, u "insertionSort"), (0, u "([III)V"), (30, u "I"), (4, .class_ 74), (0, u "java/util/DualPivotQuicksort$RunMerger"), (10, .class_ 86), (0, u "java/util/DualPivotQuicksort$Merger"), (127, u "MAX_MIXED_INSERTION_SORT_SIZE"), (2, u "MAX_INSERTION_SORT_SIZE"), (1, u "MIN_PARALLEL_SORT_SIZE"), (1, u "MIN_TRY_MERGE_SIZE"), (0, u "MIN_FIRST_RUN_SIZE"), (1, u "MIN_FIRST_RUNS_FACTOR"), (1, u "MAX_RUN_CAPACITY"), (1, u "MIN_RUN_COUNT"), (1, u "MIN_PARALLEL_MERGE_PARTS_SIZE"), (0, u "MIN_BYTE_COUNTING_SORT_SIZE"), (1, u "MIN_SHORT_OR_CHAR_COUNTING_SORT_SIZE"), (1, u "DELTA"), (1, u "MAX_RECURSION_DEPTH"), (1, u "NUM_BYTE_VALUES"), (1, u "MAX_BYTE_INDEX"), (0, u "NUM_CHAR_VALUES"), (0, u "NUM_SHORT_VALUES"), (0, u "MAX_SHORT_INDEX")] 86

def k17m0 : Method := { name := "<init>", desc := "()V", sig := { parameters := [], returnType := none }, accessFlags := 2, code := none }
def k17c1 : Code := { maxStack := 9, maxLocals := 7, code := jdk_2529_method_3_code, exceptionTable := #[], attributes := #[] }
def k17m1 : Method := { name := "sort", desc := "([IIII)V", sig := { parameters := [(.array .int), .int, .int, .int], returnType := none }, accessFlags := 8, code := some k17c1 }
def k17c2 : Code := { maxStack := 6, maxLocals := 21, code := jdk_2529_method_4_code, exceptionTable := #[], attributes := #[] }
def k17m2 : Method := { name := "sort", desc := "(Ljava/util/DualPivotQuicksort$Sorter;[IIII)V", sig := { parameters := [(.object "java/util/DualPivotQuicksort$Sorter"), (.array .int), .int, .int, .int], returnType := none }, accessFlags := 8, code := some k17c2 }
def k17c3 : Code := { maxStack := 4, maxLocals := 6, code := jdk_2529_method_6_code, exceptionTable := #[], attributes := #[] }
def k17m3 : Method := { name := "insertionSort", desc := "([III)V", sig := { parameters := [(.array .int), .int, .int], returnType := none }, accessFlags := 10, code := some k17c3 }
/-- java/util/DualPivotQuicksort -/
def k17 : Class := { plain "java/util/DualPivotQuicksort" (some 0) with
  accessFlags := 48
  interfaces := #[]
  cf := some (fileOf pool17 1 #[.nestMembers #[73, 85, 17]] #[{ accessFlags := 2, nameIndex := 11, descriptorIndex := 12, attributes := #[] }, { accessFlags := 8, nameIndex := 28, descriptorIndex := 33, attributes := #[] }, { accessFlags := 8, nameIndex := 28, descriptorIndex := 29, attributes := #[] }, { accessFlags := 10, nameIndex := 36, descriptorIndex := 37, attributes := #[] }] 48 8 #[] #[{ accessFlags := 26, nameIndex := 214, descriptorIndex := 68, attributes := #[] }, { accessFlags := 26, nameIndex := 217, descriptorIndex := 68, attributes := #[] }, { accessFlags := 26, nameIndex := 219, descriptorIndex := 68, attributes := #[] }, { accessFlags := 26, nameIndex := 221, descriptorIndex := 68, attributes := #[] }, { accessFlags := 26, nameIndex := 222, descriptorIndex := 68, attributes := #[] }, { accessFlags := 26, nameIndex := 224, descriptorIndex := 68, attributes := #[] }, { accessFlags := 26, nameIndex := 226, descriptorIndex := 68, attributes := #[] }, { accessFlags := 26, nameIndex := 228, descriptorIndex := 68, attributes := #[] }, { accessFlags := 26, nameIndex := 230, descriptorIndex := 68, attributes := #[] }, { accessFlags := 26, nameIndex := 231, descriptorIndex := 68, attributes := #[] }, { accessFlags := 26, nameIndex := 233, descriptorIndex := 68, attributes := #[] }, { accessFlags := 26, nameIndex := 235, descriptorIndex := 68, attributes := #[] }, { accessFlags := 26, nameIndex := 237, descriptorIndex := 68, attributes := #[] }, { accessFlags := 26, nameIndex := 239, descriptorIndex := 68, attributes := #[] }, { accessFlags := 26, nameIndex := 241, descriptorIndex := 68, attributes := #[] }, { accessFlags := 26, nameIndex := 242, descriptorIndex := 68, attributes := #[] }, { accessFlags := 26, nameIndex := 243, descriptorIndex := 68, attributes := #[] }, { accessFlags := 26, nameIndex := 244, descriptorIndex := 68, attributes := #[] }])
  fields := #[{ name := "MAX_MIXED_INSERTION_SORT_SIZE", type := .int, accessFlags := 26, slot := 0, constantValue := 0 }, { name := "MAX_INSERTION_SORT_SIZE", type := .int, accessFlags := 26, slot := 1, constantValue := 0 }, { name := "MIN_PARALLEL_SORT_SIZE", type := .int, accessFlags := 26, slot := 2, constantValue := 0 }, { name := "MIN_TRY_MERGE_SIZE", type := .int, accessFlags := 26, slot := 3, constantValue := 0 }, { name := "MIN_FIRST_RUN_SIZE", type := .int, accessFlags := 26, slot := 4, constantValue := 0 }, { name := "MIN_FIRST_RUNS_FACTOR", type := .int, accessFlags := 26, slot := 5, constantValue := 0 }, { name := "MAX_RUN_CAPACITY", type := .int, accessFlags := 26, slot := 6, constantValue := 0 }, { name := "MIN_RUN_COUNT", type := .int, accessFlags := 26, slot := 7, constantValue := 0 }, { name := "MIN_PARALLEL_MERGE_PARTS_SIZE", type := .int, accessFlags := 26, slot := 8, constantValue := 0 }, { name := "MIN_BYTE_COUNTING_SORT_SIZE", type := .int, accessFlags := 26, slot := 9, constantValue := 0 }, { name := "MIN_SHORT_OR_CHAR_COUNTING_SORT_SIZE", type := .int, accessFlags := 26, slot := 10, constantValue := 0 }, { name := "DELTA", type := .int, accessFlags := 26, slot := 11, constantValue := 0 }, { name := "MAX_RECURSION_DEPTH", type := .int, accessFlags := 26, slot := 12, constantValue := 0 }, { name := "NUM_BYTE_VALUES", type := .int, accessFlags := 26, slot := 13, constantValue := 0 }, { name := "MAX_BYTE_INDEX", type := .int, accessFlags := 26, slot := 14, constantValue := 0 }, { name := "NUM_CHAR_VALUES", type := .int, accessFlags := 26, slot := 15, constantValue := 0 }, { name := "NUM_SHORT_VALUES", type := .int, accessFlags := 26, slot := 16, constantValue := 0 }, { name := "MAX_SHORT_INDEX", type := .int, accessFlags := 26, slot := 17, constantValue := 0 }]
  methods := #[k17m0, k17m1, k17m2, k17m3]
  instanceTypes := #[]
  staticTypes := #[.int, .int, .int, .int, .int, .int, .int, .int, .int, .int, .int, .int, .int, .int, .int, .int, .int, .int]
  resolved := Array.replicate 331 none
  statics := none }

def pool18 : Array CpInfo := pool [(1, .methodref 2 3), (0, .class_ 4), (0, .nameAndType 5 6), (0, u "java/lang/Object"), (0, u "<init>"), (0, u "()V"), (0, .fieldref 8 9), (0, .class_ 10), (0, .nameAndType 11 12), (0, u "com/example/narrows/narrows/SubsetChange"), (0, u "added"), (0, u "[I"), (0, .fieldref 8 14), (0, .nameAndType 15 12), (0, u "removed"), (0, .methodref 8 17), (0, .nameAndType 18 19), (0, u "trimmed"), (0, u "([II)[I"), (0, .methodref 8 21), (0, .nameAndType 5 22), (0, u "([I[I)V"), (0, .fieldref 8 24), (0, .nameAndType 25 12), (0, u "NONE"), (0, .methodref 27 28), (0, .class_ 29), (0, .nameAndType 30 19), (0, u "java/util/Arrays"), (0, u "copyOf"), (15, u "between"), (0, u "([I[I)Lcom/example/narrows/narrows/SubsetChange;"), (2, u "removedCount"), (0, u "()I")] 19

def k18c0 : Code := { maxStack := 2, maxLocals := 3, code := prog_28_method_1_code, exceptionTable := #[], attributes := #[] }
def k18m0 : Method := { name := "<init>", desc := "([I[I)V", sig := { parameters := [(.array .int), (.array .int)], returnType := none }, accessFlags := 2, code := some k18c0 }
def k18c1 : Code := { maxStack := 5, maxLocals := 8, code := prog_28_method_2_code, exceptionTable := #[], attributes := #[] }
def k18m1 : Method := { name := "between", desc := "([I[I)Lcom/example/narrows/narrows/SubsetChange;", sig := { parameters := [(.array .int), (.array .int)], returnType := some (.object "com/example/narrows/narrows/SubsetChange") }, accessFlags := 8, code := some k18c1 }
def k18c2 : Code := { maxStack := 2, maxLocals := 2, code := prog_28_method_3_code, exceptionTable := #[], attributes := #[] }
def k18m2 : Method := { name := "trimmed", desc := "([II)[I", sig := { parameters := [(.array .int), .int], returnType := some (.array .int) }, accessFlags := 10, code := some k18c2 }
def k18c3 : Code := { maxStack := 1, maxLocals := 1, code := prog_28_method_6_code, exceptionTable := #[], attributes := #[] }
def k18m3 : Method := { name := "removedCount", desc := "()I", sig := { parameters := [], returnType := some .int }, accessFlags := 0, code := some k18c3 }
/-- com/example/narrows/narrows/SubsetChange -/
def k18 : Class := { plain "com/example/narrows/narrows/SubsetChange" (some 0) with
  accessFlags := 49
  interfaces := #[]
  cf := some (fileOf pool18 8 #[] #[{ accessFlags := 2, nameIndex := 5, descriptorIndex := 22, attributes := #[] }, { accessFlags := 8, nameIndex := 46, descriptorIndex := 47, attributes := #[] }, { accessFlags := 10, nameIndex := 18, descriptorIndex := 19, attributes := #[] }, { accessFlags := 0, nameIndex := 50, descriptorIndex := 51, attributes := #[] }] 49 2 #[] #[{ accessFlags := 26, nameIndex := 25, descriptorIndex := 12, attributes := #[] }, { accessFlags := 18, nameIndex := 11, descriptorIndex := 12, attributes := #[] }, { accessFlags := 18, nameIndex := 15, descriptorIndex := 12, attributes := #[] }])
  fields := #[{ name := "NONE", type := (.array .int), accessFlags := 26, slot := 0, constantValue := 0 }, { name := "added", type := (.array .int), accessFlags := 18, slot := 0, constantValue := 0 }, { name := "removed", type := (.array .int), accessFlags := 18, slot := 1, constantValue := 0 }]
  methods := #[k18m0, k18m1, k18m2, k18m3]
  instanceTypes := #[(.array .int), (.array .int)]
  staticTypes := #[(.array .int)]
  resolved := Array.replicate 71 none
  statics := some 2 }

def pool19 : Array CpInfo := pool [(2, .class_ 4), (1, u "java/lang/Object"), (0, u "<init>"), (0, u "()V"), (1, .class_ 10), (1, u "java/lang/System"), (0, u "allowSecurityManager"), (0, u "I"), (16, u "cons"), (0, u "Ljava/io/Console;"), (77, .class_ 110), (1, u "java/lang/System$CallersHolder"), (43, u "initialErrStream"), (0, u "Ljava/io/PrintStream;"), (19, u "security"), (0, u "Ljava/lang/SecurityManager;"), (31, .class_ 209), (0, u "java/lang/System$1"), (7, u "props"), (0, u "Ljava/util/Properties;"), (2, u "lineSeparator"), (0, u "Ljava/lang/String;"), (96, .class_ 321), (1, u "java/lang/System$LoggerFinder"), (5, .class_ 328), (0, u "java/lang/System$Logger"), (67, u "err"), (2, u "out"), (91, u "notSupportedJnuEncoding"), (15, u "in"), (17, u "initialIn"), (0, u "Ljava/io/InputStream;"), (35, u "bootLayer"), (0, u "Ljava/lang/ModuleLayer;"), (99, .class_ 664), (0, u "java/lang/System$2"), (9, u "NEVER"), (2, u "MAYBE"), (49, u "arraycopy"), (0, u "(Ljava/lang/Object;ILjava/lang/Object;II)V"), (72, .class_ 802), (0, u "java/lang/System$Logger$Level")] 31

def k19m0 : Method := { name := "<init>", desc := "()V", sig := { parameters := [], returnType := none }, accessFlags := 2, code := none }
def k19m1 : Method := { name := "arraycopy", desc := "(Ljava/lang/Object;ILjava/lang/Object;II)V", sig := { parameters := [(.object "java/lang/Object"), .int, (.object "java/lang/Object"), .int, .int], returnType := none }, accessFlags := 265, code := none }
/-- java/lang/System -/
def k19 : Class := { plain "java/lang/System" (some 0) with
  accessFlags := 49
  interfaces := #[]
  cf := some (fileOf pool19 8 #[.nestMembers #[319, 327, 801, 108, 663, 208]] #[{ accessFlags := 2, nameIndex := 5, descriptorIndex := 6, attributes := #[] }, { accessFlags := 265, nameIndex := 727, descriptorIndex := 728, attributes := #[] }] 49 2 #[] #[{ accessFlags := 25, nameIndex := 507, descriptorIndex := 526, attributes := #[] }, { accessFlags := 25, nameIndex := 399, descriptorIndex := 155, attributes := #[] }, { accessFlags := 25, nameIndex := 396, descriptorIndex := 155, attributes := #[] }, { accessFlags := 10, nameIndex := 525, descriptorIndex := 526, attributes := #[] }, { accessFlags := 26, nameIndex := 674, descriptorIndex := 12, attributes := #[] }, { accessFlags := 26, nameIndex := 677, descriptorIndex := 12, attributes := #[] }, { accessFlags := 10, nameIndex := 11, descriptorIndex := 12, attributes := #[] }, { accessFlags := 74, nameIndex := 175, descriptorIndex := 176, attributes := #[] }, { accessFlags := 10, nameIndex := 491, descriptorIndex := 222, attributes := #[] }, { accessFlags := 74, nameIndex := 29, descriptorIndex := 30, attributes := #[] }, { accessFlags := 74, nameIndex := 154, descriptorIndex := 155, attributes := #[] }, { accessFlags := 10, nameIndex := 217, descriptorIndex := 218, attributes := #[] }, { accessFlags := 10, nameIndex := 221, descriptorIndex := 222, attributes := #[] }, { accessFlags := 8, nameIndex := 562, descriptorIndex := 563, attributes := #[] }])
  fields := #[{ name := "in", type := (.object "java/io/InputStream"), accessFlags := 25, slot := 0, constantValue := 0 }, { name := "out", type := (.object "java/io/PrintStream"), accessFlags := 25, slot := 1, constantValue := 0 }, { name := "err", type := (.object "java/io/PrintStream"), accessFlags := 25, slot := 2, constantValue := 0 }, { name := "initialIn", type := (.object "java/io/InputStream"), accessFlags := 10, slot := 3, constantValue := 0 }, { name := "NEVER", type := .int, accessFlags := 26, slot := 4, constantValue := 0 }, { name := "MAYBE", type := .int, accessFlags := 26, slot := 5, constantValue := 0 }, { name := "allowSecurityManager", type := .int, accessFlags := 10, slot := 6, constantValue := 0 }, { name := "security", type := (.object "java/lang/SecurityManager"), accessFlags := 74, slot := 7, constantValue := 0 }, { name := "notSupportedJnuEncoding", type := (.object "java/lang/String"), accessFlags := 10, slot := 8, constantValue := 0 }, { name := "cons", type := (.object "java/io/Console"), accessFlags := 74, slot := 9, constantValue := 0 }, { name := "initialErrStream", type := (.object "java/io/PrintStream"), accessFlags := 74, slot := 10, constantValue := 0 }, { name := "props", type := (.object "java/util/Properties"), accessFlags := 10, slot := 11, constantValue := 0 }, { name := "lineSeparator", type := (.object "java/lang/String"), accessFlags := 10, slot := 12, constantValue := 0 }, { name := "bootLayer", type := (.object "java/lang/ModuleLayer"), accessFlags := 8, slot := 13, constantValue := 0 }]
  methods := #[k19m0, k19m1]
  instanceTypes := #[]
  staticTypes := #[(.object "java/io/InputStream"), (.object "java/io/PrintStream"), (.object "java/io/PrintStream"), (.object "java/io/InputStream"), .int, .int, .int, (.object "java/lang/SecurityManager"), (.object "java/lang/String"), (.object "java/io/Console"), (.object "java/io/PrintStream"), (.object "java/util/Properties"), (.object "java/lang/String"), (.object "java/lang/ModuleLayer")]
  resolved := Array.replicate 834 none
  statics := none }

/-- the primitive byte -/
def k20 : Class := { plain "byte" none with kind := .primitive 'B', accessFlags := 0x411 }
/-- [B -/
def k21 : Class := { plain "[B" (some 0) with kind := .array 20 .byte, interfaces := #[12, 5], accessFlags := 1041 }

/-- the primitive int -/
def k22 : Class := { plain "int" none with kind := .primitive 'I', accessFlags := 0x411 }
/-- [I -/
def k23 : Class := { plain "[I" (some 0) with kind := .array 22 .int, interfaces := #[12, 5], accessFlags := 1041 }

/-- the primitive long -/
def k24 : Class := { plain "long" none with kind := .primitive 'J', accessFlags := 0x411 }
/-- [J -/
def k25 : Class := { plain "[J" (some 0) with kind := .array 24 .long, interfaces := #[12, 5], accessFlags := 1041 }

def heap : Heap := #[{ cls := 4, slots := #[.int 0, .ref 3], vm := .statics 4 },
  { cls := 13, slots := #[.int 0, .int 0, .int 0, .long 0, .null, .long 0, .int 1], vm := .statics 13 },
  { cls := 18, slots := #[.ref 4], vm := .statics 18 },
  { cls := 23, slots := #[.int 0, .int 8, .int 2, .int 4, .int 6, .int 1, .int 9, .int 5, .int 3, .int 7], vm := .none },
  { cls := 23, slots := #[], vm := .none }]
def classes : Array Class := #[k0, k1, k2, k3, k4, k5, k6, k7, k8, k9, k10, k11, k12, k13, k14, k15, k16, k17, k18, k19, k20, k21, k22, k23, k24, k25]
def interned : List (Array UInt16 × Addr) := []
def slotsUsed : Nat := 20
def theMethod : MethodId := ⟨1, 1⟩
def args0 : Array Value := #[.int 5, .int 5, .int 5, .int 5]
def aboutOver (below : List Frame) : State where
  vm := { classes := classes, interned := interned.toArray }
  heap := heap
  slotsUsed := slotsUsed
  threads := #[{ frames := .invoking theMethod args0 :: below }]
def below0 : List Frame := [.native { method := ⟨0, 0⟩, args := #[] }]
def about1 : State := aboutOver below0
def p0 : Program := .bare "" "" ""
def e0 : Env := launch0.env 0 0 0
theorem w_frames : about1.frames = Frame.invoking theMethod args0 :: below0 := rfl
set_option maxRecDepth 65536 in
theorem w_args : argsFit about1.vm theMethod args0 = true := by decide +kernel
set_option maxRecDepth 65536 in
theorem w_heap : heapFits about1 = true := by decide +kernel
set_option maxRecDepth 65536 in
theorem w_runnable : about1.curStatus? = some .runnable := by decide +kernel
set_option maxRecDepth 65536 in
theorem w_alone : about1.alone = true := by decide +kernel
set_option maxRecDepth 65536 in
theorem w_named : about1.methodNamed? x = some theMethod := by decide +kernel
set_option maxRecDepth 65536 in
theorem w_hears : about1.hears theMethod below0 = true := by decide +kernel
set_option maxRecDepth 65536 in
theorem w_ripe : about1.ripe theMethod args0 below0 = true := by decide +kernel
theorem w_running : about1.status = .running := rfl
set_option maxRecDepth 65536 in
theorem w_room : about1.hasRoom e0.platform room_1 = true :=
  launch0.hasRoom_least _ room_1 (by decide +kernel) (by decide +kernel) (by decide +kernel) (by decide +kernel) (by decide +kernel) (by decide +kernel)
theorem allAtoms_all (ts : List Jvm.Cond) (a : Array Jvm.Value) (st : Jvm.State) : (allAtoms ts).before a st = ts.all (fun c => c.before a st) := by
  induction ts with
  | nil => rfl
  | cons c t ih =>
    show (Jvm.Cond.and c (allAtoms t)).before a st = _
    rw [Jvm.Cond.before_and, ih, List.all_cons]
def words1 : List Jvm.Cond := Jvm.Cond.code x code maxLocals ret :: tables_1
/-- a 'code' word, met by the world's own term for the bytes: nothing is compared byte by byte -/
theorem code_word {y : MethodName} {bytes : ByteArray} {mx : Nat} {rt : Option FieldType} {a : Array Value} {s : State} {m : MethodId} {meth : Method} {c : Code} (h1 : s.methodNamed? y = some m) (h2 : s.vm.method? m = some meth) (h3 : meth.code = some c) (h4 : c.code = bytes)
    (h5 : (c.maxLocals == mx && c.exceptionTable.isEmpty && decide (c.maxStack ≤ mostOperands) && decide (meth.sig.returnType = rt) && !meth.locks && decide (parseMethodDescriptor y.desc = some meth.sig)) = true) : (Jvm.Cond.code y bytes mx rt).before a s = true := by
  simp only [Bool.and_eq_true, beq_iff_eq, Bool.not_eq_true', decide_eq_true_eq] at h5
  obtain ⟨⟨⟨⟨⟨g1, g2⟩, g3⟩, g4⟩, g5⟩, g6⟩ := h5
  simp [Cond.before, Cond.holds, Cond.value, h1, h2, h3, h4, g1, g2, g3, g4, g5, g6]
def isCode : Jvm.Cond → Bool
  | .code _ _ _ _ => true
  | _ => false
theorem all_split {L : List Jvm.Cond} {P : Jvm.Cond → Bool} (h1 : L.all (fun c => isCode c || P c) = true) (h2 : ∀ c ∈ L.filter isCode, P c = true) : L.all P = true := by
  refine List.all_eq_true.mpr fun c hc => ?_
  have h := List.all_eq_true.mp h1 c hc
  rcases Bool.eq_false_or_eq_true (isCode c) with hi | hi
  · exact h2 c (List.mem_filter.mpr ⟨hc, hi⟩)
  · simpa [hi] using h
set_option maxRecDepth 65536 in
theorem w_c0 : (Jvm.Cond.code x code maxLocals ret).before args0 about1 = true := code_word (m := ⟨1, 1⟩) (meth := k1m1) (c := k1c1) (by decide +kernel) rfl rfl rfl (by decide +kernel)
set_option maxRecDepth 65536 in
theorem w_c1 : (Jvm.Cond.code ({ cls := "java/lang/Math", name := "max", desc := "(II)I" } : Jvm.MethodName) jdk_29_method_65_code (2 : Nat) (Option.some Jvm.ClassFile.FieldType.int)).before args0 about1 = true := code_word (m := ⟨2, 1⟩) (meth := k2m1) (c := k2c1) (by decide +kernel) rfl rfl rfl (by decide +kernel)
set_option maxRecDepth 65536 in
theorem w_c2 : (Jvm.Cond.code ({ cls := "com/example/narrows/narrows/Churn", name := "<init>", desc := "(IIIIII)V" } : Jvm.MethodName) prog_7_method_1_code (17 : Nat) (Option.none : Option Jvm.ClassFile.FieldType)).before args0 about1 = true := code_word (m := ⟨3, 0⟩) (meth := k3m0) (c := k3c0) (by decide +kernel) rfl rfl rfl (by decide +kernel)
set_option maxRecDepth 65536 in
theorem w_c3 : (Jvm.Cond.code ({ cls := "java/lang/Object", name := "<init>", desc := "()V" } : Jvm.MethodName) object_method_1_code (1 : Nat) (Option.none : Option Jvm.ClassFile.FieldType)).before args0 about1 = true := code_word (m := ⟨0, 0⟩) (meth := k0m0) (c := k0c0) (by decide +kernel) rfl rfl rfl (by decide +kernel)
set_option maxRecDepth 65536 in
theorem w_c4 : (Jvm.Cond.code ({ cls := "com/example/narrows/narrows/Subsetter", name := "checkClients", desc := "(I)V" } : Jvm.MethodName) prog_29_method_15_code (1 : Nat) (Option.none : Option Jvm.ClassFile.FieldType)).before args0 about1 = true := code_word (m := ⟨4, 9⟩) (meth := k4m9) (c := k4c9) (by decide +kernel) rfl rfl rfl (by decide +kernel)
set_option maxRecDepth 65536 in
theorem w_c5 : (Jvm.Cond.code ({ cls := "com/example/narrows/narrows/Subsetter", name := "<init>", desc := "(II)V" } : Jvm.MethodName) prog_29_method_1_code (3 : Nat) (Option.none : Option Jvm.ClassFile.FieldType)).before args0 about1 = true := code_word (m := ⟨4, 0⟩) (meth := k4m0) (c := k4c0) (by decide +kernel) rfl rfl rfl (by decide +kernel)
set_option maxRecDepth 65536 in
theorem w_c6 : (Jvm.Cond.code ({ cls := "java/lang/Integer", name := "numberOfLeadingZeros", desc := "(I)I" } : Jvm.MethodName) jdk_33_method_47_code (2 : Nat) (Option.some Jvm.ClassFile.FieldType.int)).before args0 about1 = true := code_word (m := ⟨10, 1⟩) (meth := k10m1) (c := k10c1) (by decide +kernel) rfl rfl rfl (by decide +kernel)
set_option maxRecDepth 65536 in
theorem w_c7 : (Jvm.Cond.code ({ cls := "java/lang/Math", name := "min", desc := "(II)I" } : Jvm.MethodName) jdk_29_method_69_code (2 : Nat) (Option.some Jvm.ClassFile.FieldType.int)).before args0 about1 = true := code_word (m := ⟨2, 2⟩) (meth := k2m2) (c := k2c2) (by decide +kernel) rfl rfl rfl (by decide +kernel)
set_option maxRecDepth 65536 in
theorem w_c8 : (Jvm.Cond.code ({ cls := "com/example/narrows/narrows/Subsetter", name := "subset", desc := "(I)[I" } : Jvm.MethodName) prog_29_method_2_code (5 : Nat) (Option.some (Jvm.ClassFile.FieldType.array Jvm.ClassFile.FieldType.int))).before args0 about1 = true := code_word (m := ⟨4, 1⟩) (meth := k4m1) (c := k4c1) (by decide +kernel) rfl rfl rfl (by decide +kernel)
set_option maxRecDepth 65536 in
theorem w_c9 : (Jvm.Cond.code ({ cls := "com/example/narrows/narrows/Subsetter", name := "sharedWalk", desc := "(I)[I" } : Jvm.MethodName) prog_29_method_5_code (11 : Nat) (Option.some (Jvm.ClassFile.FieldType.array Jvm.ClassFile.FieldType.int))).before args0 about1 = true := code_word (m := ⟨4, 2⟩) (meth := k4m2) (c := k4c2) (by decide +kernel) rfl rfl rfl (by decide +kernel)
set_option maxRecDepth 65536 in
theorem w_c10 : (Jvm.Cond.code ({ cls := "com/example/narrows/narrows/Subsetter", name := "walkOrder", desc := "(II)[I" } : Jvm.MethodName) prog_29_method_13_code (9 : Nat) (Option.some (Jvm.ClassFile.FieldType.array Jvm.ClassFile.FieldType.int))).before args0 about1 = true := code_word (m := ⟨4, 7⟩) (meth := k4m7) (c := k4c7) (by decide +kernel) rfl rfl rfl (by decide +kernel)
set_option maxRecDepth 65536 in
theorem w_c11 : (Jvm.Cond.code ({ cls := "com/example/narrows/narrows/Subsetter", name := "firstSlotAtOrAfter", desc := "(I)I" } : Jvm.MethodName) prog_29_method_17_code (5 : Nat) (Option.some Jvm.ClassFile.FieldType.int)).before args0 about1 = true := code_word (m := ⟨4, 10⟩) (meth := k4m10) (c := k4c10) (by decide +kernel) rfl rfl rfl (by decide +kernel)
set_option maxRecDepth 65536 in
theorem w_c12 : (Jvm.Cond.code ({ cls := "java/lang/Integer", name := "reverse", desc := "(I)I" } : Jvm.MethodName) jdk_33_method_52_code (1 : Nat) (Option.some Jvm.ClassFile.FieldType.int)).before args0 about1 = true := code_word (m := ⟨10, 2⟩) (meth := k10m2) (c := k10c2) (by decide +kernel) rfl rfl rfl (by decide +kernel)
set_option maxRecDepth 65536 in
theorem w_c13 : (Jvm.Cond.code ({ cls := "java/lang/Integer", name := "reverseBytes", desc := "(I)I" } : Jvm.MethodName) jdk_33_method_57_code (1 : Nat) (Option.some Jvm.ClassFile.FieldType.int)).before args0 about1 = true := code_word (m := ⟨10, 3⟩) (meth := k10m3) (c := k10c3) (by decide +kernel) rfl rfl rfl (by decide +kernel)
set_option maxRecDepth 65536 in
theorem w_c14 : (Jvm.Cond.code ({ cls := "java/lang/Integer", name := "toUnsignedLong", desc := "(I)J" } : Jvm.MethodName) jdk_33_method_42_code (1 : Nat) (Option.some Jvm.ClassFile.FieldType.long)).before args0 about1 = true := code_word (m := ⟨10, 0⟩) (meth := k10m0) (c := k10c0) (by decide +kernel) rfl rfl rfl (by decide +kernel)
set_option maxRecDepth 65536 in
theorem w_c15 : (Jvm.Cond.code ({ cls := "com/example/narrows/narrows/Subsetter", name := "lotAt", desc := "(I)I" } : Jvm.MethodName) prog_29_method_18_code (2 : Nat) (Option.some Jvm.ClassFile.FieldType.int)).before args0 about1 = true := code_word (m := ⟨4, 11⟩) (meth := k4m11) (c := k4c11) (by decide +kernel) rfl rfl rfl (by decide +kernel)
set_option maxRecDepth 65536 in
theorem w_c16 : (Jvm.Cond.code ({ cls := "com/example/narrows/narrows/Subsetter", name := "lotsHolding", desc := "([IJ)I" } : Jvm.MethodName) prog_29_method_11_code (8 : Nat) (Option.some Jvm.ClassFile.FieldType.int)).before args0 about1 = true := code_word (m := ⟨4, 5⟩) (meth := k4m5) (c := k4c5) (by decide +kernel) rfl rfl rfl (by decide +kernel)
set_option maxRecDepth 65536 in
theorem w_c17 : (Jvm.Cond.code ({ cls := "com/example/narrows/narrows/Subsetter$Stretch", name := "<init>", desc := "(JII)V" } : Jvm.MethodName) prog_30_method_1_code (5 : Nat) (Option.none : Option Jvm.ClassFile.FieldType)).before args0 about1 = true := code_word (m := ⟨11, 0⟩) (meth := k11m0) (c := k11c0) (by decide +kernel) rfl rfl rfl (by decide +kernel)
set_option maxRecDepth 65536 in
theorem w_c18 : (Jvm.Cond.code ({ cls := "java/util/BitSet", name := "<init>", desc := "(I)V" } : Jvm.MethodName) jdk_92_method_5_code (2 : Nat) (Option.none : Option Jvm.ClassFile.FieldType)).before args0 about1 = true := code_word (m := ⟨13, 3⟩) (meth := k13m3) (c := k13c3) (by decide +kernel) rfl rfl rfl (by decide +kernel)
set_option maxRecDepth 65536 in
theorem w_c19 : (Jvm.Cond.code ({ cls := "java/util/BitSet", name := "initWords", desc := "(I)V" } : Jvm.MethodName) jdk_92_method_6_code (2 : Nat) (Option.none : Option Jvm.ClassFile.FieldType)).before args0 about1 = true := code_word (m := ⟨13, 4⟩) (meth := k13m4) (c := k13c4) (by decide +kernel) rfl rfl rfl (by decide +kernel)
set_option maxRecDepth 65536 in
theorem w_c20 : (Jvm.Cond.code ({ cls := "java/util/BitSet", name := "wordIndex", desc := "(I)I" } : Jvm.MethodName) jdk_92_method_1_code (1 : Nat) (Option.some Jvm.ClassFile.FieldType.int)).before args0 about1 = true := code_word (m := ⟨13, 0⟩) (meth := k13m0) (c := k13c0) (by decide +kernel) rfl rfl rfl (by decide +kernel)
set_option maxRecDepth 65536 in
theorem w_c21 : (Jvm.Cond.code ({ cls := "com/example/narrows/narrows/Subsetter", name := "offerRows", desc := "([IILcom/example/narrows/narrows/Subsetter$Stretch;)Z" } : Jvm.MethodName) prog_29_method_10_code (10 : Nat) (Option.some Jvm.ClassFile.FieldType.boolean)).before args0 about1 = true := code_word (m := ⟨4, 4⟩) (meth := k4m4) (c := k4c4) (by decide +kernel) rfl rfl rfl (by decide +kernel)
set_option maxRecDepth 65536 in
theorem w_c22 : (Jvm.Cond.code ({ cls := "com/example/narrows/narrows/Subsetter", name := "backendAt", desc := "(III)I" } : Jvm.MethodName) prog_29_method_14_code (6 : Nat) (Option.some Jvm.ClassFile.FieldType.int)).before args0 about1 = true := code_word (m := ⟨4, 8⟩) (meth := k4m8) (c := k4c8) (by decide +kernel) rfl rfl rfl (by decide +kernel)
set_option maxRecDepth 65536 in
theorem w_c23 : (Jvm.Cond.code ({ cls := "com/example/narrows/narrows/Subsetter", name := "shuffle", desc := "(II)[I" } : Jvm.MethodName) prog_29_method_19_code (7 : Nat) (Option.some (Jvm.ClassFile.FieldType.array Jvm.ClassFile.FieldType.int))).before args0 about1 = true := code_word (m := ⟨4, 12⟩) (meth := k4m12) (c := k4c12) (by decide +kernel) rfl rfl rfl (by decide +kernel)
set_option maxRecDepth 65536 in
theorem w_c24 : (Jvm.Cond.code ({ cls := "com/example/narrows/narrows/SplitMix64", name := "afterDraws", desc := "(JJ)Lcom/example/narrows/narrows/SplitMix64;" } : Jvm.MethodName) prog_27_method_2_code (4 : Nat) (Option.some (Jvm.ClassFile.FieldType.object "com/example/narrows/narrows/SplitMix64"))).before args0 about1 = true := code_word (m := ⟨14, 1⟩) (meth := k14m1) (c := k14c1) (by decide +kernel) rfl rfl rfl (by decide +kernel)
set_option maxRecDepth 65536 in
theorem w_c25 : (Jvm.Cond.code ({ cls := "com/example/narrows/narrows/SplitMix64", name := "<init>", desc := "(J)V" } : Jvm.MethodName) prog_27_method_1_code (3 : Nat) (Option.none : Option Jvm.ClassFile.FieldType)).before args0 about1 = true := code_word (m := ⟨14, 0⟩) (meth := k14m0) (c := k14c0) (by decide +kernel) rfl rfl rfl (by decide +kernel)
set_option maxRecDepth 65536 in
theorem w_c26 : (Jvm.Cond.code ({ cls := "com/example/narrows/narrows/SplitMix64", name := "nextLong", desc := "()J" } : Jvm.MethodName) prog_27_method_3_code (3 : Nat) (Option.some Jvm.ClassFile.FieldType.long)).before args0 about1 = true := code_word (m := ⟨14, 2⟩) (meth := k14m2) (c := k14c2) (by decide +kernel) rfl rfl rfl (by decide +kernel)
set_option maxRecDepth 65536 in
theorem w_c27 : (Jvm.Cond.code ({ cls := "java/lang/Long", name := "remainderUnsigned", desc := "(JJ)J" } : Jvm.MethodName) jdk_35_method_45_code (8 : Nat) (Option.some Jvm.ClassFile.FieldType.long)).before args0 about1 = true := code_word (m := ⟨15, 0⟩) (meth := k15m0) (c := k15c0) (by decide +kernel) rfl rfl rfl (by decide +kernel)
set_option maxRecDepth 65536 in
theorem w_c28 : (Jvm.Cond.code ({ cls := "com/example/narrows/narrows/Subsetter$Stretch", name := "offer", desc := "(I)Z" } : Jvm.MethodName) prog_30_method_2_code (2 : Nat) (Option.some Jvm.ClassFile.FieldType.boolean)).before args0 about1 = true := code_word (m := ⟨11, 1⟩) (meth := k11m1) (c := k11c1) (by decide +kernel) rfl rfl rfl (by decide +kernel)
set_option maxRecDepth 65536 in
theorem w_c29 : (Jvm.Cond.code ({ cls := "java/util/BitSet", name := "get", desc := "(I)Z" } : Jvm.MethodName) jdk_92_method_26_code (3 : Nat) (Option.some Jvm.ClassFile.FieldType.boolean)).before args0 about1 = true := code_word (m := ⟨13, 8⟩) (meth := k13m8) (c := k13c8) (by decide +kernel) rfl rfl rfl (by decide +kernel)
set_option maxRecDepth 65536 in
theorem w_c30 : (Jvm.Cond.code ({ cls := "java/util/BitSet", name := "checkInvariants", desc := "()V" } : Jvm.MethodName) jdk_92_method_2_code (1 : Nat) (Option.none : Option Jvm.ClassFile.FieldType)).before args0 about1 = true := code_word (m := ⟨13, 1⟩) (meth := k13m1) (c := k13c1) (by decide +kernel) rfl rfl rfl (by decide +kernel)
set_option maxRecDepth 65536 in
theorem w_c31 : (Jvm.Cond.code ({ cls := "java/util/BitSet", name := "set", desc := "(I)V" } : Jvm.MethodName) jdk_92_method_19_code (3 : Nat) (Option.none : Option Jvm.ClassFile.FieldType)).before args0 about1 = true := code_word (m := ⟨13, 7⟩) (meth := k13m7) (c := k13c7) (by decide +kernel) rfl rfl rfl (by decide +kernel)
set_option maxRecDepth 65536 in
theorem w_c32 : (Jvm.Cond.code ({ cls := "java/util/BitSet", name := "expandTo", desc := "(I)V" } : Jvm.MethodName) jdk_92_method_15_code (3 : Nat) (Option.none : Option Jvm.ClassFile.FieldType)).before args0 about1 = true := code_word (m := ⟨13, 6⟩) (meth := k13m6) (c := k13c6) (by decide +kernel) rfl rfl rfl (by decide +kernel)
set_option maxRecDepth 65536 in
theorem w_c33 : (Jvm.Cond.code ({ cls := "java/util/BitSet", name := "ensureCapacity", desc := "(I)V" } : Jvm.MethodName) jdk_92_method_14_code (3 : Nat) (Option.none : Option Jvm.ClassFile.FieldType)).before args0 about1 = true := code_word (m := ⟨13, 5⟩) (meth := k13m5) (c := k13c5) (by decide +kernel) rfl rfl rfl (by decide +kernel)
set_option maxRecDepth 65536 in
theorem w_c34 : (Jvm.Cond.code ({ cls := "java/util/Arrays", name := "sort", desc := "([I)V" } : Jvm.MethodName) jdk_65_method_2_code (1 : Nat) (Option.none : Option Jvm.ClassFile.FieldType)).before args0 about1 = true := code_word (m := ⟨16, 1⟩) (meth := k16m1) (c := k16c1) (by decide +kernel) rfl rfl rfl (by decide +kernel)
set_option maxRecDepth 65536 in
theorem w_c35 : (Jvm.Cond.code ({ cls := "java/util/DualPivotQuicksort", name := "sort", desc := "([IIII)V" } : Jvm.MethodName) jdk_2529_method_3_code (7 : Nat) (Option.none : Option Jvm.ClassFile.FieldType)).before args0 about1 = true := code_word (m := ⟨17, 1⟩) (meth := k17m1) (c := k17c1) (by decide +kernel) rfl rfl rfl (by decide +kernel)
set_option maxRecDepth 65536 in
theorem w_c36 : (Jvm.Cond.code ({ cls := "java/util/DualPivotQuicksort", name := "sort", desc := "(Ljava/util/DualPivotQuicksort$Sorter;[IIII)V" } : Jvm.MethodName) jdk_2529_method_4_code (21 : Nat) (Option.none : Option Jvm.ClassFile.FieldType)).before args0 about1 = true := code_word (m := ⟨17, 2⟩) (meth := k17m2) (c := k17c2) (by decide +kernel) rfl rfl rfl (by decide +kernel)
set_option maxRecDepth 65536 in
theorem w_c37 : (Jvm.Cond.code ({ cls := "java/util/DualPivotQuicksort", name := "insertionSort", desc := "([III)V" } : Jvm.MethodName) jdk_2529_method_6_code (6 : Nat) (Option.none : Option Jvm.ClassFile.FieldType)).before args0 about1 = true := code_word (m := ⟨17, 3⟩) (meth := k17m3) (c := k17c3) (by decide +kernel) rfl rfl rfl (by decide +kernel)
set_option maxRecDepth 65536 in
theorem w_c38 : (Jvm.Cond.code ({ cls := "com/example/narrows/narrows/SubsetChange", name := "between", desc := "([I[I)Lcom/example/narrows/narrows/SubsetChange;" } : Jvm.MethodName) prog_28_method_2_code (8 : Nat) (Option.some (Jvm.ClassFile.FieldType.object "com/example/narrows/narrows/SubsetChange"))).before args0 about1 = true := code_word (m := ⟨18, 1⟩) (meth := k18m1) (c := k18c1) (by decide +kernel) rfl rfl rfl (by decide +kernel)
set_option maxRecDepth 65536 in
theorem w_c39 : (Jvm.Cond.code ({ cls := "com/example/narrows/narrows/SubsetChange", name := "trimmed", desc := "([II)[I" } : Jvm.MethodName) prog_28_method_3_code (2 : Nat) (Option.some (Jvm.ClassFile.FieldType.array Jvm.ClassFile.FieldType.int))).before args0 about1 = true := code_word (m := ⟨18, 2⟩) (meth := k18m2) (c := k18c2) (by decide +kernel) rfl rfl rfl (by decide +kernel)
set_option maxRecDepth 65536 in
theorem w_c40 : (Jvm.Cond.code ({ cls := "java/util/Arrays", name := "copyOf", desc := "([II)[I" } : Jvm.MethodName) jdk_65_method_123_code (3 : Nat) (Option.some (Jvm.ClassFile.FieldType.array Jvm.ClassFile.FieldType.int))).before args0 about1 = true := code_word (m := ⟨16, 2⟩) (meth := k16m2) (c := k16c2) (by decide +kernel) rfl rfl rfl (by decide +kernel)
set_option maxRecDepth 65536 in
theorem w_c41 : (Jvm.Cond.code ({ cls := "com/example/narrows/narrows/SubsetChange", name := "<init>", desc := "([I[I)V" } : Jvm.MethodName) prog_28_method_1_code (3 : Nat) (Option.none : Option Jvm.ClassFile.FieldType)).before args0 about1 = true := code_word (m := ⟨18, 0⟩) (meth := k18m0) (c := k18c0) (by decide +kernel) rfl rfl rfl (by decide +kernel)
set_option maxRecDepth 65536 in
theorem w_c42 : (Jvm.Cond.code ({ cls := "com/example/narrows/narrows/SubsetChange", name := "removedCount", desc := "()I" } : Jvm.MethodName) prog_28_method_6_code (1 : Nat) (Option.some Jvm.ClassFile.FieldType.int)).before args0 about1 = true := code_word (m := ⟨18, 3⟩) (meth := k18m3) (c := k18c3) (by decide +kernel) rfl rfl rfl (by decide +kernel)
set_option maxRecDepth 65536 in
theorem w_c43 : (Jvm.Cond.code ({ cls := "com/example/narrows/narrows/Churn", name := "connectionsBefore", desc := "()J" } : Jvm.MethodName) prog_7_method_8_code (1 : Nat) (Option.some Jvm.ClassFile.FieldType.long)).before args0 about1 = true := code_word (m := ⟨3, 1⟩) (meth := k3m1) (c := k3c1) (by decide +kernel) rfl rfl rfl (by decide +kernel)
set_option maxRecDepth 65536 in
theorem w_c44 : (Jvm.Cond.code ({ cls := "com/example/narrows/narrows/Subsetter", name := "walk", desc := "(II)[I" } : Jvm.MethodName) prog_29_method_12_code (7 : Nat) (Option.some (Jvm.ClassFile.FieldType.array Jvm.ClassFile.FieldType.int))).before args0 about1 = true := code_word (m := ⟨4, 6⟩) (meth := k4m6) (c := k4c6) (by decide +kernel) rfl rfl rfl (by decide +kernel)
set_option maxRecDepth 65536 in
theorem w_c45 : (Jvm.Cond.code ({ cls := "java/lang/Math", name := "min", desc := "(JJ)J" } : Jvm.MethodName) jdk_29_method_70_code (4 : Nat) (Option.some Jvm.ClassFile.FieldType.long)).before args0 about1 = true := code_word (m := ⟨2, 3⟩) (meth := k2m3) (c := k2c3) (by decide +kernel) rfl rfl rfl (by decide +kernel)
set_option maxRecDepth 65536 in
theorem w_c46 : (Jvm.Cond.code ({ cls := "com/example/narrows/narrows/Subsetter", name := "takeRow", desc := "(I[II[II)I" } : Jvm.MethodName) prog_29_method_9_code (9 : Nat) (Option.some Jvm.ClassFile.FieldType.int)).before args0 about1 = true := code_word (m := ⟨4, 3⟩) (meth := k4m3) (c := k4c3) (by decide +kernel) rfl rfl rfl (by decide +kernel)
def codes1 : List Jvm.Cond := [Jvm.Cond.code x code maxLocals ret, Jvm.Cond.code ({ cls := "java/lang/Math", name := "max", desc := "(II)I" } : Jvm.MethodName) jdk_29_method_65_code (2 : Nat) (Option.some Jvm.ClassFile.FieldType.int), Jvm.Cond.code ({ cls := "com/example/narrows/narrows/Churn", name := "<init>", desc := "(IIIIII)V" } : Jvm.MethodName) prog_7_method_1_code (17 : Nat) (Option.none : Option Jvm.ClassFile.FieldType), Jvm.Cond.code ({ cls := "java/lang/Object", name := "<init>", desc := "()V" } : Jvm.MethodName) object_method_1_code (1 : Nat) (Option.none : Option Jvm.ClassFile.FieldType), Jvm.Cond.code ({ cls := "com/example/narrows/narrows/Subsetter", name := "checkClients", desc := "(I)V" } : Jvm.MethodName) prog_29_method_15_code (1 : Nat) (Option.none : Option Jvm.ClassFile.FieldType), Jvm.Cond.code ({ cls := "com/example/narrows/narrows/Subsetter", name := "<init>", desc := "(II)V" } : Jvm.MethodName) prog_29_method_1_code (3 : Nat) (Option.none : Option Jvm.ClassFile.FieldType), Jvm.Cond.code ({ cls := "java/lang/Integer", name := "numberOfLeadingZeros", desc := "(I)I" } : Jvm.MethodName) jdk_33_method_47_code (2 : Nat) (Option.some Jvm.ClassFile.FieldType.int), Jvm.Cond.code ({ cls := "java/lang/Math", name := "min", desc := "(II)I" } : Jvm.MethodName) jdk_29_method_69_code (2 : Nat) (Option.some Jvm.ClassFile.FieldType.int), Jvm.Cond.code ({ cls := "com/example/narrows/narrows/Subsetter", name := "subset", desc := "(I)[I" } : Jvm.MethodName) prog_29_method_2_code (5 : Nat) (Option.some (Jvm.ClassFile.FieldType.array Jvm.ClassFile.FieldType.int)), Jvm.Cond.code ({ cls := "com/example/narrows/narrows/Subsetter", name := "sharedWalk", desc := "(I)[I" } : Jvm.MethodName) prog_29_method_5_code (11 : Nat) (Option.some (Jvm.ClassFile.FieldType.array Jvm.ClassFile.FieldType.int)), Jvm.Cond.code ({ cls := "com/example/narrows/narrows/Subsetter", name := "walkOrder", desc := "(II)[I" } : Jvm.MethodName) prog_29_method_13_code (9 : Nat) (Option.some (Jvm.ClassFile.FieldType.array Jvm.ClassFile.FieldType.int)), Jvm.Cond.code ({ cls := "com/example/narrows/narrows/Subsetter", name := "firstSlotAtOrAfter", desc := "(I)I" } : Jvm.MethodName) prog_29_method_17_code (5 : Nat) (Option.some Jvm.ClassFile.FieldType.int), Jvm.Cond.code ({ cls := "java/lang/Integer", name := "reverse", desc := "(I)I" } : Jvm.MethodName) jdk_33_method_52_code (1 : Nat) (Option.some Jvm.ClassFile.FieldType.int), Jvm.Cond.code ({ cls := "java/lang/Integer", name := "reverseBytes", desc := "(I)I" } : Jvm.MethodName) jdk_33_method_57_code (1 : Nat) (Option.some Jvm.ClassFile.FieldType.int), Jvm.Cond.code ({ cls := "java/lang/Integer", name := "toUnsignedLong", desc := "(I)J" } : Jvm.MethodName) jdk_33_method_42_code (1 : Nat) (Option.some Jvm.ClassFile.FieldType.long), Jvm.Cond.code ({ cls := "com/example/narrows/narrows/Subsetter", name := "lotAt", desc := "(I)I" } : Jvm.MethodName) prog_29_method_18_code (2 : Nat) (Option.some Jvm.ClassFile.FieldType.int), Jvm.Cond.code ({ cls := "com/example/narrows/narrows/Subsetter", name := "lotsHolding", desc := "([IJ)I" } : Jvm.MethodName) prog_29_method_11_code (8 : Nat) (Option.some Jvm.ClassFile.FieldType.int), Jvm.Cond.code ({ cls := "com/example/narrows/narrows/Subsetter$Stretch", name := "<init>", desc := "(JII)V" } : Jvm.MethodName) prog_30_method_1_code (5 : Nat) (Option.none : Option Jvm.ClassFile.FieldType), Jvm.Cond.code ({ cls := "java/util/BitSet", name := "<init>", desc := "(I)V" } : Jvm.MethodName) jdk_92_method_5_code (2 : Nat) (Option.none : Option Jvm.ClassFile.FieldType), Jvm.Cond.code ({ cls := "java/util/BitSet", name := "initWords", desc := "(I)V" } : Jvm.MethodName) jdk_92_method_6_code (2 : Nat) (Option.none : Option Jvm.ClassFile.FieldType), Jvm.Cond.code ({ cls := "java/util/BitSet", name := "wordIndex", desc := "(I)I" } : Jvm.MethodName) jdk_92_method_1_code (1 : Nat) (Option.some Jvm.ClassFile.FieldType.int), Jvm.Cond.code ({ cls := "com/example/narrows/narrows/Subsetter", name := "offerRows", desc := "([IILcom/example/narrows/narrows/Subsetter$Stretch;)Z" } : Jvm.MethodName) prog_29_method_10_code (10 : Nat) (Option.some Jvm.ClassFile.FieldType.boolean), Jvm.Cond.code ({ cls := "com/example/narrows/narrows/Subsetter", name := "backendAt", desc := "(III)I" } : Jvm.MethodName) prog_29_method_14_code (6 : Nat) (Option.some Jvm.ClassFile.FieldType.int), Jvm.Cond.code ({ cls := "com/example/narrows/narrows/Subsetter", name := "shuffle", desc := "(II)[I" } : Jvm.MethodName) prog_29_method_19_code (7 : Nat) (Option.some (Jvm.ClassFile.FieldType.array Jvm.ClassFile.FieldType.int)), Jvm.Cond.code ({ cls := "com/example/narrows/narrows/SplitMix64", name := "afterDraws", desc := "(JJ)Lcom/example/narrows/narrows/SplitMix64;" } : Jvm.MethodName) prog_27_method_2_code (4 : Nat) (Option.some (Jvm.ClassFile.FieldType.object "com/example/narrows/narrows/SplitMix64")), Jvm.Cond.code ({ cls := "com/example/narrows/narrows/SplitMix64", name := "<init>", desc := "(J)V" } : Jvm.MethodName) prog_27_method_1_code (3 : Nat) (Option.none : Option Jvm.ClassFile.FieldType), Jvm.Cond.code ({ cls := "com/example/narrows/narrows/SplitMix64", name := "nextLong", desc := "()J" } : Jvm.MethodName) prog_27_method_3_code (3 : Nat) (Option.some Jvm.ClassFile.FieldType.long), Jvm.Cond.code ({ cls := "java/lang/Long", name := "remainderUnsigned", desc := "(JJ)J" } : Jvm.MethodName) jdk_35_method_45_code (8 : Nat) (Option.some Jvm.ClassFile.FieldType.long), Jvm.Cond.code ({ cls := "com/example/narrows/narrows/Subsetter$Stretch", name := "offer", desc := "(I)Z" } : Jvm.MethodName) prog_30_method_2_code (2 : Nat) (Option.some Jvm.ClassFile.FieldType.boolean), Jvm.Cond.code ({ cls := "java/util/BitSet", name := "get", desc := "(I)Z" } : Jvm.MethodName) jdk_92_method_26_code (3 : Nat) (Option.some Jvm.ClassFile.FieldType.boolean), Jvm.Cond.code ({ cls := "java/util/BitSet", name := "checkInvariants", desc := "()V" } : Jvm.MethodName) jdk_92_method_2_code (1 : Nat) (Option.none : Option Jvm.ClassFile.FieldType), Jvm.Cond.code ({ cls := "java/util/BitSet", name := "set", desc := "(I)V" } : Jvm.MethodName) jdk_92_method_19_code (3 : Nat) (Option.none : Option Jvm.ClassFile.FieldType), Jvm.Cond.code ({ cls := "java/util/BitSet", name := "expandTo", desc := "(I)V" } : Jvm.MethodName) jdk_92_method_15_code (3 : Nat) (Option.none : Option Jvm.ClassFile.FieldType), Jvm.Cond.code ({ cls := "java/util/BitSet", name := "ensureCapacity", desc := "(I)V" } : Jvm.MethodName) jdk_92_method_14_code (3 : Nat) (Option.none : Option Jvm.ClassFile.FieldType), Jvm.Cond.code ({ cls := "java/util/Arrays", name := "sort", desc := "([I)V" } : Jvm.MethodName) jdk_65_method_2_code (1 : Nat) (Option.none : Option Jvm.ClassFile.FieldType), Jvm.Cond.code ({ cls := "java/util/DualPivotQuicksort", name := "sort", desc := "([IIII)V" } : Jvm.MethodName) jdk_2529_method_3_code (7 : Nat) (Option.none : Option Jvm.ClassFile.FieldType), Jvm.Cond.code ({ cls := "java/util/DualPivotQuicksort", name := "sort", desc := "(Ljava/util/DualPivotQuicksort$Sorter;[IIII)V" } : Jvm.MethodName) jdk_2529_method_4_code (21 : Nat) (Option.none : Option Jvm.ClassFile.FieldType), Jvm.Cond.code ({ cls := "java/util/DualPivotQuicksort", name := "insertionSort", desc := "([III)V" } : Jvm.MethodName) jdk_2529_method_6_code (6 : Nat) (Option.none : Option Jvm.ClassFile.FieldType), Jvm.Cond.code ({ cls := "com/example/narrows/narrows/SubsetChange", name := "between", desc := "([I[I)Lcom/example/narrows/narrows/SubsetChange;" } : Jvm.MethodName) prog_28_method_2_code (8 : Nat) (Option.some (Jvm.ClassFile.FieldType.object "com/example/narrows/narrows/SubsetChange")), Jvm.Cond.code ({ cls := "com/example/narrows/narrows/SubsetChange", name := "trimmed", desc := "([II)[I" } : Jvm.MethodName) prog_28_method_3_code (2 : Nat) (Option.some (Jvm.ClassFile.FieldType.array Jvm.ClassFile.FieldType.int)), Jvm.Cond.code ({ cls := "java/util/Arrays", name := "copyOf", desc := "([II)[I" } : Jvm.MethodName) jdk_65_method_123_code (3 : Nat) (Option.some (Jvm.ClassFile.FieldType.array Jvm.ClassFile.FieldType.int)), Jvm.Cond.code ({ cls := "com/example/narrows/narrows/SubsetChange", name := "<init>", desc := "([I[I)V" } : Jvm.MethodName) prog_28_method_1_code (3 : Nat) (Option.none : Option Jvm.ClassFile.FieldType), Jvm.Cond.code ({ cls := "com/example/narrows/narrows/SubsetChange", name := "removedCount", desc := "()I" } : Jvm.MethodName) prog_28_method_6_code (1 : Nat) (Option.some Jvm.ClassFile.FieldType.int), Jvm.Cond.code ({ cls := "com/example/narrows/narrows/Churn", name := "connectionsBefore", desc := "()J" } : Jvm.MethodName) prog_7_method_8_code (1 : Nat) (Option.some Jvm.ClassFile.FieldType.long), Jvm.Cond.code ({ cls := "com/example/narrows/narrows/Subsetter", name := "walk", desc := "(II)[I" } : Jvm.MethodName) prog_29_method_12_code (7 : Nat) (Option.some (Jvm.ClassFile.FieldType.array Jvm.ClassFile.FieldType.int)), Jvm.Cond.code ({ cls := "java/lang/Math", name := "min", desc := "(JJ)J" } : Jvm.MethodName) jdk_29_method_70_code (4 : Nat) (Option.some Jvm.ClassFile.FieldType.long), Jvm.Cond.code ({ cls := "com/example/narrows/narrows/Subsetter", name := "takeRow", desc := "(I[II[II)I" } : Jvm.MethodName) prog_29_method_9_code (9 : Nat) (Option.some Jvm.ClassFile.FieldType.int)]
set_option maxRecDepth 65536 in
theorem codes_eq : words1.filter isCode = codes1 := rfl
theorem w_codes : ∀ c ∈ words1.filter isCode, c.before args0 about1 = true := by
  rw [codes_eq]
  intro c hc
  simp only [codes1, List.mem_cons, List.not_mem_nil, or_false] at hc
  rcases hc with rfl | rfl | rfl | rfl | rfl | rfl | rfl | rfl | rfl | rfl | rfl | rfl | rfl | rfl | rfl | rfl | rfl | rfl | rfl | rfl | rfl | rfl | rfl | rfl | rfl | rfl | rfl | rfl | rfl | rfl | rfl | rfl | rfl | rfl | rfl | rfl | rfl | rfl | rfl | rfl | rfl | rfl | rfl | rfl | rfl | rfl | rfl
  · exact w_c0
  · exact w_c1
  · exact w_c2
  · exact w_c3
  · exact w_c4
  · exact w_c5
  · exact w_c6
  · exact w_c7
  · exact w_c8
  · exact w_c9
  · exact w_c10
  · exact w_c11
  · exact w_c12
  · exact w_c13
  · exact w_c14
  · exact w_c15
  · exact w_c16
  · exact w_c17
  · exact w_c18
  · exact w_c19
  · exact w_c20
  · exact w_c21
  · exact w_c22
  · exact w_c23
  · exact w_c24
  · exact w_c25
  · exact w_c26
  · exact w_c27
  · exact w_c28
  · exact w_c29
  · exact w_c30
  · exact w_c31
  · exact w_c32
  · exact w_c33
  · exact w_c34
  · exact w_c35
  · exact w_c36
  · exact w_c37
  · exact w_c38
  · exact w_c39
  · exact w_c40
  · exact w_c41
  · exact w_c42
  · exact w_c43
  · exact w_c44
  · exact w_c45
  · exact w_c46
set_option maxRecDepth 65536 in
theorem w_t1 : (words1.take 24).all (fun c => isCode c || c.before args0 about1) = true := by decide +kernel
set_option maxRecDepth 65536 in
theorem w_t2 : ((words1.drop 24).take 24).all (fun c => isCode c || c.before args0 about1) = true := by decide +kernel
set_option maxRecDepth 65536 in
theorem w_t3 : (((words1.drop 24).drop 24).take 24).all (fun c => isCode c || c.before args0 about1) = true := by decide +kernel
set_option maxRecDepth 65536 in
theorem w_t4 : ((((words1.drop 24).drop 24).drop 24).take 24).all (fun c => isCode c || c.before args0 about1) = true := by decide +kernel
set_option maxRecDepth 65536 in
theorem w_t5 : (((((words1.drop 24).drop 24).drop 24).drop 24).take 24).all (fun c => isCode c || c.before args0 about1) = true := by decide +kernel
set_option maxRecDepth 65536 in
theorem w_t6 : ((((((words1.drop 24).drop 24).drop 24).drop 24).drop 24).take 24).all (fun c => isCode c || c.before args0 about1) = true := by decide +kernel
set_option maxRecDepth 65536 in
theorem w_t7 : (((((((words1.drop 24).drop 24).drop 24).drop 24).drop 24).drop 24).take 24).all (fun c => isCode c || c.before args0 about1) = true := by decide +kernel
set_option maxRecDepth 65536 in
theorem w_t8 : ((((((((words1.drop 24).drop 24).drop 24).drop 24).drop 24).drop 24).drop 24).take 24).all (fun c => isCode c || c.before args0 about1) = true := by decide +kernel
set_option maxRecDepth 65536 in
theorem w_t9 : (((((((((words1.drop 24).drop 24).drop 24).drop 24).drop 24).drop 24).drop 24).drop 24).take 24).all (fun c => isCode c || c.before args0 about1) = true := by decide +kernel
set_option maxRecDepth 65536 in
theorem w_t10 : ((((((((((words1.drop 24).drop 24).drop 24).drop 24).drop 24).drop 24).drop 24).drop 24).drop 24).take 24).all (fun c => isCode c || c.before args0 about1) = true := by decide +kernel
set_option maxRecDepth 65536 in
theorem w_t11 : (((((((((((words1.drop 24).drop 24).drop 24).drop 24).drop 24).drop 24).drop 24).drop 24).drop 24).drop 24).take 24).all (fun c => isCode c || c.before args0 about1) = true := by decide +kernel
set_option maxRecDepth 65536 in
theorem w_t12 : (((((((((((words1.drop 24).drop 24).drop 24).drop 24).drop 24).drop 24).drop 24).drop 24).drop 24).drop 24).drop 24).all (fun c => isCode c || c.before args0 about1) = true := by decide +kernel
theorem w_tables : (allAtoms (Jvm.Cond.code x code maxLocals ret :: tables_1)).before args0 about1 = true := by
  rw [allAtoms_all]
  show words1.all (fun c => c.before args0 about1) = true
  refine all_split ?_ w_codes
  rw [← List.take_append_drop 24 words1, List.all_append, w_t1, ← List.take_append_drop 24 (words1.drop 24), List.all_append, w_t2, ← List.take_append_drop 24 ((words1.drop 24).drop 24), List.all_append, w_t3, ← List.take_append_drop 24 (((words1.drop 24).drop 24).drop 24), List.all_append, w_t4, ← List.take_append_drop 24 ((((words1.drop 24).drop 24).drop 24).drop 24), List.all_append, w_t5, ← List.take_append_drop 24 (((((words1.drop 24).drop 24).drop 24).drop 24).drop 24), List.all_append, w_t6, ← List.take_append_drop 24 ((((((words1.drop 24).drop 24).drop 24).drop 24).drop 24).drop 24), List.all_append, w_t7, ← List.take_append_drop 24 (((((((words1.drop 24).drop 24).drop 24).drop 24).drop 24).drop 24).drop 24), List.all_append, w_t8, ← List.take_append_drop 24 ((((((((words1.drop 24).drop 24).drop 24).drop 24).drop 24).drop 24).drop 24).drop 24), List.all_append, w_t9, ← List.take_append_drop 24 (((((((((words1.drop 24).drop 24).drop 24).drop 24).drop 24).drop 24).drop 24).drop 24).drop 24), List.all_append, w_t10, ← List.take_append_drop 24 ((((((((((words1.drop 24).drop 24).drop 24).drop 24).drop 24).drop 24).drop 24).drop 24).drop 24).drop 24), List.all_append, w_t11, w_t12]
  rfl
set_option maxRecDepth 65536 in
theorem w_rest : rest_1_c.before args0 about1 = true := by decide +kernel
set_option maxRecDepth 65536 in
theorem w_case : (Jvm.Cond.and given_1 narrow_1).before args0 about1 = true := by decide +kernel
theorem w_applies : (headSpec (Jvm.Cond.code x code maxLocals ret :: tables_1) room_1).applies x e0.platform about1 = true :=
  (Spec.applies_iff w_frames).mpr ⟨w_running, w_runnable, w_alone, w_named, w_hears, w_ripe, w_room, w_tables⟩
theorem atStart : AtStart classFile x code maxLocals ret World_1 tables_1 room_1 Calls_1 rest_1 Pre_1 launch0 p0 e0 about1 theMethod args0 below0 :=
  ⟨lists_1, trivial, launch0.admits_env _ _ _, launch0.least_env, fairChoices_fair.cas, fairChoices_fair.clock, w_frames, w_args, w_heap, w_applies, trivial, w_rest, w_case⟩
end start1
theorem witness_1 : WitnessClaimed_1 := ⟨start1.p0, start1.e0, start1.about1, start1.theMethod, start1.args0, start1.below0, start1.atStart⟩
end Jvm.Pilot.@@N@@
