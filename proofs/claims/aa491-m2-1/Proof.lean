import JvmDerived
import JvmDerived.Pilot.@@N@@Statement
import JvmDerived.Pilot.@@N@@Code
set_option linter.unusedVariables false
set_option linter.unusedSimpArgs false
@@BLOCK:NumsL.lean.txt@@
namespace Jvm.RoadKit
open Sem ClassFile Op Lib Jvm.Stand Jvm.Free Jvm.LawKit
section New
variable {p : Program} {l : Launch} {e : Env} {R : Room} {s : State} {m : MethodId} {args : Array Value} {below : List Frame} {meth : Method} {c : Code} {T : State} {locs : List Loc} {cells slots : Nat}
theorem retI (X : Stand p l e R s m args below meth c T locs cells slots) (hx : p.tables.exec = Jvm.exec) {pc : Nat} {Ls : Array Slot} {z : Int32} {rest : List Value} (hret : meth.sig.returnType = some .int) (hd : decode c.code pc = .ok (.ireturn, 1)) {fs : List Frame}
    (hl : ∀ (f : JFrame) (acts : List Action), f.method = m → f.locked = none → f.entered = [] → (doReturn e (T.setTop f) acts (some (.int z))).1 = T.setFrames fs) : Steps p.tables e below (T.setTop (mkF m pc Ls (.int z :: rest))) (T.setFrames fs) := by
  have hm' : T.vm.method? m = some meth := X.method'
  have hn : narrow .int (.int z) = .int z := rfl
  show Steps p.tables e below (T.setTop { method := m, pc := pc, locals := Ls, stack := _ :: rest, locked := none }) _
  jvm_step X.here [X.here.top, hx, hd, hm', hret, hn]
  first | (intro acts; rw [hl _ acts rfl rfl rfl]) | rw [hl _ _ rfl rfl rfl]
  exact Steps.refl _
end New
end Jvm.RoadKit
namespace Jvm.Pilot.@@N@@
open Jvm Jvm.ClassFile Sem Op Lib Jvm.Free Jvm.Stand Jvm.LawKit Jvm.RoadKit Bundle Jvm.Pilot.@@N@@.Jvm.D
set_option maxRecDepth 65536
set_option maxHeartbeats 40000000
abbrev oMet (l : Launch) (y : MethodName) (code : ByteArray) (ml : Nat) (rt : Option FieldType) (ws : List Jvm.Cond) (R : Room) (Z : State) (h0 : Heap) (A : Array Value) (Q : Option Value → Heap → List Loc → Prop) : Prop := MetFree l y (head1 (Jvm.Cond.code y code ml rt :: ws) R) (fun a U => a = A ∧ Z.Warmed39 U.vm ∧ U.heap = h0) (fun _ _ _ _ _ => True) (fun _ U o U' => ∃ v L, o = .returned v ∧ Q v U'.heap L ∧ FrameEnd U o U' L R.cells R.slots)
theorem oBd {l : Launch} {y : MethodName} {code : ByteArray} {ml : Nat} {rt : Option FieldType} {ws : List Jvm.Cond} {R : Room} {Z : State} {h0 : Heap} {A : Array Value} {Q : Option Value → Heap → List Loc → Prop} (n0 : Nat) (pl : plainFor y = true)
    (H : ∀ (p : Program) (e : Env) (s : State) (m : MethodId) (below : List Frame) (meth : Method) (c : Code) (s₁ : State), BodyLoose p l y (head1 (Jvm.Cond.code y code ml rt :: ws) R) code ml rt e s m A below meth c s₁ → p.tables.exec = Jvm.exec → Z.Warmed39 s.vm → c.code = code → c.maxLocals = ml → s.vm.findClass y.cls = some m.cls → meth.name = y.name → Stand p l e R s m A below meth c s₁ [] 0 0 → s₁.heap = h0 → Fr n0 [] →
      ∃ s₂ o, Steps p.tables e below (s₁.setTop (entryFrame m A ml)) s₂ ∧ s₂.status = .running ∧ Ended s₂ below o ∧ ∃ v L, o = .returned v ∧ Q v s₂.heap L ∧ FrameEnd s o s₂ L R.cells R.slots) : oMet l y code ml rt ws R Z h0 A Q := by
  refine MetFree.of_bodySF pl hisR ?_
  intro p e s m args below meth c s₁ Bd hml hP hK
  obtain ⟨rfl, hZ, hh⟩ := hP
  exact H p e s m below meth c s₁ Bd Bd.exec hZ Bd.bytes hml (findClass_of_methodNamed Bd.named) (name_of_methodNamed Bd.named Bd.method).1 (Stand.of_body Bd) (by rw [← hh, Bd.state]; rfl) (Fr.nil n0)
abbrev oR (f c s l : Nat) : Room := { frames := f, cells := c, slots := s, locals := l }
theorem oW {a0 : Array Value} {Z : State} (hw : ∀ d ∈ tables_1, d.before a0 Z = true) (i : Nat) {d : Jvm.Cond} (h : tables_1[i]? = some d) : d.before a0 Z = true := hw _ (List.mem_of_getElem? h)
abbrev oH (a0 : Array Value) (Z : State) : Prop := ∀ d ∈ tables_1, d.before a0 Z = true
theorem oN {Z : State} {a0 : Array Value} {C O n d O' n' d' : String} {P : Prop} {t t' : FieldType} (L : Laid Z a0 C O n d) (L' : Laid Z a0 C O' n' d') (hn : n ≠ n' := by decide) (ht : parseFieldDescriptor d = some t := by decide) (ht' : parseFieldDescriptor d' = some t' := by decide) : P ∨ Jvm.RoadKit.slotOf Z O n d ≠ Jvm.RoadKit.slotOf Z O' n' d' := Or.inr (slot_ne L L' hn ht ht')
theorem oV {a b n : Nat} (h : a < n) (h2 : n ≤ b) : a ≠ b := Nat.ne_of_lt (Nat.lt_of_lt_of_le h h2)
theorem oX {α : Type} {l : List α} {x : α} (i : Nat) (h : l[i]? = some x) : x ∈ l := List.mem_of_getElem? h
abbrev oDs (b : ByteArray) (l : List (Nat × Instr × Nat)) : Prop := ∀ q ∈ l, decode b q.1 = .ok q.2
theorem oG {c : Code} {b : ByteArray} {l : List (Nat × Instr × Nat)} (hby : c.code = b) (h : oDs b l) (i : Nat) {pc : Nat} {ins : Instr} {n : Nat} (hq : l[i]? = some (pc, ins, n)) : decode c.code pc = .ok (ins, n) := by
  rw [hby]
  exact h (pc, ins, n) (List.mem_of_getElem? hq)
abbrev oI (x : Int32) : Slot := .val (.int x)
abbrev oA (x : Addr) : Slot := .val (.ref x)
abbrev oJ (x : Int64) : Slot := .val (.long x)
abbrev oZ (p : Program) (e : Env) (b : List Frame) (T : State) (f : JFrame) (t : State) : Prop := Steps p.tables e b (T.setTop f) t
theorem mV : plainName "com/example/narrows/narrows/Subsetter$Stretch" = true := by first | (simp [plainName, overriddenIn]; done) | decide +kernel
theorem iO : plainName "java/util/BitSet" = true := by first | (simp [plainName, overriddenIn]; done) | decide +kernel
theorem yB : plainName "com/example/narrows/narrows/SplitMix64" = true := by first | (simp [plainName, overriddenIn]; done) | decide +kernel
theorem aU2 : plainName "java/lang/Long" = true := by first | (simp [plainName, overriddenIn]; done) | decide +kernel
theorem eC : plainName "com/example/narrows/narrows/Subsetter" = true := by first | (simp [plainName, overriddenIn]; done) | decide +kernel
theorem rH : plainName "java/lang/Integer" = true := by first | (simp [plainName, overriddenIn]; done) | decide +kernel
theorem aE5 : plainName "java/util/Arrays" = true := by first | (simp [plainName, overriddenIn]; done) | decide +kernel
theorem pK : plainName "com/example/narrows/narrows/SubsetChange" = true := by first | (simp [plainName, overriddenIn]; done) | decide +kernel
theorem aE6 : plainName "com/example/narrows/narrows/Churn" = true := by first | (simp [plainName, overriddenIn]; done) | decide +kernel
theorem aE7 : plainName "com/example/narrows/narrows/ChurnConnectionsAfterPinLaw" = true := by first | (simp [plainName, overriddenIn]; done) | decide +kernel
theorem rI : parseMethodDescriptor "()V" = some ⟨[], none⟩ := by decide +kernel
theorem fL : parseMethodDescriptor "(I)I" = some ⟨[.int], some .int⟩ := by decide +kernel
theorem mW : parseMethodDescriptor "(I)Z" = some ⟨[.int], some .boolean⟩ := by decide +kernel
theorem jT : parseMethodDescriptor "(I)V" = some ⟨[.int], none⟩ := by decide +kernel
theorem aU3 : parseMethodDescriptor "(J)V" = some ⟨[.long], none⟩ := by decide +kernel
theorem uH : parseMethodDescriptor "(JJ)Lcom/example/narrows/narrows/SplitMix64;" = some ⟨[.long, .long], some (.object "com/example/narrows/narrows/SplitMix64")⟩ := by decide +kernel
theorem uI : parseMethodDescriptor "()J" = some ⟨[], some .long⟩ := by decide +kernel
theorem uJ : parseMethodDescriptor "(JJ)J" = some ⟨[.long, .long], some .long⟩ := by decide +kernel
theorem mX : parseMethodDescriptor "(II)[I" = some ⟨[.int, .int], some (.array .int)⟩ := by decide +kernel
theorem rJ : parseMethodDescriptor "(III)I" = some ⟨[.int, .int, .int], some .int⟩ := by decide +kernel
theorem aJ7 : parseMethodDescriptor "(I)J" = some ⟨[.int], some .long⟩ := by decide +kernel
theorem aJ8 : parseMethodDescriptor "([IJ)I" = some ⟨[(.array .int), .long], some .int⟩ := by decide +kernel
theorem aJ9 : parseMethodDescriptor "(JII)V" = some ⟨[.long, .int, .int], none⟩ := by decide +kernel
theorem zF : parseMethodDescriptor "([IILcom/example/narrows/narrows/Subsetter$Stretch;)Z" = some ⟨[(.array .int), .int, (.object "com/example/narrows/narrows/Subsetter$Stretch")], some .boolean⟩ := by decide +kernel
theorem zG : parseMethodDescriptor "(I[II[II)I" = some ⟨[.int, (.array .int), .int, (.array .int), .int], some .int⟩ := by decide +kernel
theorem uL : parseMethodDescriptor "(I)[I" = some ⟨[.int], some (.array .int)⟩ := by decide +kernel
theorem mE : parseMethodDescriptor "(II)I" = some ⟨[.int, .int], some .int⟩ := by decide +kernel
theorem rK : parseMethodDescriptor "([II)[I" = some ⟨[(.array .int), .int], some (.array .int)⟩ := by decide +kernel
theorem aK0 : parseMethodDescriptor "([I[I)V" = some ⟨[(.array .int), (.array .int)], none⟩ := by decide +kernel
theorem zH : parseMethodDescriptor "(II)V" = some ⟨[.int, .int], none⟩ := by decide +kernel
theorem aK1 : parseMethodDescriptor "([I[I)Lcom/example/narrows/narrows/SubsetChange;" = some ⟨[(.array .int), (.array .int)], some (.object "com/example/narrows/narrows/SubsetChange")⟩ := by decide +kernel
theorem aK2 : parseMethodDescriptor "()I" = some ⟨[], some .int⟩ := by decide +kernel
theorem zI : parseMethodDescriptor "(IIIIII)V" = some ⟨[.int, .int, .int, .int, .int, .int], none⟩ := by decide +kernel
abbrev oC5 : String := "com/example/narrows/narrows/SplitMix64"
abbrev oC4 : String := "com/example/narrows/narrows/SubsetChange"
abbrev oC3 : String := "java/util/BitSet"
abbrev oC2 : String := "com/example/narrows/narrows/Churn"
abbrev oC1 : String := "com/example/narrows/narrows/Subsetter$Stretch"
abbrev oC0 : String := "com/example/narrows/narrows/Subsetter"
abbrev oM0 : MethodName := ⟨"com/example/narrows/narrows/Subsetter$Stretch", "offer", "(I)Z"⟩
abbrev oM1 : MethodName := ⟨"com/example/narrows/narrows/Subsetter", "walkOrder", "(II)[I"⟩
abbrev oM2 : MethodName := ⟨"com/example/narrows/narrows/Subsetter", "firstSlotAtOrAfter", "(I)I"⟩
abbrev oM3 : MethodName := ⟨"com/example/narrows/narrows/Subsetter", "subset", "(I)[I"⟩
abbrev oM4 : MethodName := ⟨"java/util/BitSet", "get", "(I)Z"⟩
abbrev oM5 : MethodName := ⟨"com/example/narrows/narrows/Subsetter", "backendAt", "(III)I"⟩
abbrev oM6 : MethodName := ⟨"com/example/narrows/narrows/SplitMix64", "afterDraws", "(JJ)Lcom/example/narrows/narrows/SplitMix64;"⟩
abbrev oM7 : MethodName := ⟨"com/example/narrows/narrows/Subsetter", "shuffle", "(II)[I"⟩
abbrev oM8 : MethodName := ⟨"com/example/narrows/narrows/Subsetter", "offerRows", "([IILcom/example/narrows/narrows/Subsetter$Stretch;)Z"⟩
abbrev oM9 : MethodName := ⟨"java/util/BitSet", "set", "(I)V"⟩
abbrev oM10 : MethodName := ⟨"com/example/narrows/narrows/SubsetChange", "trimmed", "([II)[I"⟩
abbrev oM11 : MethodName := ⟨"com/example/narrows/narrows/Churn", "connectionsAfter", "()J"⟩
abbrev oM12 : MethodName := ⟨"java/util/BitSet", "wordIndex", "(I)I"⟩
abbrev oM13 : MethodName := ⟨"com/example/narrows/narrows/SplitMix64", "nextLong", "()J"⟩
abbrev oM14 : MethodName := ⟨"com/example/narrows/narrows/Subsetter", "<init>", "(II)V"⟩
abbrev oM15 : MethodName := ⟨"java/util/BitSet", "checkInvariants", "()V"⟩
abbrev oM16 : MethodName := ⟨"java/lang/Math", "max", "(II)I"⟩
abbrev oM17 : MethodName := ⟨"java/lang/Integer", "numberOfLeadingZeros", "(I)I"⟩
abbrev oM18 : MethodName := ⟨"com/example/narrows/narrows/Subsetter", "walk", "(II)[I"⟩
abbrev oM19 : MethodName := ⟨"com/example/narrows/narrows/SubsetChange", "removedCount", "()I"⟩
abbrev oM20 : MethodName := ⟨"java/lang/Math", "min", "(II)I"⟩
abbrev oM21 : MethodName := ⟨"com/example/narrows/narrows/SubsetChange", "between", "([I[I)Lcom/example/narrows/narrows/SubsetChange;"⟩
abbrev oM22 : MethodName := ⟨"com/example/narrows/narrows/Subsetter", "takeRow", "(I[II[II)I"⟩
abbrev oM23 : MethodName := ⟨"com/example/narrows/narrows/Churn", "<init>", "(IIIIII)V"⟩
abbrev oM24 : MethodName := ⟨"java/util/Arrays", "copyOf", "([II)[I"⟩
abbrev oM25 : MethodName := ⟨"java/util/BitSet", "expandTo", "(I)V"⟩
abbrev oM26 : MethodName := ⟨"com/example/narrows/narrows/Subsetter", "lotAt", "(I)I"⟩
abbrev oM27 : MethodName := ⟨"java/lang/Math", "min", "(JJ)J"⟩
abbrev oM28 : MethodName := ⟨"java/lang/Long", "remainderUnsigned", "(JJ)J"⟩
abbrev oM29 : MethodName := ⟨"com/example/narrows/narrows/Subsetter$Stretch", "<init>", "(JII)V"⟩
abbrev oM30 : MethodName := ⟨"java/lang/Integer", "reverse", "(I)I"⟩
abbrev oM31 : MethodName := ⟨"com/example/narrows/narrows/Subsetter", "lotsHolding", "([IJ)I"⟩
abbrev oM32 : MethodName := ⟨"com/example/narrows/narrows/SubsetChange", "<init>", "([I[I)V"⟩
abbrev oM33 : MethodName := ⟨"com/example/narrows/narrows/Subsetter", "checkClients", "(I)V"⟩
abbrev oM34 : MethodName := ⟨"com/example/narrows/narrows/Subsetter", "sharedWalk", "(I)[I"⟩
abbrev oM35 : MethodName := ⟨"com/example/narrows/narrows/SplitMix64", "<init>", "(J)V"⟩
abbrev oM36 : MethodName := ⟨"java/lang/Integer", "toUnsignedLong", "(I)J"⟩
abbrev oM37 : MethodName := ⟨"java/util/BitSet", "ensureCapacity", "(I)V"⟩
abbrev oM38 : MethodName := ⟨"java/lang/Integer", "reverseBytes", "(I)I"⟩
abbrev oM39 : MethodName := ⟨"java/util/BitSet", "initWords", "(I)V"⟩
abbrev oM40 : MethodName := ⟨"java/util/BitSet", "<init>", "(I)V"⟩
theorem d1 : oDs prog_7_method_1_code [(0, .aload_n 0, 1), (1, .invokespecial 1, 3), (4, .iload_n 1, 1), (5, .invokestatic 7, 3), (8, .iload 4, 2), (10, .iconst 1, 1), (11, .if_icmp .ge 18, 3), (29, .new 8, 3), (32, .dup, 1), (33, .iload_n 2, 1), (34, .iload_n 3, 1), (35, .invokespecial 22, 3), (38, .astore 7, 2), (40, .new 8, 3), (43, .dup, 1), (44, .iload 5, 2), (46, .iload 6, 2), (48, .invokespecial 22, 3), (51, .astore 8, 2), (53, .aload_n 0, 1), (54, .iload_n 1, 1), (55, .putfield 25, 3), (58, .aload_n 0, 1), (59, .iload_n 2, 1), (60, .putfield 31, 3), (63, .aload_n 0, 1), (64, .iload_n 3, 1), (65, .putfield 34, 3), (68, .aload_n 0, 1), (69, .iload 4, 2), (71, .putfield 37, 3), (74, .aload_n 0, 1), (75, .iload 5, 2), (77, .putfield 40, 3), (80, .aload_n 0, 1), (81, .iload 6, 2), (83, .putfield 43, 3), (86, .lconst 0, 1), (87, .lstore 9, 2), (89, .iconst 0, 1), (90, .istore 11, 2), (92, .iconst 0, 1), (93, .istore 12, 2), (95, .iload_n 1, 1), (96, .iload 4, 2), (98, .invokestatic 46, 3), (101, .istore 13, 2), (103, .iconst 0, 1), (104, .istore 14, 2), (106, .iload 14, 2), (108, .iload 13, 2), (110, .if_icmp .ge 63, 3), (113, .aload 7, 2), (115, .iload 14, 2), (117, .invokevirtual 52, 3), (120, .astore 15, 2), (122, .aload 15, 2), (124, .aload 8, 2), (126, .iload 14, 2), (128, .invokevirtual 52, 3), (131, .invokestatic 56, 3), (134, .invokevirtual 62, 3), (137, .istore 16, 2), (139, .lload 9, 2), (141, .iload 16, 2), (143, .i2l, 1), (144, .ladd, 1), (145, .lstore 9, 2), (147, .iload 11, 2), (149, .iload 16, 2), (151, .invokestatic 66, 3), (154, .istore 11, 2), (156, .iload 16, 2), (158, .aload 15, 2), (160, .arraylength, 1), (161, .if_icmp .ne 6, 3), (164, .iinc 12 1, 3), (167, .iinc 14 1, 3), (170, .goto (-64), 3), (173, .aload_n 0, 1), (174, .lload 9, 2), (176, .putfield 69, 3), (179, .aload_n 0, 1), (180, .iload 11, 2), (182, .putfield 73, 3), (185, .aload_n 0, 1), (186, .iload 12, 2), (188, .putfield 76, 3), (191, .return_, 1)] := by decide +kernel
theorem d3 : oDs prog_29_method_15_code [(0, .iload_n 0, 1), (1, .iconst 1, 1), (2, .if_icmp .ge 17, 3), (19, .return_, 1)] := by decide +kernel
theorem d4 : oDs prog_29_method_1_code [(0, .aload_n 0, 1), (1, .invokespecial 1, 3), (4, .iload_n 1, 1), (5, .iconst 1, 1), (6, .if_icmp .ge 17, 3), (23, .iload_n 2, 1), (24, .iconst 1, 1), (25, .if_icmp .ge 17, 3), (42, .iload_n 2, 1), (43, .iload_n 1, 1), (44, .if_icmp .le 18, 3), (62, .aload_n 0, 1), (63, .iload_n 1, 1), (64, .putfield 20, 3), (67, .aload_n 0, 1), (68, .iload_n 2, 1), (69, .putfield 26, 3), (72, .aload_n 0, 1), (73, .iload_n 1, 1), (74, .iconst 1, 1), (75, .isub, 1), (76, .bipush 10, 2), (78, .idiv, 1), (79, .iconst 1, 1), (80, .iadd, 1), (81, .putfield 29, 3), (84, .aload_n 0, 1), (85, .iconst 1, 1), (86, .bipush 32, 2), (88, .aload_n 0, 1), (89, .getfield 29, 3), (92, .iconst 1, 1), (93, .isub, 1), (94, .invokestatic 34, 3), (97, .isub, 1), (98, .invokestatic 38, 3), (101, .putfield 44, 3), (104, .aload_n 0, 1), (105, .iload_n 2, 1), (106, .iload_n 1, 1), (107, .bipush 10, 2), (109, .idiv, 1), (110, .if_icmp .gt 7, 3), (113, .iconst 1, 1), (114, .goto 4, 3), (117, .iconst 0, 1), (118, .putfield 47, 3), (121, .return_, 1)] := by decide +kernel
theorem d5 : oDs jdk_33_method_47_code [(0, .iload_n 0, 1), (1, .ifCond .gt 14, 3), (4, .iload_n 0, 1), (5, .ifCond .ne 8, 3), (8, .bipush 32, 2), (10, .goto 4, 3), (14, .ireturn, 1), (15, .bipush 31, 2), (17, .istore_n 1, 1), (18, .iload_n 0, 1), (19, .ldc_w 264, 3), (22, .if_icmp .lt 11, 3), (33, .iload_n 0, 1), (34, .sipush 256, 3), (37, .if_icmp .lt 11, 3), (48, .iload_n 0, 1), (49, .bipush 16, 2), (51, .if_icmp .lt 10, 3), (61, .iload_n 0, 1), (62, .iconst 4, 1), (63, .if_icmp .lt 10, 3), (73, .iload_n 1, 1), (74, .iload_n 0, 1), (75, .iconst 1, 1), (76, .iushr, 1), (77, .isub, 1), (78, .ireturn, 1)] := by decide +kernel
theorem d6 : oDs jdk_29_method_65_code [(0, .iload_n 0, 1), (1, .iload_n 1, 1), (2, .if_icmp .lt 7, 3), (5, .iload_n 0, 1), (6, .goto 4, 3), (9, .iload_n 1, 1), (10, .ireturn, 1)] := by decide +kernel
theorem d7 : oDs jdk_29_method_69_code [(0, .iload_n 0, 1), (1, .iload_n 1, 1), (2, .if_icmp .gt 7, 3), (5, .iload_n 0, 1), (6, .goto 4, 3), (9, .iload_n 1, 1), (10, .ireturn, 1)] := by decide +kernel
theorem d8 : oDs prog_29_method_2_code [(0, .iload_n 1, 1), (1, .ifCond .ge 17, 3), (18, .iload_n 1, 1), (19, .bipush 10, 2), (21, .idiv, 1), (22, .istore_n 2, 1), (23, .iload_n 1, 1), (24, .bipush 10, 2), (26, .irem, 1), (27, .istore_n 3, 1), (28, .iload_n 2, 1), (29, .ifCond .ne 20, 3), (32, .aload_n 0, 1), (33, .getfield 47, 3), (36, .ifCond .ne 13, 3), (39, .aload_n 0, 1), (40, .iload_n 3, 1), (41, .invokevirtual 52, 3), (44, .astore 4, 2), (46, .goto 50, 3), (49, .iload_n 2, 1), (50, .iconst 1, 1), (51, .if_icmp .ne 33, 3), (84, .aload_n 0, 1), (85, .iload_n 2, 1), (86, .getstatic 59, 3), (89, .iload_n 3, 1), (90, .iaload, 1), (91, .invokevirtual 63, 3), (94, .astore 4, 2), (96, .aload 4, 2), (98, .invokestatic 67, 3), (101, .aload 4, 2), (103, .areturn, 1)] := by decide +kernel
theorem d9 : oDs prog_29_method_5_code [(0, .aload_n 0, 1), (1, .iconst 0, 1), (2, .aload_n 0, 1), (3, .getfield 29, 3), (6, .invokevirtual 86, 3), (9, .astore_n 2, 1), (10, .ldc2_w 89, 3), (13, .aload_n 0, 1), (14, .getfield 26, 3), (17, .i2l, 1), (18, .lmul, 1), (19, .lstore_n 3, 1), (20, .lload_n 3, 1), (21, .aload_n 0, 1), (22, .getfield 20, 3), (25, .i2l, 1), (26, .ldiv, 1), (27, .lstore 5, 2), (29, .aload_n 0, 1), (30, .aload_n 2, 1), (31, .lload_n 3, 1), (32, .lload 5, 2), (34, .aload_n 0, 1), (35, .getfield 20, 3), (38, .i2l, 1), (39, .lmul, 1), (40, .lsub, 1), (41, .invokevirtual 91, 3), (44, .istore 7, 2), (46, .new 95, 3), (49, .dup, 1), (50, .iload_n 1, 1), (51, .i2l, 1), (52, .aload_n 0, 1), (53, .getfield 26, 3), (56, .i2l, 1), (57, .lmul, 1), (58, .aload_n 0, 1), (59, .getfield 26, 3), (62, .aload_n 0, 1), (63, .getfield 20, 3), (66, .invokespecial 97, 3), (69, .astore 8, 2), (71, .lconst 0, 1), (72, .lstore 9, 2), (74, .lload 9, 2), (76, .lload 5, 2), (78, .lcmp, 1), (79, .ifCond .ge 30, 3), (82, .aload_n 0, 1), (83, .aload_n 2, 1), (84, .aload_n 2, 1), (85, .arraylength, 1), (86, .aload 8, 2), (88, .invokevirtual 100, 3), (91, .ifCond .eq 9, 3), (94, .aload 8, 2), (96, .getfield 104, 3), (99, .areturn, 1), (100, .lload 9, 2), (102, .lconst 1, 1), (103, .ladd, 1), (104, .lstore 9, 2), (106, .goto (-32), 3)] := by decide +kernel
theorem d10 : oDs prog_29_method_13_code [(0, .iconst 1, 1), (1, .aload_n 0, 1), (2, .getfield 44, 3), (5, .ishl, 1), (6, .istore_n 3, 1), (7, .aload_n 0, 1), (8, .iload_n 1, 1), (9, .invokevirtual 142, 3), (12, .istore 4, 2), (14, .iload_n 2, 1), (15, .newarray .int, 2), (17, .astore 5, 2), (19, .iconst 0, 1), (20, .istore 6, 2), (22, .iconst 0, 1), (23, .istore 7, 2), (25, .iload 6, 2), (27, .iload_n 2, 1), (28, .if_icmp .ge 43, 3), (31, .aload_n 0, 1), (32, .iload 4, 2), (34, .iload 7, 2), (36, .iadd, 1), (37, .iload_n 3, 1), (38, .iconst 1, 1), (39, .isub, 1), (40, .iand, 1), (41, .invokevirtual 145, 3), (44, .istore 8, 2), (46, .iload 8, 2), (48, .aload_n 0, 1), (49, .getfield 29, 3), (52, .if_icmp .ge 13, 3), (55, .aload 5, 2), (57, .iload 6, 2), (59, .iload 8, 2), (61, .iastore, 1), (62, .iinc 6 1, 3), (65, .iinc 7 1, 3), (68, .goto (-43), 3), (71, .aload 5, 2), (73, .areturn, 1)] := by decide +kernel
theorem d11 : oDs prog_29_method_17_code [(0, .iload_n 1, 1), (1, .invokestatic 152, 3), (4, .invokestatic 155, 3), (7, .lstore_n 2, 1), (8, .bipush 32, 2), (10, .aload_n 0, 1), (11, .getfield 44, 3), (14, .isub, 1), (15, .istore 4, 2), (17, .lload_n 2, 1), (18, .lconst 1, 1), (19, .iload 4, 2), (21, .lshl, 1), (22, .ladd, 1), (23, .lconst 1, 1), (24, .lsub, 1), (25, .iload 4, 2), (27, .lushr, 1), (28, .l2i, 1), (29, .ireturn, 1)] := by decide +kernel
theorem d12 : oDs jdk_33_method_52_code [(0, .iload_n 0, 1), (1, .ldc_w 265, 3), (4, .iand, 1), (5, .iconst 1, 1), (6, .ishl, 1), (7, .iload_n 0, 1), (8, .iconst 1, 1), (9, .iushr, 1), (10, .ldc_w 265, 3), (13, .iand, 1), (14, .ior, 1), (15, .istore_n 0, 1), (16, .iload_n 0, 1), (17, .ldc_w 266, 3), (20, .iand, 1), (21, .iconst 2, 1), (22, .ishl, 1), (23, .iload_n 0, 1), (24, .iconst 2, 1), (25, .iushr, 1), (26, .ldc_w 266, 3), (29, .iand, 1), (30, .ior, 1), (31, .istore_n 0, 1), (32, .iload_n 0, 1), (33, .ldc_w 267, 3), (36, .iand, 1), (37, .iconst 4, 1), (38, .ishl, 1), (39, .iload_n 0, 1), (40, .iconst 4, 1), (41, .iushr, 1), (42, .ldc_w 267, 3), (45, .iand, 1), (46, .ior, 1), (47, .istore_n 0, 1), (48, .iload_n 0, 1), (49, .invokestatic 268, 3), (52, .ireturn, 1)] := by decide +kernel
theorem d13 : oDs jdk_33_method_57_code [(0, .iload_n 0, 1), (1, .bipush 24, 2), (3, .ishl, 1), (4, .iload_n 0, 1), (5, .ldc_w 274, 3), (8, .iand, 1), (9, .bipush 8, 2), (11, .ishl, 1), (12, .ior, 1), (13, .iload_n 0, 1), (14, .bipush 8, 2), (16, .iushr, 1), (17, .ldc_w 274, 3), (20, .iand, 1), (21, .ior, 1), (22, .iload_n 0, 1), (23, .bipush 24, 2), (25, .iushr, 1), (26, .ior, 1), (27, .ireturn, 1)] := by decide +kernel
theorem d14 : oDs jdk_33_method_42_code [(0, .iload_n 0, 1), (1, .i2l, 1), (2, .ldc2_w 262, 3), (5, .land, 1), (6, .lreturn, 1)] := by decide +kernel
theorem d15 : oDs prog_29_method_18_code [(0, .iload_n 1, 1), (1, .invokestatic 152, 3), (4, .bipush 32, 2), (6, .aload_n 0, 1), (7, .getfield 44, 3), (10, .isub, 1), (11, .iushr, 1), (12, .ireturn, 1)] := by decide +kernel
theorem d16 : oDs prog_29_method_11_code [(0, .iconst 0, 1), (1, .istore 4, 2), (3, .lconst 0, 1), (4, .lstore 5, 2), (6, .lload 5, 2), (8, .lload_n 2, 1), (9, .lcmp, 1), (10, .ifCond .ge 50, 3), (13, .aload_n 1, 1), (14, .iload 4, 2), (16, .iaload, 1), (17, .istore 7, 2), (19, .lload 5, 2), (21, .iload 7, 2), (23, .aload_n 0, 1), (24, .getfield 29, 3), (27, .iconst 1, 1), (28, .isub, 1), (29, .if_icmp .ne 19, 3), (32, .aload_n 0, 1), (33, .getfield 20, 3), (36, .i2l, 1), (37, .iload 7, 2), (39, .i2l, 1), (40, .ldc2_w 89, 3), (43, .lmul, 1), (44, .lsub, 1), (45, .goto 6, 3), (48, .ldc2_w 89, 3), (51, .ladd, 1), (52, .lstore 5, 2), (54, .iinc 4 1, 3), (57, .goto (-51), 3), (60, .iload 4, 2), (62, .ireturn, 1)] := by decide +kernel
theorem d17 : oDs prog_30_method_1_code [(0, .aload_n 0, 1), (1, .invokespecial 1, 3), (4, .aload_n 0, 1), (5, .lload_n 1, 1), (6, .putfield 7, 3), (9, .aload_n 0, 1), (10, .iload_n 3, 1), (11, .newarray .int, 2), (13, .putfield 13, 3), (16, .aload_n 0, 1), (17, .new 17, 3), (20, .dup, 1), (21, .iload 4, 2), (23, .invokespecial 19, 3), (26, .putfield 22, 3), (29, .return_, 1)] := by decide +kernel
theorem d18 : oDs jdk_92_method_5_code [(0, .aload_n 0, 1), (1, .invokespecial 21, 3), (4, .aload_n 0, 1), (5, .iconst 0, 1), (6, .putfield 7, 3), (9, .aload_n 0, 1), (10, .iconst 0, 1), (11, .putfield 24, 3), (14, .iload_n 1, 1), (15, .ifCond .ge 30, 3), (45, .aload_n 0, 1), (46, .iload_n 1, 1), (47, .invokevirtual 27, 3), (50, .aload_n 0, 1), (51, .iconst 1, 1), (52, .putfield 24, 3), (55, .return_, 1)] := by decide +kernel
theorem d19 : oDs jdk_92_method_6_code [(0, .aload_n 0, 1), (1, .iload_n 1, 1), (2, .iconst 1, 1), (3, .isub, 1), (4, .invokestatic 52, 3), (7, .iconst 1, 1), (8, .iadd, 1), (9, .newarray .long, 2), (11, .putfield 11, 3), (14, .return_, 1)] := by decide +kernel
theorem d20 : oDs jdk_92_method_1_code [(0, .iload_n 0, 1), (1, .bipush 6, 2), (3, .ishr, 1), (4, .ireturn, 1)] := by decide +kernel
theorem d21 : oDs prog_29_method_10_code [(0, .getstatic 59, 3), (3, .astore 4, 2), (5, .aload 4, 2), (7, .arraylength, 1), (8, .istore 5, 2), (10, .iconst 0, 1), (11, .istore 6, 2), (13, .iload 6, 2), (15, .iload 5, 2), (17, .if_icmp .ge 60, 3), (20, .aload 4, 2), (22, .iload 6, 2), (24, .iaload, 1), (25, .istore 7, 2), (27, .iconst 0, 1), (28, .istore 8, 2), (30, .iload 8, 2), (32, .iload_n 2, 1), (33, .if_icmp .ge 38, 3), (36, .aload_n 0, 1), (37, .iconst 0, 1), (38, .aload_n 1, 1), (39, .iload 8, 2), (41, .iaload, 1), (42, .iload 7, 2), (44, .invokevirtual 138, 3), (47, .istore 9, 2), (49, .iload 9, 2), (51, .ifCond .lt 14, 3), (54, .aload_n 3, 1), (55, .iload 9, 2), (57, .invokevirtual 125, 3), (60, .ifCond .eq 5, 3), (63, .iconst 1, 1), (64, .ireturn, 1), (65, .iinc 8 1, 3), (68, .goto (-38), 3), (71, .iinc 6 1, 3), (74, .goto (-61), 3), (77, .iconst 0, 1), (78, .ireturn, 1)] := by decide +kernel
theorem d22 : oDs prog_29_method_14_code [(0, .iload_n 2, 1), (1, .i2l, 1), (2, .ldc2_w 89, 3), (5, .lmul, 1), (6, .iload_n 1, 1), (7, .iload_n 2, 1), (8, .invokestatic 148, 3), (11, .iload_n 3, 1), (12, .iaload, 1), (13, .i2l, 1), (14, .ladd, 1), (15, .lstore 4, 2), (17, .lload 4, 2), (19, .aload_n 0, 1), (20, .getfield 20, 3), (23, .i2l, 1), (24, .lcmp, 1), (25, .ifCond .ge 9, 3), (28, .lload 4, 2), (30, .l2i, 1), (31, .goto 4, 3), (34, .iconst (-1), 1), (35, .ireturn, 1)] := by decide +kernel
theorem d23 : oDs prog_29_method_19_code [(0, .bipush 10, 2), (2, .newarray .int, 2), (4, .astore_n 2, 1), (5, .iconst 0, 1), (6, .istore_n 3, 1), (7, .iload_n 3, 1), (8, .bipush 10, 2), (10, .if_icmp .ge 13, 3), (13, .aload_n 2, 1), (14, .iload_n 3, 1), (15, .iload_n 3, 1), (16, .iastore, 1), (17, .iinc 3 1, 3), (20, .goto (-13), 3), (23, .iload_n 0, 1), (24, .i2l, 1), (25, .iload_n 1, 1), (26, .i2l, 1), (27, .ldc2_w 159, 3), (30, .lmul, 1), (31, .invokestatic 161, 3), (34, .astore_n 3, 1), (35, .bipush 9, 2), (37, .istore 4, 2), (39, .iload 4, 2), (41, .ifCond .le 44, 3), (44, .aload_n 3, 1), (45, .invokevirtual 167, 3), (48, .iload 4, 2), (50, .iconst 1, 1), (51, .iadd, 1), (52, .i2l, 1), (53, .invokestatic 171, 3), (56, .l2i, 1), (57, .istore 5, 2), (59, .aload_n 2, 1), (60, .iload 4, 2), (62, .iaload, 1), (63, .istore 6, 2), (65, .aload_n 2, 1), (66, .iload 4, 2), (68, .aload_n 2, 1), (69, .iload 5, 2), (71, .iaload, 1), (72, .iastore, 1), (73, .aload_n 2, 1), (74, .iload 5, 2), (76, .iload 6, 2), (78, .iastore, 1), (79, .iinc 4 (-1), 3), (82, .goto (-43), 3), (85, .aload_n 2, 1), (86, .areturn, 1)] := by decide +kernel
theorem d24 : oDs prog_27_method_2_code [(0, .new 8, 3), (3, .dup, 1), (4, .lload_n 0, 1), (5, .lload_n 2, 1), (6, .ldc2_w 13, 3), (9, .lmul, 1), (10, .ladd, 1), (11, .invokespecial 15, 3), (14, .areturn, 1)] := by decide +kernel
theorem d25 : oDs prog_27_method_1_code [(0, .aload_n 0, 1), (1, .invokespecial 1, 3), (4, .aload_n 0, 1), (5, .lload_n 1, 1), (6, .putfield 7, 3), (9, .return_, 1)] := by decide +kernel
theorem d26 : oDs prog_27_method_3_code [(0, .aload_n 0, 1), (1, .dup, 1), (2, .getfield 7, 3), (5, .ldc2_w 13, 3), (8, .ladd, 1), (9, .putfield 7, 3), (12, .aload_n 0, 1), (13, .getfield 7, 3), (16, .lstore_n 1, 1), (17, .lload_n 1, 1), (18, .lload_n 1, 1), (19, .bipush 30, 2), (21, .lushr, 1), (22, .lxor, 1), (23, .ldc2_w 18, 3), (26, .lmul, 1), (27, .lstore_n 1, 1), (28, .lload_n 1, 1), (29, .lload_n 1, 1), (30, .bipush 27, 2), (32, .lushr, 1), (33, .lxor, 1), (34, .ldc2_w 20, 3), (37, .lmul, 1), (38, .lstore_n 1, 1), (39, .lload_n 1, 1), (40, .lload_n 1, 1), (41, .bipush 31, 2), (43, .lushr, 1), (44, .lxor, 1), (45, .lreturn, 1)] := by decide +kernel
theorem d27 : oDs jdk_35_method_45_code [(0, .lload_n 2, 1), (1, .lconst 0, 1), (2, .lcmp, 1), (3, .ifCond .lt 37, 3), (6, .lload_n 0, 1), (7, .iconst 1, 1), (8, .lushr, 1), (9, .lload_n 2, 1), (10, .ldiv, 1), (11, .iconst 1, 1), (12, .lshl, 1), (13, .lstore 4, 2), (15, .lload_n 0, 1), (16, .lload 4, 2), (18, .lload_n 2, 1), (19, .lmul, 1), (20, .lsub, 1), (21, .lstore 6, 2), (23, .lload 6, 2), (25, .lload 6, 2), (27, .lload_n 2, 1), (28, .lsub, 1), (29, .ldc2_w 306, 3), (32, .lxor, 1), (33, .bipush 63, 2), (35, .lshr, 1), (36, .lload_n 2, 1), (37, .land, 1), (38, .lsub, 1), (39, .lreturn, 1)] := by decide +kernel
theorem d28 : oDs prog_30_method_2_code [(0, .aload_n 0, 1), (1, .getfield 7, 3), (4, .lconst 0, 1), (5, .lcmp, 1), (6, .ifCond .le 15, 3), (9, .aload_n 0, 1), (10, .dup, 1), (11, .getfield 7, 3), (14, .lconst 1, 1), (15, .lsub, 1), (16, .putfield 7, 3), (19, .iconst 0, 1), (20, .ireturn, 1), (21, .aload_n 0, 1), (22, .getfield 26, 3), (25, .aload_n 0, 1), (26, .getfield 13, 3), (29, .arraylength, 1), (30, .if_icmp .ge 42, 3), (33, .aload_n 0, 1), (34, .getfield 22, 3), (37, .iload_n 1, 1), (38, .invokevirtual 30, 3), (41, .ifCond .ne 31, 3), (44, .aload_n 0, 1), (45, .getfield 22, 3), (48, .iload_n 1, 1), (49, .invokevirtual 34, 3), (52, .aload_n 0, 1), (53, .getfield 13, 3), (56, .aload_n 0, 1), (57, .getfield 26, 3), (60, .iload_n 1, 1), (61, .iastore, 1), (62, .aload_n 0, 1), (63, .dup, 1), (64, .getfield 26, 3), (67, .iconst 1, 1), (68, .iadd, 1), (69, .putfield 26, 3), (72, .aload_n 0, 1), (73, .getfield 26, 3), (76, .aload_n 0, 1), (77, .getfield 13, 3), (80, .arraylength, 1), (81, .if_icmp .ne 7, 3), (84, .iconst 1, 1), (85, .goto 4, 3), (88, .iconst 0, 1), (89, .ireturn, 1)] := by decide +kernel
theorem d29 : oDs jdk_92_method_26_code [(0, .iload_n 1, 1), (1, .ifCond .ge 30, 3), (31, .aload_n 0, 1), (32, .invokevirtual 56, 3), (35, .iload_n 1, 1), (36, .invokestatic 52, 3), (39, .istore_n 2, 1), (40, .iload_n 2, 1), (41, .aload_n 0, 1), (42, .getfield 7, 3), (45, .if_icmp .ge 22, 3), (48, .aload_n 0, 1), (49, .getfield 11, 3), (52, .iload_n 2, 1), (53, .laload, 1), (54, .lconst 1, 1), (55, .iload_n 1, 1), (56, .lshl, 1), (57, .land, 1), (58, .lconst 0, 1), (59, .lcmp, 1), (60, .ifCond .eq 7, 3), (63, .iconst 1, 1), (64, .goto 4, 3), (67, .iconst 0, 1), (68, .ireturn, 1)] := by decide +kernel
theorem d30 : oDs jdk_92_method_2_code [(0, .getstatic 3, 3), (3, .ifCond .ne 34, 3), (37, .getstatic 3, 3), (40, .ifCond .ne 30, 3), (70, .getstatic 3, 3), (73, .ifCond .ne 37, 3), (110, .return_, 1)] := by decide +kernel
theorem d31 : oDs jdk_92_method_19_code [(0, .iload_n 1, 1), (1, .ifCond .ge 30, 3), (31, .iload_n 1, 1), (32, .invokestatic 52, 3), (35, .istore_n 2, 1), (36, .aload_n 0, 1), (37, .iload_n 2, 1), (38, .invokevirtual 155, 3), (41, .aload_n 0, 1), (42, .getfield 11, 3), (45, .iload_n 2, 1), (46, .dup2, 1), (47, .laload, 1), (48, .lconst 1, 1), (49, .iload_n 1, 1), (50, .lshl, 1), (51, .lor, 1), (52, .lastore, 1), (53, .aload_n 0, 1), (54, .invokevirtual 56, 3), (57, .return_, 1)] := by decide +kernel
theorem d32 : oDs jdk_92_method_15_code [(0, .iload_n 1, 1), (1, .iconst 1, 1), (2, .iadd, 1), (3, .istore_n 2, 1), (4, .aload_n 0, 1), (5, .getfield 7, 3), (8, .iload_n 2, 1), (9, .if_icmp .ge 13, 3), (12, .aload_n 0, 1), (13, .iload_n 2, 1), (14, .invokevirtual 139, 3), (17, .aload_n 0, 1), (18, .iload_n 2, 1), (19, .putfield 7, 3), (22, .return_, 1)] := by decide +kernel
theorem d33 : oDs jdk_92_method_14_code [(0, .aload_n 0, 1), (1, .getfield 11, 3), (4, .arraylength, 1), (5, .iload_n 1, 1), (6, .if_icmp .ge 32, 3), (38, .return_, 1)] := by decide +kernel
theorem d38 : oDs prog_28_method_2_code [(0, .aload_n 1, 1), (1, .arraylength, 1), (2, .newarray .int, 2), (4, .astore_n 2, 1), (5, .aload_n 0, 1), (6, .arraylength, 1), (7, .newarray .int, 2), (9, .astore_n 3, 1), (10, .iconst 0, 1), (11, .istore 4, 2), (13, .iconst 0, 1), (14, .istore 5, 2), (16, .iconst 0, 1), (17, .istore 6, 2), (19, .iconst 0, 1), (20, .istore 7, 2), (22, .iload 6, 2), (24, .aload_n 0, 1), (25, .arraylength, 1), (26, .if_icmp .lt 10, 3), (29, .iload 7, 2), (31, .aload_n 1, 1), (32, .arraylength, 1), (33, .if_icmp .ge 89, 3), (36, .iload 7, 2), (38, .aload_n 1, 1), (39, .arraylength, 1), (40, .if_icmp .eq 21, 3), (43, .iload 6, 2), (45, .aload_n 0, 1), (46, .arraylength, 1), (47, .if_icmp .ge 31, 3), (50, .aload_n 0, 1), (51, .iload 6, 2), (53, .iaload, 1), (54, .aload_n 1, 1), (55, .iload 7, 2), (57, .iaload, 1), (58, .if_icmp .ge 20, 3), (61, .aload_n 3, 1), (62, .iload 5, 2), (64, .aload_n 0, 1), (65, .iload 6, 2), (67, .iaload, 1), (68, .iastore, 1), (69, .iinc 5 1, 3), (72, .iinc 6 1, 3), (75, .goto (-53), 3), (78, .iload 6, 2), (80, .aload_n 0, 1), (81, .arraylength, 1), (82, .if_icmp .eq 14, 3), (85, .aload_n 1, 1), (86, .iload 7, 2), (88, .iaload, 1), (89, .aload_n 0, 1), (90, .iload 6, 2), (92, .iaload, 1), (93, .if_icmp .ge 20, 3), (96, .aload_n 2, 1), (97, .iload 4, 2), (99, .aload_n 1, 1), (100, .iload 7, 2), (102, .iaload, 1), (103, .iastore, 1), (104, .iinc 4 1, 3), (107, .iinc 7 1, 3), (110, .goto (-88), 3), (113, .iinc 6 1, 3), (116, .iinc 7 1, 3), (119, .goto (-97), 3), (122, .new 8, 3), (125, .dup, 1), (126, .aload_n 2, 1), (127, .iload 4, 2), (129, .invokestatic 16, 3), (132, .aload_n 3, 1), (133, .iload 5, 2), (135, .invokestatic 16, 3), (138, .invokespecial 20, 3), (141, .areturn, 1)] := by decide +kernel
theorem d39 : oDs prog_28_method_3_code [(0, .iload_n 1, 1), (1, .ifCond .ne 9, 3), (4, .getstatic 23, 3), (7, .goto 8, 3), (10, .aload_n 0, 1), (11, .iload_n 1, 1), (12, .invokestatic 26, 3), (15, .areturn, 1)] := by decide +kernel
theorem d40 : oDs jdk_65_method_123_code [(0, .iload_n 1, 1), (1, .aload_n 0, 1), (2, .arraylength, 1), (3, .if_icmp .ne 11, 3), (6, .aload_n 0, 1), (7, .invokevirtual 316, 3), (10, .checkcast 317, 3), (13, .areturn, 1), (14, .iload_n 1, 1), (15, .newarray .int, 2), (17, .astore_n 2, 1), (18, .aload_n 0, 1), (19, .iconst 0, 1), (20, .aload_n 2, 1), (21, .iconst 0, 1), (22, .aload_n 0, 1), (23, .arraylength, 1), (24, .iload_n 1, 1), (25, .invokestatic 304, 3), (28, .invokestatic 150, 3), (31, .aload_n 2, 1), (32, .areturn, 1)] := by decide +kernel
theorem d41 : oDs prog_28_method_1_code [(0, .aload_n 0, 1), (1, .invokespecial 1, 3), (4, .aload_n 0, 1), (5, .aload_n 1, 1), (6, .putfield 7, 3), (9, .aload_n 0, 1), (10, .aload_n 2, 1), (11, .putfield 13, 3), (14, .return_, 1)] := by decide +kernel
theorem d42 : oDs prog_28_method_6_code [(0, .aload_n 0, 1), (1, .getfield 13, 3), (4, .arraylength, 1), (5, .ireturn, 1)] := by decide +kernel
theorem d43 : oDs prog_7_method_9_code [(0, .aload_n 0, 1), (1, .getfield 37, 3), (4, .i2l, 1), (5, .aload_n 0, 1), (6, .getfield 43, 3), (9, .i2l, 1), (10, .lmul, 1), (11, .lreturn, 1)] := by decide +kernel
theorem d44 : oDs prog_29_method_12_code [(0, .aload_n 0, 1), (1, .iload_n 1, 1), (2, .aload_n 0, 1), (3, .getfield 29, 3), (6, .i2l, 1), (7, .aload_n 0, 1), (8, .getfield 26, 3), (11, .i2l, 1), (12, .lconst 1, 1), (13, .ladd, 1), (14, .invokestatic 107, 3), (17, .l2i, 1), (18, .invokevirtual 86, 3), (21, .astore_n 3, 1), (22, .aload_n 0, 1), (23, .getfield 26, 3), (26, .newarray .int, 2), (28, .astore 4, 2), (30, .iconst 0, 1), (31, .istore 5, 2), (33, .iconst 0, 1), (34, .istore 6, 2), (36, .iload 5, 2), (38, .aload_n 0, 1), (39, .getfield 26, 3), (42, .if_icmp .ge 28, 3), (45, .aload_n 0, 1), (46, .iload_n 1, 1), (47, .aload_n 3, 1), (48, .iload_n 2, 1), (49, .iload 6, 2), (51, .iadd, 1), (52, .bipush 10, 2), (54, .irem, 1), (55, .aload 4, 2), (57, .iload 5, 2), (59, .invokevirtual 134, 3), (62, .istore 5, 2), (64, .iinc 6 1, 3), (67, .goto (-31), 3), (70, .aload 4, 2), (72, .areturn, 1)] := by decide +kernel
theorem d45 : oDs jdk_29_method_70_code [(0, .lload_n 0, 1), (1, .lload_n 2, 1), (2, .lcmp, 1), (3, .ifCond .gt 7, 3), (6, .lload_n 0, 1), (7, .goto 4, 3), (10, .lload_n 2, 1), (11, .lreturn, 1)] := by decide +kernel
theorem d46 : oDs prog_29_method_9_code [(0, .iload 5, 2), (2, .istore 6, 2), (4, .iconst 0, 1), (5, .istore 7, 2), (7, .iload 7, 2), (9, .aload_n 2, 1), (10, .arraylength, 1), (11, .if_icmp .ge 45, 3), (14, .iload 6, 2), (16, .aload_n 0, 1), (17, .getfield 26, 3), (20, .if_icmp .ge 36, 3), (23, .aload_n 0, 1), (24, .iload_n 1, 1), (25, .aload_n 2, 1), (26, .iload 7, 2), (28, .iaload, 1), (29, .iload_n 3, 1), (30, .invokevirtual 138, 3), (33, .istore 8, 2), (35, .iload 8, 2), (37, .ifCond .lt 13, 3), (40, .aload 4, 2), (42, .iload 6, 2), (44, .iload 8, 2), (46, .iastore, 1), (47, .iinc 6 1, 3), (50, .iinc 7 1, 3), (53, .goto (-46), 3), (56, .iload 6, 2), (58, .ireturn, 1)] := by decide +kernel
variable {p : Program} {l : Launch} {e : Env} {s : State} {m : MethodId} {args : Array Value} {below : List Frame} {meth : Method} {c : Code} {T0 : State} {locs : List Loc} {cells slots : Nat} {Z : State} {a0 : Array Value} {h0 : Heap} {n0 : Nat}
def cD (v0 : Option Value) (h0 : Heap) (n0 : Nat) (v : Option Value) (h : Heap) (L : List Loc) : Prop := v = v0 ∧ Fr n0 L ∧ h = h0
def uM (n0 : Nat) (v : Option Value) (h : Heap) (L : List Loc) : Prop := v = some (.int 1) ∧ Fr n0 L
theorem iD {h h' : Heap} (K : Keep h h' []) : Ext h h' := ⟨K.1, fun x c q => K.2.1 x c q (by simp)⟩
theorem aU4 {Z : State} {h h' : Heap} {a : Addr} {C K n d : String} {w : Value} (S : Sta Z h C n d w) (k : Keep h h' [a]) (E : Exa Z h a K) : Sta Z h' C n d w := by
 obtain ⟨cf, i, kk, f, st, cell, h1, h2, h3, h4, h5, h6, h7⟩ := S
 refine ⟨cf, i, kk, f, st, cell, h1, h2, h3, h4, k.2.1 st cell h5 ?_, h6, h7⟩
 intro q
 cases List.mem_singleton.mp q
 obtain ⟨c2, _, g1, -, -, g4, -⟩ := E
 cases h5.symm.trans g1
 rw [g4] at h6
 cases h6
theorem aZ0 {Z : State} {h : Heap} {a b : Addr} {C n d : String} {v w : Value} (F : Fld Z h a C n d v) (G : Fld Z h b C n d w) (q : v ≠ w) : ¬ (a = b) := fun e => by
 subst e
 obtain ⟨c1, f1, k1, i1, g1, a1, a2, -, -, -, -, a7⟩ := F
 obtain ⟨c2, f2, k2, i2, g2, b1, b2, -, -, -, -, b7⟩ := G
 cases a1.symm.trans b1
 cases a2.symm.trans b2
 exact q (Option.some.inj (a7.symm.trans b7))
theorem iE {t : Term} {args : Array Value} {s : State} {k : Int32} (h : (Cond.eq t (.int k)).value args s none s [] = some true) : t.eval args s none [] s = some (.int k) := by
 cases ht : t.eval args s none [] s with
 | none => simp [Cond.value, Term.eval, ht] at h
 | some v => cases v <;> simp [Cond.value, Term.eval, ht] at h ⊢; exact h
theorem bG0 {t : Term} {args : Array Value} {s : State} {k : Int64} (h : (Cond.eq t (.long k)).value args s none s [] = some true) : t.eval args s none [] s = some (.long k) := by
 cases ht : t.eval args s none [] s with
 | none => simp [Cond.value, Term.eval, ht] at h
 | some v => cases v <;> simp [Cond.value, Term.eval, ht] at h ⊢; exact h
def aL (x y : Int32) : Int32 := (x.toUInt32 >>> (y &&& 31).toUInt32).toInt32
def bO (x : Int64) (y : Int32) : Int64 := (x.toUInt64 >>> (y &&& 0x3f).toInt64.toUInt64).toInt64
def cJ (x : Int64) (y : Int32) : Int64 := x <<< (y &&& 0x3f).toInt64
def aC2 (x : Int64) (y : Int32) : Int64 := x >>> (y &&& 0x3f).toInt64
section OwnBase
variable {Z : State} {h h' : Heap} {a b : Addr} {n j x : Int32} {vs : List Int32} {ws : List Int64} {sl : Nat} {v : Value} {W : List Addr}
def bC (Z : State) (h : Heap) (a : Addr) (n : Int32) : Prop := ∃ c : Cell, Arr Z h a c .int ∧ c.slots.size = n.toNatClampNeg ∧ ¬ n < 0 ∧ ∀ k, k < c.slots.size → ∃ z : Int32, c.slots[k]? = some (.int z)
def bB (Z : State) (h : Heap) (a : Addr) (n : Int32) (vs : List Int32) : Prop := ∃ c : Cell, Arr Z h a c .int ∧ c.slots.size = n.toNatClampNeg ∧ ¬ n < 0 ∧ ∀ k, k < c.slots.size → c.slots[k]? = some (.int (vs.getD k 0))
def cY (Z : State) (h : Heap) (a : Addr) (n : Int32) (ws : List Int64) : Prop := ∃ c : Cell, Arr Z h a c .long ∧ c.slots.size = n.toNatClampNeg ∧ ¬ n < 0 ∧ ∀ k, k < c.slots.size → c.slots[k]? = some (.long (ws.getD k 0))
theorem bB.ia (V : bB Z h a n vs) : bC Z h a n := by obtain ⟨c, A, S, M, H⟩ := V; exact ⟨c, A, S, M, fun k hk => ⟨_, H k hk⟩⟩
theorem bC.lt (V : bC Z h a n) : a < h.size := by obtain ⟨c, A, -⟩ := V; exact A.lt
theorem bB.lt (V : bB Z h a n vs) : a < h.size := by obtain ⟨c, A, -⟩ := V; exact A.lt
theorem cY.lt (V : cY Z h a n ws) : a < h.size := by obtain ⟨c, A, -⟩ := V; exact A.lt
theorem bC.ext (V : bC Z h a n) (E : Ext h h') : bC Z h' a n := by obtain ⟨c, A, r⟩ := V; exact ⟨c, A.ext E, r⟩
theorem bB.ext (V : bB Z h a n vs) (E : Ext h h') : bB Z h' a n vs := by obtain ⟨c, A, r⟩ := V; exact ⟨c, A.ext E, r⟩
theorem cY.ext (V : cY Z h a n ws) (E : Ext h h') : cY Z h' a n ws := by obtain ⟨c, A, r⟩ := V; exact ⟨c, A.ext E, r⟩
theorem bC.other (V : bC Z h b n) (w : Wr h h' a sl v) (q : b ≠ a) : bC Z h' b n := by obtain ⟨c, A, r⟩ := V; exact ⟨c, A.other w q, r⟩
theorem bB.other (V : bB Z h b n vs) (w : Wr h h' a sl v) (q : b ≠ a) : bB Z h' b n vs := by obtain ⟨c, A, r⟩ := V; exact ⟨c, A.other w q, r⟩
theorem cY.other (V : cY Z h b n ws) (w : Wr h h' a sl v) (q : b ≠ a) : cY Z h' b n ws := by obtain ⟨c, A, r⟩ := V; exact ⟨c, A.other w q, r⟩
theorem bC.keep (V : bC Z h a n) (K : Keep h h' W) (q : a ∉ W) : bC Z h' a n := by obtain ⟨c, A, r⟩ := V; exact ⟨c, ⟨K.2.1 a c A.1 q, A.2⟩, r⟩
theorem bB.keep (V : bB Z h a n vs) (K : Keep h h' W) (q : a ∉ W) : bB Z h' a n vs := by obtain ⟨c, A, r⟩ := V; exact ⟨c, ⟨K.2.1 a c A.1 q, A.2⟩, r⟩
theorem cY.keep (V : cY Z h a n ws) (K : Keep h h' W) (q : a ∉ W) : cY Z h' a n ws := by obtain ⟨c, A, r⟩ := V; exact ⟨c, ⟨K.2.1 a c A.1 q, A.2⟩, r⟩
theorem iF (V : bC Z h a n) (hj : ¬ j < 0) (hl : j < n) : ∃ (c : Cell) (z : Int32), Arr Z h a c .int ∧ ¬ (j < 0 ∨ c.slots.size ≤ j.toNatClampNeg) ∧ c.slots[j.toNatClampNeg]? = some (.int z) := by
 obtain ⟨c, A, S, M, H⟩ := V
 have hin := inb_of S ⟨hj, hl⟩
 obtain ⟨z, hz⟩ := H _ (Nat.lt_of_not_le fun q => hin (Or.inr q))
 exact ⟨c, z, A, hin, hz⟩
theorem bS (V : bB Z h a n vs) (hj : ¬ j < 0) (hl : j < n) : ∃ c : Cell, Arr Z h a c .int ∧ ¬ (j < 0 ∨ c.slots.size ≤ j.toNatClampNeg) ∧ c.slots[j.toNatClampNeg]? = some (.int (vs.getD j.toNatClampNeg 0)) := by
 obtain ⟨c, A, S, M, H⟩ := V
 have hin := inb_of S ⟨hj, hl⟩
 exact ⟨c, A, hin, H _ (Nat.lt_of_not_le fun q => hin (Or.inr q))⟩
theorem kR (V : cY Z h a n ws) (hj : ¬ j < 0) (hl : j < n) : ∃ c : Cell, Arr Z h a c .long ∧ ¬ (j < 0 ∨ c.slots.size ≤ j.toNatClampNeg) ∧ c.slots[j.toNatClampNeg]? = some (.long (ws.getD j.toNatClampNeg 0)) := by
 obtain ⟨c, A, S, M, H⟩ := V
 have hin := inb_of S ⟨hj, hl⟩
 exact ⟨c, A, hin, H _ (Nat.lt_of_not_le fun q => hin (Or.inr q))⟩
theorem dE (V : bC Z h a n) : ∃ c : Cell, Arr Z h a c .int ∧ c.slots.size = n.toNatClampNeg ∧ ¬ n < 0 := by obtain ⟨c, A, S, M, -⟩ := V; exact ⟨c, A, S, M⟩
theorem bV (V : bB Z h a n vs) : ∃ c : Cell, Arr Z h a c .int ∧ c.slots.size = n.toNatClampNeg ∧ ¬ n < 0 := by obtain ⟨c, A, S, M, -⟩ := V; exact ⟨c, A, S, M⟩
theorem zJ (V : cY Z h a n ws) : ∃ c : Cell, Arr Z h a c .long ∧ c.slots.size = n.toNatClampNeg ∧ ¬ n < 0 := by obtain ⟨c, A, S, M, -⟩ := V; exact ⟨c, A, S, M⟩
theorem mY {c : Cell} {i k : Nat} {w : Value} (hi : i < c.slots.size) : (c.setSlot i w).slots[k]? = if k = i then some w else c.slots[k]? := by
 by_cases q : k = i
 · subst q; simp [Cell.setSlot, hi]
 · simp [Cell.setSlot, q, Array.getElem?_setIfInBounds_ne (Ne.symm q)]
theorem iG {y : Int32} (V : bC Z h a n) (hj : ¬ j < 0) (hl : j < n) (w : Wr h h' a j.toNatClampNeg (.int y)) : bC Z h' a n := by
 obtain ⟨c, A, S, M, H⟩ := V
 have hin := inb_of S ⟨hj, hl⟩
 refine ⟨_, A.same w, by simp [Cell.setSlot, S], M, fun k hk => ?_⟩
 rw [mY (Nat.lt_of_not_le fun q => hin (Or.inr q))]
 by_cases q : k = j.toNatClampNeg
 · exact ⟨y, by simp [q]⟩
 · rw [if_neg q]; exact H k (by simpa [Cell.setSlot] using hk)
theorem rL {α : Type} {l : List α} {i k : Nat} {y d : α} (hi : i < l.length) : (l.set i y).getD k d = if k = i then y else l.getD k d := by
 by_cases q : k = i
 · subst q; simp [List.getD, hi]
 · simp [List.getD, q, List.getElem?_set_ne (Ne.symm q)]
theorem jN {y : Int32} (V : bB Z h a n vs) (hj : ¬ j < 0) (hl : j < n) (w : Wr h h' a j.toNatClampNeg (.int y)) (hv : j.toNatClampNeg < vs.length) : bB Z h' a n (vs.set j.toNatClampNeg y) := by
 obtain ⟨c, A, S, M, H⟩ := V
 have hin := inb_of S ⟨hj, hl⟩
 refine ⟨_, A.same w, by simp [Cell.setSlot, S], M, fun k hk => ?_⟩
 rw [mY (Nat.lt_of_not_le fun q => hin (Or.inr q)), rL hv]
 by_cases q : k = j.toNatClampNeg
 · simp [q]
 · rw [if_neg q, if_neg q]; exact H k (by simpa [Cell.setSlot] using hk)
theorem xO {y : Int64} (V : cY Z h a n ws) (hj : ¬ j < 0) (hl : j < n) (w : Wr h h' a j.toNatClampNeg (.long y)) (hv : j.toNatClampNeg < ws.length) : cY Z h' a n (ws.set j.toNatClampNeg y) := by
 obtain ⟨c, A, S, M, H⟩ := V
 have hin := inb_of S ⟨hj, hl⟩
 refine ⟨_, A.same w, by simp [Cell.setSlot, S], M, fun k hk => ?_⟩
 rw [mY (Nat.lt_of_not_le fun q => hin (Or.inr q)), rL hv]
 by_cases q : k = j.toNatClampNeg
 · simp [q]
 · rw [if_neg q, if_neg q]; exact H k (by simpa [Cell.setSlot] using hk)
theorem rM {α : Type} (m k : Nat) (d : α) : (List.replicate m d).getD k d = d := by
 rw [List.getD_eq_getElem?_getD, List.getElem?_replicate]; split <;> rfl
theorem dY {cA : ClassId} {m : Nat} (A : Arr Z h a (newA cA .int n) .int) (q : ¬ n < 0) : bB Z h a n (List.replicate m 0) :=
 ⟨_, A, sz_new _ _ _, q, fun k hk => by
   rw [rM]
   have hk' : k < n.toNatClampNeg := by rw [sz_new] at hk; exact hk
   simp [newA, hk', defaultValue]⟩
theorem aC3 {cA : ClassId} {m : Nat} (A : Arr Z h a (newA cA .long n) .long) (q : ¬ n < 0) : cY Z h a n (List.replicate m 0) :=
 ⟨_, A, sz_new _ _ _, q, fun k hk => by
   rw [rM]
   have hk' : k < n.toNatClampNeg := by rw [sz_new] at hk; exact hk
   simp [newA, hk', defaultValue]⟩
theorem aK {vs' : List Int32} (V : bB Z h a n vs) (e : vs = vs') : bB Z h a n vs' := e ▸ V
theorem bD4 {ws' : List Int64} (V : cY Z h a n ws) (e : ws = ws') : cY Z h a n ws' := e ▸ V
def qJ (h : Heap) (a : Addr) : Prop := ∃ c : Cell, h[a]? = some c ∧ c.vm.isStatics = false
theorem mF {C : String} (E : Exa Z h a C) : qJ h a := by obtain ⟨c, _, h1, -, -, h4, -⟩ := E; exact ⟨c, h1, h4⟩
theorem uN {c : Cell} {ty : FieldType} (A : Arr Z h a c ty) : qJ h a := ⟨c, A.1, A.plain⟩
theorem sU (V : bC Z h a n) : qJ h a := by obtain ⟨c, A, -⟩ := V; exact uN A
theorem bD5 (V : bB Z h a n vs) : qJ h a := by obtain ⟨c, A, -⟩ := V; exact uN A
theorem aG7 (V : cY Z h a n ws) : qJ h a := by obtain ⟨c, A, -⟩ := V; exact uN A
theorem fM {C f d : String} {w : Value} (S : Sta Z h C f d w) (k : Keep h h' W) (q : ∀ a ∈ W, qJ h a) : Sta Z h' C f d w := by
 obtain ⟨cf, i, kk, fl, st, cell, h1, h2, h3, h4, h5, h6, h7⟩ := S
 refine ⟨cf, i, kk, fl, st, cell, h1, h2, h3, h4, k.2.1 st cell h5 fun r => ?_, h6, h7⟩
 obtain ⟨c2, g1, g2⟩ := q st r
 cases h5.symm.trans g1
 rw [g2] at h6
 cases h6
theorem dP (a : Addr) : a ∉ ([] : List Addr) := by simp
theorem bH {b1 : Addr} (q1 : a ≠ b1) : a ∉ [b1] := by simp [q1]
theorem kU {b1 b2 : Addr} (q1 : a ≠ b1) (q2 : a ≠ b2) : a ∉ [b1, b2] := by simp [q1, q2]
theorem sV {b1 b2 b3 : Addr} (q1 : a ≠ b1) (q2 : a ≠ b2) (q3 : a ≠ b3) : a ∉ [b1, b2, b3] := by simp [q1, q2, q3]
theorem aK3 {b1 b2 b3 b4 : Addr} (q1 : a ≠ b1) (q2 : a ≠ b2) (q3 : a ≠ b3) (q4 : a ≠ b4) : a ∉ [b1, b2, b3, b4] := by simp [q1, q2, q3, q4]
theorem dX {P : Addr → Prop} : ∀ x ∈ ([] : List Addr), P x := by simp
theorem bJ {P : Addr → Prop} {b1 : Addr} (q1 : P b1) : ∀ x ∈ [b1], P x := by simp [q1]
theorem dN {P : Addr → Prop} {b1 b2 : Addr} (q1 : P b1) (q2 : P b2) : ∀ x ∈ [b1, b2], P x := by simp [q1, q2]
theorem aK4 {P : Addr → Prop} {b1 b2 b3 : Addr} (q1 : P b1) (q2 : P b2) (q3 : P b3) : ∀ x ∈ [b1, b2, b3], P x := by simp [q1, q2, q3]
theorem nT {P : Addr → Prop} {b1 b2 b3 b4 : Addr} (q1 : P b1) (q2 : P b2) (q3 : P b3) (q4 : P b4) : ∀ x ∈ [b1, b2, b3, b4], P x := by simp [q1, q2, q3, q4]
end OwnBase
section OwnBase2
variable {p : Program} {l : Launch} {e : Env} {R : Room} {s : State} {m : MethodId} {args : Array Value} {below : List Frame} {meth : Method} {c : Code} {T : State} {locs : List Loc} {cells slots : Nat} {Z : State} {a0 : Array Value} {h : Heap}
theorem aG8 (X : Stand p l e R s m args below meth c T locs cells slots) (hx : p.tables.exec = Jvm.exec) (hZ : Z.Warmed39 s.vm) {own O n d : String} {index : Nat} (hown : s.vm.findClass own = some m.cls) (w : (Cond.fieldRef own index O n d).before a0 Z = true)
   (eT : T.heap = h) {a : Addr} {v : Value} (F : Fld Z h a O n d v) {g : JFrame} (hg : g.method = m) {rest : List Value} (hs : g.stack = .ref a :: rest) (hd : decode c.code g.pc = .ok (.getfield index, 3)) : ∃ T', Stand p l e R s m args below meth c T' locs cells slots ∧ T'.heap = h ∧ ∀ target, Steps p.tables e below (T'.setTop { g with pc := g.pc + 3, stack := v :: rest }) target → Steps p.tables e below (T.setTop g) target := by
 obtain ⟨cell, cf, k, i, f, h1, h2, h3, h4, -, -, h7⟩ := F
 have hW : Z.Warmed39 T.vm := wtrans hZ X.warmed
 have w' := Cond.fieldRef_warmed39 hW w
 have hc : (Z.setVm T.vm).vm.findClass own = some m.cls := by
   show T.vm.findClass own = some m.cls
   rw [X.warmed.alike.findClass]; exact hown
 obtain ⟨c', k', i', f', g1, g2⟩ := Cond.fieldRef_spec hc w'
 obtain ⟨k2, q1, -⟩ := State.fieldFound?_setVm (s := Z) hW.alike h2
 cases q1.symm.trans g1
 refine ⟨T, X, eT, fun target hrest => ?_⟩
 subst hg
 jvm_step X.here [hx, hd, getfield.wp_ready (e := e) (s := T) (f := g) X.here.top g2 h3 hs (show T.heap[a]? = some cell by rw [eT]; exact h1) h4 h7]
 exact hrest
theorem cG {y : MethodName} {n : Nat} (wi : (Cond.instantiable y.cls n).before args s = true) (wp : (Cond.privateMethod y).before args s = true) (wm : (Cond.instanceMethod y).before args s = true) (hy : y.cls ≠ "java/lang/invoke/MethodHandle" ∧ y.cls ≠ "java/lang/invoke/VarHandle") : (Cond.selects y.cls y y).before args s = true := by
 obtain ⟨c, k, h1, h2, h3, h4, -⟩ := Cond.instantiable_spec wi
 exact selects_self_of_private h1 h2 (Bool.or_eq_false_iff.mp h4).1 (Cond.privateMethod_at wp) wm hy
theorem eS {cells' slots' : Nat} (X : Stand p l e R s m args below meth c T locs cells slots) (h1 : cells = cells') (h2 : slots = slots') : Stand p l e R s m args below meth c T locs cells' slots' := by subst h1 h2; exact X
theorem dJ {y : MethodName} {S : Spec} {P : Array Value → State → Prop} {Q Q' : Option Value → Heap → List Loc → Prop} {k1 k2 : Nat} (hm : MetFree l y S P (fun _ _ _ _ _ => True) (fun _ U o U' => ∃ v L, o = .returned v ∧ Q v U'.heap L ∧ FrameEnd U o U' L k1 k2)) (q : ∀ v h L, Q v h L → Q' v h L) : MetFree l y S P (fun _ _ _ _ _ => True) (fun _ U o U' => ∃ v L, o = .returned v ∧ Q' v U'.heap L ∧ FrameEnd U o U' L k1 k2) :=
 hm.mono (fun _ _ r => r) (fun _ _ _ _ _ r => r) (fun _ _ _ _ _ ⟨v, L, a, b, c⟩ => ⟨v, L, a, q _ _ _ b, c⟩)
end OwnBase2
section OwnStr
abbrev fC : Type := Int64 × Int32 × Int32 × Int64
def dQ (Z : State) (h : Heap) (sp ch bs wd : Addr) (n : Int32) (us : Value) (st : fC) : Prop :=
 Exa Z h sp oC1 ∧ Fld Z h sp oC1 "toSkip" "J" (.long st.1) ∧ Fld Z h sp oC1 "chosen" "[I" (.ref ch) ∧ Fld Z h sp oC1 "taken" "I" (.int st.2.1) ∧ Fld Z h sp oC1 "has" "Ljava/util/BitSet;" (.ref bs) ∧
 bC Z h ch n ∧ Exa Z h bs oC3 ∧ Fld Z h bs oC3 "wordsInUse" "I" (.int st.2.2.1) ∧ Fld Z h bs oC3 "sizeIsSticky" "Z" us ∧ Fld Z h bs oC3 "words" "[J" (.ref wd) ∧ cY Z h wd 1 [st.2.2.2]
def kV (n0 : Nat) (sp ch bs wd : Addr) : Prop := (n0 ≤ sp ∧ n0 ≤ ch ∧ n0 ≤ bs ∧ n0 ≤ wd) ∧ ¬ (sp = ch) ∧ ¬ (sp = bs) ∧ ¬ (sp = wd) ∧ ¬ (ch = bs) ∧ ¬ (ch = wd) ∧ ¬ (bs = wd)
variable {Z : State} {h h' : Heap} {sp ch bs wd a : Addr} {n : Int32} {us : Value} {st : fC} {W W' : List Addr}
theorem dQ.ext (S : dQ Z h sp ch bs wd n us st) (E : Ext h h') : dQ Z h' sp ch bs wd n us st := by
 obtain ⟨a1, a2, a3, a4, a5, a6, a7, a8, a9, a10, a11⟩ := S
 exact ⟨a1.ext E, a2.ext E, a3.ext E, a4.ext E, a5.ext E, a6.ext E, a7.ext E, a8.ext E, a9.ext E, a10.ext E, a11.ext E⟩
theorem dQ.keep (S : dQ Z h sp ch bs wd n us st) (K : Keep h h' W) (q1 : sp ∉ W) (q2 : ch ∉ W) (q3 : bs ∉ W) (q4 : wd ∉ W) : dQ Z h' sp ch bs wd n us st := by
 obtain ⟨a1, a2, a3, a4, a5, a6, a7, a8, a9, a10, a11⟩ := S
 exact ⟨a1.keep K, a2.keep K q1, a3.keep K q1, a4.keep K q1, a5.keep K q1, a6.keep K q2, a7.keep K, a8.keep K q3, a9.keep K q3, a10.keep K q3, a11.keep K q4⟩
theorem hG (K : Keep h h' W) (q : ∀ x ∈ W, x ∈ W') : Keep h h' W' := ⟨K.1, fun x c r s => K.2.1 x c r fun t => s (q x t), K.2.2⟩
theorem wZ (h : Heap) (W : List Addr) : Keep h h W := Keep.refl h W
def dH (n x : Int32) (st : fC) : fC × Int32 :=
 if (0 : Int32) < lcmpW st.1 (0 : Int64) then ((st.1 - 1, st.2), 0)
 else if (0 : Int32) < st.2.2.1 ∧ ¬ (lcmpW (st.2.2.2 &&& cJ (1 : Int64) x) (0 : Int64) = (0 : Int32)) then (st, 0)
 else ((st.1, st.2.1 + 1, 1, st.2.2.2 ||| cJ (1 : Int64) x), if st.2.1 + 1 = n then 1 else 0)
def aC4 (Z : State) (sp ch bs wd : Addr) (n : Int32) (us : Value) (st' : fC) (r : Int32) (h0 : Heap) (n0 : Nat) (v : Option Value) (h : Heap) (L : List Loc) : Prop := v = some (.int r) ∧ Fr n0 L ∧ Keep h0 h [sp, ch, bs, wd] ∧ dQ Z h sp ch bs wd n us st'
end OwnStr

theorem pL (m : MethodId) (x0 : Addr) (x1 : Int32) : entryFrame m #[(.ref x0), (.int x1)] 2 = mkF m 0 #[oA x0, oI x1] [] := by first | (simp [entryFrame, mkF, argsToLocals, Value.category]; done) | rfl
theorem aU5 (m : MethodId) (x0 : Addr) : entryFrame m #[(.ref x0)] 1 = mkF m 0 #[oA x0] [] := by first | (simp [entryFrame, mkF, argsToLocals, Value.category]; done) | rfl
theorem aU6 (m : MethodId) (x0 : Int32) : entryFrame m #[(.int x0)] 1 = mkF m 0 #[oI x0] [] := by first | (simp [entryFrame, mkF, argsToLocals, Value.category]; done) | rfl
theorem yC (m : MethodId) (x0 : Addr) (x1 : Int32) : entryFrame m #[(.ref x0), (.int x1)] 3 = mkF m 0 #[oA x0, oI x1, .unset] [] := by first | (simp [entryFrame, mkF, argsToLocals, Value.category]; done) | rfl
theorem aU7 (m : MethodId) (x0 : Addr) (x1 : Int32) : entryFrame m #[(.ref x0), (.int x1)] 3 = mkF m 0 #[oA x0, oI x1, .unset] [] := by first | (simp [entryFrame, mkF, argsToLocals, Value.category]; done) | rfl
theorem aE8 (m : MethodId) (x0 : Addr) (x1 : Int32) : entryFrame m #[(.ref x0), (.int x1)] 3 = mkF m 0 #[oA x0, oI x1, .unset] [] := by first | (simp [entryFrame, mkF, argsToLocals, Value.category]; done) | rfl
theorem aE9 (m : MethodId) (x0 : Addr) (x1 : Int32) : entryFrame m #[(.ref x0), (.int x1)] 3 = mkF m 0 #[oA x0, oI x1, .unset] [] := by first | (simp [entryFrame, mkF, argsToLocals, Value.category]; done) | rfl
theorem aU8 (m : MethodId) (x0 : Addr) (x1 : Int64) : entryFrame m #[(.ref x0), (.long x1)] 3 = mkF m 0 #[oA x0, oJ x1, .second] [] := by first | (simp [entryFrame, mkF, argsToLocals, Value.category]; done) | rfl
theorem aU9 (m : MethodId) (x0 : Int64) (x1 : Int64) : entryFrame m #[(.long x0), (.long x1)] 4 = mkF m 0 #[oJ x0, .second, oJ x1, .second] [] := by first | (simp [entryFrame, mkF, argsToLocals, Value.category]; done) | rfl
theorem aV0 (m : MethodId) (x0 : Addr) : entryFrame m #[(.ref x0)] 3 = mkF m 0 #[oA x0, .unset, .unset] [] := by first | (simp [entryFrame, mkF, argsToLocals, Value.category]; done) | rfl
theorem aK5 (m : MethodId) (x0 : Int64) (x1 : Int64) : entryFrame m #[(.long x0), (.long x1)] 8 = mkF m 0 #[oJ x0, .second, oJ x1, .second, .unset, .unset, .unset, .unset] [] := by first | (simp [entryFrame, mkF, argsToLocals, Value.category]; done) | rfl
theorem rN (m : MethodId) (x0 : Int32) (x1 : Int32) : entryFrame m #[(.int x0), (.int x1)] 7 = mkF m 0 #[oI x0, oI x1, .unset, .unset, .unset, .unset, .unset] [] := by first | (simp [entryFrame, mkF, argsToLocals, Value.category]; done) | rfl
theorem zK (m : MethodId) (x0 : Addr) (x1 : Int32) (x2 : Int32) (x3 : Int32) : entryFrame m #[(.ref x0), (.int x1), (.int x2), (.int x3)] 6 = mkF m 0 #[oA x0, oI x1, oI x2, oI x3, .unset, .unset] [] := by first | (simp [entryFrame, mkF, argsToLocals, Value.category]; done) | rfl
theorem zL (m : MethodId) (x0 : Addr) (x1 : Addr) (x2 : Int32) (x3 : Addr) : entryFrame m #[(.ref x0), (.ref x1), (.int x2), (.ref x3)] 10 = mkF m 0 #[oA x0, oA x1, oI x2, oA x3, .unset, .unset, .unset, .unset, .unset, .unset] [] := by first | (simp [entryFrame, mkF, argsToLocals, Value.category]; done) | rfl
theorem aK6 (m : MethodId) (x0 : Addr) (x1 : Addr) (x2 : Int64) : entryFrame m #[(.ref x0), (.ref x1), (.long x2)] 8 = mkF m 0 #[oA x0, oA x1, oJ x2, .second, .unset, .unset, .unset, .unset] [] := by first | (simp [entryFrame, mkF, argsToLocals, Value.category]; done) | rfl
theorem aK7 (m : MethodId) (x0 : Int32) : entryFrame m #[(.int x0)] 1 = mkF m 0 #[oI x0] [] := by first | (simp [entryFrame, mkF, argsToLocals, Value.category]; done) | rfl
theorem aK8 (m : MethodId) (x0 : Int32) : entryFrame m #[(.int x0)] 1 = mkF m 0 #[oI x0] [] := by first | (simp [entryFrame, mkF, argsToLocals, Value.category]; done) | rfl
theorem aK9 (m : MethodId) (x0 : Int32) : entryFrame m #[(.int x0)] 1 = mkF m 0 #[oI x0] [] := by first | (simp [entryFrame, mkF, argsToLocals, Value.category]; done) | rfl
theorem aL0 (m : MethodId) (x0 : Addr) (x1 : Int32) : entryFrame m #[(.ref x0), (.int x1)] 5 = mkF m 0 #[oA x0, oI x1, .unset, .unset, .unset] [] := by first | (simp [entryFrame, mkF, argsToLocals, Value.category]; done) | rfl
theorem aL1 (m : MethodId) (x0 : Addr) (x1 : Int32) : entryFrame m #[(.ref x0), (.int x1)] 2 = mkF m 0 #[oA x0, oI x1] [] := by first | (simp [entryFrame, mkF, argsToLocals, Value.category]; done) | rfl
theorem kW (m : MethodId) (x0 : Addr) (x1 : Int32) (x2 : Int32) : entryFrame m #[(.ref x0), (.int x1), (.int x2)] 9 = mkF m 0 #[oA x0, oI x1, oI x2, .unset, .unset, .unset, .unset, .unset, .unset] [] := by first | (simp [entryFrame, mkF, argsToLocals, Value.category]; done) | rfl
theorem aL2 (m : MethodId) (x0 : Addr) (x1 : Int32) : entryFrame m #[(.ref x0), (.int x1)] 2 = mkF m 0 #[oA x0, oI x1] [] := by first | (simp [entryFrame, mkF, argsToLocals, Value.category]; done) | rfl
theorem aL3 (m : MethodId) (x0 : Addr) (x1 : Int32) : entryFrame m #[(.ref x0), (.int x1)] 2 = mkF m 0 #[oA x0, oI x1] [] := by first | (simp [entryFrame, mkF, argsToLocals, Value.category]; done) | rfl
theorem aL4 (m : MethodId) (x0 : Addr) (x1 : Int64) (x2 : Int32) (x3 : Int32) : entryFrame m #[(.ref x0), (.long x1), (.int x2), (.int x3)] 5 = mkF m 0 #[oA x0, oJ x1, .second, oI x2, oI x3] [] := by first | (simp [entryFrame, mkF, argsToLocals, Value.category]; done) | rfl
theorem aL5 (m : MethodId) (x0 : Addr) (x1 : Int32) : entryFrame m #[(.ref x0), (.int x1)] 11 = mkF m 0 #[oA x0, oI x1, .unset, .unset, .unset, .unset, .unset, .unset, .unset, .unset, .unset] [] := by first | (simp [entryFrame, mkF, argsToLocals, Value.category]; done) | rfl
theorem aL6 (m : MethodId) (x0 : Addr) (x1 : Int32) (x2 : Addr) (x3 : Int32) (x4 : Addr) (x5 : Int32) : entryFrame m #[(.ref x0), (.int x1), (.ref x2), (.int x3), (.ref x4), (.int x5)] 9 = mkF m 0 #[oA x0, oI x1, oA x2, oI x3, oA x4, oI x5, .unset, .unset, .unset] [] := by first | (simp [entryFrame, mkF, argsToLocals, Value.category]; done) | rfl
theorem zM (m : MethodId) (x0 : Int64) (x1 : Int64) : entryFrame m #[(.long x0), (.long x1)] 4 = mkF m 0 #[oJ x0, .second, oJ x1, .second] [] := by first | (simp [entryFrame, mkF, argsToLocals, Value.category]; done) | rfl
theorem zO (m : MethodId) (x0 : Addr) (x1 : Int32) (x2 : Int32) : entryFrame m #[(.ref x0), (.int x1), (.int x2)] 7 = mkF m 0 #[oA x0, oI x1, oI x2, .unset, .unset, .unset, .unset] [] := by first | (simp [entryFrame, mkF, argsToLocals, Value.category]; done) | rfl
theorem uO (m : MethodId) (x0 : Addr) (x1 : Int32) : entryFrame m #[(.ref x0), (.int x1)] 5 = mkF m 0 #[oA x0, oI x1, .unset, .unset, .unset] [] := by first | (simp [entryFrame, mkF, argsToLocals, Value.category]; done) | rfl
theorem zP (m : MethodId) (x0 : Addr) (x1 : Int32) : entryFrame m #[(.ref x0), (.int x1)] 3 = mkF m 0 #[oA x0, oI x1, .unset] [] := by first | (simp [entryFrame, mkF, argsToLocals, Value.category]; done) | rfl
theorem zQ (m : MethodId) (x0 : Int32) (x1 : Int32) : entryFrame m #[(.int x0), (.int x1)] 2 = mkF m 0 #[oI x0, oI x1] [] := by first | (simp [entryFrame, mkF, argsToLocals, Value.category]; done) | rfl
theorem uP (m : MethodId) (x0 : Addr) (x1 : Int32) : entryFrame m #[(.ref x0), (.int x1)] 2 = mkF m 0 #[oA x0, oI x1] [] := by first | (simp [entryFrame, mkF, argsToLocals, Value.category]; done) | rfl
theorem aL7 (m : MethodId) (x0 : Addr) (x1 : Addr) (x2 : Addr) : entryFrame m #[(.ref x0), (.ref x1), (.ref x2)] 3 = mkF m 0 #[oA x0, oA x1, oA x2] [] := by first | (simp [entryFrame, mkF, argsToLocals, Value.category]; done) | rfl
theorem aL8 (m : MethodId) (x0 : Addr) (x1 : Addr) : entryFrame m #[(.ref x0), (.ref x1)] 8 = mkF m 0 #[oA x0, oA x1, .unset, .unset, .unset, .unset, .unset, .unset] [] := by first | (simp [entryFrame, mkF, argsToLocals, Value.category]; done) | rfl
theorem zR (m : MethodId) (x0 : Int32) (x1 : Int32) : entryFrame m #[(.int x0), (.int x1)] 2 = mkF m 0 #[oI x0, oI x1] [] := by first | (simp [entryFrame, mkF, argsToLocals, Value.category]; done) | rfl
theorem zT (m : MethodId) (x0 : Int32) : entryFrame m #[(.int x0)] 2 = mkF m 0 #[oI x0, .unset] [] := by first | (simp [entryFrame, mkF, argsToLocals, Value.category]; done) | rfl
theorem zU (m : MethodId) (x0 : Addr) (x1 : Int32) (x2 : Int32) : entryFrame m #[(.ref x0), (.int x1), (.int x2)] 3 = mkF m 0 #[oA x0, oI x1, oI x2] [] := by first | (simp [entryFrame, mkF, argsToLocals, Value.category]; done) | rfl
theorem aL9 (m : MethodId) (x0 : Addr) : entryFrame m #[(.ref x0)] 1 = mkF m 0 #[oA x0] [] := by first | (simp [entryFrame, mkF, argsToLocals, Value.category]; done) | rfl
theorem aM0 (m : MethodId) (x0 : Int32) : entryFrame m #[(.int x0)] 1 = mkF m 0 #[oI x0] [] := by first | (simp [entryFrame, mkF, argsToLocals, Value.category]; done) | rfl
theorem aM1 (m : MethodId) (x0 : Addr) (x1 : Int32) (x2 : Int32) (x3 : Int32) (x4 : Int32) (x5 : Int32) (x6 : Int32) : entryFrame m #[(.ref x0), (.int x1), (.int x2), (.int x3), (.int x4), (.int x5), (.int x6)] 17 = mkF m 0 #[oA x0, oI x1, oI x2, oI x3, oI x4, oI x5, oI x6, .unset, .unset, .unset, .unset, .unset, .unset, .unset, .unset, .unset, .unset] [] := by first | (simp [entryFrame, mkF, argsToLocals, Value.category]; done) | rfl
theorem aM2 (m : MethodId) (x0 : Addr) : entryFrame m #[(.ref x0)] 1 = mkF m 0 #[oA x0] [] := by first | (simp [entryFrame, mkF, argsToLocals, Value.category]; done) | rfl
theorem zV (m : MethodId) (x0 : Int32) (x1 : Int32) (x2 : Int32) (x3 : Int32) (x4 : Int32) (x5 : Int32) : entryFrame m #[(.int x0), (.int x1), (.int x2), (.int x3), (.int x4), (.int x5)] maxLocals = mkF m 0 #[oI x0, oI x1, oI x2, oI x3, oI x4, oI x5, .unset, .unset, .unset, .unset, .unset, .unset, .unset, .unset, .unset, .unset] [] := by first | (simp [entryFrame, mkF, argsToLocals, Value.category, maxLocals]; done) | rfl
def uQ (Z : State) (a0_ : Addr) (p1_ : Int32) (aW : Int64) (fI : Value) (hJ : Value) (fJ : Value) (h0 : Heap) (n0 : Nat) (v : Option Value) (h : Heap) (L : List Loc) : Prop := v = some (.int 0) ∧ Fr n0 L ∧ Keep h0 h [a0_] ∧ Fld Z h a0_ oC1 "toSkip" "J" (.long (aW - (1 : Int64))) ∧ Exa Z h a0_ oC1 ∧ Fld Z h a0_ oC1 "chosen" "[I" fI ∧ Fld Z h a0_ oC1 "has" "Ljava/util/BitSet;" hJ ∧ Fld Z h a0_ oC1 "taken" "I" fJ
theorem aG9 (l : Launch) (Z : State) (a0 : Array Value) (hw : oH a0 Z) (ws : List Jvm.Cond) (a0_ : Addr) (p1_ : Int32) (aW : Int64) (fI : Value) (hJ : Value) (fJ : Value) (h0 : Heap) (n0 : Nat) (Z0 : n0 ≤ h0.size) (cE : Fld Z h0 a0_ oC1 "toSkip" "J" (.long aW)) (bR : Exa Z h0 a0_ oC1) (eM : n0 ≤ a0_) (cV : Fld Z h0 a0_ oC1 "chosen" "[I" fI) (dR : Fld Z h0 a0_ oC1 "has" "Ljava/util/BitSet;" hJ) (dF : Fld Z h0 a0_ oC1 "taken" "I" fJ) (hf0 : (0 : Int32) < (lcmpW aW (0 : Int64))) :
   oMet l oM0 prog_30_method_2_code 2 (some .boolean) ws (oR 3 0 0 60) Z h0 #[(.ref a0_), (.int p1_)] (uQ Z a0_ p1_ aW fI hJ fJ h0 n0) := by
 refine oBd n0 (plainFor_of_name mV) ?_
 intro p e s m below meth c s₁ Bd hx hZ hby hml hown hnm X0 e0 N0
 obtain ⟨T1, X1, e1, st1⟩ := getF X0 hx hZ hown (host := "") (Or.inl (oW hw 101 rfl)) Via.refl e0 cE (g := (mkF m 1 #[oA a0_, oI p1_] [(.ref a0_)])) rfl rfl (oG hby d28 1 rfl)
 obtain ⟨T2, X2, e2, st2⟩ := getF X1 hx hZ hown (host := "") (Or.inl (oW hw 101 rfl)) Via.refl e1 cE (g := (mkF m 11 #[oA a0_, oI p1_] [(.ref a0_), (.ref a0_)])) rfl rfl (oG hby d28 7 rfl)
 obtain ⟨T3, h3, X3, e3, W3, st3⟩ := putF X2 hx hZ hown (host := "") (Or.inl (oW hw 101 rfl)) Via.refl e2 cE bR (Or.inl (oW hw 102 rfl)) (oW hw 95 rfl) (ty := .long) (by decide) rfl rfl (g := (mkF m 16 #[oA a0_, oI p1_] [(.long (aW - (1 : Int64))), (.ref a0_)])) rfl rfl (oG hby d28 10 rfl)
 have Fw3 := cE.same W3
 have K3 : Keep h0 h3 [a0_] := (Keep.refl h0 [a0_]).wr W3 (Or.inl (oX 0 rfl))
 have N3 := Fr.snoc X3 N0 eM
 have xA := (cV.other W3 (oN (Or.inr (oW hw 104 rfl)) (Or.inl (oW hw 102 rfl)) (t := (.array .int)) (t' := .long)))
 have aC5 := (dR.other W3 (oN (Or.inr (oW hw 128 rfl)) (Or.inl (oW hw 102 rfl)) (t := (.object oC3)) (t' := .long)))
 have yD := (dF.other W3 (oN (Or.inl (oW hw 174 rfl)) (Or.inl (oW hw 102 rfl)) (t := .int) (t' := .long)))
 have uR := (bR.wr W3)
 obtain ⟨fs, hr, hrun, hended, hW, hsame⟩ := X3.leave (v := some (.int 0)) (fun h => by rw [Bd.returns] at h; cases h)
 refine ⟨_, _, castTop (pL m a0_ p1_) ?_, hrun, hended, _, _, rfl, ?_, ⟨_, rfl⟩, hW, (hsame.mono (by decide) (by decide))⟩
 · show oZ p e below s₁ (mkF m 0 #[oA a0_, oI p1_] []) _
   refine XS.aloadN X0.here hx rfl (oG hby d28 0 rfl) rfl rfl ?_
   refine st1 _ ?_
   refine XS.lconst X1.here hx rfl (oG hby d28 2 rfl) ?_
   show oZ p e below T1 (mkF m 5 #[oA a0_, oI p1_] [(.long 0), (.long aW)]) _
   refine XS.lcmp X1.here hx rfl (oG hby d28 3 rfl) rfl ?_
   refine XS.ifNo X1.here hx rfl (oG hby d28 4 rfl) rfl ((if0 _ _).trans (tlt hf0).2.2.2) ?_
   refine XS.aloadN X1.here hx rfl (oG hby d28 5 rfl) rfl rfl ?_
   refine XS.dup X1.here hx rfl (oG hby d28 6 rfl) rfl rfl ?_
   refine st2 _ ?_
   refine XS.lconst X2.here hx rfl (oG hby d28 8 rfl) ?_
   show oZ p e below T2 (mkF m 15 #[oA a0_, oI p1_] [(.long 1), (.long aW), (.ref a0_)]) _
   refine XS.lsub X2.here hx rfl (oG hby d28 9 rfl) rfl ?_
   refine st3 _ ?_
   refine XS.iconst X3.here hx rfl (oG hby d28 11 rfl) ?_
   show oZ p e below T3 (mkF m 20 #[oA a0_, oI p1_] [(.int 0)]) _
   exact retN X3 hx (t := .boolean) Bd.returns (by simp) (oG hby d28 12 rfl) hr
 · show uQ Z a0_ p1_ aW fI hJ fJ h0 n0 _ T3.heap _
   rw [e3]
   exact ⟨rfl, N3, K3, Fw3, uR, xA, aC5, yD⟩
theorem jW (l : Launch) (Z : State) (a0 : Array Value) (hw : oH a0 Z) (ws : List Jvm.Cond) (a0_ : Addr) (h0 : Heap) (n0 : Nat) (Z0 : n0 ≤ h0.size) (S__assertionsDisabled : Sta Z h0 oC3 "$assertionsDisabled" "Z" (.int 1)) :
   oMet l oM15 jdk_92_method_2_code 1 none ws (oR 0 0 0 0) Z h0 #[(.ref a0_)] (cD (none) h0 n0) := by
 refine oBd n0 (plainFor_of_name iO) ?_
 intro p e s m below meth c s₁ Bd hx hZ hby hml hown hnm X0 e0 N0
 obtain ⟨T1, X1, e1, st1⟩ := getS2 X0 hx hZ hown (host := "") (Or.inl (oW hw 185 rfl)) Via.refl e0 S__assertionsDisabled (g := (mkF m 0 #[oA a0_] [])) rfl (oG hby d30 0 rfl)
 obtain ⟨T2, X2, e2, st2⟩ := getS2 X1 hx hZ hown (host := "") (Or.inl (oW hw 185 rfl)) Via.refl e1 S__assertionsDisabled (g := (mkF m 37 #[oA a0_] [])) rfl (oG hby d30 2 rfl)
 obtain ⟨T3, X3, e3, st3⟩ := getS2 X2 hx hZ hown (host := "") (Or.inl (oW hw 185 rfl)) Via.refl e2 S__assertionsDisabled (g := (mkF m 70 #[oA a0_] [])) rfl (oG hby d30 4 rfl)
 obtain ⟨fs, hr, hrun, hended, hW, hsame⟩ := X3.leave (v := none) (fun _ => rfl)
 refine ⟨_, _, castTop (aU5 m a0_) ?_, hrun, hended, _, _, rfl, ?_, ⟨_, rfl⟩, hW, (hsame.mono (by decide) (by decide))⟩
 · show oZ p e below s₁ (mkF m 0 #[oA a0_] []) _
   refine st1 _ ?_
   refine XS.ifYes X1.here hx rfl (pc0 := 3) (pc' := 37) rfl (oG hby d30 1 rfl) rfl ((if0 _ _).trans (feq (by decide +kernel : ¬ ((1 : Int32) = (0 : Int32)))).2) (by decide) (by decide) ?_
   refine st2 _ ?_
   refine XS.ifYes X2.here hx rfl (pc0 := 40) (pc' := 70) rfl (oG hby d30 3 rfl) rfl ((if0 _ _).trans (feq (by decide +kernel : ¬ ((1 : Int32) = (0 : Int32)))).2) (by decide) (by decide) ?_
   refine st3 _ ?_
   refine XS.ifYes X3.here hx rfl (pc0 := 73) (pc' := 110) rfl (oG hby d30 5 rfl) rfl ((if0 _ _).trans (feq (by decide +kernel : ¬ ((1 : Int32) = (0 : Int32)))).2) (by decide) (by decide) ?_
   show oZ p e below T3 (mkF m 110 #[oA a0_] []) _
   exact X3.returnOut hx Bd.returns (oG hby d30 6 rfl) hr
 · show cD (none) h0 n0 _ T3.heap _
   exact ⟨rfl, N0, e3⟩
theorem kS (l : Launch) (Z : State) (a0 : Array Value) (hw : oH a0 Z) (ws : List Jvm.Cond) (p0_ : Int32) (h0 : Heap) (n0 : Nat) (Z0 : n0 ≤ h0.size) :
   oMet l oM12 jdk_92_method_1_code 1 (some .int) ws (oR 0 0 0 0) Z h0 #[(.int p0_)] (cD (some (.int (p0_ >>> ((6 : Int32) &&& 31)))) h0 n0) := by
 refine oBd n0 (plainFor_of_name iO) ?_
 intro p e s m below meth c s₁ Bd hx hZ hby hml hown hnm X0 e0 N0
 obtain ⟨fs, hr, hrun, hended, hW, hsame⟩ := X0.leave (v := some (.int (p0_ >>> ((6 : Int32) &&& 31)))) (fun h => by rw [Bd.returns] at h; cases h)
 refine ⟨_, _, castTop (aU6 m p0_) ?_, hrun, hended, _, _, rfl, ?_, ⟨_, rfl⟩, hW, (hsame.mono (by decide) (by decide))⟩
 · show oZ p e below s₁ (mkF m 0 #[oI p0_] []) _
   refine XS.iloadN X0.here hx rfl (oG hby d20 0 rfl) rfl ?_
   refine XS.bipush X0.here hx rfl (oG hby d20 1 rfl) ?_
   refine XS.ishr X0.here hx rfl (oG hby d20 2 rfl) rfl ?_
   show oZ p e below s₁ (mkF m 4 #[oI p0_] [(.int (p0_ >>> ((6 : Int32) &&& 31)))]) _
   exact retI X0 hx Bd.returns (oG hby d20 3 rfl) hr
 · show cD (some (.int (p0_ >>> ((6 : Int32) &&& 31)))) h0 n0 _ s₁.heap _
   exact ⟨rfl, N0, e0⟩
theorem rO (l : Launch) (Z : State) (a0 : Array Value) (hw : oH a0 Z) (ws : List Jvm.Cond) (a0_ : Addr) (p1_ : Int32) (aX : Int32) (h0 : Heap) (n0 : Nat) (Z0 : n0 ≤ h0.size) (S__assertionsDisabled : Sta Z h0 oC3 "$assertionsDisabled" "Z" (.int 1)) (bR : Exa Z h0 a0_ oC3) (bP : Fld Z h0 a0_ oC3 "wordsInUse" "I" (.int aX)) (hf0 : ¬ (p1_ < (0 : Int32))) (hf1 : (p1_ >>> ((6 : Int32) &&& 31)) = (0 : Int32)) (hf2 : ¬ ((0 : Int32) < aX)) :
   oMet l oM4 jdk_92_method_26_code 3 (some .boolean) ws (oR 1 0 0 12) Z h0 #[(.ref a0_), (.int p1_)] (cD (some (.int 0)) h0 n0) := by
 refine oBd n0 (plainFor_of_name iO) ?_
 intro p e s m below meth c s₁ Bd hx hZ hby hml hown hnm X0 e0 N0
 obtain ⟨cq1, q1, q1'⟩ := bR.cell
 obtain ⟨_, _, ⟨T1, L1, k1, n1⟩, -, X1, ⟨Lc1, hQ1, l1, y1, z1⟩, st1⟩ := X0.privateBack hx (y := oM15) hown (mvT hZ (oW hw 180 rfl)) (mvT hZ (oW hw 181 rfl)) (cG (mvT hZ (oW hw 106 rfl)) (mvP hZ (oW hw 182 rfl) (args := #[])) (mvT hZ (oW hw 181 rfl)) (by decide)) (Cond.privateMethod_at (mvP hZ (oW hw 182 rfl) (args := #[]))) (mvT hZ (oW hw 184 rfl)) (by decide) (backOf (W := 0) (jW l Z a0 hw [] a0_ h0 n0 Z0 S__assertionsDisabled) hZ (oW hw 184 rfl) (oW hw 107 rfl) (by decide) (by decide)) (g := (mkF m 32 #[oA a0_, oI p1_, .unset] [(.ref a0_)])) rfl (by rw [hml]; rfl) (Steps.refl _) (a := a0_) (by rw [e0]; exact q1) q1' (argsL := []) (rest := []) (lenOf rI rfl) rfl (by show 2 * 0 + _ ≤ _; exact Nat.le_of_eq rfl) (oG hby d29 3 rfl) (fun _ _ => ⟨rfl, e0, (by decide : 0 + 0 ≤ _), (by decide : 0 + 0 ≤ _)⟩)
 dsimp only [Pt.U, Pt.locs, Pt.cells, Pt.slots] at X1 l1 y1 z1 st1 hQ1
 subst l1 y1 z1
 obtain ⟨rfl, N1q, e1⟩ := hQ1
 have N1 := Fr.app N0 N1q
 obtain ⟨_, _, ⟨T2, L2, k2, n2⟩, -, X2, ⟨Lc2, hQ2, l2, y2, z2⟩, st2⟩ := Jvm.LawKit.callS X1 hx (y := oM12) hown (mvT hZ (oW hw 121 rfl)) (mvT hZ (oW hw 122 rfl)) (mvT hZ (oW hw 107 rfl)) (mvT hZ (oW hw 123 rfl)) (by decide) (backOf (W := 0) (kS l Z a0 hw [] p1_ h0 n0 Z0 ) hZ (oW hw 123 rfl) (oW hw 107 rfl) (by decide) (by decide)) (g := (mkF m 36 #[oA a0_, oI p1_, .unset] [(.int p1_)])) rfl (by rw [hml]; rfl) (argsL := [(.int p1_)]) (rest := []) (lenOf fL rfl) rfl (by show 2 * 0 + _ ≤ _; exact Nat.le_of_eq rfl) (oG hby d29 5 rfl) (fun _ _ => ⟨rfl, e1, (by decide : 0 + 0 ≤ _), (by decide : 0 + 0 ≤ _)⟩)
 dsimp only [Pt.U, Pt.locs, Pt.cells, Pt.slots] at X2 l2 y2 z2 st2 hQ2
 subst l2 y2 z2
 obtain ⟨rfl, N2q, e2⟩ := hQ2
 have N2 := Fr.app N1 N2q
 obtain ⟨T3, X3, e3, st3⟩ := getF X2 hx hZ hown (host := "") (Or.inl (oW hw 112 rfl)) Via.refl e2 bP (g := (mkF m 42 #[oA a0_, oI p1_, oI 0] [(.ref a0_), (.int 0)])) rfl rfl (oG hby d29 9 rfl)
 obtain ⟨fs, hr, hrun, hended, hW, hsame⟩ := X3.leave (v := some (.int 0)) (fun h => by rw [Bd.returns] at h; cases h)
 refine ⟨_, _, castTop (yC m a0_ p1_) ?_, hrun, hended, _, _, rfl, ?_, ⟨_, rfl⟩, hW, (hsame.mono (by decide) (by decide))⟩
 · show oZ p e below s₁ (mkF m 0 #[oA a0_, oI p1_, .unset] []) _
   refine XS.iloadN X0.here hx rfl (oG hby d29 0 rfl) rfl ?_
   refine XS.ifYes X0.here hx rfl (pc0 := 1) (pc' := 31) rfl (oG hby d29 1 rfl) rfl ((if0 _ _).trans (flt hf0).2.1) (by decide) (by decide) ?_
   refine XS.aloadN X0.here hx rfl (oG hby d29 2 rfl) rfl rfl ?_
   refine st1.trans ?_
   refine XS.iloadN X1.here hx rfl (oG hby d29 4 rfl) rfl ?_
   refine st2 _ ?_
   show oZ p e below T2 (mkF m 39 #[oA a0_, oI p1_, .unset] [(.int (p1_ >>> ((6 : Int32) &&& 31)))]) _
   rw [hf1]
   refine XS.istoreN X2.here hx rfl (oG hby d29 6 rfl) rfl (l' := #[oA a0_, oI p1_, oI 0]) rfl ?_
   refine XS.iloadN X2.here hx rfl (oG hby d29 7 rfl) rfl ?_
   refine XS.aloadN X2.here hx rfl (oG hby d29 8 rfl) rfl rfl ?_
   refine st3 _ ?_
   refine XS.icmpYes X3.here hx rfl (pc0 := 45) (pc' := 67) rfl (oG hby d29 10 rfl) rfl (flt hf2).2.1 (by decide) (by decide) ?_
   refine XS.iconst X3.here hx rfl (oG hby d29 24 rfl) ?_
   show oZ p e below T3 (mkF m 68 #[oA a0_, oI p1_, oI 0] [(.int 0)]) _
   exact retN X3 hx (t := .boolean) Bd.returns (by simp) (oG hby d29 25 rfl) hr
 · show cD (some (.int 0)) h0 n0 _ T3.heap _
   exact ⟨rfl, N2, e3⟩
theorem aH0 (l : Launch) (Z : State) (a0 : Array Value) (hw : oH a0 Z) (ws : List Jvm.Cond) (a0_ : Addr) (p1_ : Int32) (aT : Addr) (bG : Int32) (aP : List Int64) (h0 : Heap) (n0 : Nat) (Z0 : n0 ≤ h0.size) (dU : Fld Z h0 a0_ oC3 "words" "[J" (.ref aT)) (dM : cY Z h0 aT bG aP) (hf0 : ¬ (bG < p1_)) :
   oMet l oM37 jdk_92_method_14_code 3 none ws (oR 0 0 0 0) Z h0 #[(.ref a0_), (.int p1_)] (cD (none) h0 n0) := by
 refine oBd n0 (plainFor_of_name iO) ?_
 intro p e s m below meth c s₁ Bd hx hZ hby hml hown hnm X0 e0 N0
 obtain ⟨T1, X1, e1, st1⟩ := getF X0 hx hZ hown (host := "") (Or.inl (oW hw 125 rfl)) Via.refl e0 dU (g := (mkF m 1 #[oA a0_, oI p1_, .unset] [(.ref a0_)])) rfl rfl (oG hby d33 1 rfl)
 obtain ⟨c2, A2, S2, M2⟩ := zJ dM
 obtain ⟨fs, hr, hrun, hended, hW, hsame⟩ := X1.leave (v := none) (fun _ => rfl)
 refine ⟨_, _, castTop (aU7 m a0_ p1_) ?_, hrun, hended, _, _, rfl, ?_, ⟨_, rfl⟩, hW, (hsame.mono (by decide) (by decide))⟩
 · show oZ p e below s₁ (mkF m 0 #[oA a0_, oI p1_, .unset] []) _
   refine XS.aloadN X0.here hx rfl (oG hby d33 0 rfl) rfl rfl ?_
   refine st1 _ ?_
   refine X1.arraylength hx (by rw [e1]; exact A2.1) (State.isArrayOf_alike hZ.alike A2.2.1) (g := (mkF m 4 #[oA a0_, oI p1_, .unset] [(.ref aT)])) rfl rfl (oG hby d33 2 rfl) _ ?_
   rw [len_of S2 M2]
   refine XS.iloadN X1.here hx rfl (oG hby d33 3 rfl) rfl ?_
   refine XS.icmpYes X1.here hx rfl (pc0 := 6) (pc' := 38) rfl (oG hby d33 4 rfl) rfl (flt hf0).2.1 (by decide) (by decide) ?_
   show oZ p e below T1 (mkF m 38 #[oA a0_, oI p1_, .unset] []) _
   exact X1.returnOut hx Bd.returns (oG hby d33 5 rfl) hr
 · show cD (none) h0 n0 _ T1.heap _
   exact ⟨rfl, N0, e1⟩
def rP (Z : State) (a0_ : Addr) (p1_ : Int32) (aX : Int32) (aT : Addr) (bG : Int32) (aP : List Int64) (bE : Value) (h0 : Heap) (n0 : Nat) (v : Option Value) (h : Heap) (L : List Loc) : Prop := v = none ∧ Fr n0 L ∧ Keep h0 h [a0_] ∧ Fld Z h a0_ oC3 "wordsInUse" "I" (.int (p1_ + (1 : Int32))) ∧ Fld Z h a0_ oC3 "words" "[J" (.ref aT) ∧ Exa Z h a0_ oC3 ∧ Fld Z h a0_ oC3 "sizeIsSticky" "Z" bE
theorem zW (l : Launch) (Z : State) (a0 : Array Value) (hw : oH a0 Z) (ws : List Jvm.Cond) (a0_ : Addr) (p1_ : Int32) (aX : Int32) (aT : Addr) (bG : Int32) (aP : List Int64) (bE : Value) (h0 : Heap) (n0 : Nat) (Z0 : n0 ≤ h0.size) (bP : Fld Z h0 a0_ oC3 "wordsInUse" "I" (.int aX)) (dU : Fld Z h0 a0_ oC3 "words" "[J" (.ref aT)) (dM : cY Z h0 aT bG aP) (bR : Exa Z h0 a0_ oC3) (eM : n0 ≤ a0_) (eR : Fld Z h0 a0_ oC3 "sizeIsSticky" "Z" bE) (hf0 : aX < (p1_ + (1 : Int32))) (hf1 : ¬ (bG < (p1_ + (1 : Int32)))) :
   oMet l oM25 jdk_92_method_15_code 3 none ws (oR 1 0 0 14) Z h0 #[(.ref a0_), (.int p1_)] (rP Z a0_ p1_ aX aT bG aP bE h0 n0) := by
 refine oBd n0 (plainFor_of_name iO) ?_
 intro p e s m below meth c s₁ Bd hx hZ hby hml hown hnm X0 e0 N0
 obtain ⟨T1, X1, e1, st1⟩ := getF X0 hx hZ hown (host := "") (Or.inl (oW hw 112 rfl)) Via.refl e0 bP (g := (mkF m 5 #[oA a0_, oI p1_, oI (p1_ + (1 : Int32))] [(.ref a0_)])) rfl rfl (oG hby d32 5 rfl)
 obtain ⟨cq2, q2, q2'⟩ := bR.cell
 obtain ⟨_, _, ⟨T2, L2, k2, n2⟩, -, X2, ⟨Lc2, hQ2, l2, y2, z2⟩, st2⟩ := X1.privateBack hx (y := oM37) hown (mvT hZ (oW hw 196 rfl)) (mvT hZ (oW hw 197 rfl)) (cG (mvT hZ (oW hw 106 rfl)) (mvP hZ (oW hw 198 rfl) (args := #[])) (mvT hZ (oW hw 197 rfl)) (by decide)) (Cond.privateMethod_at (mvP hZ (oW hw 198 rfl) (args := #[]))) (mvT hZ (oW hw 200 rfl)) (by decide) (backOf (W := 0) (aH0 l Z a0 hw [] a0_ (p1_ + (1 : Int32)) aT bG aP h0 n0 Z0 dU dM hf1) hZ (oW hw 200 rfl) (oW hw 107 rfl) (by decide) (by decide)) (g := (mkF m 14 #[oA a0_, oI p1_, oI (p1_ + (1 : Int32))] [(.int (p1_ + (1 : Int32))), (.ref a0_)])) rfl (by rw [hml]; rfl) (Steps.refl _) (a := a0_) (by rw [e1]; exact q2) q2' (argsL := [(.int (p1_ + (1 : Int32)))]) (rest := []) (lenOf jT rfl) rfl (by show 2 * 0 + _ ≤ _; exact Nat.le_of_eq rfl) (oG hby d32 10 rfl) (fun _ _ => ⟨rfl, e1, (by decide : 0 + 0 ≤ _), (by decide : 0 + 0 ≤ _)⟩)
 dsimp only [Pt.U, Pt.locs, Pt.cells, Pt.slots] at X2 l2 y2 z2 st2 hQ2
 subst l2 y2 z2
 obtain ⟨rfl, N2q, e2⟩ := hQ2
 have N2 := Fr.app N0 N2q
 obtain ⟨T3, h3, X3, e3, W3, st3⟩ := putF X2 hx hZ hown (host := "") (Or.inl (oW hw 112 rfl)) Via.refl e2 bP bR (Or.inl (oW hw 113 rfl)) (oW hw 106 rfl) (ty := .int) (by decide) rfl rfl (g := (mkF m 19 #[oA a0_, oI p1_, oI (p1_ + (1 : Int32))] [(.int (p1_ + (1 : Int32))), (.ref a0_)])) rfl rfl (oG hby d32 13 rfl)
 have Fw3 := bP.same W3
 have K3 : Keep h0 h3 [a0_] := (Keep.refl h0 [a0_]).wr W3 (Or.inl (oX 0 rfl))
 have N3 := Fr.snoc X3 N2 eM
 have gM := (eR.other W3 (oN (Or.inl (oW hw 115 rfl)) (Or.inl (oW hw 113 rfl)) (t := .boolean) (t' := .int)))
 have yE := (dU.other W3 (oN (Or.inl (oW hw 126 rfl)) (Or.inl (oW hw 113 rfl)) (t := (.array .long)) (t' := .int)))
 have eW := (bR.wr W3)
 obtain ⟨fs, hr, hrun, hended, hW, hsame⟩ := X3.leave (v := none) (fun _ => rfl)
 refine ⟨_, _, castTop (aE8 m a0_ p1_) ?_, hrun, hended, _, _, rfl, ?_, ⟨_, rfl⟩, hW, (hsame.mono (by decide) (by decide))⟩
 · show oZ p e below s₁ (mkF m 0 #[oA a0_, oI p1_, .unset] []) _
   refine XS.iloadN X0.here hx rfl (oG hby d32 0 rfl) rfl ?_
   refine XS.iconst X0.here hx rfl (oG hby d32 1 rfl) ?_
   refine XS.iadd X0.here hx rfl (oG hby d32 2 rfl) rfl ?_
   refine XS.istoreN X0.here hx rfl (oG hby d32 3 rfl) rfl (l' := #[oA a0_, oI p1_, oI (p1_ + (1 : Int32))]) rfl ?_
   refine XS.aloadN X0.here hx rfl (oG hby d32 4 rfl) rfl rfl ?_
   refine st1 _ ?_
   refine XS.iloadN X1.here hx rfl (oG hby d32 6 rfl) rfl ?_
   refine XS.icmpNo X1.here hx rfl (oG hby d32 7 rfl) rfl (tlt hf0).2.1 ?_
   refine XS.aloadN X1.here hx rfl (oG hby d32 8 rfl) rfl rfl ?_
   refine XS.iloadN X1.here hx rfl (oG hby d32 9 rfl) rfl ?_
   refine st2.trans ?_
   show oZ p e below T2 (mkF m 17 #[oA a0_, oI p1_, oI (p1_ + (1 : Int32))] []) _
   refine XS.aloadN X2.here hx rfl (oG hby d32 11 rfl) rfl rfl ?_
   refine XS.iloadN X2.here hx rfl (oG hby d32 12 rfl) rfl ?_
   refine st3 _ ?_
   show oZ p e below T3 (mkF m 22 #[oA a0_, oI p1_, oI (p1_ + (1 : Int32))] []) _
   exact X3.returnOut hx Bd.returns (oG hby d32 14 rfl) hr
 · show rP Z a0_ p1_ aX aT bG aP bE h0 n0 _ T3.heap _
   rw [e3]
   exact ⟨rfl, N3, K3, Fw3, yE, eW, gM⟩
def rQ (Z : State) (a0_ : Addr) (p1_ : Int32) (aX : Int32) (aT : Addr) (bG : Int32) (aP : List Int64) (bE : Value) (h0 : Heap) (n0 : Nat) (v : Option Value) (h : Heap) (L : List Loc) : Prop := v = none ∧ Fr n0 L ∧ Keep h0 h [a0_, aT] ∧ Exa Z h a0_ oC3 ∧ Fld Z h a0_ oC3 "wordsInUse" "I" (.int ((0 : Int32) + (1 : Int32))) ∧ Fld Z h a0_ oC3 "words" "[J" (.ref aT) ∧ Fld Z h a0_ oC3 "sizeIsSticky" "Z" bE ∧ cY Z h aT bG (aP.set ((0 : Int32)).toNatClampNeg ((aP.getD ((0 : Int32)).toNatClampNeg 0) ||| (cJ (1 : Int64) p1_)))
theorem tL (l : Launch) (Z : State) (a0 : Array Value) (hw : oH a0 Z) (ws : List Jvm.Cond) (a0_ : Addr) (p1_ : Int32) (aX : Int32) (aT : Addr) (bG : Int32) (aP : List Int64) (bE : Value) (h0 : Heap) (n0 : Nat) (Z0 : n0 ≤ h0.size) (bP : Fld Z h0 a0_ oC3 "wordsInUse" "I" (.int aX)) (dU : Fld Z h0 a0_ oC3 "words" "[J" (.ref aT)) (dM : cY Z h0 aT bG aP) (bR : Exa Z h0 a0_ oC3) (eM : n0 ≤ a0_) (eR : Fld Z h0 a0_ oC3 "sizeIsSticky" "Z" bE) (lU : n0 ≤ aT) (S__assertionsDisabled : Sta Z h0 oC3 "$assertionsDisabled" "Z" (.int 1)) (hf0 : ¬ (p1_ < (0 : Int32))) (hf1 : (p1_ >>> ((6 : Int32) &&& 31)) = (0 : Int32)) (hf2 : aX < ((0 : Int32) + (1 : Int32))) (hf3 : ¬ (bG < ((0 : Int32) + (1 : Int32)))) (hf4 : ¬ (aT = a0_)) (hf5 : (0 : Int32) < bG) (hf6 : ((0 : Int32)).toNatClampNeg < aP.length) (hf7 : ¬ (a0_ = aT)) :
   oMet l oM9 jdk_92_method_19_code 3 none ws (oR 2 0 0 28) Z h0 #[(.ref a0_), (.int p1_)] (rQ Z a0_ p1_ aX aT bG aP bE h0 n0) := by
 refine oBd n0 (plainFor_of_name iO) ?_
 intro p e s m below meth c s₁ Bd hx hZ hby hml hown hnm X0 e0 N0
 obtain ⟨_, _, ⟨T1, L1, k1, n1⟩, -, X1, ⟨Lc1, hQ1, l1, y1, z1⟩, st1⟩ := Jvm.LawKit.callS X0 hx (y := oM12) hown (mvT hZ (oW hw 121 rfl)) (mvT hZ (oW hw 122 rfl)) (mvT hZ (oW hw 107 rfl)) (mvT hZ (oW hw 123 rfl)) (by decide) (backOf (W := 0) (kS l Z a0 hw [] p1_ h0 n0 Z0 ) hZ (oW hw 123 rfl) (oW hw 107 rfl) (by decide) (by decide)) (g := (mkF m 32 #[oA a0_, oI p1_, .unset] [(.int p1_)])) rfl (by rw [hml]; rfl) (argsL := [(.int p1_)]) (rest := []) (lenOf fL rfl) rfl (by show 2 * 0 + _ ≤ _; exact Nat.le_of_eq rfl) (oG hby d31 3 rfl) (fun _ _ => ⟨rfl, e0, (by decide : 0 + 0 ≤ _), (by decide : 0 + 0 ≤ _)⟩)
 dsimp only [Pt.U, Pt.locs, Pt.cells, Pt.slots] at X1 l1 y1 z1 st1 hQ1
 subst l1 y1 z1
 obtain ⟨rfl, N1q, e1⟩ := hQ1
 have N1 := Fr.app N0 N1q
 obtain ⟨cq2, q2, q2'⟩ := bR.cell
 obtain ⟨_, _, ⟨T2, L2, k2, n2⟩, -, X2, ⟨Lc2, hQ2, l2, y2, z2⟩, st2⟩ := X1.privateBack hx (y := oM25) hown (mvT hZ (oW hw 191 rfl)) (mvT hZ (oW hw 192 rfl)) (cG (mvT hZ (oW hw 106 rfl)) (mvP hZ (oW hw 193 rfl) (args := #[])) (mvT hZ (oW hw 192 rfl)) (by decide)) (Cond.privateMethod_at (mvP hZ (oW hw 193 rfl) (args := #[]))) (mvT hZ (oW hw 195 rfl)) (by decide) (backOf (W := 0) (zW l Z a0 hw [] a0_ (0 : Int32) aX aT bG aP bE h0 n0 Z0 bP dU dM bR eM eR hf2 hf3) hZ (oW hw 195 rfl) (oW hw 107 rfl) (by decide) (by decide)) (g := (mkF m 38 #[oA a0_, oI p1_, oI 0] [(.int 0), (.ref a0_)])) rfl (by rw [hml]; rfl) (Steps.refl _) (a := a0_) (by rw [e1]; exact q2) q2' (argsL := [(.int 0)]) (rest := []) (lenOf jT rfl) rfl (by show 2 * 0 + _ ≤ _; exact Nat.le_of_eq rfl) (oG hby d31 7 rfl) (fun _ _ => ⟨rfl, e1, (by decide : 0 + 0 ≤ _), (by decide : 0 + 0 ≤ _)⟩)
 dsimp only [Pt.U, Pt.locs, Pt.cells, Pt.slots] at X2 l2 y2 z2 st2 hQ2
 subst l2 y2 z2
 obtain ⟨rfl, N2q, Kq2, Q2_0, xB, aM3, bG3⟩ := hQ2
 have N2 := Fr.app N1 N2q
 have K2 : Keep h0 T2.heap [a0_, aT] := (Keep.refl h0 [a0_, aT]).trans Kq2 (bJ (Or.inl (oX 0 rfl)))
 obtain ⟨T3, X3, e3, st3⟩ := getF X2 hx hZ hown (host := "") (Or.inl (oW hw 125 rfl)) Via.refl rfl xB (g := (mkF m 42 #[oA a0_, oI p1_, oI 0] [(.ref a0_)])) rfl rfl (oG hby d31 9 rfl)
 have kX := (dM.keep Kq2 (bH hf4))
 obtain ⟨c5, A5, hin5, hat5⟩ := kR (j := (0 : Int32)) kX (by decide +kernel) hf5
 have hat5' : c5.slots[((0 : Int32)).toNatClampNeg]? = some (.long (aP.getD ((0 : Int32)).toNatClampNeg 0)) := hat5
 obtain ⟨c6, A6, hin6, -⟩ := kR (j := (0 : Int32)) kX (by decide +kernel) hf5
 obtain ⟨T7, h7, X7, e7, W7, st7⟩ := stJ X3 hx hZ e3 A6 (j := (0 : Int32)) hin6 (g := (mkF m 52 #[oA a0_, oI p1_, oI 0] [(.long ((aP.getD ((0 : Int32)).toNatClampNeg 0) ||| (cJ (1 : Int64) p1_))), (.int 0), (.ref aT)])) rfl rfl (oG hby d31 17 rfl)
 have V7 : cY Z h7 aT bG (aP.set ((0 : Int32)).toNatClampNeg ((aP.getD ((0 : Int32)).toNatClampNeg 0) ||| (cJ (1 : Int64) p1_))) := xO kX (by decide +kernel) hf5 W7 hf6
 have K7 : Keep h0 h7 [a0_, aT] := K2.wr W7 (Or.inl (oX 1 rfl))
 have N7 := Fr.snoc X7 N2 lU
 have kI := ((fM S__assertionsDisabled Kq2 (bJ (mF bR))).wr W7)
 have gE := (aM3.wr W7)
 obtain ⟨cq8, q8, q8'⟩ := gE.cell
 obtain ⟨_, _, ⟨T8, L8, k8, n8⟩, -, X8, ⟨Lc8, hQ8, l8, y8, z8⟩, st8⟩ := X7.privateBack hx (y := oM15) hown (mvT hZ (oW hw 180 rfl)) (mvT hZ (oW hw 181 rfl)) (cG (mvT hZ (oW hw 106 rfl)) (mvP hZ (oW hw 182 rfl) (args := #[])) (mvT hZ (oW hw 181 rfl)) (by decide)) (Cond.privateMethod_at (mvP hZ (oW hw 182 rfl) (args := #[]))) (mvT hZ (oW hw 184 rfl)) (by decide) (backOf (W := 0) (jW l Z a0 hw [] a0_ h7 n0 (Nat.le_trans Z0 K7.1) kI) hZ (oW hw 184 rfl) (oW hw 107 rfl) (by decide) (by decide)) (g := (mkF m 54 #[oA a0_, oI p1_, oI 0] [(.ref a0_)])) rfl (by rw [hml]; rfl) (Steps.refl _) (a := a0_) (by rw [e7]; exact q8) q8' (argsL := []) (rest := []) (lenOf rI rfl) rfl (by show 2 * 0 + _ ≤ _; exact Nat.le_of_eq rfl) (oG hby d31 19 rfl) (fun _ _ => ⟨rfl, e7, (by decide : 0 + 0 ≤ _), (by decide : 0 + 0 ≤ _)⟩)
 dsimp only [Pt.U, Pt.locs, Pt.cells, Pt.slots] at X8 l8 y8 z8 st8 hQ8
 subst l8 y8 z8
 obtain ⟨rfl, N8q, e8⟩ := hQ8
 have N8 := Fr.app N7 N8q
 have qK := (Q2_0.other W7 (Or.inl hf7))
 have lV := (xB.other W7 (Or.inl hf7))
 have nU := (bG3.other W7 (Or.inl hf7))
 obtain ⟨fs, hr, hrun, hended, hW, hsame⟩ := X8.leave (v := none) (fun _ => rfl)
 refine ⟨_, _, castTop (aE9 m a0_ p1_) ?_, hrun, hended, _, _, rfl, ?_, ⟨_, rfl⟩, hW, (hsame.mono (by decide) (by decide))⟩
 · show oZ p e below s₁ (mkF m 0 #[oA a0_, oI p1_, .unset] []) _
   refine XS.iloadN X0.here hx rfl (oG hby d31 0 rfl) rfl ?_
   refine XS.ifYes X0.here hx rfl (pc0 := 1) (pc' := 31) rfl (oG hby d31 1 rfl) rfl ((if0 _ _).trans (flt hf0).2.1) (by decide) (by decide) ?_
   refine XS.iloadN X0.here hx rfl (oG hby d31 2 rfl) rfl ?_
   refine st1 _ ?_
   show oZ p e below T1 (mkF m 35 #[oA a0_, oI p1_, .unset] [(.int (p1_ >>> ((6 : Int32) &&& 31)))]) _
   rw [hf1]
   refine XS.istoreN X1.here hx rfl (oG hby d31 4 rfl) rfl (l' := #[oA a0_, oI p1_, oI 0]) rfl ?_
   refine XS.aloadN X1.here hx rfl (oG hby d31 5 rfl) rfl rfl ?_
   refine XS.iloadN X1.here hx rfl (oG hby d31 6 rfl) rfl ?_
   refine st2.trans ?_
   refine XS.aloadN X2.here hx rfl (oG hby d31 8 rfl) rfl rfl ?_
   refine st3 _ ?_
   refine XS.iloadN X3.here hx rfl (oG hby d31 10 rfl) rfl ?_
   show oZ p e below T3 (mkF m 46 #[oA a0_, oI p1_, oI 0] [(.int 0), (.ref aT)]) _
   jvm_step X3.here [X3.here.top, hx, (oG hby d31 11 rfl), Value.category]
   refine X3.laload hx (j := (0 : Int32)) (v := (.long (aP.getD ((0 : Int32)).toNatClampNeg 0))) (by rw [e3]; exact A5.1) (State.isArrayOf_alike hZ.alike A5.2.1) A5.2.2 hin5 hat5' (g := (mkF m 47 #[oA a0_, oI p1_, oI 0] [(.int 0), (.ref aT), (.int 0), (.ref aT)])) rfl rfl (oG hby d31 12 rfl) _ ?_
   refine XS.lconst X3.here hx rfl (oG hby d31 13 rfl) ?_
   show oZ p e below T3 (mkF m 49 #[oA a0_, oI p1_, oI 0] [(.long 1), (.long (aP.getD ((0 : Int32)).toNatClampNeg 0)), (.int 0), (.ref aT)]) _
   refine XS.iloadN X3.here hx rfl (oG hby d31 14 rfl) rfl ?_
   refine XS.lshl X3.here hx rfl (oG hby d31 15 rfl) rfl ?_
   refine XS.lor X3.here hx rfl (oG hby d31 16 rfl) rfl ?_
   refine st7 _ ?_
   refine XS.aloadN X7.here hx rfl (oG hby d31 18 rfl) rfl rfl ?_
   refine st8.trans ?_
   show oZ p e below T8 (mkF m 57 #[oA a0_, oI p1_, oI 0] []) _
   exact X8.returnOut hx Bd.returns (oG hby d31 20 rfl) hr
 · show rQ Z a0_ p1_ aX aT bG aP bE h0 n0 _ T8.heap _
   rw [e8]
   exact ⟨rfl, N8, K7, gE, qK, lV, nU, V7⟩
def nL (Z : State) (a0_ : Addr) (p1_ : Int32) (aW : Int64) (aI : Int32) (aC : Addr) (aZ : Int32) (aM : Addr) (aF : Int32) (aA : Addr) (aN : Int32) (aG : List Int64) (bM : Value) (h0 : Heap) (n0 : Nat) (v : Option Value) (h : Heap) (L : List Loc) : Prop := v = some (.int 0) ∧ Fr n0 L ∧ Keep h0 h [aM, aA, aC, a0_] ∧ Exa Z h aM oC3 ∧ Fld Z h aM oC3 "wordsInUse" "I" (.int ((0 : Int32) + (1 : Int32))) ∧ Fld Z h aM oC3 "words" "[J" (.ref aA) ∧ Fld Z h aM oC3 "sizeIsSticky" "Z" bM ∧ cY Z h aA aN (aG.set ((0 : Int32)).toNatClampNeg ((aG.getD ((0 : Int32)).toNatClampNeg 0) ||| (cJ (1 : Int64) p1_))) ∧ bC Z h aC aZ ∧ Fld Z h a0_ oC1 "toSkip" "J" (.long aW) ∧ Fld Z h a0_ oC1 "taken" "I" (.int (aI + (1 : Int32))) ∧ Fld Z h a0_ oC1 "chosen" "[I" (.ref aC) ∧ Fld Z h a0_ oC1 "has" "Ljava/util/BitSet;" (.ref aM) ∧ Exa Z h a0_ oC1
theorem uS (l : Launch) (Z : State) (a0 : Array Value) (hw : oH a0 Z) (ws : List Jvm.Cond) (a0_ : Addr) (p1_ : Int32) (aW : Int64) (aI : Int32) (aC : Addr) (aZ : Int32) (aM : Addr) (aF : Int32) (aA : Addr) (aN : Int32) (aG : List Int64) (bM : Value) (h0 : Heap) (n0 : Nat) (Z0 : n0 ≤ h0.size) (cE : Fld Z h0 a0_ oC1 "toSkip" "J" (.long aW)) (dF : Fld Z h0 a0_ oC1 "taken" "I" (.int aI)) (cV : Fld Z h0 a0_ oC1 "chosen" "[I" (.ref aC)) (cZ : bC Z h0 aC aZ) (dR : Fld Z h0 a0_ oC1 "has" "Ljava/util/BitSet;" (.ref aM)) (S__assertionsDisabled : Sta Z h0 oC3 "$assertionsDisabled" "Z" (.int 1)) (cI : Exa Z h0 aM oC3) (bQ : Fld Z h0 aM oC3 "wordsInUse" "I" (.int aF)) (dA : Fld Z h0 aM oC3 "words" "[J" (.ref aA)) (cK : cY Z h0 aA aN aG) (nV : n0 ≤ aM) (gI : Fld Z h0 aM oC3 "sizeIsSticky" "Z" bM) (eI : n0 ≤ aA) (fW : n0 ≤ aC) (bR : Exa Z h0 a0_ oC1) (eM : n0 ≤ a0_) (hf0 : ¬ ((0 : Int32) < (lcmpW aW (0 : Int64)))) (hf1 : aI < aZ) (hf2 : ¬ (p1_ < (0 : Int32))) (hf3 : (p1_ >>> ((6 : Int32) &&& 31)) = (0 : Int32)) (hf4 : ¬ ((0 : Int32) < aF)) (hf5 : aF < ((0 : Int32) + (1 : Int32))) (hf6 : ¬ (aN < ((0 : Int32) + (1 : Int32)))) (hf7 : ¬ (aA = aM)) (hf8 : (0 : Int32) < aN) (hf9 : ((0 : Int32)).toNatClampNeg < aG.length) (hf10 : ¬ (aM = aA)) (hf11 : ¬ (a0_ = aM)) (hf12 : ¬ (a0_ = aA)) (hf13 : ¬ (aC = aM)) (hf14 : ¬ (aC = aA)) (hf15 : ¬ (aI < 0)) (hf16 : ¬ (a0_ = aC)) (hf17 : ¬ (aC = a0_)) (hf18 : ¬ ((aI + (1 : Int32)) = aZ)) (hf19 : ¬ (aM = aC)) (hf20 : ¬ (aM = a0_)) (hf21 : ¬ (aA = aC)) (hf22 : ¬ (aA = a0_)) :
   oMet l oM0 prog_30_method_2_code 2 (some .boolean) ws (oR 3 0 0 60) Z h0 #[(.ref a0_), (.int p1_)] (nL Z a0_ p1_ aW aI aC aZ aM aF aA aN aG bM h0 n0) := by
 refine oBd n0 (plainFor_of_name mV) ?_
 intro p e s m below meth c s₁ Bd hx hZ hby hml hown hnm X0 e0 N0
 obtain ⟨T1, X1, e1, st1⟩ := getF X0 hx hZ hown (host := "") (Or.inl (oW hw 101 rfl)) Via.refl e0 cE (g := (mkF m 1 #[oA a0_, oI p1_] [(.ref a0_)])) rfl rfl (oG hby d28 1 rfl)
 obtain ⟨T2, X2, e2, st2⟩ := getF X1 hx hZ hown (host := "") (Or.inl (oW hw 173 rfl)) Via.refl e1 dF (g := (mkF m 22 #[oA a0_, oI p1_] [(.ref a0_)])) rfl rfl (oG hby d28 14 rfl)
 obtain ⟨T3, X3, e3, st3⟩ := getF X2 hx hZ hown (host := "") (Or.inl (oW hw 103 rfl)) Via.refl e2 cV (g := (mkF m 26 #[oA a0_, oI p1_] [(.ref a0_), (.int aI)])) rfl rfl (oG hby d28 16 rfl)
 obtain ⟨c4, A4, S4, M4⟩ := dE cZ
 obtain ⟨T5, X5, e5, st5⟩ := getF X3 hx hZ hown (host := "") (Or.inl (oW hw 127 rfl)) Via.refl e3 dR (g := (mkF m 34 #[oA a0_, oI p1_] [(.ref a0_)])) rfl rfl (oG hby d28 20 rfl)
 obtain ⟨cq6, kq6, q6a, q6b, q6c⟩ := isOf hZ e5 cI
 obtain ⟨_, _, ⟨T6, L6, k6, n6⟩, -, X6, ⟨Lc6, hQ6, l6, y6, z6⟩, st6⟩ := X5.virtualBack hx (y := oM4) (z := oM4) hown (mvT hZ (oW hw 175 rfl)) (mvT hZ (oW hw 176 rfl)) (notFace_of_selects (args := #[]) (mvT hZ (oW hw 178 rfl))) (mvT hZ (oW hw 178 rfl)) (mvT hZ (oW hw 177 rfl)) (by decide) (backOf (W := 0) (rO l Z a0 hw [] aM p1_ aF h0 n0 Z0 S__assertionsDisabled cI bQ hf2 hf3 hf4) hZ (oW hw 179 rfl) (oW hw 107 rfl) (by decide) (by decide)) q6a q6c (g := (mkF m 38 #[oA a0_, oI p1_] [(.int p1_), (.ref aM)])) rfl (by rw [hml]; rfl) (Steps.refl _) (argsL := [(.int p1_)]) (rest := []) (lenOf mW rfl) rfl (by show 2 * 0 + _ ≤ _; exact Nat.le_of_eq rfl) (oG hby d28 22 rfl) (fun _ _ => ⟨rfl, e5, (by decide : 0 + 0 ≤ _), (by decide : 0 + 0 ≤ _)⟩)
 dsimp only [Pt.U, Pt.locs, Pt.cells, Pt.slots] at X6 l6 y6 z6 st6 hQ6
 subst l6 y6 z6
 obtain ⟨rfl, N6q, e6⟩ := hQ6
 have N6 := Fr.app N0 N6q
 obtain ⟨T7, X7, e7, st7⟩ := getF X6 hx hZ hown (host := "") (Or.inl (oW hw 127 rfl)) Via.refl e6 dR (g := (mkF m 45 #[oA a0_, oI p1_] [(.ref a0_)])) rfl rfl (oG hby d28 25 rfl)
 obtain ⟨cq8, kq8, q8a, q8b, q8c⟩ := isOf hZ e7 cI
 obtain ⟨_, _, ⟨T8, L8, k8, n8⟩, -, X8, ⟨Lc8, hQ8, l8, y8, z8⟩, st8⟩ := X7.virtualBack hx (y := oM9) (z := oM9) hown (mvT hZ (oW hw 186 rfl)) (mvT hZ (oW hw 187 rfl)) (notFace_of_selects (args := #[]) (mvT hZ (oW hw 189 rfl))) (mvT hZ (oW hw 189 rfl)) (mvT hZ (oW hw 188 rfl)) (by decide) (backOf (W := 0) (tL l Z a0 hw [] aM p1_ aF aA aN aG bM h0 n0 Z0 bQ dA cK cI nV gI eI S__assertionsDisabled hf2 hf3 hf5 hf6 hf7 hf8 hf9 hf10) hZ (oW hw 190 rfl) (oW hw 107 rfl) (by decide) (by decide)) q8a q8c (g := (mkF m 49 #[oA a0_, oI p1_] [(.int p1_), (.ref aM)])) rfl (by rw [hml]; rfl) (Steps.refl _) (argsL := [(.int p1_)]) (rest := []) (lenOf jT rfl) rfl (by show 2 * 0 + _ ≤ _; exact Nat.le_of_eq rfl) (oG hby d28 27 rfl) (fun _ _ => ⟨rfl, e7, (by decide : 0 + 0 ≤ _), (by decide : 0 + 0 ≤ _)⟩)
 dsimp only [Pt.U, Pt.locs, Pt.cells, Pt.slots] at X8 l8 y8 z8 st8 hQ8
 subst l8 y8 z8
 obtain ⟨rfl, N8q, Kq8, Q8_0, aZ1, aZ2, aZ3, aZ4⟩ := hQ8
 have N8 := Fr.app N6 N8q
 have K8 : Keep h0 T8.heap [aM, aA, aC, a0_] := (Keep.refl h0 [aM, aA, aC, a0_]).trans Kq8 (dN (Or.inl (oX 0 rfl)) (Or.inl (oX 1 rfl)))
 have eN := (cV.keep Kq8 (kU hf11 hf12))
 obtain ⟨T10, X10, e10, st10⟩ := getF X8 hx hZ hown (host := "") (Or.inl (oW hw 103 rfl)) Via.refl rfl eN (g := (mkF m 53 #[oA a0_, oI p1_] [(.ref a0_)])) rfl rfl (oG hby d28 29 rfl)
 have eO := (dF.keep Kq8 (kU hf11 hf12))
 obtain ⟨T12, X12, e12, st12⟩ := getF X10 hx hZ hown (host := "") (Or.inl (oW hw 173 rfl)) Via.refl e10 eO (g := (mkF m 57 #[oA a0_, oI p1_] [(.ref a0_), (.ref aC)])) rfl rfl (oG hby d28 31 rfl)
 have dK := (cZ.keep Kq8 (kU hf13 hf14))
 obtain ⟨c14, z14, A14, hin14, -⟩ := iF (j := aI) dK hf15 hf1
 obtain ⟨T15, h15, X15, e15, W15, st15⟩ := stI X12 hx hZ e12 A14 (j := aI) hin14 (g := (mkF m 61 #[oA a0_, oI p1_] [(.int p1_), (.int aI), (.ref aC)])) rfl rfl (oG hby d28 33 rfl)
 have V15 := iG dK hf15 hf1 W15
 have K15 : Keep h0 h15 [aM, aA, aC, a0_] := K8.wr W15 (Or.inl (oX 2 rfl))
 have N15 := Fr.snoc X15 N8 fW
 have dB := (eO.other W15 (Or.inl hf16))
 obtain ⟨T17, X17, e17, st17⟩ := getF X15 hx hZ hown (host := "") (Or.inl (oW hw 173 rfl)) Via.refl e15 dB (g := (mkF m 64 #[oA a0_, oI p1_] [(.ref a0_), (.ref a0_)])) rfl rfl (oG hby d28 36 rfl)
 have gF := ((bR.keep Kq8).wr W15)
 obtain ⟨T19, h19, X19, e19, W19, st19⟩ := putF X17 hx hZ hown (host := "") (Or.inl (oW hw 173 rfl)) Via.refl e17 dB gF (Or.inl (oW hw 174 rfl)) (oW hw 95 rfl) (ty := .int) (by decide) rfl rfl (g := (mkF m 69 #[oA a0_, oI p1_] [(.int (aI + (1 : Int32))), (.ref a0_)])) rfl rfl (oG hby d28 39 rfl)
 have Fw19 := dB.same W19
 have K19 : Keep h0 h19 [aM, aA, aC, a0_] := K15.wr W19 (Or.inl (oX 3 rfl))
 have N19 := Fr.snoc X19 N15 eM
 obtain ⟨T20, X20, e20, st20⟩ := getF X19 hx hZ hown (host := "") (Or.inl (oW hw 173 rfl)) Via.refl e19 Fw19 (g := (mkF m 73 #[oA a0_, oI p1_] [(.ref a0_)])) rfl rfl (oG hby d28 41 rfl)
 have dZ := ((eN.other W15 (Or.inl hf16)).other W19 (oN (Or.inr (oW hw 104 rfl)) (Or.inl (oW hw 174 rfl)) (t := (.array .int)) (t' := .int)))
 obtain ⟨T22, X22, e22, st22⟩ := getF X20 hx hZ hown (host := "") (Or.inl (oW hw 103 rfl)) Via.refl e20 dZ (g := (mkF m 77 #[oA a0_, oI p1_] [(.ref a0_), (.int (aI + (1 : Int32)))])) rfl rfl (oG hby d28 43 rfl)
 have dL := (V15.other W19 hf17)
 obtain ⟨c24, A24, S24, M24⟩ := dE dL
 have lW := ((Q8_0.wr W15).wr W19)
 have gJ := ((aZ1.other W15 (Or.inl hf19)).other W19 (Or.inl hf20))
 have iM := ((aZ2.other W15 (Or.inl hf19)).other W19 (Or.inl hf20))
 have fX := ((aZ3.other W15 (Or.inl hf19)).other W19 (Or.inl hf20))
 have hN := ((aZ4.other W15 hf21).other W19 hf22)
 have kY := (((cE.keep Kq8 (kU hf11 hf12)).other W15 (Or.inl hf16)).other W19 (oN (Or.inl (oW hw 102 rfl)) (Or.inl (oW hw 174 rfl)) (t := .long) (t' := .int)))
 have nW := (((dR.keep Kq8 (kU hf11 hf12)).other W15 (Or.inl hf16)).other W19 (oN (Or.inr (oW hw 128 rfl)) (Or.inl (oW hw 174 rfl)) (t := (.object oC3)) (t' := .int)))
 have yF := (gF.wr W19)
 obtain ⟨fs, hr, hrun, hended, hW, hsame⟩ := X22.leave (v := some (.int 0)) (fun h => by rw [Bd.returns] at h; cases h)
 refine ⟨_, _, castTop (pL m a0_ p1_) ?_, hrun, hended, _, _, rfl, ?_, ⟨_, rfl⟩, hW, (hsame.mono (by decide) (by decide))⟩
 · show oZ p e below s₁ (mkF m 0 #[oA a0_, oI p1_] []) _
   refine XS.aloadN X0.here hx rfl (oG hby d28 0 rfl) rfl rfl ?_
   refine st1 _ ?_
   refine XS.lconst X1.here hx rfl (oG hby d28 2 rfl) ?_
   show oZ p e below T1 (mkF m 5 #[oA a0_, oI p1_] [(.long 0), (.long aW)]) _
   refine XS.lcmp X1.here hx rfl (oG hby d28 3 rfl) rfl ?_
   refine XS.ifYes X1.here hx rfl (pc0 := 6) (pc' := 21) rfl (oG hby d28 4 rfl) rfl ((if0 _ _).trans (flt hf0).2.2.2) (by decide) (by decide) ?_
   refine XS.aloadN X1.here hx rfl (oG hby d28 13 rfl) rfl rfl ?_
   refine st2 _ ?_
   refine XS.aloadN X2.here hx rfl (oG hby d28 15 rfl) rfl rfl ?_
   refine st3 _ ?_
   refine X3.arraylength hx (by rw [e3]; exact A4.1) (State.isArrayOf_alike hZ.alike A4.2.1) (g := (mkF m 29 #[oA a0_, oI p1_] [(.ref aC), (.int aI)])) rfl rfl (oG hby d28 17 rfl) _ ?_
   rw [len_of S4 M4]
   refine XS.icmpNo X3.here hx rfl (oG hby d28 18 rfl) rfl (tlt hf1).2.1 ?_
   refine XS.aloadN X3.here hx rfl (oG hby d28 19 rfl) rfl rfl ?_
   refine st5 _ ?_
   refine XS.iloadN X5.here hx rfl (oG hby d28 21 rfl) rfl ?_
   show oZ p e below T5 (mkF m 38 #[oA a0_, oI p1_] [(.int p1_), (.ref aM)]) _
   refine st6.trans ?_
   refine XS.ifNo X6.here hx rfl (oG hby d28 23 rfl) rfl ((if0 _ _).trans (teq (rfl : (0 : Int32) = (0 : Int32))).2) ?_
   refine XS.aloadN X6.here hx rfl (oG hby d28 24 rfl) rfl rfl ?_
   refine st7 _ ?_
   refine XS.iloadN X7.here hx rfl (oG hby d28 26 rfl) rfl ?_
   refine st8.trans ?_
   refine XS.aloadN X8.here hx rfl (oG hby d28 28 rfl) rfl rfl ?_
   refine st10 _ ?_
   refine XS.aloadN X10.here hx rfl (oG hby d28 30 rfl) rfl rfl ?_
   refine st12 _ ?_
   refine XS.iloadN X12.here hx rfl (oG hby d28 32 rfl) rfl ?_
   show oZ p e below T12 (mkF m 61 #[oA a0_, oI p1_] [(.int p1_), (.int aI), (.ref aC)]) _
   refine st15 _ ?_
   refine XS.aloadN X15.here hx rfl (oG hby d28 34 rfl) rfl rfl ?_
   refine XS.dup X15.here hx rfl (oG hby d28 35 rfl) rfl rfl ?_
   refine st17 _ ?_
   refine XS.iconst X17.here hx rfl (oG hby d28 37 rfl) ?_
   refine XS.iadd X17.here hx rfl (oG hby d28 38 rfl) rfl ?_
   refine st19 _ ?_
   refine XS.aloadN X19.here hx rfl (oG hby d28 40 rfl) rfl rfl ?_
   refine st20 _ ?_
   refine XS.aloadN X20.here hx rfl (oG hby d28 42 rfl) rfl rfl ?_
   refine st22 _ ?_
   show oZ p e below T22 (mkF m 80 #[oA a0_, oI p1_] [(.ref aC), (.int (aI + (1 : Int32)))]) _
   refine X22.arraylength hx (by rw [e22]; exact A24.1) (State.isArrayOf_alike hZ.alike A24.2.1) (g := (mkF m 80 #[oA a0_, oI p1_] [(.ref aC), (.int (aI + (1 : Int32)))])) rfl rfl (oG hby d28 44 rfl) _ ?_
   rw [len_of S24 M24]
   refine XS.icmpYes X22.here hx rfl (pc0 := 81) (pc' := 88) rfl (oG hby d28 45 rfl) rfl (feq hf18).2 (by decide) (by decide) ?_
   refine XS.iconst X22.here hx rfl (oG hby d28 48 rfl) ?_
   show oZ p e below T22 (mkF m 89 #[oA a0_, oI p1_] [(.int 0)]) _
   exact retN X22 hx (t := .boolean) Bd.returns (by simp) (oG hby d28 49 rfl) hr
 · show nL Z a0_ p1_ aW aI aC aZ aM aF aA aN aG bM h0 n0 _ T22.heap _
   rw [e22]
   exact ⟨rfl, N19, K19, lW, gJ, iM, fX, hN, dL, kY, Fw19, dZ, nW, yF⟩
def nM (Z : State) (a0_ : Addr) (p1_ : Int32) (aW : Int64) (aI : Int32) (aC : Addr) (aZ : Int32) (aM : Addr) (aF : Int32) (aA : Addr) (aN : Int32) (aG : List Int64) (bM : Value) (h0 : Heap) (n0 : Nat) (v : Option Value) (h : Heap) (L : List Loc) : Prop := v = some (.int 1) ∧ Fr n0 L ∧ Keep h0 h [aM, aA, aC, a0_] ∧ Exa Z h aM oC3 ∧ Fld Z h aM oC3 "wordsInUse" "I" (.int ((0 : Int32) + (1 : Int32))) ∧ Fld Z h aM oC3 "words" "[J" (.ref aA) ∧ Fld Z h aM oC3 "sizeIsSticky" "Z" bM ∧ cY Z h aA aN (aG.set ((0 : Int32)).toNatClampNeg ((aG.getD ((0 : Int32)).toNatClampNeg 0) ||| (cJ (1 : Int64) p1_))) ∧ bC Z h aC aZ ∧ Fld Z h a0_ oC1 "toSkip" "J" (.long aW) ∧ Fld Z h a0_ oC1 "taken" "I" (.int (aI + (1 : Int32))) ∧ Fld Z h a0_ oC1 "chosen" "[I" (.ref aC) ∧ Fld Z h a0_ oC1 "has" "Ljava/util/BitSet;" (.ref aM) ∧ Exa Z h a0_ oC1
theorem uT (l : Launch) (Z : State) (a0 : Array Value) (hw : oH a0 Z) (ws : List Jvm.Cond) (a0_ : Addr) (p1_ : Int32) (aW : Int64) (aI : Int32) (aC : Addr) (aZ : Int32) (aM : Addr) (aF : Int32) (aA : Addr) (aN : Int32) (aG : List Int64) (bM : Value) (h0 : Heap) (n0 : Nat) (Z0 : n0 ≤ h0.size) (cE : Fld Z h0 a0_ oC1 "toSkip" "J" (.long aW)) (dF : Fld Z h0 a0_ oC1 "taken" "I" (.int aI)) (cV : Fld Z h0 a0_ oC1 "chosen" "[I" (.ref aC)) (cZ : bC Z h0 aC aZ) (dR : Fld Z h0 a0_ oC1 "has" "Ljava/util/BitSet;" (.ref aM)) (S__assertionsDisabled : Sta Z h0 oC3 "$assertionsDisabled" "Z" (.int 1)) (cI : Exa Z h0 aM oC3) (bQ : Fld Z h0 aM oC3 "wordsInUse" "I" (.int aF)) (dA : Fld Z h0 aM oC3 "words" "[J" (.ref aA)) (cK : cY Z h0 aA aN aG) (nV : n0 ≤ aM) (gI : Fld Z h0 aM oC3 "sizeIsSticky" "Z" bM) (eI : n0 ≤ aA) (fW : n0 ≤ aC) (bR : Exa Z h0 a0_ oC1) (eM : n0 ≤ a0_) (hf0 : ¬ ((0 : Int32) < (lcmpW aW (0 : Int64)))) (hf1 : aI < aZ) (hf2 : ¬ (p1_ < (0 : Int32))) (hf3 : (p1_ >>> ((6 : Int32) &&& 31)) = (0 : Int32)) (hf4 : ¬ ((0 : Int32) < aF)) (hf5 : aF < ((0 : Int32) + (1 : Int32))) (hf6 : ¬ (aN < ((0 : Int32) + (1 : Int32)))) (hf7 : ¬ (aA = aM)) (hf8 : (0 : Int32) < aN) (hf9 : ((0 : Int32)).toNatClampNeg < aG.length) (hf10 : ¬ (aM = aA)) (hf11 : ¬ (a0_ = aM)) (hf12 : ¬ (a0_ = aA)) (hf13 : ¬ (aC = aM)) (hf14 : ¬ (aC = aA)) (hf15 : ¬ (aI < 0)) (hf16 : ¬ (a0_ = aC)) (hf17 : ¬ (aC = a0_)) (hf18 : (aI + (1 : Int32)) = aZ) (hf19 : ¬ (aM = aC)) (hf20 : ¬ (aM = a0_)) (hf21 : ¬ (aA = aC)) (hf22 : ¬ (aA = a0_)) :
   oMet l oM0 prog_30_method_2_code 2 (some .boolean) ws (oR 3 0 0 60) Z h0 #[(.ref a0_), (.int p1_)] (nM Z a0_ p1_ aW aI aC aZ aM aF aA aN aG bM h0 n0) := by
 refine oBd n0 (plainFor_of_name mV) ?_
 intro p e s m below meth c s₁ Bd hx hZ hby hml hown hnm X0 e0 N0
 obtain ⟨T1, X1, e1, st1⟩ := getF X0 hx hZ hown (host := "") (Or.inl (oW hw 101 rfl)) Via.refl e0 cE (g := (mkF m 1 #[oA a0_, oI p1_] [(.ref a0_)])) rfl rfl (oG hby d28 1 rfl)
 obtain ⟨T2, X2, e2, st2⟩ := getF X1 hx hZ hown (host := "") (Or.inl (oW hw 173 rfl)) Via.refl e1 dF (g := (mkF m 22 #[oA a0_, oI p1_] [(.ref a0_)])) rfl rfl (oG hby d28 14 rfl)
 obtain ⟨T3, X3, e3, st3⟩ := getF X2 hx hZ hown (host := "") (Or.inl (oW hw 103 rfl)) Via.refl e2 cV (g := (mkF m 26 #[oA a0_, oI p1_] [(.ref a0_), (.int aI)])) rfl rfl (oG hby d28 16 rfl)
 obtain ⟨c4, A4, S4, M4⟩ := dE cZ
 obtain ⟨T5, X5, e5, st5⟩ := getF X3 hx hZ hown (host := "") (Or.inl (oW hw 127 rfl)) Via.refl e3 dR (g := (mkF m 34 #[oA a0_, oI p1_] [(.ref a0_)])) rfl rfl (oG hby d28 20 rfl)
 obtain ⟨cq6, kq6, q6a, q6b, q6c⟩ := isOf hZ e5 cI
 obtain ⟨_, _, ⟨T6, L6, k6, n6⟩, -, X6, ⟨Lc6, hQ6, l6, y6, z6⟩, st6⟩ := X5.virtualBack hx (y := oM4) (z := oM4) hown (mvT hZ (oW hw 175 rfl)) (mvT hZ (oW hw 176 rfl)) (notFace_of_selects (args := #[]) (mvT hZ (oW hw 178 rfl))) (mvT hZ (oW hw 178 rfl)) (mvT hZ (oW hw 177 rfl)) (by decide) (backOf (W := 0) (rO l Z a0 hw [] aM p1_ aF h0 n0 Z0 S__assertionsDisabled cI bQ hf2 hf3 hf4) hZ (oW hw 179 rfl) (oW hw 107 rfl) (by decide) (by decide)) q6a q6c (g := (mkF m 38 #[oA a0_, oI p1_] [(.int p1_), (.ref aM)])) rfl (by rw [hml]; rfl) (Steps.refl _) (argsL := [(.int p1_)]) (rest := []) (lenOf mW rfl) rfl (by show 2 * 0 + _ ≤ _; exact Nat.le_of_eq rfl) (oG hby d28 22 rfl) (fun _ _ => ⟨rfl, e5, (by decide : 0 + 0 ≤ _), (by decide : 0 + 0 ≤ _)⟩)
 dsimp only [Pt.U, Pt.locs, Pt.cells, Pt.slots] at X6 l6 y6 z6 st6 hQ6
 subst l6 y6 z6
 obtain ⟨rfl, N6q, e6⟩ := hQ6
 have N6 := Fr.app N0 N6q
 obtain ⟨T7, X7, e7, st7⟩ := getF X6 hx hZ hown (host := "") (Or.inl (oW hw 127 rfl)) Via.refl e6 dR (g := (mkF m 45 #[oA a0_, oI p1_] [(.ref a0_)])) rfl rfl (oG hby d28 25 rfl)
 obtain ⟨cq8, kq8, q8a, q8b, q8c⟩ := isOf hZ e7 cI
 obtain ⟨_, _, ⟨T8, L8, k8, n8⟩, -, X8, ⟨Lc8, hQ8, l8, y8, z8⟩, st8⟩ := X7.virtualBack hx (y := oM9) (z := oM9) hown (mvT hZ (oW hw 186 rfl)) (mvT hZ (oW hw 187 rfl)) (notFace_of_selects (args := #[]) (mvT hZ (oW hw 189 rfl))) (mvT hZ (oW hw 189 rfl)) (mvT hZ (oW hw 188 rfl)) (by decide) (backOf (W := 0) (tL l Z a0 hw [] aM p1_ aF aA aN aG bM h0 n0 Z0 bQ dA cK cI nV gI eI S__assertionsDisabled hf2 hf3 hf5 hf6 hf7 hf8 hf9 hf10) hZ (oW hw 190 rfl) (oW hw 107 rfl) (by decide) (by decide)) q8a q8c (g := (mkF m 49 #[oA a0_, oI p1_] [(.int p1_), (.ref aM)])) rfl (by rw [hml]; rfl) (Steps.refl _) (argsL := [(.int p1_)]) (rest := []) (lenOf jT rfl) rfl (by show 2 * 0 + _ ≤ _; exact Nat.le_of_eq rfl) (oG hby d28 27 rfl) (fun _ _ => ⟨rfl, e7, (by decide : 0 + 0 ≤ _), (by decide : 0 + 0 ≤ _)⟩)
 dsimp only [Pt.U, Pt.locs, Pt.cells, Pt.slots] at X8 l8 y8 z8 st8 hQ8
 subst l8 y8 z8
 obtain ⟨rfl, N8q, Kq8, Q8_0, aZ1, aZ2, aZ3, aZ4⟩ := hQ8
 have N8 := Fr.app N6 N8q
 have K8 : Keep h0 T8.heap [aM, aA, aC, a0_] := (Keep.refl h0 [aM, aA, aC, a0_]).trans Kq8 (dN (Or.inl (oX 0 rfl)) (Or.inl (oX 1 rfl)))
 have eN := (cV.keep Kq8 (kU hf11 hf12))
 obtain ⟨T10, X10, e10, st10⟩ := getF X8 hx hZ hown (host := "") (Or.inl (oW hw 103 rfl)) Via.refl rfl eN (g := (mkF m 53 #[oA a0_, oI p1_] [(.ref a0_)])) rfl rfl (oG hby d28 29 rfl)
 have eO := (dF.keep Kq8 (kU hf11 hf12))
 obtain ⟨T12, X12, e12, st12⟩ := getF X10 hx hZ hown (host := "") (Or.inl (oW hw 173 rfl)) Via.refl e10 eO (g := (mkF m 57 #[oA a0_, oI p1_] [(.ref a0_), (.ref aC)])) rfl rfl (oG hby d28 31 rfl)
 have dK := (cZ.keep Kq8 (kU hf13 hf14))
 obtain ⟨c14, z14, A14, hin14, -⟩ := iF (j := aI) dK hf15 hf1
 obtain ⟨T15, h15, X15, e15, W15, st15⟩ := stI X12 hx hZ e12 A14 (j := aI) hin14 (g := (mkF m 61 #[oA a0_, oI p1_] [(.int p1_), (.int aI), (.ref aC)])) rfl rfl (oG hby d28 33 rfl)
 have V15 := iG dK hf15 hf1 W15
 have K15 : Keep h0 h15 [aM, aA, aC, a0_] := K8.wr W15 (Or.inl (oX 2 rfl))
 have N15 := Fr.snoc X15 N8 fW
 have dB := (eO.other W15 (Or.inl hf16))
 obtain ⟨T17, X17, e17, st17⟩ := getF X15 hx hZ hown (host := "") (Or.inl (oW hw 173 rfl)) Via.refl e15 dB (g := (mkF m 64 #[oA a0_, oI p1_] [(.ref a0_), (.ref a0_)])) rfl rfl (oG hby d28 36 rfl)
 have gF := ((bR.keep Kq8).wr W15)
 obtain ⟨T19, h19, X19, e19, W19, st19⟩ := putF X17 hx hZ hown (host := "") (Or.inl (oW hw 173 rfl)) Via.refl e17 dB gF (Or.inl (oW hw 174 rfl)) (oW hw 95 rfl) (ty := .int) (by decide) rfl rfl (g := (mkF m 69 #[oA a0_, oI p1_] [(.int (aI + (1 : Int32))), (.ref a0_)])) rfl rfl (oG hby d28 39 rfl)
 have Fw19 := dB.same W19
 have K19 : Keep h0 h19 [aM, aA, aC, a0_] := K15.wr W19 (Or.inl (oX 3 rfl))
 have N19 := Fr.snoc X19 N15 eM
 obtain ⟨T20, X20, e20, st20⟩ := getF X19 hx hZ hown (host := "") (Or.inl (oW hw 173 rfl)) Via.refl e19 Fw19 (g := (mkF m 73 #[oA a0_, oI p1_] [(.ref a0_)])) rfl rfl (oG hby d28 41 rfl)
 have dZ := ((eN.other W15 (Or.inl hf16)).other W19 (oN (Or.inr (oW hw 104 rfl)) (Or.inl (oW hw 174 rfl)) (t := (.array .int)) (t' := .int)))
 obtain ⟨T22, X22, e22, st22⟩ := getF X20 hx hZ hown (host := "") (Or.inl (oW hw 103 rfl)) Via.refl e20 dZ (g := (mkF m 77 #[oA a0_, oI p1_] [(.ref a0_), (.int (aI + (1 : Int32)))])) rfl rfl (oG hby d28 43 rfl)
 have dL := (V15.other W19 hf17)
 obtain ⟨c24, A24, S24, M24⟩ := dE dL
 have lW := ((Q8_0.wr W15).wr W19)
 have gJ := ((aZ1.other W15 (Or.inl hf19)).other W19 (Or.inl hf20))
 have iM := ((aZ2.other W15 (Or.inl hf19)).other W19 (Or.inl hf20))
 have fX := ((aZ3.other W15 (Or.inl hf19)).other W19 (Or.inl hf20))
 have hN := ((aZ4.other W15 hf21).other W19 hf22)
 have kY := (((cE.keep Kq8 (kU hf11 hf12)).other W15 (Or.inl hf16)).other W19 (oN (Or.inl (oW hw 102 rfl)) (Or.inl (oW hw 174 rfl)) (t := .long) (t' := .int)))
 have nW := (((dR.keep Kq8 (kU hf11 hf12)).other W15 (Or.inl hf16)).other W19 (oN (Or.inr (oW hw 128 rfl)) (Or.inl (oW hw 174 rfl)) (t := (.object oC3)) (t' := .int)))
 have yF := (gF.wr W19)
 obtain ⟨fs, hr, hrun, hended, hW, hsame⟩ := X22.leave (v := some (.int 1)) (fun h => by rw [Bd.returns] at h; cases h)
 refine ⟨_, _, castTop (pL m a0_ p1_) ?_, hrun, hended, _, _, rfl, ?_, ⟨_, rfl⟩, hW, (hsame.mono (by decide) (by decide))⟩
 · show oZ p e below s₁ (mkF m 0 #[oA a0_, oI p1_] []) _
   refine XS.aloadN X0.here hx rfl (oG hby d28 0 rfl) rfl rfl ?_
   refine st1 _ ?_
   refine XS.lconst X1.here hx rfl (oG hby d28 2 rfl) ?_
   show oZ p e below T1 (mkF m 5 #[oA a0_, oI p1_] [(.long 0), (.long aW)]) _
   refine XS.lcmp X1.here hx rfl (oG hby d28 3 rfl) rfl ?_
   refine XS.ifYes X1.here hx rfl (pc0 := 6) (pc' := 21) rfl (oG hby d28 4 rfl) rfl ((if0 _ _).trans (flt hf0).2.2.2) (by decide) (by decide) ?_
   refine XS.aloadN X1.here hx rfl (oG hby d28 13 rfl) rfl rfl ?_
   refine st2 _ ?_
   refine XS.aloadN X2.here hx rfl (oG hby d28 15 rfl) rfl rfl ?_
   refine st3 _ ?_
   refine X3.arraylength hx (by rw [e3]; exact A4.1) (State.isArrayOf_alike hZ.alike A4.2.1) (g := (mkF m 29 #[oA a0_, oI p1_] [(.ref aC), (.int aI)])) rfl rfl (oG hby d28 17 rfl) _ ?_
   rw [len_of S4 M4]
   refine XS.icmpNo X3.here hx rfl (oG hby d28 18 rfl) rfl (tlt hf1).2.1 ?_
   refine XS.aloadN X3.here hx rfl (oG hby d28 19 rfl) rfl rfl ?_
   refine st5 _ ?_
   refine XS.iloadN X5.here hx rfl (oG hby d28 21 rfl) rfl ?_
   show oZ p e below T5 (mkF m 38 #[oA a0_, oI p1_] [(.int p1_), (.ref aM)]) _
   refine st6.trans ?_
   refine XS.ifNo X6.here hx rfl (oG hby d28 23 rfl) rfl ((if0 _ _).trans (teq (rfl : (0 : Int32) = (0 : Int32))).2) ?_
   refine XS.aloadN X6.here hx rfl (oG hby d28 24 rfl) rfl rfl ?_
   refine st7 _ ?_
   refine XS.iloadN X7.here hx rfl (oG hby d28 26 rfl) rfl ?_
   refine st8.trans ?_
   refine XS.aloadN X8.here hx rfl (oG hby d28 28 rfl) rfl rfl ?_
   refine st10 _ ?_
   refine XS.aloadN X10.here hx rfl (oG hby d28 30 rfl) rfl rfl ?_
   refine st12 _ ?_
   refine XS.iloadN X12.here hx rfl (oG hby d28 32 rfl) rfl ?_
   show oZ p e below T12 (mkF m 61 #[oA a0_, oI p1_] [(.int p1_), (.int aI), (.ref aC)]) _
   refine st15 _ ?_
   refine XS.aloadN X15.here hx rfl (oG hby d28 34 rfl) rfl rfl ?_
   refine XS.dup X15.here hx rfl (oG hby d28 35 rfl) rfl rfl ?_
   refine st17 _ ?_
   refine XS.iconst X17.here hx rfl (oG hby d28 37 rfl) ?_
   refine XS.iadd X17.here hx rfl (oG hby d28 38 rfl) rfl ?_
   refine st19 _ ?_
   refine XS.aloadN X19.here hx rfl (oG hby d28 40 rfl) rfl rfl ?_
   refine st20 _ ?_
   refine XS.aloadN X20.here hx rfl (oG hby d28 42 rfl) rfl rfl ?_
   refine st22 _ ?_
   show oZ p e below T22 (mkF m 80 #[oA a0_, oI p1_] [(.ref aC), (.int (aI + (1 : Int32)))]) _
   refine X22.arraylength hx (by rw [e22]; exact A24.1) (State.isArrayOf_alike hZ.alike A24.2.1) (g := (mkF m 80 #[oA a0_, oI p1_] [(.ref aC), (.int (aI + (1 : Int32)))])) rfl rfl (oG hby d28 44 rfl) _ ?_
   rw [len_of S24 M24]
   refine XS.icmpNo X22.here hx rfl (oG hby d28 45 rfl) rfl (teq hf18).2 ?_
   refine XS.iconst X22.here hx rfl (oG hby d28 46 rfl) ?_
   refine XS.goto X22.here hx rfl (pc0 := 85) (pc' := 89) rfl (oG hby d28 47 rfl) (by decide) (by decide) ?_
   show oZ p e below T22 (mkF m 89 #[oA a0_, oI p1_] [(.int 1)]) _
   exact retN X22 hx (t := .boolean) Bd.returns (by simp) (oG hby d28 49 rfl) hr
 · show nM Z a0_ p1_ aW aI aC aZ aM aF aA aN aG bM h0 n0 _ T22.heap _
   rw [e22]
   exact ⟨rfl, N19, K19, lW, gJ, iM, fX, hN, dL, kY, Fw19, dZ, nW, yF⟩
theorem uU (l : Launch) (Z : State) (a0 : Array Value) (hw : oH a0 Z) (ws : List Jvm.Cond) (a0_ : Addr) (p1_ : Int32) (aX : Int32) (aT : Addr) (bG : Int32) (aP : List Int64) (h0 : Heap) (n0 : Nat) (Z0 : n0 ≤ h0.size) (S__assertionsDisabled : Sta Z h0 oC3 "$assertionsDisabled" "Z" (.int 1)) (bR : Exa Z h0 a0_ oC3) (bP : Fld Z h0 a0_ oC3 "wordsInUse" "I" (.int aX)) (dU : Fld Z h0 a0_ oC3 "words" "[J" (.ref aT)) (dM : cY Z h0 aT bG aP) (hf0 : ¬ (p1_ < (0 : Int32))) (hf1 : (p1_ >>> ((6 : Int32) &&& 31)) = (0 : Int32)) (hf2 : (0 : Int32) < aX) (hf3 : (0 : Int32) < bG) (hf4 : ¬ ((lcmpW ((aP.getD ((0 : Int32)).toNatClampNeg 0) &&& (cJ (1 : Int64) p1_)) (0 : Int64)) = (0 : Int32))) :
   oMet l oM4 jdk_92_method_26_code 3 (some .boolean) ws (oR 1 0 0 12) Z h0 #[(.ref a0_), (.int p1_)] (cD (some (.int 1)) h0 n0) := by
 refine oBd n0 (plainFor_of_name iO) ?_
 intro p e s m below meth c s₁ Bd hx hZ hby hml hown hnm X0 e0 N0
 obtain ⟨cq1, q1, q1'⟩ := bR.cell
 obtain ⟨_, _, ⟨T1, L1, k1, n1⟩, -, X1, ⟨Lc1, hQ1, l1, y1, z1⟩, st1⟩ := X0.privateBack hx (y := oM15) hown (mvT hZ (oW hw 180 rfl)) (mvT hZ (oW hw 181 rfl)) (cG (mvT hZ (oW hw 106 rfl)) (mvP hZ (oW hw 182 rfl) (args := #[])) (mvT hZ (oW hw 181 rfl)) (by decide)) (Cond.privateMethod_at (mvP hZ (oW hw 182 rfl) (args := #[]))) (mvT hZ (oW hw 184 rfl)) (by decide) (backOf (W := 0) (jW l Z a0 hw [] a0_ h0 n0 Z0 S__assertionsDisabled) hZ (oW hw 184 rfl) (oW hw 107 rfl) (by decide) (by decide)) (g := (mkF m 32 #[oA a0_, oI p1_, .unset] [(.ref a0_)])) rfl (by rw [hml]; rfl) (Steps.refl _) (a := a0_) (by rw [e0]; exact q1) q1' (argsL := []) (rest := []) (lenOf rI rfl) rfl (by show 2 * 0 + _ ≤ _; exact Nat.le_of_eq rfl) (oG hby d29 3 rfl) (fun _ _ => ⟨rfl, e0, (by decide : 0 + 0 ≤ _), (by decide : 0 + 0 ≤ _)⟩)
 dsimp only [Pt.U, Pt.locs, Pt.cells, Pt.slots] at X1 l1 y1 z1 st1 hQ1
 subst l1 y1 z1
 obtain ⟨rfl, N1q, e1⟩ := hQ1
 have N1 := Fr.app N0 N1q
 obtain ⟨_, _, ⟨T2, L2, k2, n2⟩, -, X2, ⟨Lc2, hQ2, l2, y2, z2⟩, st2⟩ := Jvm.LawKit.callS X1 hx (y := oM12) hown (mvT hZ (oW hw 121 rfl)) (mvT hZ (oW hw 122 rfl)) (mvT hZ (oW hw 107 rfl)) (mvT hZ (oW hw 123 rfl)) (by decide) (backOf (W := 0) (kS l Z a0 hw [] p1_ h0 n0 Z0 ) hZ (oW hw 123 rfl) (oW hw 107 rfl) (by decide) (by decide)) (g := (mkF m 36 #[oA a0_, oI p1_, .unset] [(.int p1_)])) rfl (by rw [hml]; rfl) (argsL := [(.int p1_)]) (rest := []) (lenOf fL rfl) rfl (by show 2 * 0 + _ ≤ _; exact Nat.le_of_eq rfl) (oG hby d29 5 rfl) (fun _ _ => ⟨rfl, e1, (by decide : 0 + 0 ≤ _), (by decide : 0 + 0 ≤ _)⟩)
 dsimp only [Pt.U, Pt.locs, Pt.cells, Pt.slots] at X2 l2 y2 z2 st2 hQ2
 subst l2 y2 z2
 obtain ⟨rfl, N2q, e2⟩ := hQ2
 have N2 := Fr.app N1 N2q
 obtain ⟨T3, X3, e3, st3⟩ := getF X2 hx hZ hown (host := "") (Or.inl (oW hw 112 rfl)) Via.refl e2 bP (g := (mkF m 42 #[oA a0_, oI p1_, oI 0] [(.ref a0_), (.int 0)])) rfl rfl (oG hby d29 9 rfl)
 obtain ⟨T4, X4, e4, st4⟩ := getF X3 hx hZ hown (host := "") (Or.inl (oW hw 125 rfl)) Via.refl e3 dU (g := (mkF m 49 #[oA a0_, oI p1_, oI 0] [(.ref a0_)])) rfl rfl (oG hby d29 12 rfl)
 obtain ⟨c5, A5, hin5, hat5⟩ := kR (j := (0 : Int32)) dM (by decide +kernel) hf3
 have hat5' : c5.slots[((0 : Int32)).toNatClampNeg]? = some (.long (aP.getD ((0 : Int32)).toNatClampNeg 0)) := hat5
 obtain ⟨fs, hr, hrun, hended, hW, hsame⟩ := X4.leave (v := some (.int 1)) (fun h => by rw [Bd.returns] at h; cases h)
 refine ⟨_, _, castTop (yC m a0_ p1_) ?_, hrun, hended, _, _, rfl, ?_, ⟨_, rfl⟩, hW, (hsame.mono (by decide) (by decide))⟩
 · show oZ p e below s₁ (mkF m 0 #[oA a0_, oI p1_, .unset] []) _
   refine XS.iloadN X0.here hx rfl (oG hby d29 0 rfl) rfl ?_
   refine XS.ifYes X0.here hx rfl (pc0 := 1) (pc' := 31) rfl (oG hby d29 1 rfl) rfl ((if0 _ _).trans (flt hf0).2.1) (by decide) (by decide) ?_
   refine XS.aloadN X0.here hx rfl (oG hby d29 2 rfl) rfl rfl ?_
   refine st1.trans ?_
   refine XS.iloadN X1.here hx rfl (oG hby d29 4 rfl) rfl ?_
   refine st2 _ ?_
   show oZ p e below T2 (mkF m 39 #[oA a0_, oI p1_, .unset] [(.int (p1_ >>> ((6 : Int32) &&& 31)))]) _
   rw [hf1]
   refine XS.istoreN X2.here hx rfl (oG hby d29 6 rfl) rfl (l' := #[oA a0_, oI p1_, oI 0]) rfl ?_
   refine XS.iloadN X2.here hx rfl (oG hby d29 7 rfl) rfl ?_
   refine XS.aloadN X2.here hx rfl (oG hby d29 8 rfl) rfl rfl ?_
   refine st3 _ ?_
   refine XS.icmpNo X3.here hx rfl (oG hby d29 10 rfl) rfl (tlt hf2).2.1 ?_
   refine XS.aloadN X3.here hx rfl (oG hby d29 11 rfl) rfl rfl ?_
   refine st4 _ ?_
   refine XS.iloadN X4.here hx rfl (oG hby d29 13 rfl) rfl ?_
   refine X4.laload hx (j := (0 : Int32)) (v := (.long (aP.getD ((0 : Int32)).toNatClampNeg 0))) (by rw [e4]; exact A5.1) (State.isArrayOf_alike hZ.alike A5.2.1) A5.2.2 hin5 hat5' (g := (mkF m 53 #[oA a0_, oI p1_, oI 0] [(.int 0), (.ref aT)])) rfl rfl (oG hby d29 14 rfl) _ ?_
   refine XS.lconst X4.here hx rfl (oG hby d29 15 rfl) ?_
   show oZ p e below T4 (mkF m 55 #[oA a0_, oI p1_, oI 0] [(.long 1), (.long (aP.getD ((0 : Int32)).toNatClampNeg 0))]) _
   refine XS.iloadN X4.here hx rfl (oG hby d29 16 rfl) rfl ?_
   refine XS.lshl X4.here hx rfl (oG hby d29 17 rfl) rfl ?_
   refine XS.land X4.here hx rfl (oG hby d29 18 rfl) rfl ?_
   refine XS.lconst X4.here hx rfl (oG hby d29 19 rfl) ?_
   show oZ p e below T4 (mkF m 59 #[oA a0_, oI p1_, oI 0] [(.long 0), (.long ((aP.getD ((0 : Int32)).toNatClampNeg 0) &&& (cJ (1 : Int64) p1_)))]) _
   refine XS.lcmp X4.here hx rfl (oG hby d29 20 rfl) rfl ?_
   refine XS.ifNo X4.here hx rfl (oG hby d29 21 rfl) rfl ((if0 _ _).trans (feq hf4).1) ?_
   refine XS.iconst X4.here hx rfl (oG hby d29 22 rfl) ?_
   refine XS.goto X4.here hx rfl (pc0 := 64) (pc' := 68) rfl (oG hby d29 23 rfl) (by decide) (by decide) ?_
   show oZ p e below T4 (mkF m 68 #[oA a0_, oI p1_, oI 0] [(.int 1)]) _
   exact retN X4 hx (t := .boolean) Bd.returns (by simp) (oG hby d29 25 rfl) hr
 · show cD (some (.int 1)) h0 n0 _ T4.heap _
   exact ⟨rfl, N2, e4⟩
theorem tR (l : Launch) (Z : State) (a0 : Array Value) (hw : oH a0 Z) (ws : List Jvm.Cond) (a0_ : Addr) (p1_ : Int32) (aW : Int64) (aI : Int32) (aC : Addr) (aZ : Int32) (aM : Addr) (aF : Int32) (aA : Addr) (aN : Int32) (aG : List Int64) (h0 : Heap) (n0 : Nat) (Z0 : n0 ≤ h0.size) (cE : Fld Z h0 a0_ oC1 "toSkip" "J" (.long aW)) (dF : Fld Z h0 a0_ oC1 "taken" "I" (.int aI)) (cV : Fld Z h0 a0_ oC1 "chosen" "[I" (.ref aC)) (cZ : bC Z h0 aC aZ) (dR : Fld Z h0 a0_ oC1 "has" "Ljava/util/BitSet;" (.ref aM)) (S__assertionsDisabled : Sta Z h0 oC3 "$assertionsDisabled" "Z" (.int 1)) (cI : Exa Z h0 aM oC3) (bQ : Fld Z h0 aM oC3 "wordsInUse" "I" (.int aF)) (dA : Fld Z h0 aM oC3 "words" "[J" (.ref aA)) (cK : cY Z h0 aA aN aG) (hf0 : ¬ ((0 : Int32) < (lcmpW aW (0 : Int64)))) (hf1 : aI < aZ) (hf2 : ¬ (p1_ < (0 : Int32))) (hf3 : (p1_ >>> ((6 : Int32) &&& 31)) = (0 : Int32)) (hf4 : (0 : Int32) < aF) (hf5 : (0 : Int32) < aN) (hf6 : ¬ ((lcmpW ((aG.getD ((0 : Int32)).toNatClampNeg 0) &&& (cJ (1 : Int64) p1_)) (0 : Int64)) = (0 : Int32))) (hf7 : ¬ (aI = aZ)) :
   oMet l oM0 prog_30_method_2_code 2 (some .boolean) ws (oR 3 0 0 60) Z h0 #[(.ref a0_), (.int p1_)] (cD (some (.int 0)) h0 n0) := by
 refine oBd n0 (plainFor_of_name mV) ?_
 intro p e s m below meth c s₁ Bd hx hZ hby hml hown hnm X0 e0 N0
 obtain ⟨T1, X1, e1, st1⟩ := getF X0 hx hZ hown (host := "") (Or.inl (oW hw 101 rfl)) Via.refl e0 cE (g := (mkF m 1 #[oA a0_, oI p1_] [(.ref a0_)])) rfl rfl (oG hby d28 1 rfl)
 obtain ⟨T2, X2, e2, st2⟩ := getF X1 hx hZ hown (host := "") (Or.inl (oW hw 173 rfl)) Via.refl e1 dF (g := (mkF m 22 #[oA a0_, oI p1_] [(.ref a0_)])) rfl rfl (oG hby d28 14 rfl)
 obtain ⟨T3, X3, e3, st3⟩ := getF X2 hx hZ hown (host := "") (Or.inl (oW hw 103 rfl)) Via.refl e2 cV (g := (mkF m 26 #[oA a0_, oI p1_] [(.ref a0_), (.int aI)])) rfl rfl (oG hby d28 16 rfl)
 obtain ⟨c4, A4, S4, M4⟩ := dE cZ
 obtain ⟨T5, X5, e5, st5⟩ := getF X3 hx hZ hown (host := "") (Or.inl (oW hw 127 rfl)) Via.refl e3 dR (g := (mkF m 34 #[oA a0_, oI p1_] [(.ref a0_)])) rfl rfl (oG hby d28 20 rfl)
 obtain ⟨cq6, kq6, q6a, q6b, q6c⟩ := isOf hZ e5 cI
 obtain ⟨_, _, ⟨T6, L6, k6, n6⟩, -, X6, ⟨Lc6, hQ6, l6, y6, z6⟩, st6⟩ := X5.virtualBack hx (y := oM4) (z := oM4) hown (mvT hZ (oW hw 175 rfl)) (mvT hZ (oW hw 176 rfl)) (notFace_of_selects (args := #[]) (mvT hZ (oW hw 178 rfl))) (mvT hZ (oW hw 178 rfl)) (mvT hZ (oW hw 177 rfl)) (by decide) (backOf (W := 0) (uU l Z a0 hw [] aM p1_ aF aA aN aG h0 n0 Z0 S__assertionsDisabled cI bQ dA cK hf2 hf3 hf4 hf5 hf6) hZ (oW hw 179 rfl) (oW hw 107 rfl) (by decide) (by decide)) q6a q6c (g := (mkF m 38 #[oA a0_, oI p1_] [(.int p1_), (.ref aM)])) rfl (by rw [hml]; rfl) (Steps.refl _) (argsL := [(.int p1_)]) (rest := []) (lenOf mW rfl) rfl (by show 2 * 0 + _ ≤ _; exact Nat.le_of_eq rfl) (oG hby d28 22 rfl) (fun _ _ => ⟨rfl, e5, (by decide : 0 + 0 ≤ _), (by decide : 0 + 0 ≤ _)⟩)
 dsimp only [Pt.U, Pt.locs, Pt.cells, Pt.slots] at X6 l6 y6 z6 st6 hQ6
 subst l6 y6 z6
 obtain ⟨rfl, N6q, e6⟩ := hQ6
 have N6 := Fr.app N0 N6q
 obtain ⟨T7, X7, e7, st7⟩ := getF X6 hx hZ hown (host := "") (Or.inl (oW hw 173 rfl)) Via.refl e6 dF (g := (mkF m 73 #[oA a0_, oI p1_] [(.ref a0_)])) rfl rfl (oG hby d28 41 rfl)
 obtain ⟨T8, X8, e8, st8⟩ := getF X7 hx hZ hown (host := "") (Or.inl (oW hw 103 rfl)) Via.refl e7 cV (g := (mkF m 77 #[oA a0_, oI p1_] [(.ref a0_), (.int aI)])) rfl rfl (oG hby d28 43 rfl)
 obtain ⟨c9, A9, S9, M9⟩ := dE cZ
 obtain ⟨fs, hr, hrun, hended, hW, hsame⟩ := X8.leave (v := some (.int 0)) (fun h => by rw [Bd.returns] at h; cases h)
 refine ⟨_, _, castTop (pL m a0_ p1_) ?_, hrun, hended, _, _, rfl, ?_, ⟨_, rfl⟩, hW, (hsame.mono (by decide) (by decide))⟩
 · show oZ p e below s₁ (mkF m 0 #[oA a0_, oI p1_] []) _
   refine XS.aloadN X0.here hx rfl (oG hby d28 0 rfl) rfl rfl ?_
   refine st1 _ ?_
   refine XS.lconst X1.here hx rfl (oG hby d28 2 rfl) ?_
   show oZ p e below T1 (mkF m 5 #[oA a0_, oI p1_] [(.long 0), (.long aW)]) _
   refine XS.lcmp X1.here hx rfl (oG hby d28 3 rfl) rfl ?_
   refine XS.ifYes X1.here hx rfl (pc0 := 6) (pc' := 21) rfl (oG hby d28 4 rfl) rfl ((if0 _ _).trans (flt hf0).2.2.2) (by decide) (by decide) ?_
   refine XS.aloadN X1.here hx rfl (oG hby d28 13 rfl) rfl rfl ?_
   refine st2 _ ?_
   refine XS.aloadN X2.here hx rfl (oG hby d28 15 rfl) rfl rfl ?_
   refine st3 _ ?_
   refine X3.arraylength hx (by rw [e3]; exact A4.1) (State.isArrayOf_alike hZ.alike A4.2.1) (g := (mkF m 29 #[oA a0_, oI p1_] [(.ref aC), (.int aI)])) rfl rfl (oG hby d28 17 rfl) _ ?_
   rw [len_of S4 M4]
   refine XS.icmpNo X3.here hx rfl (oG hby d28 18 rfl) rfl (tlt hf1).2.1 ?_
   refine XS.aloadN X3.here hx rfl (oG hby d28 19 rfl) rfl rfl ?_
   refine st5 _ ?_
   refine XS.iloadN X5.here hx rfl (oG hby d28 21 rfl) rfl ?_
   show oZ p e below T5 (mkF m 38 #[oA a0_, oI p1_] [(.int p1_), (.ref aM)]) _
   refine st6.trans ?_
   refine XS.ifYes X6.here hx rfl (pc0 := 41) (pc' := 72) rfl (oG hby d28 23 rfl) rfl ((if0 _ _).trans (feq (by decide +kernel : ¬ ((1 : Int32) = (0 : Int32)))).2) (by decide) (by decide) ?_
   refine XS.aloadN X6.here hx rfl (oG hby d28 40 rfl) rfl rfl ?_
   refine st7 _ ?_
   refine XS.aloadN X7.here hx rfl (oG hby d28 42 rfl) rfl rfl ?_
   refine st8 _ ?_
   refine X8.arraylength hx (by rw [e8]; exact A9.1) (State.isArrayOf_alike hZ.alike A9.2.1) (g := (mkF m 80 #[oA a0_, oI p1_] [(.ref aC), (.int aI)])) rfl rfl (oG hby d28 44 rfl) _ ?_
   rw [len_of S9 M9]
   refine XS.icmpYes X8.here hx rfl (pc0 := 81) (pc' := 88) rfl (oG hby d28 45 rfl) rfl (feq hf7).2 (by decide) (by decide) ?_
   refine XS.iconst X8.here hx rfl (oG hby d28 48 rfl) ?_
   show oZ p e below T8 (mkF m 89 #[oA a0_, oI p1_] [(.int 0)]) _
   exact retN X8 hx (t := .boolean) Bd.returns (by simp) (oG hby d28 49 rfl) hr
 · show cD (some (.int 0)) h0 n0 _ T8.heap _
   exact ⟨rfl, N6, e8⟩
theorem nX (l : Launch) (Z : State) (a0 : Array Value) (hw : oH a0 Z) (ws : List Jvm.Cond) (a0_ : Addr) (p1_ : Int32) (aX : Int32) (aT : Addr) (bG : Int32) (aP : List Int64) (h0 : Heap) (n0 : Nat) (Z0 : n0 ≤ h0.size) (S__assertionsDisabled : Sta Z h0 oC3 "$assertionsDisabled" "Z" (.int 1)) (bR : Exa Z h0 a0_ oC3) (bP : Fld Z h0 a0_ oC3 "wordsInUse" "I" (.int aX)) (dU : Fld Z h0 a0_ oC3 "words" "[J" (.ref aT)) (dM : cY Z h0 aT bG aP) (hf0 : ¬ (p1_ < (0 : Int32))) (hf1 : (p1_ >>> ((6 : Int32) &&& 31)) = (0 : Int32)) (hf2 : (0 : Int32) < aX) (hf3 : (0 : Int32) < bG) (hf4 : (lcmpW ((aP.getD ((0 : Int32)).toNatClampNeg 0) &&& (cJ (1 : Int64) p1_)) (0 : Int64)) = (0 : Int32)) :
   oMet l oM4 jdk_92_method_26_code 3 (some .boolean) ws (oR 1 0 0 12) Z h0 #[(.ref a0_), (.int p1_)] (cD (some (.int 0)) h0 n0) := by
 refine oBd n0 (plainFor_of_name iO) ?_
 intro p e s m below meth c s₁ Bd hx hZ hby hml hown hnm X0 e0 N0
 obtain ⟨cq1, q1, q1'⟩ := bR.cell
 obtain ⟨_, _, ⟨T1, L1, k1, n1⟩, -, X1, ⟨Lc1, hQ1, l1, y1, z1⟩, st1⟩ := X0.privateBack hx (y := oM15) hown (mvT hZ (oW hw 180 rfl)) (mvT hZ (oW hw 181 rfl)) (cG (mvT hZ (oW hw 106 rfl)) (mvP hZ (oW hw 182 rfl) (args := #[])) (mvT hZ (oW hw 181 rfl)) (by decide)) (Cond.privateMethod_at (mvP hZ (oW hw 182 rfl) (args := #[]))) (mvT hZ (oW hw 184 rfl)) (by decide) (backOf (W := 0) (jW l Z a0 hw [] a0_ h0 n0 Z0 S__assertionsDisabled) hZ (oW hw 184 rfl) (oW hw 107 rfl) (by decide) (by decide)) (g := (mkF m 32 #[oA a0_, oI p1_, .unset] [(.ref a0_)])) rfl (by rw [hml]; rfl) (Steps.refl _) (a := a0_) (by rw [e0]; exact q1) q1' (argsL := []) (rest := []) (lenOf rI rfl) rfl (by show 2 * 0 + _ ≤ _; exact Nat.le_of_eq rfl) (oG hby d29 3 rfl) (fun _ _ => ⟨rfl, e0, (by decide : 0 + 0 ≤ _), (by decide : 0 + 0 ≤ _)⟩)
 dsimp only [Pt.U, Pt.locs, Pt.cells, Pt.slots] at X1 l1 y1 z1 st1 hQ1
 subst l1 y1 z1
 obtain ⟨rfl, N1q, e1⟩ := hQ1
 have N1 := Fr.app N0 N1q
 obtain ⟨_, _, ⟨T2, L2, k2, n2⟩, -, X2, ⟨Lc2, hQ2, l2, y2, z2⟩, st2⟩ := Jvm.LawKit.callS X1 hx (y := oM12) hown (mvT hZ (oW hw 121 rfl)) (mvT hZ (oW hw 122 rfl)) (mvT hZ (oW hw 107 rfl)) (mvT hZ (oW hw 123 rfl)) (by decide) (backOf (W := 0) (kS l Z a0 hw [] p1_ h0 n0 Z0 ) hZ (oW hw 123 rfl) (oW hw 107 rfl) (by decide) (by decide)) (g := (mkF m 36 #[oA a0_, oI p1_, .unset] [(.int p1_)])) rfl (by rw [hml]; rfl) (argsL := [(.int p1_)]) (rest := []) (lenOf fL rfl) rfl (by show 2 * 0 + _ ≤ _; exact Nat.le_of_eq rfl) (oG hby d29 5 rfl) (fun _ _ => ⟨rfl, e1, (by decide : 0 + 0 ≤ _), (by decide : 0 + 0 ≤ _)⟩)
 dsimp only [Pt.U, Pt.locs, Pt.cells, Pt.slots] at X2 l2 y2 z2 st2 hQ2
 subst l2 y2 z2
 obtain ⟨rfl, N2q, e2⟩ := hQ2
 have N2 := Fr.app N1 N2q
 obtain ⟨T3, X3, e3, st3⟩ := getF X2 hx hZ hown (host := "") (Or.inl (oW hw 112 rfl)) Via.refl e2 bP (g := (mkF m 42 #[oA a0_, oI p1_, oI 0] [(.ref a0_), (.int 0)])) rfl rfl (oG hby d29 9 rfl)
 obtain ⟨T4, X4, e4, st4⟩ := getF X3 hx hZ hown (host := "") (Or.inl (oW hw 125 rfl)) Via.refl e3 dU (g := (mkF m 49 #[oA a0_, oI p1_, oI 0] [(.ref a0_)])) rfl rfl (oG hby d29 12 rfl)
 obtain ⟨c5, A5, hin5, hat5⟩ := kR (j := (0 : Int32)) dM (by decide +kernel) hf3
 have hat5' : c5.slots[((0 : Int32)).toNatClampNeg]? = some (.long (aP.getD ((0 : Int32)).toNatClampNeg 0)) := hat5
 obtain ⟨fs, hr, hrun, hended, hW, hsame⟩ := X4.leave (v := some (.int 0)) (fun h => by rw [Bd.returns] at h; cases h)
 refine ⟨_, _, castTop (yC m a0_ p1_) ?_, hrun, hended, _, _, rfl, ?_, ⟨_, rfl⟩, hW, (hsame.mono (by decide) (by decide))⟩
 · show oZ p e below s₁ (mkF m 0 #[oA a0_, oI p1_, .unset] []) _
   refine XS.iloadN X0.here hx rfl (oG hby d29 0 rfl) rfl ?_
   refine XS.ifYes X0.here hx rfl (pc0 := 1) (pc' := 31) rfl (oG hby d29 1 rfl) rfl ((if0 _ _).trans (flt hf0).2.1) (by decide) (by decide) ?_
   refine XS.aloadN X0.here hx rfl (oG hby d29 2 rfl) rfl rfl ?_
   refine st1.trans ?_
   refine XS.iloadN X1.here hx rfl (oG hby d29 4 rfl) rfl ?_
   refine st2 _ ?_
   show oZ p e below T2 (mkF m 39 #[oA a0_, oI p1_, .unset] [(.int (p1_ >>> ((6 : Int32) &&& 31)))]) _
   rw [hf1]
   refine XS.istoreN X2.here hx rfl (oG hby d29 6 rfl) rfl (l' := #[oA a0_, oI p1_, oI 0]) rfl ?_
   refine XS.iloadN X2.here hx rfl (oG hby d29 7 rfl) rfl ?_
   refine XS.aloadN X2.here hx rfl (oG hby d29 8 rfl) rfl rfl ?_
   refine st3 _ ?_
   refine XS.icmpNo X3.here hx rfl (oG hby d29 10 rfl) rfl (tlt hf2).2.1 ?_
   refine XS.aloadN X3.here hx rfl (oG hby d29 11 rfl) rfl rfl ?_
   refine st4 _ ?_
   refine XS.iloadN X4.here hx rfl (oG hby d29 13 rfl) rfl ?_
   refine X4.laload hx (j := (0 : Int32)) (v := (.long (aP.getD ((0 : Int32)).toNatClampNeg 0))) (by rw [e4]; exact A5.1) (State.isArrayOf_alike hZ.alike A5.2.1) A5.2.2 hin5 hat5' (g := (mkF m 53 #[oA a0_, oI p1_, oI 0] [(.int 0), (.ref aT)])) rfl rfl (oG hby d29 14 rfl) _ ?_
   refine XS.lconst X4.here hx rfl (oG hby d29 15 rfl) ?_
   show oZ p e below T4 (mkF m 55 #[oA a0_, oI p1_, oI 0] [(.long 1), (.long (aP.getD ((0 : Int32)).toNatClampNeg 0))]) _
   refine XS.iloadN X4.here hx rfl (oG hby d29 16 rfl) rfl ?_
   refine XS.lshl X4.here hx rfl (oG hby d29 17 rfl) rfl ?_
   refine XS.land X4.here hx rfl (oG hby d29 18 rfl) rfl ?_
   refine XS.lconst X4.here hx rfl (oG hby d29 19 rfl) ?_
   show oZ p e below T4 (mkF m 59 #[oA a0_, oI p1_, oI 0] [(.long 0), (.long ((aP.getD ((0 : Int32)).toNatClampNeg 0) &&& (cJ (1 : Int64) p1_)))]) _
   refine XS.lcmp X4.here hx rfl (oG hby d29 20 rfl) rfl ?_
   refine XS.ifYes X4.here hx rfl (pc0 := 60) (pc' := 67) rfl (oG hby d29 21 rfl) rfl ((if0 _ _).trans (teq hf4).1) (by decide) (by decide) ?_
   refine XS.iconst X4.here hx rfl (oG hby d29 24 rfl) ?_
   show oZ p e below T4 (mkF m 68 #[oA a0_, oI p1_, oI 0] [(.int 0)]) _
   exact retN X4 hx (t := .boolean) Bd.returns (by simp) (oG hby d29 25 rfl) hr
 · show cD (some (.int 0)) h0 n0 _ T4.heap _
   exact ⟨rfl, N2, e4⟩
theorem aH1 (l : Launch) (Z : State) (a0 : Array Value) (hw : oH a0 Z) (ws : List Jvm.Cond) (a0_ : Addr) (p1_ : Int32) (aX : Int32) (h0 : Heap) (n0 : Nat) (Z0 : n0 ≤ h0.size) (bP : Fld Z h0 a0_ oC3 "wordsInUse" "I" (.int aX)) (hf0 : ¬ (aX < (p1_ + (1 : Int32)))) :
   oMet l oM25 jdk_92_method_15_code 3 none ws (oR 0 0 0 0) Z h0 #[(.ref a0_), (.int p1_)] (cD (none) h0 n0) := by
 refine oBd n0 (plainFor_of_name iO) ?_
 intro p e s m below meth c s₁ Bd hx hZ hby hml hown hnm X0 e0 N0
 obtain ⟨T1, X1, e1, st1⟩ := getF X0 hx hZ hown (host := "") (Or.inl (oW hw 112 rfl)) Via.refl e0 bP (g := (mkF m 5 #[oA a0_, oI p1_, oI (p1_ + (1 : Int32))] [(.ref a0_)])) rfl rfl (oG hby d32 5 rfl)
 obtain ⟨fs, hr, hrun, hended, hW, hsame⟩ := X1.leave (v := none) (fun _ => rfl)
 refine ⟨_, _, castTop (aE8 m a0_ p1_) ?_, hrun, hended, _, _, rfl, ?_, ⟨_, rfl⟩, hW, (hsame.mono (by decide) (by decide))⟩
 · show oZ p e below s₁ (mkF m 0 #[oA a0_, oI p1_, .unset] []) _
   refine XS.iloadN X0.here hx rfl (oG hby d32 0 rfl) rfl ?_
   refine XS.iconst X0.here hx rfl (oG hby d32 1 rfl) ?_
   refine XS.iadd X0.here hx rfl (oG hby d32 2 rfl) rfl ?_
   refine XS.istoreN X0.here hx rfl (oG hby d32 3 rfl) rfl (l' := #[oA a0_, oI p1_, oI (p1_ + (1 : Int32))]) rfl ?_
   refine XS.aloadN X0.here hx rfl (oG hby d32 4 rfl) rfl rfl ?_
   refine st1 _ ?_
   refine XS.iloadN X1.here hx rfl (oG hby d32 6 rfl) rfl ?_
   refine XS.icmpYes X1.here hx rfl (pc0 := 9) (pc' := 22) rfl (oG hby d32 7 rfl) rfl (flt hf0).2.1 (by decide) (by decide) ?_
   show oZ p e below T1 (mkF m 22 #[oA a0_, oI p1_, oI (p1_ + (1 : Int32))] []) _
   exact X1.returnOut hx Bd.returns (oG hby d32 14 rfl) hr
 · show cD (none) h0 n0 _ T1.heap _
   exact ⟨rfl, N0, e1⟩
def pV (Z : State) (a0_ : Addr) (p1_ : Int32) (aX : Int32) (aT : Addr) (bG : Int32) (aP : List Int64) (h0 : Heap) (n0 : Nat) (v : Option Value) (h : Heap) (L : List Loc) : Prop := v = none ∧ Fr n0 L ∧ Keep h0 h [aT] ∧ cY Z h aT bG (aP.set ((0 : Int32)).toNatClampNeg ((aP.getD ((0 : Int32)).toNatClampNeg 0) ||| (cJ (1 : Int64) p1_)))
theorem rR (l : Launch) (Z : State) (a0 : Array Value) (hw : oH a0 Z) (ws : List Jvm.Cond) (a0_ : Addr) (p1_ : Int32) (aX : Int32) (aT : Addr) (bG : Int32) (aP : List Int64) (h0 : Heap) (n0 : Nat) (Z0 : n0 ≤ h0.size) (bP : Fld Z h0 a0_ oC3 "wordsInUse" "I" (.int aX)) (bR : Exa Z h0 a0_ oC3) (dU : Fld Z h0 a0_ oC3 "words" "[J" (.ref aT)) (dM : cY Z h0 aT bG aP) (lU : n0 ≤ aT) (S__assertionsDisabled : Sta Z h0 oC3 "$assertionsDisabled" "Z" (.int 1)) (hf0 : ¬ (p1_ < (0 : Int32))) (hf1 : (p1_ >>> ((6 : Int32) &&& 31)) = (0 : Int32)) (hf2 : ¬ (aX < ((0 : Int32) + (1 : Int32)))) (hf3 : (0 : Int32) < bG) (hf4 : ((0 : Int32)).toNatClampNeg < aP.length) :
   oMet l oM9 jdk_92_method_19_code 3 none ws (oR 1 0 0 14) Z h0 #[(.ref a0_), (.int p1_)] (pV Z a0_ p1_ aX aT bG aP h0 n0) := by
 refine oBd n0 (plainFor_of_name iO) ?_
 intro p e s m below meth c s₁ Bd hx hZ hby hml hown hnm X0 e0 N0
 obtain ⟨_, _, ⟨T1, L1, k1, n1⟩, -, X1, ⟨Lc1, hQ1, l1, y1, z1⟩, st1⟩ := Jvm.LawKit.callS X0 hx (y := oM12) hown (mvT hZ (oW hw 121 rfl)) (mvT hZ (oW hw 122 rfl)) (mvT hZ (oW hw 107 rfl)) (mvT hZ (oW hw 123 rfl)) (by decide) (backOf (W := 0) (kS l Z a0 hw [] p1_ h0 n0 Z0 ) hZ (oW hw 123 rfl) (oW hw 107 rfl) (by decide) (by decide)) (g := (mkF m 32 #[oA a0_, oI p1_, .unset] [(.int p1_)])) rfl (by rw [hml]; rfl) (argsL := [(.int p1_)]) (rest := []) (lenOf fL rfl) rfl (by show 2 * 0 + _ ≤ _; exact Nat.le_of_eq rfl) (oG hby d31 3 rfl) (fun _ _ => ⟨rfl, e0, (by decide : 0 + 0 ≤ _), (by decide : 0 + 0 ≤ _)⟩)
 dsimp only [Pt.U, Pt.locs, Pt.cells, Pt.slots] at X1 l1 y1 z1 st1 hQ1
 subst l1 y1 z1
 obtain ⟨rfl, N1q, e1⟩ := hQ1
 have N1 := Fr.app N0 N1q
 obtain ⟨cq2, q2, q2'⟩ := bR.cell
 obtain ⟨_, _, ⟨T2, L2, k2, n2⟩, -, X2, ⟨Lc2, hQ2, l2, y2, z2⟩, st2⟩ := X1.privateBack hx (y := oM25) hown (mvT hZ (oW hw 191 rfl)) (mvT hZ (oW hw 192 rfl)) (cG (mvT hZ (oW hw 106 rfl)) (mvP hZ (oW hw 193 rfl) (args := #[])) (mvT hZ (oW hw 192 rfl)) (by decide)) (Cond.privateMethod_at (mvP hZ (oW hw 193 rfl) (args := #[]))) (mvT hZ (oW hw 195 rfl)) (by decide) (backOf (W := 0) (aH1 l Z a0 hw [] a0_ (0 : Int32) aX h0 n0 Z0 bP hf2) hZ (oW hw 195 rfl) (oW hw 107 rfl) (by decide) (by decide)) (g := (mkF m 38 #[oA a0_, oI p1_, oI 0] [(.int 0), (.ref a0_)])) rfl (by rw [hml]; rfl) (Steps.refl _) (a := a0_) (by rw [e1]; exact q2) q2' (argsL := [(.int 0)]) (rest := []) (lenOf jT rfl) rfl (by show 2 * 0 + _ ≤ _; exact Nat.le_of_eq rfl) (oG hby d31 7 rfl) (fun _ _ => ⟨rfl, e1, (by decide : 0 + 0 ≤ _), (by decide : 0 + 0 ≤ _)⟩)
 dsimp only [Pt.U, Pt.locs, Pt.cells, Pt.slots] at X2 l2 y2 z2 st2 hQ2
 subst l2 y2 z2
 obtain ⟨rfl, N2q, e2⟩ := hQ2
 have N2 := Fr.app N1 N2q
 obtain ⟨T3, X3, e3, st3⟩ := getF X2 hx hZ hown (host := "") (Or.inl (oW hw 125 rfl)) Via.refl e2 dU (g := (mkF m 42 #[oA a0_, oI p1_, oI 0] [(.ref a0_)])) rfl rfl (oG hby d31 9 rfl)
 obtain ⟨c4, A4, hin4, hat4⟩ := kR (j := (0 : Int32)) dM (by decide +kernel) hf3
 have hat4' : c4.slots[((0 : Int32)).toNatClampNeg]? = some (.long (aP.getD ((0 : Int32)).toNatClampNeg 0)) := hat4
 obtain ⟨c5, A5, hin5, -⟩ := kR (j := (0 : Int32)) dM (by decide +kernel) hf3
 obtain ⟨T6, h6, X6, e6, W6, st6⟩ := stJ X3 hx hZ e3 A5 (j := (0 : Int32)) hin5 (g := (mkF m 52 #[oA a0_, oI p1_, oI 0] [(.long ((aP.getD ((0 : Int32)).toNatClampNeg 0) ||| (cJ (1 : Int64) p1_))), (.int 0), (.ref aT)])) rfl rfl (oG hby d31 17 rfl)
 have V6 : cY Z h6 aT bG (aP.set ((0 : Int32)).toNatClampNeg ((aP.getD ((0 : Int32)).toNatClampNeg 0) ||| (cJ (1 : Int64) p1_))) := xO dM (by decide +kernel) hf3 W6 hf4
 have K6 : Keep h0 h6 [aT] := (Keep.refl h0 [aT]).wr W6 (Or.inl (oX 0 rfl))
 have N6 := Fr.snoc X6 N2 lU
 have kJ := (S__assertionsDisabled.wr W6)
 have yG := (bR.wr W6)
 obtain ⟨cq7, q7, q7'⟩ := yG.cell
 obtain ⟨_, _, ⟨T7, L7, k7, n7⟩, -, X7, ⟨Lc7, hQ7, l7, y7, z7⟩, st7⟩ := X6.privateBack hx (y := oM15) hown (mvT hZ (oW hw 180 rfl)) (mvT hZ (oW hw 181 rfl)) (cG (mvT hZ (oW hw 106 rfl)) (mvP hZ (oW hw 182 rfl) (args := #[])) (mvT hZ (oW hw 181 rfl)) (by decide)) (Cond.privateMethod_at (mvP hZ (oW hw 182 rfl) (args := #[]))) (mvT hZ (oW hw 184 rfl)) (by decide) (backOf (W := 0) (jW l Z a0 hw [] a0_ h6 n0 (Nat.le_trans Z0 K6.1) kJ) hZ (oW hw 184 rfl) (oW hw 107 rfl) (by decide) (by decide)) (g := (mkF m 54 #[oA a0_, oI p1_, oI 0] [(.ref a0_)])) rfl (by rw [hml]; rfl) (Steps.refl _) (a := a0_) (by rw [e6]; exact q7) q7' (argsL := []) (rest := []) (lenOf rI rfl) rfl (by show 2 * 0 + _ ≤ _; exact Nat.le_of_eq rfl) (oG hby d31 19 rfl) (fun _ _ => ⟨rfl, e6, (by decide : 0 + 0 ≤ _), (by decide : 0 + 0 ≤ _)⟩)
 dsimp only [Pt.U, Pt.locs, Pt.cells, Pt.slots] at X7 l7 y7 z7 st7 hQ7
 subst l7 y7 z7
 obtain ⟨rfl, N7q, e7⟩ := hQ7
 have N7 := Fr.app N6 N7q
 obtain ⟨fs, hr, hrun, hended, hW, hsame⟩ := X7.leave (v := none) (fun _ => rfl)
 refine ⟨_, _, castTop (aE9 m a0_ p1_) ?_, hrun, hended, _, _, rfl, ?_, ⟨_, rfl⟩, hW, (hsame.mono (by decide) (by decide))⟩
 · show oZ p e below s₁ (mkF m 0 #[oA a0_, oI p1_, .unset] []) _
   refine XS.iloadN X0.here hx rfl (oG hby d31 0 rfl) rfl ?_
   refine XS.ifYes X0.here hx rfl (pc0 := 1) (pc' := 31) rfl (oG hby d31 1 rfl) rfl ((if0 _ _).trans (flt hf0).2.1) (by decide) (by decide) ?_
   refine XS.iloadN X0.here hx rfl (oG hby d31 2 rfl) rfl ?_
   refine st1 _ ?_
   show oZ p e below T1 (mkF m 35 #[oA a0_, oI p1_, .unset] [(.int (p1_ >>> ((6 : Int32) &&& 31)))]) _
   rw [hf1]
   refine XS.istoreN X1.here hx rfl (oG hby d31 4 rfl) rfl (l' := #[oA a0_, oI p1_, oI 0]) rfl ?_
   refine XS.aloadN X1.here hx rfl (oG hby d31 5 rfl) rfl rfl ?_
   refine XS.iloadN X1.here hx rfl (oG hby d31 6 rfl) rfl ?_
   refine st2.trans ?_
   refine XS.aloadN X2.here hx rfl (oG hby d31 8 rfl) rfl rfl ?_
   refine st3 _ ?_
   refine XS.iloadN X3.here hx rfl (oG hby d31 10 rfl) rfl ?_
   show oZ p e below T3 (mkF m 46 #[oA a0_, oI p1_, oI 0] [(.int 0), (.ref aT)]) _
   jvm_step X3.here [X3.here.top, hx, (oG hby d31 11 rfl), Value.category]
   refine X3.laload hx (j := (0 : Int32)) (v := (.long (aP.getD ((0 : Int32)).toNatClampNeg 0))) (by rw [e3]; exact A4.1) (State.isArrayOf_alike hZ.alike A4.2.1) A4.2.2 hin4 hat4' (g := (mkF m 47 #[oA a0_, oI p1_, oI 0] [(.int 0), (.ref aT), (.int 0), (.ref aT)])) rfl rfl (oG hby d31 12 rfl) _ ?_
   refine XS.lconst X3.here hx rfl (oG hby d31 13 rfl) ?_
   show oZ p e below T3 (mkF m 49 #[oA a0_, oI p1_, oI 0] [(.long 1), (.long (aP.getD ((0 : Int32)).toNatClampNeg 0)), (.int 0), (.ref aT)]) _
   refine XS.iloadN X3.here hx rfl (oG hby d31 14 rfl) rfl ?_
   refine XS.lshl X3.here hx rfl (oG hby d31 15 rfl) rfl ?_
   refine XS.lor X3.here hx rfl (oG hby d31 16 rfl) rfl ?_
   refine st6 _ ?_
   refine XS.aloadN X6.here hx rfl (oG hby d31 18 rfl) rfl rfl ?_
   refine st7.trans ?_
   show oZ p e below T7 (mkF m 57 #[oA a0_, oI p1_, oI 0] []) _
   exact X7.returnOut hx Bd.returns (oG hby d31 20 rfl) hr
 · show pV Z a0_ p1_ aX aT bG aP h0 n0 _ T7.heap _
   rw [e7]
   exact ⟨rfl, N7, K6, V6⟩
def mG (Z : State) (a0_ : Addr) (p1_ : Int32) (aW : Int64) (aI : Int32) (aC : Addr) (aZ : Int32) (aM : Addr) (aF : Int32) (aA : Addr) (aN : Int32) (aG : List Int64) (h0 : Heap) (n0 : Nat) (v : Option Value) (h : Heap) (L : List Loc) : Prop := v = some (.int 0) ∧ Fr n0 L ∧ Keep h0 h [aA, aC, a0_] ∧ cY Z h aA aN (aG.set ((0 : Int32)).toNatClampNeg ((aG.getD ((0 : Int32)).toNatClampNeg 0) ||| (cJ (1 : Int64) p1_))) ∧ bC Z h aC aZ ∧ Fld Z h a0_ oC1 "toSkip" "J" (.long aW) ∧ Fld Z h a0_ oC1 "taken" "I" (.int (aI + (1 : Int32))) ∧ Fld Z h a0_ oC1 "chosen" "[I" (.ref aC) ∧ Fld Z h a0_ oC1 "has" "Ljava/util/BitSet;" (.ref aM) ∧ Exa Z h a0_ oC1
theorem tS (l : Launch) (Z : State) (a0 : Array Value) (hw : oH a0 Z) (ws : List Jvm.Cond) (a0_ : Addr) (p1_ : Int32) (aW : Int64) (aI : Int32) (aC : Addr) (aZ : Int32) (aM : Addr) (aF : Int32) (aA : Addr) (aN : Int32) (aG : List Int64) (h0 : Heap) (n0 : Nat) (Z0 : n0 ≤ h0.size) (cE : Fld Z h0 a0_ oC1 "toSkip" "J" (.long aW)) (dF : Fld Z h0 a0_ oC1 "taken" "I" (.int aI)) (cV : Fld Z h0 a0_ oC1 "chosen" "[I" (.ref aC)) (cZ : bC Z h0 aC aZ) (dR : Fld Z h0 a0_ oC1 "has" "Ljava/util/BitSet;" (.ref aM)) (S__assertionsDisabled : Sta Z h0 oC3 "$assertionsDisabled" "Z" (.int 1)) (cI : Exa Z h0 aM oC3) (bQ : Fld Z h0 aM oC3 "wordsInUse" "I" (.int aF)) (dA : Fld Z h0 aM oC3 "words" "[J" (.ref aA)) (cK : cY Z h0 aA aN aG) (eI : n0 ≤ aA) (fW : n0 ≤ aC) (bR : Exa Z h0 a0_ oC1) (eM : n0 ≤ a0_) (hf0 : ¬ ((0 : Int32) < (lcmpW aW (0 : Int64)))) (hf1 : aI < aZ) (hf2 : ¬ (p1_ < (0 : Int32))) (hf3 : (p1_ >>> ((6 : Int32) &&& 31)) = (0 : Int32)) (hf4 : (0 : Int32) < aF) (hf5 : (0 : Int32) < aN) (hf6 : (lcmpW ((aG.getD ((0 : Int32)).toNatClampNeg 0) &&& (cJ (1 : Int64) p1_)) (0 : Int64)) = (0 : Int32)) (hf7 : ¬ (aF < ((0 : Int32) + (1 : Int32)))) (hf8 : ((0 : Int32)).toNatClampNeg < aG.length) (hf9 : ¬ (a0_ = aA)) (hf10 : ¬ (aC = aA)) (hf11 : ¬ (aI < 0)) (hf12 : ¬ (a0_ = aC)) (hf13 : ¬ (aC = a0_)) (hf14 : ¬ ((aI + (1 : Int32)) = aZ)) (hf15 : ¬ (aA = aC)) (hf16 : ¬ (aA = a0_)) :
   oMet l oM0 prog_30_method_2_code 2 (some .boolean) ws (oR 3 0 0 60) Z h0 #[(.ref a0_), (.int p1_)] (mG Z a0_ p1_ aW aI aC aZ aM aF aA aN aG h0 n0) := by
 refine oBd n0 (plainFor_of_name mV) ?_
 intro p e s m below meth c s₁ Bd hx hZ hby hml hown hnm X0 e0 N0
 obtain ⟨T1, X1, e1, st1⟩ := getF X0 hx hZ hown (host := "") (Or.inl (oW hw 101 rfl)) Via.refl e0 cE (g := (mkF m 1 #[oA a0_, oI p1_] [(.ref a0_)])) rfl rfl (oG hby d28 1 rfl)
 obtain ⟨T2, X2, e2, st2⟩ := getF X1 hx hZ hown (host := "") (Or.inl (oW hw 173 rfl)) Via.refl e1 dF (g := (mkF m 22 #[oA a0_, oI p1_] [(.ref a0_)])) rfl rfl (oG hby d28 14 rfl)
 obtain ⟨T3, X3, e3, st3⟩ := getF X2 hx hZ hown (host := "") (Or.inl (oW hw 103 rfl)) Via.refl e2 cV (g := (mkF m 26 #[oA a0_, oI p1_] [(.ref a0_), (.int aI)])) rfl rfl (oG hby d28 16 rfl)
 obtain ⟨c4, A4, S4, M4⟩ := dE cZ
 obtain ⟨T5, X5, e5, st5⟩ := getF X3 hx hZ hown (host := "") (Or.inl (oW hw 127 rfl)) Via.refl e3 dR (g := (mkF m 34 #[oA a0_, oI p1_] [(.ref a0_)])) rfl rfl (oG hby d28 20 rfl)
 obtain ⟨cq6, kq6, q6a, q6b, q6c⟩ := isOf hZ e5 cI
 obtain ⟨_, _, ⟨T6, L6, k6, n6⟩, -, X6, ⟨Lc6, hQ6, l6, y6, z6⟩, st6⟩ := X5.virtualBack hx (y := oM4) (z := oM4) hown (mvT hZ (oW hw 175 rfl)) (mvT hZ (oW hw 176 rfl)) (notFace_of_selects (args := #[]) (mvT hZ (oW hw 178 rfl))) (mvT hZ (oW hw 178 rfl)) (mvT hZ (oW hw 177 rfl)) (by decide) (backOf (W := 0) (nX l Z a0 hw [] aM p1_ aF aA aN aG h0 n0 Z0 S__assertionsDisabled cI bQ dA cK hf2 hf3 hf4 hf5 hf6) hZ (oW hw 179 rfl) (oW hw 107 rfl) (by decide) (by decide)) q6a q6c (g := (mkF m 38 #[oA a0_, oI p1_] [(.int p1_), (.ref aM)])) rfl (by rw [hml]; rfl) (Steps.refl _) (argsL := [(.int p1_)]) (rest := []) (lenOf mW rfl) rfl (by show 2 * 0 + _ ≤ _; exact Nat.le_of_eq rfl) (oG hby d28 22 rfl) (fun _ _ => ⟨rfl, e5, (by decide : 0 + 0 ≤ _), (by decide : 0 + 0 ≤ _)⟩)
 dsimp only [Pt.U, Pt.locs, Pt.cells, Pt.slots] at X6 l6 y6 z6 st6 hQ6
 subst l6 y6 z6
 obtain ⟨rfl, N6q, e6⟩ := hQ6
 have N6 := Fr.app N0 N6q
 obtain ⟨T7, X7, e7, st7⟩ := getF X6 hx hZ hown (host := "") (Or.inl (oW hw 127 rfl)) Via.refl e6 dR (g := (mkF m 45 #[oA a0_, oI p1_] [(.ref a0_)])) rfl rfl (oG hby d28 25 rfl)
 obtain ⟨cq8, kq8, q8a, q8b, q8c⟩ := isOf hZ e7 cI
 obtain ⟨_, _, ⟨T8, L8, k8, n8⟩, -, X8, ⟨Lc8, hQ8, l8, y8, z8⟩, st8⟩ := X7.virtualBack hx (y := oM9) (z := oM9) hown (mvT hZ (oW hw 186 rfl)) (mvT hZ (oW hw 187 rfl)) (notFace_of_selects (args := #[]) (mvT hZ (oW hw 189 rfl))) (mvT hZ (oW hw 189 rfl)) (mvT hZ (oW hw 188 rfl)) (by decide) (backOf (W := 0) (rR l Z a0 hw [] aM p1_ aF aA aN aG h0 n0 Z0 bQ cI dA cK eI S__assertionsDisabled hf2 hf3 hf7 hf5 hf8) hZ (oW hw 190 rfl) (oW hw 107 rfl) (by decide) (by decide)) q8a q8c (g := (mkF m 49 #[oA a0_, oI p1_] [(.int p1_), (.ref aM)])) rfl (by rw [hml]; rfl) (Steps.refl _) (argsL := [(.int p1_)]) (rest := []) (lenOf jT rfl) rfl (by show 2 * 0 + _ ≤ _; exact Nat.le_of_eq rfl) (oG hby d28 27 rfl) (fun _ _ => ⟨rfl, e7, (by decide : 0 + 0 ≤ _), (by decide : 0 + 0 ≤ _)⟩)
 dsimp only [Pt.U, Pt.locs, Pt.cells, Pt.slots] at X8 l8 y8 z8 st8 hQ8
 subst l8 y8 z8
 obtain ⟨rfl, N8q, Kq8, Q8_0⟩ := hQ8
 have N8 := Fr.app N6 N8q
 have K8 : Keep h0 T8.heap [aA, aC, a0_] := (Keep.refl h0 [aA, aC, a0_]).trans Kq8 (bJ (Or.inl (oX 0 rfl)))
 have eN := (cV.keep Kq8 (bH hf9))
 obtain ⟨T10, X10, e10, st10⟩ := getF X8 hx hZ hown (host := "") (Or.inl (oW hw 103 rfl)) Via.refl rfl eN (g := (mkF m 53 #[oA a0_, oI p1_] [(.ref a0_)])) rfl rfl (oG hby d28 29 rfl)
 have eO := (dF.keep Kq8 (bH hf9))
 obtain ⟨T12, X12, e12, st12⟩ := getF X10 hx hZ hown (host := "") (Or.inl (oW hw 173 rfl)) Via.refl e10 eO (g := (mkF m 57 #[oA a0_, oI p1_] [(.ref a0_), (.ref aC)])) rfl rfl (oG hby d28 31 rfl)
 have dK := (cZ.keep Kq8 (bH hf10))
 obtain ⟨c14, z14, A14, hin14, -⟩ := iF (j := aI) dK hf11 hf1
 obtain ⟨T15, h15, X15, e15, W15, st15⟩ := stI X12 hx hZ e12 A14 (j := aI) hin14 (g := (mkF m 61 #[oA a0_, oI p1_] [(.int p1_), (.int aI), (.ref aC)])) rfl rfl (oG hby d28 33 rfl)
 have V15 := iG dK hf11 hf1 W15
 have K15 : Keep h0 h15 [aA, aC, a0_] := K8.wr W15 (Or.inl (oX 1 rfl))
 have N15 := Fr.snoc X15 N8 fW
 have dB := (eO.other W15 (Or.inl hf12))
 obtain ⟨T17, X17, e17, st17⟩ := getF X15 hx hZ hown (host := "") (Or.inl (oW hw 173 rfl)) Via.refl e15 dB (g := (mkF m 64 #[oA a0_, oI p1_] [(.ref a0_), (.ref a0_)])) rfl rfl (oG hby d28 36 rfl)
 have gF := ((bR.keep Kq8).wr W15)
 obtain ⟨T19, h19, X19, e19, W19, st19⟩ := putF X17 hx hZ hown (host := "") (Or.inl (oW hw 173 rfl)) Via.refl e17 dB gF (Or.inl (oW hw 174 rfl)) (oW hw 95 rfl) (ty := .int) (by decide) rfl rfl (g := (mkF m 69 #[oA a0_, oI p1_] [(.int (aI + (1 : Int32))), (.ref a0_)])) rfl rfl (oG hby d28 39 rfl)
 have Fw19 := dB.same W19
 have K19 : Keep h0 h19 [aA, aC, a0_] := K15.wr W19 (Or.inl (oX 2 rfl))
 have N19 := Fr.snoc X19 N15 eM
 obtain ⟨T20, X20, e20, st20⟩ := getF X19 hx hZ hown (host := "") (Or.inl (oW hw 173 rfl)) Via.refl e19 Fw19 (g := (mkF m 73 #[oA a0_, oI p1_] [(.ref a0_)])) rfl rfl (oG hby d28 41 rfl)
 have dZ := ((eN.other W15 (Or.inl hf12)).other W19 (oN (Or.inr (oW hw 104 rfl)) (Or.inl (oW hw 174 rfl)) (t := (.array .int)) (t' := .int)))
 obtain ⟨T22, X22, e22, st22⟩ := getF X20 hx hZ hown (host := "") (Or.inl (oW hw 103 rfl)) Via.refl e20 dZ (g := (mkF m 77 #[oA a0_, oI p1_] [(.ref a0_), (.int (aI + (1 : Int32)))])) rfl rfl (oG hby d28 43 rfl)
 have dL := (V15.other W19 hf13)
 obtain ⟨c24, A24, S24, M24⟩ := dE dL
 have hO := ((Q8_0.other W15 hf15).other W19 hf16)
 have kZ := (((cE.keep Kq8 (bH hf9)).other W15 (Or.inl hf12)).other W19 (oN (Or.inl (oW hw 102 rfl)) (Or.inl (oW hw 174 rfl)) (t := .long) (t' := .int)))
 have nY := (((dR.keep Kq8 (bH hf9)).other W15 (Or.inl hf12)).other W19 (oN (Or.inr (oW hw 128 rfl)) (Or.inl (oW hw 174 rfl)) (t := (.object oC3)) (t' := .int)))
 have yH := (gF.wr W19)
 obtain ⟨fs, hr, hrun, hended, hW, hsame⟩ := X22.leave (v := some (.int 0)) (fun h => by rw [Bd.returns] at h; cases h)
 refine ⟨_, _, castTop (pL m a0_ p1_) ?_, hrun, hended, _, _, rfl, ?_, ⟨_, rfl⟩, hW, (hsame.mono (by decide) (by decide))⟩
 · show oZ p e below s₁ (mkF m 0 #[oA a0_, oI p1_] []) _
   refine XS.aloadN X0.here hx rfl (oG hby d28 0 rfl) rfl rfl ?_
   refine st1 _ ?_
   refine XS.lconst X1.here hx rfl (oG hby d28 2 rfl) ?_
   show oZ p e below T1 (mkF m 5 #[oA a0_, oI p1_] [(.long 0), (.long aW)]) _
   refine XS.lcmp X1.here hx rfl (oG hby d28 3 rfl) rfl ?_
   refine XS.ifYes X1.here hx rfl (pc0 := 6) (pc' := 21) rfl (oG hby d28 4 rfl) rfl ((if0 _ _).trans (flt hf0).2.2.2) (by decide) (by decide) ?_
   refine XS.aloadN X1.here hx rfl (oG hby d28 13 rfl) rfl rfl ?_
   refine st2 _ ?_
   refine XS.aloadN X2.here hx rfl (oG hby d28 15 rfl) rfl rfl ?_
   refine st3 _ ?_
   refine X3.arraylength hx (by rw [e3]; exact A4.1) (State.isArrayOf_alike hZ.alike A4.2.1) (g := (mkF m 29 #[oA a0_, oI p1_] [(.ref aC), (.int aI)])) rfl rfl (oG hby d28 17 rfl) _ ?_
   rw [len_of S4 M4]
   refine XS.icmpNo X3.here hx rfl (oG hby d28 18 rfl) rfl (tlt hf1).2.1 ?_
   refine XS.aloadN X3.here hx rfl (oG hby d28 19 rfl) rfl rfl ?_
   refine st5 _ ?_
   refine XS.iloadN X5.here hx rfl (oG hby d28 21 rfl) rfl ?_
   show oZ p e below T5 (mkF m 38 #[oA a0_, oI p1_] [(.int p1_), (.ref aM)]) _
   refine st6.trans ?_
   refine XS.ifNo X6.here hx rfl (oG hby d28 23 rfl) rfl ((if0 _ _).trans (teq (rfl : (0 : Int32) = (0 : Int32))).2) ?_
   refine XS.aloadN X6.here hx rfl (oG hby d28 24 rfl) rfl rfl ?_
   refine st7 _ ?_
   refine XS.iloadN X7.here hx rfl (oG hby d28 26 rfl) rfl ?_
   refine st8.trans ?_
   refine XS.aloadN X8.here hx rfl (oG hby d28 28 rfl) rfl rfl ?_
   refine st10 _ ?_
   refine XS.aloadN X10.here hx rfl (oG hby d28 30 rfl) rfl rfl ?_
   refine st12 _ ?_
   refine XS.iloadN X12.here hx rfl (oG hby d28 32 rfl) rfl ?_
   show oZ p e below T12 (mkF m 61 #[oA a0_, oI p1_] [(.int p1_), (.int aI), (.ref aC)]) _
   refine st15 _ ?_
   refine XS.aloadN X15.here hx rfl (oG hby d28 34 rfl) rfl rfl ?_
   refine XS.dup X15.here hx rfl (oG hby d28 35 rfl) rfl rfl ?_
   refine st17 _ ?_
   refine XS.iconst X17.here hx rfl (oG hby d28 37 rfl) ?_
   refine XS.iadd X17.here hx rfl (oG hby d28 38 rfl) rfl ?_
   refine st19 _ ?_
   refine XS.aloadN X19.here hx rfl (oG hby d28 40 rfl) rfl rfl ?_
   refine st20 _ ?_
   refine XS.aloadN X20.here hx rfl (oG hby d28 42 rfl) rfl rfl ?_
   refine st22 _ ?_
   show oZ p e below T22 (mkF m 80 #[oA a0_, oI p1_] [(.ref aC), (.int (aI + (1 : Int32)))]) _
   refine X22.arraylength hx (by rw [e22]; exact A24.1) (State.isArrayOf_alike hZ.alike A24.2.1) (g := (mkF m 80 #[oA a0_, oI p1_] [(.ref aC), (.int (aI + (1 : Int32)))])) rfl rfl (oG hby d28 44 rfl) _ ?_
   rw [len_of S24 M24]
   refine XS.icmpYes X22.here hx rfl (pc0 := 81) (pc' := 88) rfl (oG hby d28 45 rfl) rfl (feq hf14).2 (by decide) (by decide) ?_
   refine XS.iconst X22.here hx rfl (oG hby d28 48 rfl) ?_
   show oZ p e below T22 (mkF m 89 #[oA a0_, oI p1_] [(.int 0)]) _
   exact retN X22 hx (t := .boolean) Bd.returns (by simp) (oG hby d28 49 rfl) hr
 · show mG Z a0_ p1_ aW aI aC aZ aM aF aA aN aG h0 n0 _ T22.heap _
   rw [e22]
   exact ⟨rfl, N19, K19, hO, dL, kZ, Fw19, dZ, nY, yH⟩
def mH (Z : State) (a0_ : Addr) (p1_ : Int32) (aW : Int64) (aI : Int32) (aC : Addr) (aZ : Int32) (aM : Addr) (aF : Int32) (aA : Addr) (aN : Int32) (aG : List Int64) (h0 : Heap) (n0 : Nat) (v : Option Value) (h : Heap) (L : List Loc) : Prop := v = some (.int 1) ∧ Fr n0 L ∧ Keep h0 h [aA, aC, a0_] ∧ cY Z h aA aN (aG.set ((0 : Int32)).toNatClampNeg ((aG.getD ((0 : Int32)).toNatClampNeg 0) ||| (cJ (1 : Int64) p1_))) ∧ bC Z h aC aZ ∧ Fld Z h a0_ oC1 "toSkip" "J" (.long aW) ∧ Fld Z h a0_ oC1 "taken" "I" (.int (aI + (1 : Int32))) ∧ Fld Z h a0_ oC1 "chosen" "[I" (.ref aC) ∧ Fld Z h a0_ oC1 "has" "Ljava/util/BitSet;" (.ref aM) ∧ Exa Z h a0_ oC1
theorem tT (l : Launch) (Z : State) (a0 : Array Value) (hw : oH a0 Z) (ws : List Jvm.Cond) (a0_ : Addr) (p1_ : Int32) (aW : Int64) (aI : Int32) (aC : Addr) (aZ : Int32) (aM : Addr) (aF : Int32) (aA : Addr) (aN : Int32) (aG : List Int64) (h0 : Heap) (n0 : Nat) (Z0 : n0 ≤ h0.size) (cE : Fld Z h0 a0_ oC1 "toSkip" "J" (.long aW)) (dF : Fld Z h0 a0_ oC1 "taken" "I" (.int aI)) (cV : Fld Z h0 a0_ oC1 "chosen" "[I" (.ref aC)) (cZ : bC Z h0 aC aZ) (dR : Fld Z h0 a0_ oC1 "has" "Ljava/util/BitSet;" (.ref aM)) (S__assertionsDisabled : Sta Z h0 oC3 "$assertionsDisabled" "Z" (.int 1)) (cI : Exa Z h0 aM oC3) (bQ : Fld Z h0 aM oC3 "wordsInUse" "I" (.int aF)) (dA : Fld Z h0 aM oC3 "words" "[J" (.ref aA)) (cK : cY Z h0 aA aN aG) (eI : n0 ≤ aA) (fW : n0 ≤ aC) (bR : Exa Z h0 a0_ oC1) (eM : n0 ≤ a0_) (hf0 : ¬ ((0 : Int32) < (lcmpW aW (0 : Int64)))) (hf1 : aI < aZ) (hf2 : ¬ (p1_ < (0 : Int32))) (hf3 : (p1_ >>> ((6 : Int32) &&& 31)) = (0 : Int32)) (hf4 : (0 : Int32) < aF) (hf5 : (0 : Int32) < aN) (hf6 : (lcmpW ((aG.getD ((0 : Int32)).toNatClampNeg 0) &&& (cJ (1 : Int64) p1_)) (0 : Int64)) = (0 : Int32)) (hf7 : ¬ (aF < ((0 : Int32) + (1 : Int32)))) (hf8 : ((0 : Int32)).toNatClampNeg < aG.length) (hf9 : ¬ (a0_ = aA)) (hf10 : ¬ (aC = aA)) (hf11 : ¬ (aI < 0)) (hf12 : ¬ (a0_ = aC)) (hf13 : ¬ (aC = a0_)) (hf14 : (aI + (1 : Int32)) = aZ) (hf15 : ¬ (aA = aC)) (hf16 : ¬ (aA = a0_)) :
   oMet l oM0 prog_30_method_2_code 2 (some .boolean) ws (oR 3 0 0 60) Z h0 #[(.ref a0_), (.int p1_)] (mH Z a0_ p1_ aW aI aC aZ aM aF aA aN aG h0 n0) := by
 refine oBd n0 (plainFor_of_name mV) ?_
 intro p e s m below meth c s₁ Bd hx hZ hby hml hown hnm X0 e0 N0
 obtain ⟨T1, X1, e1, st1⟩ := getF X0 hx hZ hown (host := "") (Or.inl (oW hw 101 rfl)) Via.refl e0 cE (g := (mkF m 1 #[oA a0_, oI p1_] [(.ref a0_)])) rfl rfl (oG hby d28 1 rfl)
 obtain ⟨T2, X2, e2, st2⟩ := getF X1 hx hZ hown (host := "") (Or.inl (oW hw 173 rfl)) Via.refl e1 dF (g := (mkF m 22 #[oA a0_, oI p1_] [(.ref a0_)])) rfl rfl (oG hby d28 14 rfl)
 obtain ⟨T3, X3, e3, st3⟩ := getF X2 hx hZ hown (host := "") (Or.inl (oW hw 103 rfl)) Via.refl e2 cV (g := (mkF m 26 #[oA a0_, oI p1_] [(.ref a0_), (.int aI)])) rfl rfl (oG hby d28 16 rfl)
 obtain ⟨c4, A4, S4, M4⟩ := dE cZ
 obtain ⟨T5, X5, e5, st5⟩ := getF X3 hx hZ hown (host := "") (Or.inl (oW hw 127 rfl)) Via.refl e3 dR (g := (mkF m 34 #[oA a0_, oI p1_] [(.ref a0_)])) rfl rfl (oG hby d28 20 rfl)
 obtain ⟨cq6, kq6, q6a, q6b, q6c⟩ := isOf hZ e5 cI
 obtain ⟨_, _, ⟨T6, L6, k6, n6⟩, -, X6, ⟨Lc6, hQ6, l6, y6, z6⟩, st6⟩ := X5.virtualBack hx (y := oM4) (z := oM4) hown (mvT hZ (oW hw 175 rfl)) (mvT hZ (oW hw 176 rfl)) (notFace_of_selects (args := #[]) (mvT hZ (oW hw 178 rfl))) (mvT hZ (oW hw 178 rfl)) (mvT hZ (oW hw 177 rfl)) (by decide) (backOf (W := 0) (nX l Z a0 hw [] aM p1_ aF aA aN aG h0 n0 Z0 S__assertionsDisabled cI bQ dA cK hf2 hf3 hf4 hf5 hf6) hZ (oW hw 179 rfl) (oW hw 107 rfl) (by decide) (by decide)) q6a q6c (g := (mkF m 38 #[oA a0_, oI p1_] [(.int p1_), (.ref aM)])) rfl (by rw [hml]; rfl) (Steps.refl _) (argsL := [(.int p1_)]) (rest := []) (lenOf mW rfl) rfl (by show 2 * 0 + _ ≤ _; exact Nat.le_of_eq rfl) (oG hby d28 22 rfl) (fun _ _ => ⟨rfl, e5, (by decide : 0 + 0 ≤ _), (by decide : 0 + 0 ≤ _)⟩)
 dsimp only [Pt.U, Pt.locs, Pt.cells, Pt.slots] at X6 l6 y6 z6 st6 hQ6
 subst l6 y6 z6
 obtain ⟨rfl, N6q, e6⟩ := hQ6
 have N6 := Fr.app N0 N6q
 obtain ⟨T7, X7, e7, st7⟩ := getF X6 hx hZ hown (host := "") (Or.inl (oW hw 127 rfl)) Via.refl e6 dR (g := (mkF m 45 #[oA a0_, oI p1_] [(.ref a0_)])) rfl rfl (oG hby d28 25 rfl)
 obtain ⟨cq8, kq8, q8a, q8b, q8c⟩ := isOf hZ e7 cI
 obtain ⟨_, _, ⟨T8, L8, k8, n8⟩, -, X8, ⟨Lc8, hQ8, l8, y8, z8⟩, st8⟩ := X7.virtualBack hx (y := oM9) (z := oM9) hown (mvT hZ (oW hw 186 rfl)) (mvT hZ (oW hw 187 rfl)) (notFace_of_selects (args := #[]) (mvT hZ (oW hw 189 rfl))) (mvT hZ (oW hw 189 rfl)) (mvT hZ (oW hw 188 rfl)) (by decide) (backOf (W := 0) (rR l Z a0 hw [] aM p1_ aF aA aN aG h0 n0 Z0 bQ cI dA cK eI S__assertionsDisabled hf2 hf3 hf7 hf5 hf8) hZ (oW hw 190 rfl) (oW hw 107 rfl) (by decide) (by decide)) q8a q8c (g := (mkF m 49 #[oA a0_, oI p1_] [(.int p1_), (.ref aM)])) rfl (by rw [hml]; rfl) (Steps.refl _) (argsL := [(.int p1_)]) (rest := []) (lenOf jT rfl) rfl (by show 2 * 0 + _ ≤ _; exact Nat.le_of_eq rfl) (oG hby d28 27 rfl) (fun _ _ => ⟨rfl, e7, (by decide : 0 + 0 ≤ _), (by decide : 0 + 0 ≤ _)⟩)
 dsimp only [Pt.U, Pt.locs, Pt.cells, Pt.slots] at X8 l8 y8 z8 st8 hQ8
 subst l8 y8 z8
 obtain ⟨rfl, N8q, Kq8, Q8_0⟩ := hQ8
 have N8 := Fr.app N6 N8q
 have K8 : Keep h0 T8.heap [aA, aC, a0_] := (Keep.refl h0 [aA, aC, a0_]).trans Kq8 (bJ (Or.inl (oX 0 rfl)))
 have eN := (cV.keep Kq8 (bH hf9))
 obtain ⟨T10, X10, e10, st10⟩ := getF X8 hx hZ hown (host := "") (Or.inl (oW hw 103 rfl)) Via.refl rfl eN (g := (mkF m 53 #[oA a0_, oI p1_] [(.ref a0_)])) rfl rfl (oG hby d28 29 rfl)
 have eO := (dF.keep Kq8 (bH hf9))
 obtain ⟨T12, X12, e12, st12⟩ := getF X10 hx hZ hown (host := "") (Or.inl (oW hw 173 rfl)) Via.refl e10 eO (g := (mkF m 57 #[oA a0_, oI p1_] [(.ref a0_), (.ref aC)])) rfl rfl (oG hby d28 31 rfl)
 have dK := (cZ.keep Kq8 (bH hf10))
 obtain ⟨c14, z14, A14, hin14, -⟩ := iF (j := aI) dK hf11 hf1
 obtain ⟨T15, h15, X15, e15, W15, st15⟩ := stI X12 hx hZ e12 A14 (j := aI) hin14 (g := (mkF m 61 #[oA a0_, oI p1_] [(.int p1_), (.int aI), (.ref aC)])) rfl rfl (oG hby d28 33 rfl)
 have V15 := iG dK hf11 hf1 W15
 have K15 : Keep h0 h15 [aA, aC, a0_] := K8.wr W15 (Or.inl (oX 1 rfl))
 have N15 := Fr.snoc X15 N8 fW
 have dB := (eO.other W15 (Or.inl hf12))
 obtain ⟨T17, X17, e17, st17⟩ := getF X15 hx hZ hown (host := "") (Or.inl (oW hw 173 rfl)) Via.refl e15 dB (g := (mkF m 64 #[oA a0_, oI p1_] [(.ref a0_), (.ref a0_)])) rfl rfl (oG hby d28 36 rfl)
 have gF := ((bR.keep Kq8).wr W15)
 obtain ⟨T19, h19, X19, e19, W19, st19⟩ := putF X17 hx hZ hown (host := "") (Or.inl (oW hw 173 rfl)) Via.refl e17 dB gF (Or.inl (oW hw 174 rfl)) (oW hw 95 rfl) (ty := .int) (by decide) rfl rfl (g := (mkF m 69 #[oA a0_, oI p1_] [(.int (aI + (1 : Int32))), (.ref a0_)])) rfl rfl (oG hby d28 39 rfl)
 have Fw19 := dB.same W19
 have K19 : Keep h0 h19 [aA, aC, a0_] := K15.wr W19 (Or.inl (oX 2 rfl))
 have N19 := Fr.snoc X19 N15 eM
 obtain ⟨T20, X20, e20, st20⟩ := getF X19 hx hZ hown (host := "") (Or.inl (oW hw 173 rfl)) Via.refl e19 Fw19 (g := (mkF m 73 #[oA a0_, oI p1_] [(.ref a0_)])) rfl rfl (oG hby d28 41 rfl)
 have dZ := ((eN.other W15 (Or.inl hf12)).other W19 (oN (Or.inr (oW hw 104 rfl)) (Or.inl (oW hw 174 rfl)) (t := (.array .int)) (t' := .int)))
 obtain ⟨T22, X22, e22, st22⟩ := getF X20 hx hZ hown (host := "") (Or.inl (oW hw 103 rfl)) Via.refl e20 dZ (g := (mkF m 77 #[oA a0_, oI p1_] [(.ref a0_), (.int (aI + (1 : Int32)))])) rfl rfl (oG hby d28 43 rfl)
 have dL := (V15.other W19 hf13)
 obtain ⟨c24, A24, S24, M24⟩ := dE dL
 have hO := ((Q8_0.other W15 hf15).other W19 hf16)
 have kZ := (((cE.keep Kq8 (bH hf9)).other W15 (Or.inl hf12)).other W19 (oN (Or.inl (oW hw 102 rfl)) (Or.inl (oW hw 174 rfl)) (t := .long) (t' := .int)))
 have nY := (((dR.keep Kq8 (bH hf9)).other W15 (Or.inl hf12)).other W19 (oN (Or.inr (oW hw 128 rfl)) (Or.inl (oW hw 174 rfl)) (t := (.object oC3)) (t' := .int)))
 have yH := (gF.wr W19)
 obtain ⟨fs, hr, hrun, hended, hW, hsame⟩ := X22.leave (v := some (.int 1)) (fun h => by rw [Bd.returns] at h; cases h)
 refine ⟨_, _, castTop (pL m a0_ p1_) ?_, hrun, hended, _, _, rfl, ?_, ⟨_, rfl⟩, hW, (hsame.mono (by decide) (by decide))⟩
 · show oZ p e below s₁ (mkF m 0 #[oA a0_, oI p1_] []) _
   refine XS.aloadN X0.here hx rfl (oG hby d28 0 rfl) rfl rfl ?_
   refine st1 _ ?_
   refine XS.lconst X1.here hx rfl (oG hby d28 2 rfl) ?_
   show oZ p e below T1 (mkF m 5 #[oA a0_, oI p1_] [(.long 0), (.long aW)]) _
   refine XS.lcmp X1.here hx rfl (oG hby d28 3 rfl) rfl ?_
   refine XS.ifYes X1.here hx rfl (pc0 := 6) (pc' := 21) rfl (oG hby d28 4 rfl) rfl ((if0 _ _).trans (flt hf0).2.2.2) (by decide) (by decide) ?_
   refine XS.aloadN X1.here hx rfl (oG hby d28 13 rfl) rfl rfl ?_
   refine st2 _ ?_
   refine XS.aloadN X2.here hx rfl (oG hby d28 15 rfl) rfl rfl ?_
   refine st3 _ ?_
   refine X3.arraylength hx (by rw [e3]; exact A4.1) (State.isArrayOf_alike hZ.alike A4.2.1) (g := (mkF m 29 #[oA a0_, oI p1_] [(.ref aC), (.int aI)])) rfl rfl (oG hby d28 17 rfl) _ ?_
   rw [len_of S4 M4]
   refine XS.icmpNo X3.here hx rfl (oG hby d28 18 rfl) rfl (tlt hf1).2.1 ?_
   refine XS.aloadN X3.here hx rfl (oG hby d28 19 rfl) rfl rfl ?_
   refine st5 _ ?_
   refine XS.iloadN X5.here hx rfl (oG hby d28 21 rfl) rfl ?_
   show oZ p e below T5 (mkF m 38 #[oA a0_, oI p1_] [(.int p1_), (.ref aM)]) _
   refine st6.trans ?_
   refine XS.ifNo X6.here hx rfl (oG hby d28 23 rfl) rfl ((if0 _ _).trans (teq (rfl : (0 : Int32) = (0 : Int32))).2) ?_
   refine XS.aloadN X6.here hx rfl (oG hby d28 24 rfl) rfl rfl ?_
   refine st7 _ ?_
   refine XS.iloadN X7.here hx rfl (oG hby d28 26 rfl) rfl ?_
   refine st8.trans ?_
   refine XS.aloadN X8.here hx rfl (oG hby d28 28 rfl) rfl rfl ?_
   refine st10 _ ?_
   refine XS.aloadN X10.here hx rfl (oG hby d28 30 rfl) rfl rfl ?_
   refine st12 _ ?_
   refine XS.iloadN X12.here hx rfl (oG hby d28 32 rfl) rfl ?_
   show oZ p e below T12 (mkF m 61 #[oA a0_, oI p1_] [(.int p1_), (.int aI), (.ref aC)]) _
   refine st15 _ ?_
   refine XS.aloadN X15.here hx rfl (oG hby d28 34 rfl) rfl rfl ?_
   refine XS.dup X15.here hx rfl (oG hby d28 35 rfl) rfl rfl ?_
   refine st17 _ ?_
   refine XS.iconst X17.here hx rfl (oG hby d28 37 rfl) ?_
   refine XS.iadd X17.here hx rfl (oG hby d28 38 rfl) rfl ?_
   refine st19 _ ?_
   refine XS.aloadN X19.here hx rfl (oG hby d28 40 rfl) rfl rfl ?_
   refine st20 _ ?_
   refine XS.aloadN X20.here hx rfl (oG hby d28 42 rfl) rfl rfl ?_
   refine st22 _ ?_
   show oZ p e below T22 (mkF m 80 #[oA a0_, oI p1_] [(.ref aC), (.int (aI + (1 : Int32)))]) _
   refine X22.arraylength hx (by rw [e22]; exact A24.1) (State.isArrayOf_alike hZ.alike A24.2.1) (g := (mkF m 80 #[oA a0_, oI p1_] [(.ref aC), (.int (aI + (1 : Int32)))])) rfl rfl (oG hby d28 44 rfl) _ ?_
   rw [len_of S24 M24]
   refine XS.icmpNo X22.here hx rfl (oG hby d28 45 rfl) rfl (teq hf14).2 ?_
   refine XS.iconst X22.here hx rfl (oG hby d28 46 rfl) ?_
   refine XS.goto X22.here hx rfl (pc0 := 85) (pc' := 89) rfl (oG hby d28 47 rfl) (by decide) (by decide) ?_
   show oZ p e below T22 (mkF m 89 #[oA a0_, oI p1_] [(.int 1)]) _
   exact retN X22 hx (t := .boolean) Bd.returns (by simp) (oG hby d28 49 rfl) hr
 · show mH Z a0_ p1_ aW aI aC aZ aM aF aA aN aG h0 n0 _ T22.heap _
   rw [e22]
   exact ⟨rfl, N19, K19, hO, dL, kZ, Fw19, dZ, nY, yH⟩
theorem xP (l : Launch) (Z : State) (a0 : Array Value) (hw : oH a0 Z) (ws : List Jvm.Cond) (sp : Addr) (x : Int32) (ch bs wd : Addr) (n : Int32) (us : Value) (st : fC) (h0 : Heap) (n0 : Nat) (Z0 : n0 ≤ h0.size) (S : dQ Z h0 sp ch bs wd n us st) (D : kV n0 sp ch bs wd) (SA : Sta Z h0 oC3 "$assertionsDisabled" "Z" (.int 1)) (hx0 : ¬ (x < (0 : Int32))) (hx6 : (x >>> ((6 : Int32) &&& 31)) = (0 : Int32)) (ht0 : ¬ (st.2.1 < 0)) (htn : st.2.1 < n) (hu : st.2.2.1 = 0 ∨ st.2.2.1 = 1) :
   oMet l oM0 prog_30_method_2_code 2 (some .boolean) ws (oR 3 0 0 60) Z h0 #[(.ref sp), (.int x)] (aC4 Z sp ch bs wd n us (dH n x st).1 (dH n x st).2 h0 n0) := by
 obtain ⟨sk, tk, u, w⟩ := st
 obtain ⟨a1, a2, a3, a4, a5, a6, a7, a8, a9, a10, a11⟩ := S
 obtain ⟨G, n1, n2, n3, n4, n5, n6⟩ := D
 dsimp only at a1 a2 a3 a4 a5 a6 a7 a8 a9 a10 a11 ht0 htn hu
 have m1 := Ne.symm n1; have m2 := Ne.symm n2; have m3 := Ne.symm n3; have m4 := Ne.symm n4; have m5 := Ne.symm n5; have m6 := Ne.symm n6
 have hT : ¬ (tk = n) := fun q => by rw [q] at htn; exact Int32.lt_irrefl htn
 by_cases hS : (0 : Int32) < lcmpW sk (0 : Int64)
 · refine dJ (aG9 l Z a0 hw ws sp x sk (.ref ch) (.ref bs) (.int tk) h0 n0 Z0 a2 a1 G.1 a3 a5 a4 (by first | assumption | exact hS | exact hT | exact hL | (intro q; exact absurd q.symm (by assumption)) | decide | exact Nat.le_of_ble_eq_true rfl)) ?_
   rintro v h L ⟨rfl, N, K, b1, b2, b3, b4, b5⟩
   have e : dH n x (sk, tk, u, w) = ((sk - 1, tk, u, w), 0) := by simp only [dH, hS, if_true]
   rw [e]; exact ⟨rfl, N, hG K (bJ (by simp)), b2, b1, b3, b5, b4, a6.keep K (bH m1), a7.keep K, a8.keep K (bH m2), a9.keep K (bH m2), a10.keep K (bH m2), a11.keep K (bH m3)⟩
 · by_cases hH : (0 : Int32) < u ∧ ¬ (lcmpW (w &&& cJ (1 : Int64) x) (0 : Int64) = (0 : Int32))
   · have hU := hH.1; have hL := hH.2
     refine dJ (tR l Z a0 hw ws sp x sk tk ch n bs u wd (1 : Int32) [w] h0 n0 Z0 a2 a4 a3 a6 a5 SA a7 a8 a10 a11 (by first | assumption | exact hS | exact hT | exact hL | (intro q; exact absurd q.symm (by assumption)) | decide | exact Nat.le_of_ble_eq_true rfl) (by first | assumption | exact hS | exact hT | exact hL | (intro q; exact absurd q.symm (by assumption)) | decide | exact Nat.le_of_ble_eq_true rfl) (by first | assumption | exact hS | exact hT | exact hL | (intro q; exact absurd q.symm (by assumption)) | decide | exact Nat.le_of_ble_eq_true rfl) (by first | assumption | exact hS | exact hT | exact hL | (intro q; exact absurd q.symm (by assumption)) | decide | exact Nat.le_of_ble_eq_true rfl) (by first | assumption | exact hS | exact hT | exact hL | (intro q; exact absurd q.symm (by assumption)) | decide | exact Nat.le_of_ble_eq_true rfl) (by first | assumption | exact hS | exact hT | exact hL | (intro q; exact absurd q.symm (by assumption)) | decide | exact Nat.le_of_ble_eq_true rfl) (by first | assumption | exact hS | exact hT | exact hL | (intro q; exact absurd q.symm (by assumption)) | decide | exact Nat.le_of_ble_eq_true rfl) (by first | assumption | exact hS | exact hT | exact hL | (intro q; exact absurd q.symm (by assumption)) | decide | exact Nat.le_of_ble_eq_true rfl)) ?_
     rintro v h L ⟨rfl, N, rfl⟩
     have e : dH n x (sk, tk, u, w) = ((sk, tk, u, w), 0) := by simp only [dH, hS, hH, if_true, if_false, and_self, not_false_eq_true]
     rw [e]; exact ⟨rfl, N, wZ _ _, a1, a2, a3, a4, a5, a6, a7, a8, a9, a10, a11⟩
   · rcases hu with rfl | rfl
     · by_cases hE : tk + (1 : Int32) = n
       · have hL := hE
         refine dJ (uT l Z a0 hw ws sp x sk tk ch n bs (0 : Int32) wd (1 : Int32) [w] us h0 n0 Z0 a2 a4 a3 a6 a5 SA a7 a8 a10 a11 G.2.2.1 a9 G.2.2.2 G.2.1 a1 G.1 (by first | assumption | exact hS | exact hT | exact hL | (intro q; exact absurd q.symm (by assumption)) | decide | exact Nat.le_of_ble_eq_true rfl) (by first | assumption | exact hS | exact hT | exact hL | (intro q; exact absurd q.symm (by assumption)) | decide | exact Nat.le_of_ble_eq_true rfl) (by first | assumption | exact hS | exact hT | exact hL | (intro q; exact absurd q.symm (by assumption)) | decide | exact Nat.le_of_ble_eq_true rfl) (by first | assumption | exact hS | exact hT | exact hL | (intro q; exact absurd q.symm (by assumption)) | decide | exact Nat.le_of_ble_eq_true rfl) (by first | assumption | exact hS | exact hT | exact hL | (intro q; exact absurd q.symm (by assumption)) | decide | exact Nat.le_of_ble_eq_true rfl) (by first | assumption | exact hS | exact hT | exact hL | (intro q; exact absurd q.symm (by assumption)) | decide | exact Nat.le_of_ble_eq_true rfl) (by first | assumption | exact hS | exact hT | exact hL | (intro q; exact absurd q.symm (by assumption)) | decide | exact Nat.le_of_ble_eq_true rfl) (by first | assumption | exact hS | exact hT | exact hL | (intro q; exact absurd q.symm (by assumption)) | decide | exact Nat.le_of_ble_eq_true rfl) (by first | assumption | exact hS | exact hT | exact hL | (intro q; exact absurd q.symm (by assumption)) | decide | exact Nat.le_of_ble_eq_true rfl) (by first | assumption | exact hS | exact hT | exact hL | (intro q; exact absurd q.symm (by assumption)) | decide | exact Nat.le_of_ble_eq_true rfl) (by first | assumption | exact hS | exact hT | exact hL | (intro q; exact absurd q.symm (by assumption)) | decide | exact Nat.le_of_ble_eq_true rfl) (by first | assumption | exact hS | exact hT | exact hL | (intro q; exact absurd q.symm (by assumption)) | decide | exact Nat.le_of_ble_eq_true rfl) (by first | assumption | exact hS | exact hT | exact hL | (intro q; exact absurd q.symm (by assumption)) | decide | exact Nat.le_of_ble_eq_true rfl) (by first | assumption | exact hS | exact hT | exact hL | (intro q; exact absurd q.symm (by assumption)) | decide | exact Nat.le_of_ble_eq_true rfl) (by first | assumption | exact hS | exact hT | exact hL | (intro q; exact absurd q.symm (by assumption)) | decide | exact Nat.le_of_ble_eq_true rfl) (by first | assumption | exact hS | exact hT | exact hL | (intro q; exact absurd q.symm (by assumption)) | decide | exact Nat.le_of_ble_eq_true rfl) (by first | assumption | exact hS | exact hT | exact hL | (intro q; exact absurd q.symm (by assumption)) | decide | exact Nat.le_of_ble_eq_true rfl) (by first | assumption | exact hS | exact hT | exact hL | (intro q; exact absurd q.symm (by assumption)) | decide | exact Nat.le_of_ble_eq_true rfl) (by first | assumption | exact hS | exact hT | exact hL | (intro q; exact absurd q.symm (by assumption)) | decide | exact Nat.le_of_ble_eq_true rfl) (by first | assumption | exact hS | exact hT | exact hL | (intro q; exact absurd q.symm (by assumption)) | decide | exact Nat.le_of_ble_eq_true rfl) (by first | assumption | exact hS | exact hT | exact hL | (intro q; exact absurd q.symm (by assumption)) | decide | exact Nat.le_of_ble_eq_true rfl) (by first | assumption | exact hS | exact hT | exact hL | (intro q; exact absurd q.symm (by assumption)) | decide | exact Nat.le_of_ble_eq_true rfl) (by first | assumption | exact hS | exact hT | exact hL | (intro q; exact absurd q.symm (by assumption)) | decide | exact Nat.le_of_ble_eq_true rfl)) ?_
         have e : dH n x (sk, tk, (0 : Int32), w) = ((sk, tk + 1, 1, w ||| cJ (1 : Int64) x), 1) := by simp only [dH, hS, hH, hE, if_true, if_false]
         rintro v h L ⟨rfl, N, K, b1, b2, b3, b4, b5, b6, b7, b8, b9, b10, b11⟩
         rw [e]; exact ⟨rfl, N, hG K (nT (by simp) (by simp) (by simp) (by simp)), b11, b7, b9, b8, b10, b6, b1, b2, b4, b3, b5⟩
       · have hL := hE
         refine dJ (uS l Z a0 hw ws sp x sk tk ch n bs (0 : Int32) wd (1 : Int32) [w] us h0 n0 Z0 a2 a4 a3 a6 a5 SA a7 a8 a10 a11 G.2.2.1 a9 G.2.2.2 G.2.1 a1 G.1 (by first | assumption | exact hS | exact hT | exact hL | (intro q; exact absurd q.symm (by assumption)) | decide | exact Nat.le_of_ble_eq_true rfl) (by first | assumption | exact hS | exact hT | exact hL | (intro q; exact absurd q.symm (by assumption)) | decide | exact Nat.le_of_ble_eq_true rfl) (by first | assumption | exact hS | exact hT | exact hL | (intro q; exact absurd q.symm (by assumption)) | decide | exact Nat.le_of_ble_eq_true rfl) (by first | assumption | exact hS | exact hT | exact hL | (intro q; exact absurd q.symm (by assumption)) | decide | exact Nat.le_of_ble_eq_true rfl) (by first | assumption | exact hS | exact hT | exact hL | (intro q; exact absurd q.symm (by assumption)) | decide | exact Nat.le_of_ble_eq_true rfl) (by first | assumption | exact hS | exact hT | exact hL | (intro q; exact absurd q.symm (by assumption)) | decide | exact Nat.le_of_ble_eq_true rfl) (by first | assumption | exact hS | exact hT | exact hL | (intro q; exact absurd q.symm (by assumption)) | decide | exact Nat.le_of_ble_eq_true rfl) (by first | assumption | exact hS | exact hT | exact hL | (intro q; exact absurd q.symm (by assumption)) | decide | exact Nat.le_of_ble_eq_true rfl) (by first | assumption | exact hS | exact hT | exact hL | (intro q; exact absurd q.symm (by assumption)) | decide | exact Nat.le_of_ble_eq_true rfl) (by first | assumption | exact hS | exact hT | exact hL | (intro q; exact absurd q.symm (by assumption)) | decide | exact Nat.le_of_ble_eq_true rfl) (by first | assumption | exact hS | exact hT | exact hL | (intro q; exact absurd q.symm (by assumption)) | decide | exact Nat.le_of_ble_eq_true rfl) (by first | assumption | exact hS | exact hT | exact hL | (intro q; exact absurd q.symm (by assumption)) | decide | exact Nat.le_of_ble_eq_true rfl) (by first | assumption | exact hS | exact hT | exact hL | (intro q; exact absurd q.symm (by assumption)) | decide | exact Nat.le_of_ble_eq_true rfl) (by first | assumption | exact hS | exact hT | exact hL | (intro q; exact absurd q.symm (by assumption)) | decide | exact Nat.le_of_ble_eq_true rfl) (by first | assumption | exact hS | exact hT | exact hL | (intro q; exact absurd q.symm (by assumption)) | decide | exact Nat.le_of_ble_eq_true rfl) (by first | assumption | exact hS | exact hT | exact hL | (intro q; exact absurd q.symm (by assumption)) | decide | exact Nat.le_of_ble_eq_true rfl) (by first | assumption | exact hS | exact hT | exact hL | (intro q; exact absurd q.symm (by assumption)) | decide | exact Nat.le_of_ble_eq_true rfl) (by first | assumption | exact hS | exact hT | exact hL | (intro q; exact absurd q.symm (by assumption)) | decide | exact Nat.le_of_ble_eq_true rfl) (by first | assumption | exact hS | exact hT | exact hL | (intro q; exact absurd q.symm (by assumption)) | decide | exact Nat.le_of_ble_eq_true rfl) (by first | assumption | exact hS | exact hT | exact hL | (intro q; exact absurd q.symm (by assumption)) | decide | exact Nat.le_of_ble_eq_true rfl) (by first | assumption | exact hS | exact hT | exact hL | (intro q; exact absurd q.symm (by assumption)) | decide | exact Nat.le_of_ble_eq_true rfl) (by first | assumption | exact hS | exact hT | exact hL | (intro q; exact absurd q.symm (by assumption)) | decide | exact Nat.le_of_ble_eq_true rfl) (by first | assumption | exact hS | exact hT | exact hL | (intro q; exact absurd q.symm (by assumption)) | decide | exact Nat.le_of_ble_eq_true rfl)) ?_
         have e : dH n x (sk, tk, (0 : Int32), w) = ((sk, tk + 1, 1, w ||| cJ (1 : Int64) x), 0) := by simp only [dH, hS, hH, hE, if_true, if_false]
         rintro v h L ⟨rfl, N, K, b1, b2, b3, b4, b5, b6, b7, b8, b9, b10, b11⟩
         rw [e]; exact ⟨rfl, N, hG K (nT (by simp) (by simp) (by simp) (by simp)), b11, b7, b9, b8, b10, b6, b1, b2, b4, b3, b5⟩
     · by_cases hE : tk + (1 : Int32) = n
       · have hL : lcmpW (w &&& cJ (1 : Int64) x) (0 : Int64) = (0 : Int32) := Classical.byContradiction fun q => hH ⟨by decide, q⟩
         refine dJ (tT l Z a0 hw ws sp x sk tk ch n bs (1 : Int32) wd (1 : Int32) [w] h0 n0 Z0 a2 a4 a3 a6 a5 SA a7 a8 a10 a11 G.2.2.2 G.2.1 a1 G.1 (by first | assumption | exact hS | exact hT | exact hL | (intro q; exact absurd q.symm (by assumption)) | decide | exact Nat.le_of_ble_eq_true rfl) (by first | assumption | exact hS | exact hT | exact hL | (intro q; exact absurd q.symm (by assumption)) | decide | exact Nat.le_of_ble_eq_true rfl) (by first | assumption | exact hS | exact hT | exact hL | (intro q; exact absurd q.symm (by assumption)) | decide | exact Nat.le_of_ble_eq_true rfl) (by first | assumption | exact hS | exact hT | exact hL | (intro q; exact absurd q.symm (by assumption)) | decide | exact Nat.le_of_ble_eq_true rfl) (by first | assumption | exact hS | exact hT | exact hL | (intro q; exact absurd q.symm (by assumption)) | decide | exact Nat.le_of_ble_eq_true rfl) (by first | assumption | exact hS | exact hT | exact hL | (intro q; exact absurd q.symm (by assumption)) | decide | exact Nat.le_of_ble_eq_true rfl) (by first | assumption | exact hS | exact hT | exact hL | (intro q; exact absurd q.symm (by assumption)) | decide | exact Nat.le_of_ble_eq_true rfl) (by first | assumption | exact hS | exact hT | exact hL | (intro q; exact absurd q.symm (by assumption)) | decide | exact Nat.le_of_ble_eq_true rfl) (by first | assumption | exact hS | exact hT | exact hL | (intro q; exact absurd q.symm (by assumption)) | decide | exact Nat.le_of_ble_eq_true rfl) (by first | assumption | exact hS | exact hT | exact hL | (intro q; exact absurd q.symm (by assumption)) | decide | exact Nat.le_of_ble_eq_true rfl) (by first | assumption | exact hS | exact hT | exact hL | (intro q; exact absurd q.symm (by assumption)) | decide | exact Nat.le_of_ble_eq_true rfl) (by first | assumption | exact hS | exact hT | exact hL | (intro q; exact absurd q.symm (by assumption)) | decide | exact Nat.le_of_ble_eq_true rfl) (by first | assumption | exact hS | exact hT | exact hL | (intro q; exact absurd q.symm (by assumption)) | decide | exact Nat.le_of_ble_eq_true rfl) (by first | assumption | exact hS | exact hT | exact hL | (intro q; exact absurd q.symm (by assumption)) | decide | exact Nat.le_of_ble_eq_true rfl) (by first | assumption | exact hS | exact hT | exact hL | (intro q; exact absurd q.symm (by assumption)) | decide | exact Nat.le_of_ble_eq_true rfl) (by first | assumption | exact hS | exact hT | exact hL | (intro q; exact absurd q.symm (by assumption)) | decide | exact Nat.le_of_ble_eq_true rfl) (by first | assumption | exact hS | exact hT | exact hL | (intro q; exact absurd q.symm (by assumption)) | decide | exact Nat.le_of_ble_eq_true rfl)) ?_
         have e : dH n x (sk, tk, (1 : Int32), w) = ((sk, tk + 1, 1, w ||| cJ (1 : Int64) x), 1) := by simp only [dH, hS, hH, hE, if_true, if_false]
         rintro v h L ⟨rfl, N, K, b1, b2, b3, b4, b5, b6, b7⟩
         rw [e]; exact ⟨rfl, N, hG K (aK4 (by simp) (by simp) (by simp)), b7, b3, b5, b4, b6, b2, a7.keep K, a8.keep K (sV n6 m4 m2), a9.keep K (sV n6 m4 m2), a10.keep K (sV n6 m4 m2), b1⟩
       · have hL : lcmpW (w &&& cJ (1 : Int64) x) (0 : Int64) = (0 : Int32) := Classical.byContradiction fun q => hH ⟨by decide, q⟩
         refine dJ (tS l Z a0 hw ws sp x sk tk ch n bs (1 : Int32) wd (1 : Int32) [w] h0 n0 Z0 a2 a4 a3 a6 a5 SA a7 a8 a10 a11 G.2.2.2 G.2.1 a1 G.1 (by first | assumption | exact hS | exact hT | exact hL | (intro q; exact absurd q.symm (by assumption)) | decide | exact Nat.le_of_ble_eq_true rfl) (by first | assumption | exact hS | exact hT | exact hL | (intro q; exact absurd q.symm (by assumption)) | decide | exact Nat.le_of_ble_eq_true rfl) (by first | assumption | exact hS | exact hT | exact hL | (intro q; exact absurd q.symm (by assumption)) | decide | exact Nat.le_of_ble_eq_true rfl) (by first | assumption | exact hS | exact hT | exact hL | (intro q; exact absurd q.symm (by assumption)) | decide | exact Nat.le_of_ble_eq_true rfl) (by first | assumption | exact hS | exact hT | exact hL | (intro q; exact absurd q.symm (by assumption)) | decide | exact Nat.le_of_ble_eq_true rfl) (by first | assumption | exact hS | exact hT | exact hL | (intro q; exact absurd q.symm (by assumption)) | decide | exact Nat.le_of_ble_eq_true rfl) (by first | assumption | exact hS | exact hT | exact hL | (intro q; exact absurd q.symm (by assumption)) | decide | exact Nat.le_of_ble_eq_true rfl) (by first | assumption | exact hS | exact hT | exact hL | (intro q; exact absurd q.symm (by assumption)) | decide | exact Nat.le_of_ble_eq_true rfl) (by first | assumption | exact hS | exact hT | exact hL | (intro q; exact absurd q.symm (by assumption)) | decide | exact Nat.le_of_ble_eq_true rfl) (by first | assumption | exact hS | exact hT | exact hL | (intro q; exact absurd q.symm (by assumption)) | decide | exact Nat.le_of_ble_eq_true rfl) (by first | assumption | exact hS | exact hT | exact hL | (intro q; exact absurd q.symm (by assumption)) | decide | exact Nat.le_of_ble_eq_true rfl) (by first | assumption | exact hS | exact hT | exact hL | (intro q; exact absurd q.symm (by assumption)) | decide | exact Nat.le_of_ble_eq_true rfl) (by first | assumption | exact hS | exact hT | exact hL | (intro q; exact absurd q.symm (by assumption)) | decide | exact Nat.le_of_ble_eq_true rfl) (by first | assumption | exact hS | exact hT | exact hL | (intro q; exact absurd q.symm (by assumption)) | decide | exact Nat.le_of_ble_eq_true rfl) (by first | assumption | exact hS | exact hT | exact hL | (intro q; exact absurd q.symm (by assumption)) | decide | exact Nat.le_of_ble_eq_true rfl) (by first | assumption | exact hS | exact hT | exact hL | (intro q; exact absurd q.symm (by assumption)) | decide | exact Nat.le_of_ble_eq_true rfl) (by first | assumption | exact hS | exact hT | exact hL | (intro q; exact absurd q.symm (by assumption)) | decide | exact Nat.le_of_ble_eq_true rfl)) ?_
         have e : dH n x (sk, tk, (1 : Int32), w) = ((sk, tk + 1, 1, w ||| cJ (1 : Int64) x), 0) := by simp only [dH, hS, hH, hE, if_true, if_false]
         rintro v h L ⟨rfl, N, K, b1, b2, b3, b4, b5, b6, b7⟩
         rw [e]; exact ⟨rfl, N, hG K (aK4 (by simp) (by simp) (by simp)), b7, b3, b5, b4, b6, b2, a7.keep K, a8.keep K (sV n6 m4 m2), a9.keep K (sV n6 m4 m2), a10.keep K (sV n6 m4 m2), b1⟩
theorem aV (rc : Nat) (rs : Nat) (i0_ : Int32) (i1_ : Int32) (o2_ : Addr) (i3_ : Int32) (cT : Int32) (bD : List Int32) (i_ : Int32)
   (X0 : Stand p l e (oR 3 rc rs 60) s m args below meth c T0 locs cells slots) (hx : p.tables.exec = Jvm.exec) (hZ : Z.Warmed39 s.vm) (hw : oH a0 Z) (hby : c.code = prog_29_method_19_code) (hml : c.maxLocals = 7) (hown : s.vm.findClass oC0 = some m.cls) (e0 : T0.heap = h0) (N0 : Fr n0 locs) (Z0 : n0 ≤ h0.size) (gL : bB Z h0 o2_ cT bD) (nZ : n0 ≤ o2_) (hf0 : i3_ < (10 : Int32)) (hf1 : ¬ (i3_ < 0)) (hf2 : i3_ < cT) (hf3 : (i3_).toNatClampNeg < bD.length) (hf4 : (i3_ + (1 : Int32)) = i_) (hc : cells + (0) ≤ rc) (hs : slots + (0) ≤ rs) :
   ∃ (T' : State) (locs' : List Loc), Stand p l e (oR 3 rc rs 60) s m args below meth c T' locs' cells slots ∧ Fr n0 locs' ∧ Keep h0 T'.heap [o2_] ∧ bB Z T'.heap o2_ cT (bD.set (i3_).toNatClampNeg i3_) ∧
     ∀ target, Steps p.tables e below (T'.setTop (mkF m 7 #[oI i0_, oI i1_, oA o2_, oI i_, .unset, .unset, .unset] [])) target → Steps p.tables e below (T0.setTop (mkF m 7 #[oI i0_, oI i1_, oA o2_, oI i3_, .unset, .unset, .unset] [])) target := by
 obtain ⟨c1, A1, hin1, -⟩ := bS (j := i3_) gL hf1 hf2
 obtain ⟨T2, h2, X2, e2, W2, st2⟩ := stI X0 hx hZ e0 A1 (j := i3_) hin1 (g := (mkF m 16 #[oI i0_, oI i1_, oA o2_, oI i3_, .unset, .unset, .unset] [(.int i3_), (.int i3_), (.ref o2_)])) rfl rfl (oG hby d23 11 rfl)
 have V2 : bB Z h2 o2_ cT (bD.set (i3_).toNatClampNeg i3_) := jN gL hf1 hf2 W2 hf3
 have K2 : Keep h0 h2 [o2_] := (Keep.refl h0 [o2_]).wr W2 (Or.inl (oX 0 rfl))
 have N2 := Fr.snoc X2 N0 nZ
 subst e2
 refine ⟨T2, _, X2, N2, K2, V2, fun target kt => ?_⟩
 show oZ p e below T0 (mkF m 7 #[oI i0_, oI i1_, oA o2_, oI i3_, .unset, .unset, .unset] []) _
 refine XS.iloadN X0.here hx rfl (oG hby d23 5 rfl) rfl ?_
 refine XS.bipush X0.here hx rfl (oG hby d23 6 rfl) ?_
 refine XS.icmpNo X0.here hx rfl (oG hby d23 7 rfl) rfl (tlt hf0).2.1 ?_
 refine XS.aloadN X0.here hx rfl (oG hby d23 8 rfl) rfl rfl ?_
 refine XS.iloadN X0.here hx rfl (oG hby d23 9 rfl) rfl ?_
 refine XS.iloadN X0.here hx rfl (oG hby d23 10 rfl) rfl ?_
 refine st2 _ ?_
 refine XS.iinc X2.here hx rfl (oG hby d23 12 rfl) rfl (l' := #[oI i0_, oI i1_, oA o2_, oI (i3_ + (1 : Int32)), .unset, .unset, .unset]) rfl ?_
 show oZ p e below T2 (mkF m 20 #[oI i0_, oI i1_, oA o2_, oI (i3_ + (1 : Int32)), .unset, .unset, .unset] []) _
 rw [hf4]
 refine XS.goto X2.here hx rfl (pc0 := 20) (pc' := 7) rfl (oG hby d23 13 rfl) (by decide) (by decide) ?_
 exact kt
def uV (Z : State) (a0_ : Addr) (q1_ : Int64) (lM : Value) (h0 : Heap) (n0 : Nat) (v : Option Value) (h : Heap) (L : List Loc) : Prop := v = none ∧ Fr n0 L ∧ Keep h0 h [a0_] ∧ Exa Z h a0_ oC5 ∧ Fld Z h a0_ oC5 "state" "J" (.long q1_)
theorem aH2 (l : Launch) (Z : State) (a0 : Array Value) (hw : oH a0 Z) (ws : List Jvm.Cond) (a0_ : Addr) (q1_ : Int64) (lM : Value) (h0 : Heap) (n0 : Nat) (Z0 : n0 ≤ h0.size) (bR : Exa Z h0 a0_ oC5) (iW : Fld Z h0 a0_ oC5 "state" "J" lM) (eM : n0 ≤ a0_) :
   oMet l oM35 prog_27_method_1_code 3 none ws (oR 1 0 0 12) Z h0 #[(.ref a0_), (.long q1_)] (uV Z a0_ q1_ lM h0 n0) := by
 refine oBd n0 (plainFor_of_name yB) ?_
 intro p e s m below meth c s₁ Bd hx hZ hby hml hown hnm X0 e0 N0
 obtain ⟨T1, X1, e1, st1⟩ := initO X0 hx hZ hown (oW hw 153 rfl) (oW hw 8 rfl) (oW hw 9 rfl) e0 (g := (mkF m 1 #[oA a0_, oJ q1_, .second] [(.ref a0_)])) rfl (by rw [hml]; rfl) rfl (oG hby d25 1 rfl) (by decide) (W := 0) (by show 2 * 0 + _ ≤ _; exact Nat.le_of_eq rfl) (by decide)
 obtain ⟨T2, h2, X2, e2, W2, st2⟩ := putF X1 hx hZ hown (host := "") (Or.inl (oW hw 154 rfl)) Via.refl e1 iW bR (Or.inl (oW hw 155 rfl)) (oW hw 148 rfl) (ty := .long) (by decide) rfl rfl (g := (mkF m 6 #[oA a0_, oJ q1_, .second] [(.long q1_), (.ref a0_)])) rfl rfl (oG hby d25 4 rfl)
 have Fw2 := iW.same W2
 have K2 : Keep h0 h2 [a0_] := (Keep.refl h0 [a0_]).wr W2 (Or.inl (oX 0 rfl))
 have N2 := Fr.snoc X2 N0 eM
 have gV := (bR.wr W2)
 obtain ⟨fs, hr, hrun, hended, hW, hsame⟩ := X2.leave (v := none) (fun _ => rfl)
 refine ⟨_, _, castTop (aU8 m a0_ q1_) ?_, hrun, hended, _, _, rfl, ?_, ⟨_, rfl⟩, hW, (hsame.mono (by decide) (by decide))⟩
 · show oZ p e below s₁ (mkF m 0 #[oA a0_, oJ q1_, .second] []) _
   refine XS.aloadN X0.here hx rfl (oG hby d25 0 rfl) rfl rfl ?_
   refine st1 _ ?_
   refine XS.aloadN X1.here hx rfl (oG hby d25 2 rfl) rfl rfl ?_
   refine XS.lloadN X1.here hx rfl (oG hby d25 3 rfl) rfl ?_
   refine st2 _ ?_
   show oZ p e below T2 (mkF m 9 #[oA a0_, oJ q1_, .second] []) _
   exact X2.returnOut hx Bd.returns (oG hby d25 5 rfl) hr
 · show uV Z a0_ q1_ lM h0 n0 _ T2.heap _
   rw [e2]
   exact ⟨rfl, N2, K2, gV, Fw2⟩
def pW (Z : State) (q0_ : Int64) (q1_ : Int64) (h0 : Heap) (n0 : Nat) (v : Option Value) (h : Heap) (L : List Loc) : Prop := ∃ b1 : Addr, v = some (.ref b1) ∧ Fr n0 L ∧ Keep h0 h [] ∧ h0.size ≤ b1 ∧ Exa Z h b1 oC5 ∧ Fld Z h b1 oC5 "state" "J" (.long (q0_ + (q1_ * (-7046029254386353131 : Int64))))
theorem kK (l : Launch) (Z : State) (a0 : Array Value) (hw : oH a0 Z) (ws : List Jvm.Cond) (q0_ : Int64) (q1_ : Int64) (h0 : Heap) (n0 : Nat) (Z0 : n0 ≤ h0.size) :
   oMet l oM6 prog_27_method_2_code 4 (some (.object oC5)) ws (oR 2 1 1 27) Z h0 #[(.long q0_), (.long q1_)] (pW Z q0_ q1_ h0 n0) := by
 refine oBd n0 (plainFor_of_name yB) ?_
 intro p e s m below meth c s₁ Bd hx hZ hby hml hown hnm X0 e0 N0
 obtain ⟨T1, h1, X1, e1, E1, A1, D1, -, st1⟩ := newO X0 hx hZ hown (oW hw 147 rfl) (oW hw 148 rfl) (oW hw 145 rfl) e0 (g := (mkF m 0 #[oJ q0_, .second, oJ q1_, .second] [])) rfl (oG hby d24 0 rfl) (by decide) (by decide)
 obtain ⟨b1, g1⟩ : ∃ z, z = h0.size := ⟨_, rfl⟩
 rw [← g1] at A1 D1 st1
 have lA : h0.size ≤ b1 := Nat.le_of_eq g1.symm
 have bK : h0.size ≤ b1 := Nat.le_trans (Keep.refl h0 []).1 lA
 have g_b1 : n0 ≤ b1 := Nat.le_trans Z0 bK
 have K1 : Keep h0 h1 [] := (Keep.refl h0 []).ext E1
 have aM4 : Fld Z h1 b1 oC5 "state" "J" (.long 0) := D1 (Or.inl (oW hw 155 rfl)) (ty := .long) (by decide)
 obtain ⟨_, _, ⟨T2, L2, k2, n2⟩, -, X2, ⟨Lc2, hQ2, l2, y2, z2⟩, st2⟩ := X1.specialBack hx (y := oM35) rfl hown (mvT hZ (oW hw 150 rfl)) (mvT hZ (oW hw 151 rfl)) (mvT hZ (oW hw 152 rfl)) (by decide) (backOf (W := 1) (aH2 l Z a0 hw [] b1 (q0_ + (q1_ * (-7046029254386353131 : Int64))) (.long 0) h1 n0 (Nat.le_trans Z0 K1.1) A1 aM4 g_b1) hZ (oW hw 152 rfl) (oW hw 145 rfl) (by decide) (by decide)) (g := (mkF m 11 #[oJ q0_, .second, oJ q1_, .second] [(.long (q0_ + (q1_ * (-7046029254386353131 : Int64)))), (.ref b1), (.ref b1)])) rfl (by rw [hml]; rfl) (Steps.refl _) (a := b1) (argsL := [(.long (q0_ + (q1_ * (-7046029254386353131 : Int64))))]) (rest := [(.ref b1)]) (lenOf aU3 rfl) rfl (by show 2 * 0 + _ ≤ _; exact Nat.le_of_eq rfl) (oG hby d24 7 rfl) (fun _ _ => ⟨rfl, e1, (by decide : 1 + 0 ≤ _), (by decide : 1 + 0 ≤ _)⟩)
 dsimp only [Pt.U, Pt.locs, Pt.cells, Pt.slots] at X2 l2 y2 z2 st2 hQ2
 subst l2 y2 z2
 obtain ⟨rfl, N2q, Kq2, Q2_0, xB⟩ := hQ2
 have N2 := Fr.app N0 N2q
 have K2 : Keep h0 T2.heap [] := K1.trans Kq2 (bJ (Or.inr bK))
 obtain ⟨fs, hr, hrun, hended, hW, hsame⟩ := X2.leave (v := some (.ref b1)) (fun h => by rw [Bd.returns] at h; cases h)
 refine ⟨_, _, castTop (aU9 m q0_ q1_) ?_, hrun, hended, _, _, rfl, ?_, ⟨_, rfl⟩, hW, (hsame.mono (by decide) (by decide))⟩
 · show oZ p e below s₁ (mkF m 0 #[oJ q0_, .second, oJ q1_, .second] []) _
   refine st1 _ ?_
   refine XS.dup X1.here hx rfl (oG hby d24 1 rfl) rfl rfl ?_
   refine XS.lloadN X1.here hx rfl (oG hby d24 2 rfl) rfl ?_
   refine XS.lloadN X1.here hx rfl (oG hby d24 3 rfl) rfl ?_
   refine X1.ldc2Long hx hown (mvT hZ (oW hw 149 rfl)) (g := (mkF m 6 #[oJ q0_, .second, oJ q1_, .second] [(.long q1_), (.long q0_), (.ref b1), (.ref b1)])) rfl (oG hby d24 4 rfl) _ ?_
   refine XS.lmul X1.here hx rfl (oG hby d24 5 rfl) rfl ?_
   refine XS.ladd X1.here hx rfl (oG hby d24 6 rfl) rfl ?_
   refine st2.trans ?_
   show oZ p e below T2 (mkF m 14 #[oJ q0_, .second, oJ q1_, .second] [(.ref b1)]) _
   jvm_step X2.here [X2.here.top, hx, (oG hby d24 8 rfl), X2.method', Bd.returns, Value.isRef, FieldType.isReference]
   first | (intro acts; rw [hr _ acts rfl rfl rfl]) | rw [hr _ _ rfl rfl rfl]
   exact Steps.refl _
 · show pW Z q0_ q1_ h0 n0 _ T2.heap _
   exact ⟨b1, rfl, N2, K2, bK, Q2_0, xB⟩
def gO (aS : Int64) : Int64 := ((((((aS + (-7046029254386353131 : Int64)) ^^^ (bO (aS + (-7046029254386353131 : Int64)) (30 : Int32))) * (-4658895280553007687 : Int64)) ^^^ (bO (((aS + (-7046029254386353131 : Int64)) ^^^ (bO (aS + (-7046029254386353131 : Int64)) (30 : Int32))) * (-4658895280553007687 : Int64)) (27 : Int32))) * (-7723592293110705685 : Int64)) ^^^ (bO (((((aS + (-7046029254386353131 : Int64)) ^^^ (bO (aS + (-7046029254386353131 : Int64)) (30 : Int32))) * (-4658895280553007687 : Int64)) ^^^ (bO (((aS + (-7046029254386353131 : Int64)) ^^^ (bO (aS + (-7046029254386353131 : Int64)) (30 : Int32))) * (-4658895280553007687 : Int64)) (27 : Int32))) * (-7723592293110705685 : Int64)) (31 : Int32)))
def uW (Z : State) (a0_ : Addr) (aS : Int64) (h0 : Heap) (n0 : Nat) (v : Option Value) (h : Heap) (L : List Loc) : Prop := v = some (.long (gO aS)) ∧ Fr n0 L ∧ Keep h0 h [a0_] ∧ Fld Z h a0_ oC5 "state" "J" (.long (aS + (-7046029254386353131 : Int64))) ∧ Exa Z h a0_ oC5
theorem xQ (l : Launch) (Z : State) (a0 : Array Value) (hw : oH a0 Z) (ws : List Jvm.Cond) (a0_ : Addr) (aS : Int64) (h0 : Heap) (n0 : Nat) (Z0 : n0 ≤ h0.size) (iW : Fld Z h0 a0_ oC5 "state" "J" (.long aS)) (bR : Exa Z h0 a0_ oC5) (eM : n0 ≤ a0_) :
   oMet l oM13 prog_27_method_3_code 3 (some .long) ws (oR 0 0 0 0) Z h0 #[(.ref a0_)] (uW Z a0_ aS h0 n0) := by
 refine oBd n0 (plainFor_of_name yB) ?_
 intro p e s m below meth c s₁ Bd hx hZ hby hml hown hnm X0 e0 N0
 obtain ⟨T1, X1, e1, st1⟩ := getF X0 hx hZ hown (host := "") (Or.inl (oW hw 154 rfl)) Via.refl e0 iW (g := (mkF m 2 #[oA a0_, .unset, .unset] [(.ref a0_), (.ref a0_)])) rfl rfl (oG hby d26 2 rfl)
 obtain ⟨T2, h2, X2, e2, W2, st2⟩ := putF X1 hx hZ hown (host := "") (Or.inl (oW hw 154 rfl)) Via.refl e1 iW bR (Or.inl (oW hw 155 rfl)) (oW hw 148 rfl) (ty := .long) (by decide) rfl rfl (g := (mkF m 9 #[oA a0_, .unset, .unset] [(.long (aS + (-7046029254386353131 : Int64))), (.ref a0_)])) rfl rfl (oG hby d26 5 rfl)
 have Fw2 := iW.same W2
 have K2 : Keep h0 h2 [a0_] := (Keep.refl h0 [a0_]).wr W2 (Or.inl (oX 0 rfl))
 have N2 := Fr.snoc X2 N0 eM
 obtain ⟨T3, X3, e3, st3⟩ := getF X2 hx hZ hown (host := "") (Or.inl (oW hw 154 rfl)) Via.refl e2 Fw2 (g := (mkF m 13 #[oA a0_, .unset, .unset] [(.ref a0_)])) rfl rfl (oG hby d26 7 rfl)
 have yI := (bR.wr W2)
 obtain ⟨fs, hr, hrun, hended, hW, hsame⟩ := X3.leave (v := some (.long ((((((aS + (-7046029254386353131 : Int64)) ^^^ (bO (aS + (-7046029254386353131 : Int64)) (30 : Int32))) * (-4658895280553007687 : Int64)) ^^^ (bO (((aS + (-7046029254386353131 : Int64)) ^^^ (bO (aS + (-7046029254386353131 : Int64)) (30 : Int32))) * (-4658895280553007687 : Int64)) (27 : Int32))) * (-7723592293110705685 : Int64)) ^^^ (bO (((((aS + (-7046029254386353131 : Int64)) ^^^ (bO (aS + (-7046029254386353131 : Int64)) (30 : Int32))) * (-4658895280553007687 : Int64)) ^^^ (bO (((aS + (-7046029254386353131 : Int64)) ^^^ (bO (aS + (-7046029254386353131 : Int64)) (30 : Int32))) * (-4658895280553007687 : Int64)) (27 : Int32))) * (-7723592293110705685 : Int64)) (31 : Int32))))) (fun h => by rw [Bd.returns] at h; cases h)
 refine ⟨_, _, castTop (aV0 m a0_) ?_, hrun, hended, _, _, rfl, ?_, ⟨_, rfl⟩, hW, (hsame.mono (by decide) (by decide))⟩
 · show oZ p e below s₁ (mkF m 0 #[oA a0_, .unset, .unset] []) _
   refine XS.aloadN X0.here hx rfl (oG hby d26 0 rfl) rfl rfl ?_
   refine XS.dup X0.here hx rfl (oG hby d26 1 rfl) rfl rfl ?_
   refine st1 _ ?_
   refine X1.ldc2Long hx hown (mvT hZ (oW hw 149 rfl)) (g := (mkF m 5 #[oA a0_, .unset, .unset] [(.long aS), (.ref a0_)])) rfl (oG hby d26 3 rfl) _ ?_
   refine XS.ladd X1.here hx rfl (oG hby d26 4 rfl) rfl ?_
   refine st2 _ ?_
   refine XS.aloadN X2.here hx rfl (oG hby d26 6 rfl) rfl rfl ?_
   refine st3 _ ?_
   refine XS.lstoreN X3.here hx rfl (oG hby d26 8 rfl) rfl (l' := #[oA a0_, oJ (aS + (-7046029254386353131 : Int64)), .second]) rfl ?_
   refine XS.lloadN X3.here hx rfl (oG hby d26 9 rfl) rfl ?_
   refine XS.lloadN X3.here hx rfl (oG hby d26 10 rfl) rfl ?_
   show oZ p e below T3 (mkF m 19 #[oA a0_, oJ (aS + (-7046029254386353131 : Int64)), .second] [(.long (aS + (-7046029254386353131 : Int64))), (.long (aS + (-7046029254386353131 : Int64)))]) _
   refine XS.bipush X3.here hx rfl (oG hby d26 11 rfl) ?_
   refine XS.lushr X3.here hx rfl (oG hby d26 12 rfl) rfl ?_
   refine XS.lxor X3.here hx rfl (oG hby d26 13 rfl) rfl ?_
   refine X3.ldc2Long hx hown (mvT hZ (oW hw 161 rfl)) (g := (mkF m 23 #[oA a0_, oJ (aS + (-7046029254386353131 : Int64)), .second] [(.long ((aS + (-7046029254386353131 : Int64)) ^^^ (bO (aS + (-7046029254386353131 : Int64)) (30 : Int32))))])) rfl (oG hby d26 14 rfl) _ ?_
   refine XS.lmul X3.here hx rfl (oG hby d26 15 rfl) rfl ?_
   refine XS.lstoreN X3.here hx rfl (oG hby d26 16 rfl) rfl (l' := #[oA a0_, oJ (((aS + (-7046029254386353131 : Int64)) ^^^ (bO (aS + (-7046029254386353131 : Int64)) (30 : Int32))) * (-4658895280553007687 : Int64)), .second]) rfl ?_
   refine XS.lloadN X3.here hx rfl (oG hby d26 17 rfl) rfl ?_
   refine XS.lloadN X3.here hx rfl (oG hby d26 18 rfl) rfl ?_
   refine XS.bipush X3.here hx rfl (oG hby d26 19 rfl) ?_
   refine XS.lushr X3.here hx rfl (oG hby d26 20 rfl) rfl ?_
   refine XS.lxor X3.here hx rfl (oG hby d26 21 rfl) rfl ?_
   show oZ p e below T3 (mkF m 34 #[oA a0_, oJ (((aS + (-7046029254386353131 : Int64)) ^^^ (bO (aS + (-7046029254386353131 : Int64)) (30 : Int32))) * (-4658895280553007687 : Int64)), .second] [(.long ((((aS + (-7046029254386353131 : Int64)) ^^^ (bO (aS + (-7046029254386353131 : Int64)) (30 : Int32))) * (-4658895280553007687 : Int64)) ^^^ (bO (((aS + (-7046029254386353131 : Int64)) ^^^ (bO (aS + (-7046029254386353131 : Int64)) (30 : Int32))) * (-4658895280553007687 : Int64)) (27 : Int32))))]) _
   refine X3.ldc2Long hx hown (mvT hZ (oW hw 162 rfl)) (g := (mkF m 34 #[oA a0_, oJ (((aS + (-7046029254386353131 : Int64)) ^^^ (bO (aS + (-7046029254386353131 : Int64)) (30 : Int32))) * (-4658895280553007687 : Int64)), .second] [(.long ((((aS + (-7046029254386353131 : Int64)) ^^^ (bO (aS + (-7046029254386353131 : Int64)) (30 : Int32))) * (-4658895280553007687 : Int64)) ^^^ (bO (((aS + (-7046029254386353131 : Int64)) ^^^ (bO (aS + (-7046029254386353131 : Int64)) (30 : Int32))) * (-4658895280553007687 : Int64)) (27 : Int32))))])) rfl (oG hby d26 22 rfl) _ ?_
   refine XS.lmul X3.here hx rfl (oG hby d26 23 rfl) rfl ?_
   refine XS.lstoreN X3.here hx rfl (oG hby d26 24 rfl) rfl (l' := #[oA a0_, oJ (((((aS + (-7046029254386353131 : Int64)) ^^^ (bO (aS + (-7046029254386353131 : Int64)) (30 : Int32))) * (-4658895280553007687 : Int64)) ^^^ (bO (((aS + (-7046029254386353131 : Int64)) ^^^ (bO (aS + (-7046029254386353131 : Int64)) (30 : Int32))) * (-4658895280553007687 : Int64)) (27 : Int32))) * (-7723592293110705685 : Int64)), .second]) rfl ?_
   refine XS.lloadN X3.here hx rfl (oG hby d26 25 rfl) rfl ?_
   refine XS.lloadN X3.here hx rfl (oG hby d26 26 rfl) rfl ?_
   refine XS.bipush X3.here hx rfl (oG hby d26 27 rfl) ?_
   refine XS.lushr X3.here hx rfl (oG hby d26 28 rfl) rfl ?_
   refine XS.lxor X3.here hx rfl (oG hby d26 29 rfl) rfl ?_
   show oZ p e below T3 (mkF m 45 #[oA a0_, oJ (((((aS + (-7046029254386353131 : Int64)) ^^^ (bO (aS + (-7046029254386353131 : Int64)) (30 : Int32))) * (-4658895280553007687 : Int64)) ^^^ (bO (((aS + (-7046029254386353131 : Int64)) ^^^ (bO (aS + (-7046029254386353131 : Int64)) (30 : Int32))) * (-4658895280553007687 : Int64)) (27 : Int32))) * (-7723592293110705685 : Int64)), .second] [(.long ((((((aS + (-7046029254386353131 : Int64)) ^^^ (bO (aS + (-7046029254386353131 : Int64)) (30 : Int32))) * (-4658895280553007687 : Int64)) ^^^ (bO (((aS + (-7046029254386353131 : Int64)) ^^^ (bO (aS + (-7046029254386353131 : Int64)) (30 : Int32))) * (-4658895280553007687 : Int64)) (27 : Int32))) * (-7723592293110705685 : Int64)) ^^^ (bO (((((aS + (-7046029254386353131 : Int64)) ^^^ (bO (aS + (-7046029254386353131 : Int64)) (30 : Int32))) * (-4658895280553007687 : Int64)) ^^^ (bO (((aS + (-7046029254386353131 : Int64)) ^^^ (bO (aS + (-7046029254386353131 : Int64)) (30 : Int32))) * (-4658895280553007687 : Int64)) (27 : Int32))) * (-7723592293110705685 : Int64)) (31 : Int32))))]) _
   exact X3.lreturnOut hx Bd.returns (oG hby d26 30 rfl) hr
 · show uW Z a0_ aS h0 n0 _ T3.heap _
   rw [e3]
   exact ⟨rfl, N2, K2, Fw2, yI⟩
def kT (q0_ : Int64) (q1_ : Int64) : Int64 := ((q0_ - ((cJ ((bO q0_ (1 : Int32)) / q1_) (1 : Int32)) * q1_)) - ((aC2 (((q0_ - ((cJ ((bO q0_ (1 : Int32)) / q1_) (1 : Int32)) * q1_)) - q1_) ^^^ (-1 : Int64)) (63 : Int32)) &&& q1_))
theorem xR (l : Launch) (Z : State) (a0 : Array Value) (hw : oH a0 Z) (ws : List Jvm.Cond) (q0_ : Int64) (q1_ : Int64) (h0 : Heap) (n0 : Nat) (Z0 : n0 ≤ h0.size) (hf0 : ¬ ((lcmpW q1_ (0 : Int64)) < (0 : Int32))) (hf1 : ¬ (q1_ = (0 : Int64))) :
   oMet l oM28 jdk_35_method_45_code 8 (some .long) ws (oR 0 0 0 0) Z h0 #[(.long q0_), (.long q1_)] (cD (some (.long (kT q0_ q1_))) h0 n0) := by
 refine oBd n0 (plainFor_of_name aU2) ?_
 intro p e s m below meth c s₁ Bd hx hZ hby hml hown hnm X0 e0 N0
 obtain ⟨fs, hr, hrun, hended, hW, hsame⟩ := X0.leave (v := some (.long ((q0_ - ((cJ ((bO q0_ (1 : Int32)) / q1_) (1 : Int32)) * q1_)) - ((aC2 (((q0_ - ((cJ ((bO q0_ (1 : Int32)) / q1_) (1 : Int32)) * q1_)) - q1_) ^^^ (-1 : Int64)) (63 : Int32)) &&& q1_)))) (fun h => by rw [Bd.returns] at h; cases h)
 refine ⟨_, _, castTop (aK5 m q0_ q1_) ?_, hrun, hended, _, _, rfl, ?_, ⟨_, rfl⟩, hW, (hsame.mono (by decide) (by decide))⟩
 · show oZ p e below s₁ (mkF m 0 #[oJ q0_, .second, oJ q1_, .second, .unset, .unset, .unset, .unset] []) _
   refine XS.lloadN X0.here hx rfl (oG hby d27 0 rfl) rfl ?_
   refine XS.lconst X0.here hx rfl (oG hby d27 1 rfl) ?_
   show oZ p e below s₁ (mkF m 2 #[oJ q0_, .second, oJ q1_, .second, .unset, .unset, .unset, .unset] [(.long 0), (.long q1_)]) _
   refine XS.lcmp X0.here hx rfl (oG hby d27 2 rfl) rfl ?_
   refine XS.ifNo X0.here hx rfl (oG hby d27 3 rfl) rfl ((if0 _ _).trans (flt hf0).1) ?_
   refine XS.lloadN X0.here hx rfl (oG hby d27 4 rfl) rfl ?_
   refine XS.iconst X0.here hx rfl (oG hby d27 5 rfl) ?_
   refine XS.lushr X0.here hx rfl (oG hby d27 6 rfl) rfl ?_
   refine XS.lloadN X0.here hx rfl (oG hby d27 7 rfl) rfl ?_
   refine XS.ldiv X0.here hx rfl (oG hby d27 8 rfl) rfl hf1 ?_
   refine XS.iconst X0.here hx rfl (oG hby d27 9 rfl) ?_
   refine XS.lshl X0.here hx rfl (oG hby d27 10 rfl) rfl ?_
   refine XS.lstore X0.here hx rfl (oG hby d27 11 rfl) rfl (l' := #[oJ q0_, .second, oJ q1_, .second, oJ (cJ ((bO q0_ (1 : Int32)) / q1_) (1 : Int32)), .second, .unset, .unset]) rfl ?_
   refine XS.lloadN X0.here hx rfl (oG hby d27 12 rfl) rfl ?_
   show oZ p e below s₁ (mkF m 16 #[oJ q0_, .second, oJ q1_, .second, oJ (cJ ((bO q0_ (1 : Int32)) / q1_) (1 : Int32)), .second, .unset, .unset] [(.long q0_)]) _
   refine XS.lload X0.here hx rfl (oG hby d27 13 rfl) rfl ?_
   refine XS.lloadN X0.here hx rfl (oG hby d27 14 rfl) rfl ?_
   refine XS.lmul X0.here hx rfl (oG hby d27 15 rfl) rfl ?_
   refine XS.lsub X0.here hx rfl (oG hby d27 16 rfl) rfl ?_
   refine XS.lstore X0.here hx rfl (oG hby d27 17 rfl) rfl (l' := #[oJ q0_, .second, oJ q1_, .second, oJ (cJ ((bO q0_ (1 : Int32)) / q1_) (1 : Int32)), .second, oJ (q0_ - ((cJ ((bO q0_ (1 : Int32)) / q1_) (1 : Int32)) * q1_)), .second]) rfl ?_
   refine XS.lload X0.here hx rfl (oG hby d27 18 rfl) rfl ?_
   refine XS.lload X0.here hx rfl (oG hby d27 19 rfl) rfl ?_
   refine XS.lloadN X0.here hx rfl (oG hby d27 20 rfl) rfl ?_
   refine XS.lsub X0.here hx rfl (oG hby d27 21 rfl) rfl ?_
   refine X0.ldc2Long hx hown (mvT hZ (oW hw 167 rfl)) (g := (mkF m 29 #[oJ q0_, .second, oJ q1_, .second, oJ (cJ ((bO q0_ (1 : Int32)) / q1_) (1 : Int32)), .second, oJ (q0_ - ((cJ ((bO q0_ (1 : Int32)) / q1_) (1 : Int32)) * q1_)), .second] [(.long ((q0_ - ((cJ ((bO q0_ (1 : Int32)) / q1_) (1 : Int32)) * q1_)) - q1_)), (.long (q0_ - ((cJ ((bO q0_ (1 : Int32)) / q1_) (1 : Int32)) * q1_)))])) rfl (oG hby d27 22 rfl) _ ?_
   refine XS.lxor X0.here hx rfl (oG hby d27 23 rfl) rfl ?_
   show oZ p e below s₁ (mkF m 33 #[oJ q0_, .second, oJ q1_, .second, oJ (cJ ((bO q0_ (1 : Int32)) / q1_) (1 : Int32)), .second, oJ (q0_ - ((cJ ((bO q0_ (1 : Int32)) / q1_) (1 : Int32)) * q1_)), .second] [(.long (((q0_ - ((cJ ((bO q0_ (1 : Int32)) / q1_) (1 : Int32)) * q1_)) - q1_) ^^^ (-1 : Int64))), (.long (q0_ - ((cJ ((bO q0_ (1 : Int32)) / q1_) (1 : Int32)) * q1_)))]) _
   refine XS.bipush X0.here hx rfl (oG hby d27 24 rfl) ?_
   refine XS.lshr X0.here hx rfl (oG hby d27 25 rfl) rfl ?_
   refine XS.lloadN X0.here hx rfl (oG hby d27 26 rfl) rfl ?_
   refine XS.land X0.here hx rfl (oG hby d27 27 rfl) rfl ?_
   refine XS.lsub X0.here hx rfl (oG hby d27 28 rfl) rfl ?_
   show oZ p e below s₁ (mkF m 39 #[oJ q0_, .second, oJ q1_, .second, oJ (cJ ((bO q0_ (1 : Int32)) / q1_) (1 : Int32)), .second, oJ (q0_ - ((cJ ((bO q0_ (1 : Int32)) / q1_) (1 : Int32)) * q1_)), .second] [(.long ((q0_ - ((cJ ((bO q0_ (1 : Int32)) / q1_) (1 : Int32)) * q1_)) - ((aC2 (((q0_ - ((cJ ((bO q0_ (1 : Int32)) / q1_) (1 : Int32)) * q1_)) - q1_) ^^^ (-1 : Int64)) (63 : Int32)) &&& q1_)))]) _
   exact X0.lreturnOut hx Bd.returns (oG hby d27 29 rfl) hr
 · show cD (some (.long (kT q0_ q1_))) h0 n0 _ s₁.heap _
   exact ⟨rfl, N0, e0⟩
theorem iP (rc : Nat) (rs : Nat) (i0_ : Int32) (i1_ : Int32) (o2_ : Addr) (o3_ : Addr) (i4_ : Int32) (dO : Int64) (k_ : Int32) (cT : Int32) (bD : List Int32) (i_ : Int32)
   (X0 : Stand p l e (oR 3 rc rs 60) s m args below meth c T0 locs cells slots) (hx : p.tables.exec = Jvm.exec) (hZ : Z.Warmed39 s.vm) (hw : oH a0 Z) (hby : c.code = prog_29_method_19_code) (hml : c.maxLocals = 7) (hown : s.vm.findClass oC0 = some m.cls) (e0 : T0.heap = h0) (N0 : Fr n0 locs) (Z0 : n0 ≤ h0.size) (oB : Fld Z h0 o3_ oC5 "state" "J" (.long dO)) (uX : Exa Z h0 o3_ oC5) (rS : n0 ≤ o3_) (gL : bB Z h0 o2_ cT bD) (nZ : n0 ≤ o2_) (hf0 : (0 : Int32) < i4_) (hf1 : ¬ ((lcmpW ((i4_ + (1 : Int32)).toInt64) (0 : Int64)) < (0 : Int32))) (hf2 : ¬ (((i4_ + (1 : Int32)).toInt64) = (0 : Int64))) (hf3 : ((kT (gO dO) ((i4_ + (1 : Int32)).toInt64)).toInt32) = k_) (hf4 : ¬ (o2_ = o3_)) (hf5 : ¬ (i4_ < 0)) (hf6 : i4_ < cT) (hf7 : ¬ (k_ < 0)) (hf8 : k_ < cT) (hf9 : (i4_).toNatClampNeg < bD.length) (hf10 : (k_).toNatClampNeg < (bD.set (i4_).toNatClampNeg (bD.getD (k_).toNatClampNeg 0)).length) (hf11 : (i4_ + (-1 : Int32)) = i_) (hf12 : ¬ (o3_ = o2_)) (hc : cells + (0) ≤ rc) (hs : slots + (0) ≤ rs) :
   ∃ (T' : State) (locs' : List Loc), Stand p l e (oR 3 rc rs 60) s m args below meth c T' locs' cells slots ∧ Fr n0 locs' ∧ Keep h0 T'.heap [o3_, o2_] ∧ Exa Z T'.heap o3_ oC5 ∧ Fld Z T'.heap o3_ oC5 "state" "J" (.long (dO + (-7046029254386353131 : Int64))) ∧ bB Z T'.heap o2_ cT ((bD.set (i4_).toNatClampNeg (bD.getD (k_).toNatClampNeg 0)).set (k_).toNatClampNeg (bD.getD (i4_).toNatClampNeg 0)) ∧
     ∀ target, Steps p.tables e below (T'.setTop (mkF m 39 #[oI i0_, oI i1_, oA o2_, oA o3_, oI i_, oI k_, oI (bD.getD (i4_).toNatClampNeg 0)] [])) target → Steps p.tables e below (T0.setTop (mkF m 39 #[oI i0_, oI i1_, oA o2_, oA o3_, oI i4_, .unset, .unset] [])) target := by
 obtain ⟨cq1, kq1, q1a, q1b, q1c⟩ := isOf hZ e0 uX
 obtain ⟨_, _, ⟨T1, L1, k1, n1⟩, -, X1, ⟨Lc1, hQ1, l1, y1, z1⟩, st1⟩ := X0.virtualBack hx (y := oM13) (z := oM13) hown (mvT hZ (oW hw 156 rfl)) (mvT hZ (oW hw 157 rfl)) (notFace_of_selects (args := #[]) (mvT hZ (oW hw 159 rfl))) (mvT hZ (oW hw 159 rfl)) (mvT hZ (oW hw 158 rfl)) (by decide) (backOf (W := 0) (xQ l Z a0 hw [] o3_ dO h0 n0 Z0 oB uX rS) hZ (oW hw 160 rfl) (oW hw 145 rfl) (Nat.le_of_ble_eq_true rfl) (Nat.le_of_ble_eq_true rfl)) q1a q1c (g := (mkF m 45 #[oI i0_, oI i1_, oA o2_, oA o3_, oI i4_, .unset, .unset] [(.ref o3_)])) rfl (by rw [hml]; rfl) (Steps.refl _) (argsL := []) (rest := []) (lenOf uI rfl) rfl (by show 2 * 0 + _ ≤ _; exact Nat.le_of_eq rfl) (oG hby d23 27 rfl) (fun _ _ => ⟨rfl, e0, (show cells + 0 ≤ rc from by omega), (show slots + 0 ≤ rs from by omega)⟩)
 dsimp only [Pt.U, Pt.locs, Pt.cells, Pt.slots] at X1 l1 y1 z1 st1 hQ1
 subst l1; rw [y1, z1] at X1
 obtain ⟨rfl, N1q, Kq1, rT, aC6⟩ := hQ1
 have N1 := Fr.app N0 N1q
 have K1 : Keep h0 T1.heap [o3_, o2_] := (Keep.refl h0 [o3_, o2_]).trans Kq1 (bJ (Or.inl (oX 0 rfl)))
 obtain ⟨_, _, ⟨T2, L2, k2, n2⟩, -, X2, ⟨Lc2, hQ2, l2, y2, z2⟩, st2⟩ := Jvm.LawKit.callS X1 hx (y := oM28) hown (mvT hZ (oW hw 163 rfl)) (mvT hZ (oW hw 164 rfl)) (mvT hZ (oW hw 165 rfl)) (mvT hZ (oW hw 166 rfl)) (by decide) (backOf (W := 0) (xR l Z a0 hw [] (gO dO) ((i4_ + (1 : Int32)).toInt64) T1.heap n0 (Nat.le_trans Z0 K1.1) hf1 hf2) hZ (oW hw 166 rfl) (oW hw 165 rfl) (Nat.le_of_ble_eq_true rfl) (Nat.le_of_ble_eq_true rfl)) (g := (mkF m 53 #[oI i0_, oI i1_, oA o2_, oA o3_, oI i4_, .unset, .unset] [(.long ((i4_ + (1 : Int32)).toInt64)), (.long (gO dO))])) rfl (by rw [hml]; rfl) (argsL := [(.long (gO dO)), (.long ((i4_ + (1 : Int32)).toInt64))]) (rest := []) (lenOf uJ rfl) rfl (by show 2 * 0 + _ ≤ _; exact Nat.le_of_eq rfl) (oG hby d23 32 rfl) (fun _ _ => ⟨rfl, rfl, (show cells + 0 ≤ rc from by omega), (show slots + 0 ≤ rs from by omega)⟩)
 dsimp only [Pt.U, Pt.locs, Pt.cells, Pt.slots] at X2 l2 y2 z2 st2 hQ2
 subst l2; rw [y2, z2] at X2
 obtain ⟨rfl, N2q, e2⟩ := hQ2
 have N2 := Fr.app N1 N2q
 have mZ := (gL.keep Kq1 (bH hf4))
 obtain ⟨c4, A4, hin4, hat4⟩ := bS (j := i4_) mZ hf5 hf6
 have hat4' : c4.slots[(i4_).toNatClampNeg]? = some (.int (bD.getD (i4_).toNatClampNeg 0)) := hat4
 obtain ⟨c5, A5, hin5, hat5⟩ := bS (j := k_) mZ hf7 hf8
 have hat5' : c5.slots[(k_).toNatClampNeg]? = some (.int (bD.getD (k_).toNatClampNeg 0)) := hat5
 obtain ⟨c6, A6, hin6, -⟩ := bS (j := i4_) mZ hf5 hf6
 obtain ⟨T7, h7, X7, e7, W7, st7⟩ := stI X2 hx hZ e2 A6 (j := i4_) hin6 (g := (mkF m 72 #[oI i0_, oI i1_, oA o2_, oA o3_, oI i4_, oI k_, oI (bD.getD (i4_).toNatClampNeg 0)] [(.int (bD.getD (k_).toNatClampNeg 0)), (.int i4_), (.ref o2_)])) rfl rfl (oG hby d23 44 rfl)
 have V7 : bB Z h7 o2_ cT (bD.set (i4_).toNatClampNeg (bD.getD (k_).toNatClampNeg 0)) := jN mZ hf5 hf6 W7 hf9
 have K7 : Keep h0 h7 [o3_, o2_] := K1.wr W7 (Or.inl (oX 1 rfl))
 have N7 := Fr.snoc X7 N2 nZ
 obtain ⟨c8, A8, hin8, -⟩ := bS (j := k_) V7 hf7 hf8
 obtain ⟨T9, h9, X9, e9, W9, st9⟩ := stI X7 hx hZ e7 A8 (j := k_) hin8 (g := (mkF m 78 #[oI i0_, oI i1_, oA o2_, oA o3_, oI i4_, oI k_, oI (bD.getD (i4_).toNatClampNeg 0)] [(.int (bD.getD (i4_).toNatClampNeg 0)), (.int k_), (.ref o2_)])) rfl rfl (oG hby d23 48 rfl)
 have V9 : bB Z h9 o2_ cT ((bD.set (i4_).toNatClampNeg (bD.getD (k_).toNatClampNeg 0)).set (k_).toNatClampNeg (bD.getD (i4_).toNatClampNeg 0)) := jN V7 hf7 hf8 W9 hf10
 have K9 : Keep h0 h9 [o3_, o2_] := K7.wr W9 (Or.inl (oX 1 rfl))
 have N9 := Fr.snoc X9 N7 nZ
 have rU := ((aC6.wr W7).wr W9)
 have lX := ((rT.other W7 (Or.inl hf12)).other W9 (Or.inl hf12))
 subst e9
 refine ⟨T9, _, X9, N9, K9, rU, lX, V9, fun target kt => ?_⟩
 show oZ p e below T0 (mkF m 39 #[oI i0_, oI i1_, oA o2_, oA o3_, oI i4_, .unset, .unset] []) _
 refine XS.iload X0.here hx rfl (oG hby d23 24 rfl) rfl ?_
 refine XS.ifNo X0.here hx rfl (oG hby d23 25 rfl) rfl ((if0 _ _).trans (tlt hf0).2.2.2) ?_
 refine XS.aloadN X0.here hx rfl (oG hby d23 26 rfl) rfl rfl ?_
 refine st1.trans ?_
 refine XS.iload X1.here hx rfl (oG hby d23 28 rfl) rfl ?_
 refine XS.iconst X1.here hx rfl (oG hby d23 29 rfl) ?_
 refine XS.iadd X1.here hx rfl (oG hby d23 30 rfl) rfl ?_
 refine XS.i2l X1.here hx rfl (oG hby d23 31 rfl) rfl ?_
 refine st2 _ ?_
 refine XS.l2i X2.here hx rfl (oG hby d23 33 rfl) rfl ?_
 show oZ p e below T2 (mkF m 57 #[oI i0_, oI i1_, oA o2_, oA o3_, oI i4_, .unset, .unset] [(.int ((kT (gO dO) ((i4_ + (1 : Int32)).toInt64)).toInt32))]) _
 rw [hf3]
 refine XS.istore X2.here hx rfl (oG hby d23 34 rfl) rfl (l' := #[oI i0_, oI i1_, oA o2_, oA o3_, oI i4_, oI k_, .unset]) rfl ?_
 refine XS.aloadN X2.here hx rfl (oG hby d23 35 rfl) rfl rfl ?_
 refine XS.iload X2.here hx rfl (oG hby d23 36 rfl) rfl ?_
 refine X2.iaload hx (j := i4_) (v := (.int (bD.getD (i4_).toNatClampNeg 0))) (by rw [e2]; exact A4.1) (State.isArrayOf_alike hZ.alike A4.2.1) A4.2.2 hin4 hat4' (g := (mkF m 62 #[oI i0_, oI i1_, oA o2_, oA o3_, oI i4_, oI k_, .unset] [(.int i4_), (.ref o2_)])) rfl rfl (oG hby d23 37 rfl) _ ?_
 refine XS.istore X2.here hx rfl (oG hby d23 38 rfl) rfl (l' := #[oI i0_, oI i1_, oA o2_, oA o3_, oI i4_, oI k_, oI (bD.getD (i4_).toNatClampNeg 0)]) rfl ?_
 refine XS.aloadN X2.here hx rfl (oG hby d23 39 rfl) rfl rfl ?_
 refine XS.iload X2.here hx rfl (oG hby d23 40 rfl) rfl ?_
 refine XS.aloadN X2.here hx rfl (oG hby d23 41 rfl) rfl rfl ?_
 refine XS.iload X2.here hx rfl (oG hby d23 42 rfl) rfl ?_
 refine X2.iaload hx (j := k_) (v := (.int (bD.getD (k_).toNatClampNeg 0))) (by rw [e2]; exact A5.1) (State.isArrayOf_alike hZ.alike A5.2.1) A5.2.2 hin5 hat5' (g := (mkF m 71 #[oI i0_, oI i1_, oA o2_, oA o3_, oI i4_, oI k_, oI (bD.getD (i4_).toNatClampNeg 0)] [(.int k_), (.ref o2_), (.int i4_), (.ref o2_)])) rfl rfl (oG hby d23 43 rfl) _ ?_
 show oZ p e below T2 (mkF m 72 #[oI i0_, oI i1_, oA o2_, oA o3_, oI i4_, oI k_, oI (bD.getD (i4_).toNatClampNeg 0)] [(.int (bD.getD (k_).toNatClampNeg 0)), (.int i4_), (.ref o2_)]) _
 refine st7 _ ?_
 refine XS.aloadN X7.here hx rfl (oG hby d23 45 rfl) rfl rfl ?_
 refine XS.iload X7.here hx rfl (oG hby d23 46 rfl) rfl ?_
 refine XS.iload X7.here hx rfl (oG hby d23 47 rfl) rfl ?_
 refine st9 _ ?_
 refine XS.iinc X9.here hx rfl (oG hby d23 49 rfl) rfl (l' := #[oI i0_, oI i1_, oA o2_, oA o3_, oI (i4_ + (-1 : Int32)), oI k_, oI (bD.getD (i4_).toNatClampNeg 0)]) rfl ?_
 show oZ p e below T9 (mkF m 82 #[oI i0_, oI i1_, oA o2_, oA o3_, oI (i4_ + (-1 : Int32)), oI k_, oI (bD.getD (i4_).toNatClampNeg 0)] []) _
 rw [hf11]
 refine XS.goto X9.here hx rfl (pc0 := 82) (pc' := 39) rfl (oG hby d23 50 rfl) (by decide) (by decide) ?_
 exact kt
theorem bA (rc : Nat) (rs : Nat) (i0_ : Int32) (i1_ : Int32) (o2_ : Addr) (o3_ : Addr) (i4_ : Int32) (i5_ : Int32) (i6_ : Int32) (dO : Int64) (k_ : Int32) (cT : Int32) (bD : List Int32) (i_ : Int32)
   (X0 : Stand p l e (oR 3 rc rs 60) s m args below meth c T0 locs cells slots) (hx : p.tables.exec = Jvm.exec) (hZ : Z.Warmed39 s.vm) (hw : oH a0 Z) (hby : c.code = prog_29_method_19_code) (hml : c.maxLocals = 7) (hown : s.vm.findClass oC0 = some m.cls) (e0 : T0.heap = h0) (N0 : Fr n0 locs) (Z0 : n0 ≤ h0.size) (oB : Fld Z h0 o3_ oC5 "state" "J" (.long dO)) (uX : Exa Z h0 o3_ oC5) (rS : n0 ≤ o3_) (gL : bB Z h0 o2_ cT bD) (nZ : n0 ≤ o2_) (hf0 : (0 : Int32) < i4_) (hf1 : ¬ ((lcmpW ((i4_ + (1 : Int32)).toInt64) (0 : Int64)) < (0 : Int32))) (hf2 : ¬ (((i4_ + (1 : Int32)).toInt64) = (0 : Int64))) (hf3 : ((kT (gO dO) ((i4_ + (1 : Int32)).toInt64)).toInt32) = k_) (hf4 : ¬ (o2_ = o3_)) (hf5 : ¬ (i4_ < 0)) (hf6 : i4_ < cT) (hf7 : ¬ (k_ < 0)) (hf8 : k_ < cT) (hf9 : (i4_).toNatClampNeg < bD.length) (hf10 : (k_).toNatClampNeg < (bD.set (i4_).toNatClampNeg (bD.getD (k_).toNatClampNeg 0)).length) (hf11 : (i4_ + (-1 : Int32)) = i_) (hf12 : ¬ (o3_ = o2_)) (hc : cells + (0) ≤ rc) (hs : slots + (0) ≤ rs) :
   ∃ (T' : State) (locs' : List Loc), Stand p l e (oR 3 rc rs 60) s m args below meth c T' locs' cells slots ∧ Fr n0 locs' ∧ Keep h0 T'.heap [o3_, o2_] ∧ Exa Z T'.heap o3_ oC5 ∧ Fld Z T'.heap o3_ oC5 "state" "J" (.long (dO + (-7046029254386353131 : Int64))) ∧ bB Z T'.heap o2_ cT ((bD.set (i4_).toNatClampNeg (bD.getD (k_).toNatClampNeg 0)).set (k_).toNatClampNeg (bD.getD (i4_).toNatClampNeg 0)) ∧
     ∀ target, Steps p.tables e below (T'.setTop (mkF m 39 #[oI i0_, oI i1_, oA o2_, oA o3_, oI i_, oI k_, oI (bD.getD (i4_).toNatClampNeg 0)] [])) target → Steps p.tables e below (T0.setTop (mkF m 39 #[oI i0_, oI i1_, oA o2_, oA o3_, oI i4_, oI i5_, oI i6_] [])) target := by
 obtain ⟨cq1, kq1, q1a, q1b, q1c⟩ := isOf hZ e0 uX
 obtain ⟨_, _, ⟨T1, L1, k1, n1⟩, -, X1, ⟨Lc1, hQ1, l1, y1, z1⟩, st1⟩ := X0.virtualBack hx (y := oM13) (z := oM13) hown (mvT hZ (oW hw 156 rfl)) (mvT hZ (oW hw 157 rfl)) (notFace_of_selects (args := #[]) (mvT hZ (oW hw 159 rfl))) (mvT hZ (oW hw 159 rfl)) (mvT hZ (oW hw 158 rfl)) (by decide) (backOf (W := 0) (xQ l Z a0 hw [] o3_ dO h0 n0 Z0 oB uX rS) hZ (oW hw 160 rfl) (oW hw 145 rfl) (Nat.le_of_ble_eq_true rfl) (Nat.le_of_ble_eq_true rfl)) q1a q1c (g := (mkF m 45 #[oI i0_, oI i1_, oA o2_, oA o3_, oI i4_, oI i5_, oI i6_] [(.ref o3_)])) rfl (by rw [hml]; rfl) (Steps.refl _) (argsL := []) (rest := []) (lenOf uI rfl) rfl (by show 2 * 0 + _ ≤ _; exact Nat.le_of_eq rfl) (oG hby d23 27 rfl) (fun _ _ => ⟨rfl, e0, (show cells + 0 ≤ rc from by omega), (show slots + 0 ≤ rs from by omega)⟩)
 dsimp only [Pt.U, Pt.locs, Pt.cells, Pt.slots] at X1 l1 y1 z1 st1 hQ1
 subst l1; rw [y1, z1] at X1
 obtain ⟨rfl, N1q, Kq1, rT, aC6⟩ := hQ1
 have N1 := Fr.app N0 N1q
 have K1 : Keep h0 T1.heap [o3_, o2_] := (Keep.refl h0 [o3_, o2_]).trans Kq1 (bJ (Or.inl (oX 0 rfl)))
 obtain ⟨_, _, ⟨T2, L2, k2, n2⟩, -, X2, ⟨Lc2, hQ2, l2, y2, z2⟩, st2⟩ := Jvm.LawKit.callS X1 hx (y := oM28) hown (mvT hZ (oW hw 163 rfl)) (mvT hZ (oW hw 164 rfl)) (mvT hZ (oW hw 165 rfl)) (mvT hZ (oW hw 166 rfl)) (by decide) (backOf (W := 0) (xR l Z a0 hw [] (gO dO) ((i4_ + (1 : Int32)).toInt64) T1.heap n0 (Nat.le_trans Z0 K1.1) hf1 hf2) hZ (oW hw 166 rfl) (oW hw 165 rfl) (Nat.le_of_ble_eq_true rfl) (Nat.le_of_ble_eq_true rfl)) (g := (mkF m 53 #[oI i0_, oI i1_, oA o2_, oA o3_, oI i4_, oI i5_, oI i6_] [(.long ((i4_ + (1 : Int32)).toInt64)), (.long (gO dO))])) rfl (by rw [hml]; rfl) (argsL := [(.long (gO dO)), (.long ((i4_ + (1 : Int32)).toInt64))]) (rest := []) (lenOf uJ rfl) rfl (by show 2 * 0 + _ ≤ _; exact Nat.le_of_eq rfl) (oG hby d23 32 rfl) (fun _ _ => ⟨rfl, rfl, (show cells + 0 ≤ rc from by omega), (show slots + 0 ≤ rs from by omega)⟩)
 dsimp only [Pt.U, Pt.locs, Pt.cells, Pt.slots] at X2 l2 y2 z2 st2 hQ2
 subst l2; rw [y2, z2] at X2
 obtain ⟨rfl, N2q, e2⟩ := hQ2
 have N2 := Fr.app N1 N2q
 have mZ := (gL.keep Kq1 (bH hf4))
 obtain ⟨c4, A4, hin4, hat4⟩ := bS (j := i4_) mZ hf5 hf6
 have hat4' : c4.slots[(i4_).toNatClampNeg]? = some (.int (bD.getD (i4_).toNatClampNeg 0)) := hat4
 obtain ⟨c5, A5, hin5, hat5⟩ := bS (j := k_) mZ hf7 hf8
 have hat5' : c5.slots[(k_).toNatClampNeg]? = some (.int (bD.getD (k_).toNatClampNeg 0)) := hat5
 obtain ⟨c6, A6, hin6, -⟩ := bS (j := i4_) mZ hf5 hf6
 obtain ⟨T7, h7, X7, e7, W7, st7⟩ := stI X2 hx hZ e2 A6 (j := i4_) hin6 (g := (mkF m 72 #[oI i0_, oI i1_, oA o2_, oA o3_, oI i4_, oI k_, oI (bD.getD (i4_).toNatClampNeg 0)] [(.int (bD.getD (k_).toNatClampNeg 0)), (.int i4_), (.ref o2_)])) rfl rfl (oG hby d23 44 rfl)
 have V7 : bB Z h7 o2_ cT (bD.set (i4_).toNatClampNeg (bD.getD (k_).toNatClampNeg 0)) := jN mZ hf5 hf6 W7 hf9
 have K7 : Keep h0 h7 [o3_, o2_] := K1.wr W7 (Or.inl (oX 1 rfl))
 have N7 := Fr.snoc X7 N2 nZ
 obtain ⟨c8, A8, hin8, -⟩ := bS (j := k_) V7 hf7 hf8
 obtain ⟨T9, h9, X9, e9, W9, st9⟩ := stI X7 hx hZ e7 A8 (j := k_) hin8 (g := (mkF m 78 #[oI i0_, oI i1_, oA o2_, oA o3_, oI i4_, oI k_, oI (bD.getD (i4_).toNatClampNeg 0)] [(.int (bD.getD (i4_).toNatClampNeg 0)), (.int k_), (.ref o2_)])) rfl rfl (oG hby d23 48 rfl)
 have V9 : bB Z h9 o2_ cT ((bD.set (i4_).toNatClampNeg (bD.getD (k_).toNatClampNeg 0)).set (k_).toNatClampNeg (bD.getD (i4_).toNatClampNeg 0)) := jN V7 hf7 hf8 W9 hf10
 have K9 : Keep h0 h9 [o3_, o2_] := K7.wr W9 (Or.inl (oX 1 rfl))
 have N9 := Fr.snoc X9 N7 nZ
 have rU := ((aC6.wr W7).wr W9)
 have lX := ((rT.other W7 (Or.inl hf12)).other W9 (Or.inl hf12))
 subst e9
 refine ⟨T9, _, X9, N9, K9, rU, lX, V9, fun target kt => ?_⟩
 show oZ p e below T0 (mkF m 39 #[oI i0_, oI i1_, oA o2_, oA o3_, oI i4_, oI i5_, oI i6_] []) _
 refine XS.iload X0.here hx rfl (oG hby d23 24 rfl) rfl ?_
 refine XS.ifNo X0.here hx rfl (oG hby d23 25 rfl) rfl ((if0 _ _).trans (tlt hf0).2.2.2) ?_
 refine XS.aloadN X0.here hx rfl (oG hby d23 26 rfl) rfl rfl ?_
 refine st1.trans ?_
 refine XS.iload X1.here hx rfl (oG hby d23 28 rfl) rfl ?_
 refine XS.iconst X1.here hx rfl (oG hby d23 29 rfl) ?_
 refine XS.iadd X1.here hx rfl (oG hby d23 30 rfl) rfl ?_
 refine XS.i2l X1.here hx rfl (oG hby d23 31 rfl) rfl ?_
 refine st2 _ ?_
 refine XS.l2i X2.here hx rfl (oG hby d23 33 rfl) rfl ?_
 show oZ p e below T2 (mkF m 57 #[oI i0_, oI i1_, oA o2_, oA o3_, oI i4_, oI i5_, oI i6_] [(.int ((kT (gO dO) ((i4_ + (1 : Int32)).toInt64)).toInt32))]) _
 rw [hf3]
 refine XS.istore X2.here hx rfl (oG hby d23 34 rfl) rfl (l' := #[oI i0_, oI i1_, oA o2_, oA o3_, oI i4_, oI k_, oI i6_]) rfl ?_
 refine XS.aloadN X2.here hx rfl (oG hby d23 35 rfl) rfl rfl ?_
 refine XS.iload X2.here hx rfl (oG hby d23 36 rfl) rfl ?_
 refine X2.iaload hx (j := i4_) (v := (.int (bD.getD (i4_).toNatClampNeg 0))) (by rw [e2]; exact A4.1) (State.isArrayOf_alike hZ.alike A4.2.1) A4.2.2 hin4 hat4' (g := (mkF m 62 #[oI i0_, oI i1_, oA o2_, oA o3_, oI i4_, oI k_, oI i6_] [(.int i4_), (.ref o2_)])) rfl rfl (oG hby d23 37 rfl) _ ?_
 refine XS.istore X2.here hx rfl (oG hby d23 38 rfl) rfl (l' := #[oI i0_, oI i1_, oA o2_, oA o3_, oI i4_, oI k_, oI (bD.getD (i4_).toNatClampNeg 0)]) rfl ?_
 refine XS.aloadN X2.here hx rfl (oG hby d23 39 rfl) rfl rfl ?_
 refine XS.iload X2.here hx rfl (oG hby d23 40 rfl) rfl ?_
 refine XS.aloadN X2.here hx rfl (oG hby d23 41 rfl) rfl rfl ?_
 refine XS.iload X2.here hx rfl (oG hby d23 42 rfl) rfl ?_
 refine X2.iaload hx (j := k_) (v := (.int (bD.getD (k_).toNatClampNeg 0))) (by rw [e2]; exact A5.1) (State.isArrayOf_alike hZ.alike A5.2.1) A5.2.2 hin5 hat5' (g := (mkF m 71 #[oI i0_, oI i1_, oA o2_, oA o3_, oI i4_, oI k_, oI (bD.getD (i4_).toNatClampNeg 0)] [(.int k_), (.ref o2_), (.int i4_), (.ref o2_)])) rfl rfl (oG hby d23 43 rfl) _ ?_
 show oZ p e below T2 (mkF m 72 #[oI i0_, oI i1_, oA o2_, oA o3_, oI i4_, oI k_, oI (bD.getD (i4_).toNatClampNeg 0)] [(.int (bD.getD (k_).toNatClampNeg 0)), (.int i4_), (.ref o2_)]) _
 refine st7 _ ?_
 refine XS.aloadN X7.here hx rfl (oG hby d23 45 rfl) rfl rfl ?_
 refine XS.iload X7.here hx rfl (oG hby d23 46 rfl) rfl ?_
 refine XS.iload X7.here hx rfl (oG hby d23 47 rfl) rfl ?_
 refine st9 _ ?_
 refine XS.iinc X9.here hx rfl (oG hby d23 49 rfl) rfl (l' := #[oI i0_, oI i1_, oA o2_, oA o3_, oI (i4_ + (-1 : Int32)), oI k_, oI (bD.getD (i4_).toNatClampNeg 0)]) rfl ?_
 show oZ p e below T9 (mkF m 82 #[oI i0_, oI i1_, oA o2_, oA o3_, oI (i4_ + (-1 : Int32)), oI k_, oI (bD.getD (i4_).toNatClampNeg 0)] []) _
 rw [hf11]
 refine XS.goto X9.here hx rfl (pc0 := 82) (pc' := 39) rfl (oG hby d23 50 rfl) (by decide) (by decide) ?_
 exact kt
def lB (Z : State)  (h0 : Heap) (n0 : Nat) (v : Option Value) (h : Heap) (L : List Loc) : Prop := ∃ b1 : Addr, v = some (.ref b1) ∧ Fr n0 L ∧ Keep h0 h [] ∧ h0.size ≤ b1 ∧ Exa Z h b1 "[I" ∧ bB Z h b1 (10 : Int32) ([6, 3, 2, 9, 8, 1, 4, 7, 0, 5] : List Int32)
theorem rV (l : Launch) (Z : State) (a0 : Array Value) (hw : oH a0 Z) (ws : List Jvm.Cond)  (h0 : Heap) (n0 : Nat) (Z0 : n0 ≤ h0.size) :
   oMet l oM7 prog_29_method_19_code 7 (some (.array .int)) ws (oR 3 2 11 60) Z h0 #[(.int 0), (.int 0)] (lB Z  h0 n0) := by
 refine oBd n0 (plainFor_of_name eC) ?_
 intro p e s m below meth c s₁ Bd hx hZ hby hml hown hnm X0 e0 N0
 obtain ⟨T1, h1, k1, X1, e1, E1, A1, B1, st1⟩ := newPE X0 hx hZ (oW hw 84 rfl) e0 (g := (mkF m 2 #[oI 0, oI 0, .unset, .unset, .unset, .unset, .unset] [(.int 10)])) rfl (oG hby d23 1 rfl) rfl (by decide) (cap := 10) (by decide) (by decide) (by decide) (by decide) (ad := "[I") rfl
 obtain ⟨b1, g1⟩ : ∃ z, z = h0.size := ⟨_, rfl⟩
 rw [← g1] at A1 B1 st1
 have lA : h0.size ≤ b1 := Nat.le_of_eq g1.symm
 have bK : h0.size ≤ b1 := Nat.le_trans (Keep.refl h0 []).1 lA
 have g_b1 : n0 ≤ b1 := Nat.le_trans Z0 bK
 have K1 : Keep h0 h1 [] := (Keep.refl h0 []).ext E1
 have V1 : bB Z h1 b1 (10 : Int32) ([0, 0, 0, 0, 0, 0, 0, 0, 0, 0] : List Int32) := dY (m := 10) A1 (by decide)
 obtain ⟨T2, L2, X2, N2, Kq2, Q2_0, st2⟩ := aV 2 11 (0 : Int32) (0 : Int32) b1 (0 : Int32) (10 : Int32) ([0, 0, 0, 0, 0, 0, 0, 0, 0, 0] : List Int32) (1 : Int32) X1 hx hZ hw hby hml hown e1 N0 (Nat.le_trans Z0 K1.1) V1 g_b1 (by decide +kernel) (by decide +kernel) (by decide +kernel) (by decide +kernel) (by decide +kernel) (by decide : 1 + (0) ≤ _) (by decide : 10 + (0) ≤ _)
 have K2 : Keep h0 T2.heap [] := K1.trans Kq2 (bJ (Or.inr bK))
 have Q2_0' := aK Q2_0 (vs' := ([0, 0, 0, 0, 0, 0, 0, 0, 0, 0] : List Int32)) (by decide +kernel)
 have uY := (B1.keep Kq2)
 obtain ⟨T3, L3, X3, N3, Kq3, Q3_0, st3⟩ := aV 2 11 (0 : Int32) (0 : Int32) b1 (1 : Int32) (10 : Int32) ([0, 0, 0, 0, 0, 0, 0, 0, 0, 0] : List Int32) (2 : Int32) X2 hx hZ hw hby hml hown rfl N2 (Nat.le_trans Z0 K2.1) Q2_0' g_b1 (by decide +kernel) (by decide +kernel) (by decide +kernel) (by decide +kernel) (by decide +kernel) (by decide : 1 + (0) ≤ _) (by decide : 10 + (0) ≤ _)
 have K3 : Keep h0 T3.heap [] := K2.trans Kq3 (bJ (Or.inr bK))
 have Q3_0' := aK Q3_0 (vs' := ([0, 1, 0, 0, 0, 0, 0, 0, 0, 0] : List Int32)) (by decide +kernel)
 have uZ := (uY.keep Kq3)
 obtain ⟨T5, L5, X5, N5, Kq5, Q5_0, st5⟩ := aV 2 11 (0 : Int32) (0 : Int32) b1 (2 : Int32) (10 : Int32) ([0, 1, 0, 0, 0, 0, 0, 0, 0, 0] : List Int32) (3 : Int32) X3 hx hZ hw hby hml hown rfl N3 (Nat.le_trans Z0 K3.1) Q3_0' g_b1 (by decide +kernel) (by decide +kernel) (by decide +kernel) (by decide +kernel) (by decide +kernel) (by decide : 1 + (0) ≤ _) (by decide : 10 + (0) ≤ _)
 have K5 : Keep h0 T5.heap [] := K3.trans Kq5 (bJ (Or.inr bK))
 have Q5_0' := aK Q5_0 (vs' := ([0, 1, 2, 0, 0, 0, 0, 0, 0, 0] : List Int32)) (by decide +kernel)
 have vA := (uZ.keep Kq5)
 obtain ⟨T7, L7, X7, N7, Kq7, Q7_0, st7⟩ := aV 2 11 (0 : Int32) (0 : Int32) b1 (3 : Int32) (10 : Int32) ([0, 1, 2, 0, 0, 0, 0, 0, 0, 0] : List Int32) (4 : Int32) X5 hx hZ hw hby hml hown rfl N5 (Nat.le_trans Z0 K5.1) Q5_0' g_b1 (by decide +kernel) (by decide +kernel) (by decide +kernel) (by decide +kernel) (by decide +kernel) (by decide : 1 + (0) ≤ _) (by decide : 10 + (0) ≤ _)
 have K7 : Keep h0 T7.heap [] := K5.trans Kq7 (bJ (Or.inr bK))
 have Q7_0' := aK Q7_0 (vs' := ([0, 1, 2, 3, 0, 0, 0, 0, 0, 0] : List Int32)) (by decide +kernel)
 have qL := (vA.keep Kq7)
 obtain ⟨T9, L9, X9, N9, Kq9, Q9_0, st9⟩ := aV 2 11 (0 : Int32) (0 : Int32) b1 (4 : Int32) (10 : Int32) ([0, 1, 2, 3, 0, 0, 0, 0, 0, 0] : List Int32) (5 : Int32) X7 hx hZ hw hby hml hown rfl N7 (Nat.le_trans Z0 K7.1) Q7_0' g_b1 (by decide +kernel) (by decide +kernel) (by decide +kernel) (by decide +kernel) (by decide +kernel) (by decide : 1 + (0) ≤ _) (by decide : 10 + (0) ≤ _)
 have K9 : Keep h0 T9.heap [] := K7.trans Kq9 (bJ (Or.inr bK))
 have Q9_0' := aK Q9_0 (vs' := ([0, 1, 2, 3, 4, 0, 0, 0, 0, 0] : List Int32)) (by decide +kernel)
 have lY := (qL.keep Kq9)
 obtain ⟨T11, L11, X11, N11, Kq11, Q11_0, st11⟩ := aV 2 11 (0 : Int32) (0 : Int32) b1 (5 : Int32) (10 : Int32) ([0, 1, 2, 3, 4, 0, 0, 0, 0, 0] : List Int32) (6 : Int32) X9 hx hZ hw hby hml hown rfl N9 (Nat.le_trans Z0 K9.1) Q9_0' g_b1 (by decide +kernel) (by decide +kernel) (by decide +kernel) (by decide +kernel) (by decide +kernel) (by decide : 1 + (0) ≤ _) (by decide : 10 + (0) ≤ _)
 have K11 : Keep h0 T11.heap [] := K9.trans Kq11 (bJ (Or.inr bK))
 have Q11_0' := aK Q11_0 (vs' := ([0, 1, 2, 3, 4, 5, 0, 0, 0, 0] : List Int32)) (by decide +kernel)
 have nA := (lY.keep Kq11)
 obtain ⟨T13, L13, X13, N13, Kq13, Q13_0, st13⟩ := aV 2 11 (0 : Int32) (0 : Int32) b1 (6 : Int32) (10 : Int32) ([0, 1, 2, 3, 4, 5, 0, 0, 0, 0] : List Int32) (7 : Int32) X11 hx hZ hw hby hml hown rfl N11 (Nat.le_trans Z0 K11.1) Q11_0' g_b1 (by decide +kernel) (by decide +kernel) (by decide +kernel) (by decide +kernel) (by decide +kernel) (by decide : 1 + (0) ≤ _) (by decide : 10 + (0) ≤ _)
 have K13 : Keep h0 T13.heap [] := K11.trans Kq13 (bJ (Or.inr bK))
 have Q13_0' := aK Q13_0 (vs' := ([0, 1, 2, 3, 4, 5, 6, 0, 0, 0] : List Int32)) (by decide +kernel)
 have qM := (nA.keep Kq13)
 obtain ⟨T15, L15, X15, N15, Kq15, Q15_0, st15⟩ := aV 2 11 (0 : Int32) (0 : Int32) b1 (7 : Int32) (10 : Int32) ([0, 1, 2, 3, 4, 5, 6, 0, 0, 0] : List Int32) (8 : Int32) X13 hx hZ hw hby hml hown rfl N13 (Nat.le_trans Z0 K13.1) Q13_0' g_b1 (by decide +kernel) (by decide +kernel) (by decide +kernel) (by decide +kernel) (by decide +kernel) (by decide : 1 + (0) ≤ _) (by decide : 10 + (0) ≤ _)
 have K15 : Keep h0 T15.heap [] := K13.trans Kq15 (bJ (Or.inr bK))
 have Q15_0' := aK Q15_0 (vs' := ([0, 1, 2, 3, 4, 5, 6, 7, 0, 0] : List Int32)) (by decide +kernel)
 have qN := (qM.keep Kq15)
 obtain ⟨T17, L17, X17, N17, Kq17, Q17_0, st17⟩ := aV 2 11 (0 : Int32) (0 : Int32) b1 (8 : Int32) (10 : Int32) ([0, 1, 2, 3, 4, 5, 6, 7, 0, 0] : List Int32) (9 : Int32) X15 hx hZ hw hby hml hown rfl N15 (Nat.le_trans Z0 K15.1) Q15_0' g_b1 (by decide +kernel) (by decide +kernel) (by decide +kernel) (by decide +kernel) (by decide +kernel) (by decide : 1 + (0) ≤ _) (by decide : 10 + (0) ≤ _)
 have K17 : Keep h0 T17.heap [] := K15.trans Kq17 (bJ (Or.inr bK))
 have Q17_0' := aK Q17_0 (vs' := ([0, 1, 2, 3, 4, 5, 6, 7, 8, 0] : List Int32)) (by decide +kernel)
 have qO := (qN.keep Kq17)
 obtain ⟨T19, L19, X19, N19, Kq19, Q19_0, st19⟩ := aV 2 11 (0 : Int32) (0 : Int32) b1 (9 : Int32) (10 : Int32) ([0, 1, 2, 3, 4, 5, 6, 7, 8, 0] : List Int32) (10 : Int32) X17 hx hZ hw hby hml hown rfl N17 (Nat.le_trans Z0 K17.1) Q17_0' g_b1 (by decide +kernel) (by decide +kernel) (by decide +kernel) (by decide +kernel) (by decide +kernel) (by decide : 1 + (0) ≤ _) (by decide : 10 + (0) ≤ _)
 have K19 : Keep h0 T19.heap [] := K17.trans Kq19 (bJ (Or.inr bK))
 have Q19_0' := aK Q19_0 (vs' := ([0, 1, 2, 3, 4, 5, 6, 7, 8, 9] : List Int32)) (by decide +kernel)
 obtain ⟨_, _, ⟨T21, L21, k21, n21⟩, -, X21, ⟨Lc21, hQ21, l21, y21, z21⟩, st21⟩ := Jvm.LawKit.callS X19 hx (y := oM6) hown (mvT hZ (oW hw 143 rfl)) (mvT hZ (oW hw 144 rfl)) (mvT hZ (oW hw 145 rfl)) (mvT hZ (oW hw 146 rfl)) (by decide) (backOf (W := 0) (kK l Z a0 hw [] (0 : Int64) (0 : Int64) T19.heap n0 (Nat.le_trans Z0 K19.1) ) hZ (oW hw 146 rfl) (oW hw 145 rfl) (by decide) (by decide)) (g := (mkF m 31 #[oI 0, oI 0, oA b1, oI 10, .unset, .unset, .unset] [(.long 0), (.long 0)])) rfl (by rw [hml]; rfl) (argsL := [(.long 0), (.long 0)]) (rest := []) (lenOf uH rfl) rfl (by show 2 * 0 + _ ≤ _; exact Nat.le_of_eq rfl) (oG hby d23 20 rfl) (fun _ _ => ⟨rfl, rfl, (by decide : 1 + 1 ≤ _), (by decide : 10 + 1 ≤ _)⟩)
 dsimp only [Pt.U, Pt.locs, Pt.cells, Pt.slots] at X21 l21 y21 z21 st21 hQ21
 subst l21 y21 z21
 obtain ⟨r21_b1, rfl, N21q, Kq21, gP, vB, vC⟩ := hQ21
 have N21 := Fr.app N19 N21q
 have lC := (qO.keep Kq19)
 have aH : b1 ≠ r21_b1 := oV lC.lt gP
 have bN : h0.size ≤ r21_b1 := Nat.le_trans K19.1 gP
 have g_r21_b1 : n0 ≤ r21_b1 := Nat.le_trans Z0 bN
 have K21 : Keep h0 T21.heap [] := K19.trans Kq21 dX
 have qP := (Q19_0'.keep Kq21 (dP _))
 have qQ := (lC.keep Kq21)
 obtain ⟨T23, L23, X23, N23, Kq23, vD, vE, Q23_2, st23⟩ := iP 2 11 (0 : Int32) (0 : Int32) b1 r21_b1 (9 : Int32) ((0 : Int64) + ((0 : Int64) * (-7046029254386353131 : Int64))) (5 : Int32) (10 : Int32) ([0, 1, 2, 3, 4, 5, 6, 7, 8, 9] : List Int32) (8 : Int32) X21 hx hZ hw hby hml hown rfl N21 (Nat.le_trans Z0 K21.1) vC vB g_r21_b1 qP g_b1 (by decide +kernel) (by decide +kernel) (by decide +kernel) (by decide +kernel) aH (by decide +kernel) (by decide +kernel) (by decide +kernel) (by decide +kernel) (by decide +kernel) (by decide +kernel) (by decide +kernel) (Ne.symm aH) (by decide : 2 + (0) ≤ _) (by decide : 11 + (0) ≤ _)
 have K23 : Keep h0 T23.heap [] := K21.trans Kq23 (dN (Or.inr bN) (Or.inr bK))
 have Q23_2' := aK Q23_2 (vs' := ([0, 1, 2, 3, 4, 9, 6, 7, 8, 5] : List Int32)) (by decide +kernel)
 have qR := (qQ.keep Kq23)
 obtain ⟨T26, L26, X26, N26, Kq26, vF, vG, Q26_2, st26⟩ := bA 2 11 (0 : Int32) (0 : Int32) b1 r21_b1 (8 : Int32) (5 : Int32) (([0, 1, 2, 3, 4, 5, 6, 7, 8, 9] : List Int32).getD ((9 : Int32)).toNatClampNeg 0) (((0 : Int64) + ((0 : Int64) * (-7046029254386353131 : Int64))) + (-7046029254386353131 : Int64)) (0 : Int32) (10 : Int32) ([0, 1, 2, 3, 4, 9, 6, 7, 8, 5] : List Int32) (7 : Int32) X23 hx hZ hw hby hml hown rfl N23 (Nat.le_trans Z0 K23.1) vE vD g_r21_b1 Q23_2' g_b1 (by decide +kernel) (by decide +kernel) (by decide +kernel) (by decide +kernel) aH (by decide +kernel) (by decide +kernel) (by decide +kernel) (by decide +kernel) (by decide +kernel) (by decide +kernel) (by decide +kernel) (Ne.symm aH) (by decide : 2 + (0) ≤ _) (by decide : 11 + (0) ≤ _)
 have K26 : Keep h0 T26.heap [] := K23.trans Kq26 (dN (Or.inr bN) (Or.inr bK))
 have Q26_2' := aK Q26_2 (vs' := ([8, 1, 2, 3, 4, 9, 6, 7, 0, 5] : List Int32)) (by decide +kernel)
 have qS := (qR.keep Kq26)
 obtain ⟨T28, L28, X28, N28, Kq28, vH, vI, Q28_2, st28⟩ := bA 2 11 (0 : Int32) (0 : Int32) b1 r21_b1 (7 : Int32) (0 : Int32) (([0, 1, 2, 3, 4, 9, 6, 7, 8, 5] : List Int32).getD ((8 : Int32)).toNatClampNeg 0) ((((0 : Int64) + ((0 : Int64) * (-7046029254386353131 : Int64))) + (-7046029254386353131 : Int64)) + (-7046029254386353131 : Int64)) (7 : Int32) (10 : Int32) ([8, 1, 2, 3, 4, 9, 6, 7, 0, 5] : List Int32) (6 : Int32) X26 hx hZ hw hby hml hown rfl N26 (Nat.le_trans Z0 K26.1) vG vF g_r21_b1 Q26_2' g_b1 (by decide +kernel) (by decide +kernel) (by decide +kernel) (by decide +kernel) aH (by decide +kernel) (by decide +kernel) (by decide +kernel) (by decide +kernel) (by decide +kernel) (by decide +kernel) (by decide +kernel) (Ne.symm aH) (by decide : 2 + (0) ≤ _) (by decide : 11 + (0) ≤ _)
 have K28 : Keep h0 T28.heap [] := K26.trans Kq28 (dN (Or.inr bN) (Or.inr bK))
 have Q28_2' := aK Q28_2 (vs' := ([8, 1, 2, 3, 4, 9, 6, 7, 0, 5] : List Int32)) (by decide +kernel)
 have qT := (qS.keep Kq28)
 obtain ⟨T30, L30, X30, N30, Kq30, vJ, vK, Q30_2, st30⟩ := bA 2 11 (0 : Int32) (0 : Int32) b1 r21_b1 (6 : Int32) (7 : Int32) (([8, 1, 2, 3, 4, 9, 6, 7, 0, 5] : List Int32).getD ((7 : Int32)).toNatClampNeg 0) (((((0 : Int64) + ((0 : Int64) * (-7046029254386353131 : Int64))) + (-7046029254386353131 : Int64)) + (-7046029254386353131 : Int64)) + (-7046029254386353131 : Int64)) (4 : Int32) (10 : Int32) ([8, 1, 2, 3, 4, 9, 6, 7, 0, 5] : List Int32) (5 : Int32) X28 hx hZ hw hby hml hown rfl N28 (Nat.le_trans Z0 K28.1) vI vH g_r21_b1 Q28_2' g_b1 (by decide +kernel) (by decide +kernel) (by decide +kernel) (by decide +kernel) aH (by decide +kernel) (by decide +kernel) (by decide +kernel) (by decide +kernel) (by decide +kernel) (by decide +kernel) (by decide +kernel) (Ne.symm aH) (by decide : 2 + (0) ≤ _) (by decide : 11 + (0) ≤ _)
 have K30 : Keep h0 T30.heap [] := K28.trans Kq30 (dN (Or.inr bN) (Or.inr bK))
 have Q30_2' := aK Q30_2 (vs' := ([8, 1, 2, 3, 6, 9, 4, 7, 0, 5] : List Int32)) (by decide +kernel)
 have qU := (qT.keep Kq30)
 obtain ⟨T32, L32, X32, N32, Kq32, vL, vM, Q32_2, st32⟩ := bA 2 11 (0 : Int32) (0 : Int32) b1 r21_b1 (5 : Int32) (4 : Int32) (([8, 1, 2, 3, 4, 9, 6, 7, 0, 5] : List Int32).getD ((6 : Int32)).toNatClampNeg 0) ((((((0 : Int64) + ((0 : Int64) * (-7046029254386353131 : Int64))) + (-7046029254386353131 : Int64)) + (-7046029254386353131 : Int64)) + (-7046029254386353131 : Int64)) + (-7046029254386353131 : Int64)) (1 : Int32) (10 : Int32) ([8, 1, 2, 3, 6, 9, 4, 7, 0, 5] : List Int32) (4 : Int32) X30 hx hZ hw hby hml hown rfl N30 (Nat.le_trans Z0 K30.1) vK vJ g_r21_b1 Q30_2' g_b1 (by decide +kernel) (by decide +kernel) (by decide +kernel) (by decide +kernel) aH (by decide +kernel) (by decide +kernel) (by decide +kernel) (by decide +kernel) (by decide +kernel) (by decide +kernel) (by decide +kernel) (Ne.symm aH) (by decide : 2 + (0) ≤ _) (by decide : 11 + (0) ≤ _)
 have K32 : Keep h0 T32.heap [] := K30.trans Kq32 (dN (Or.inr bN) (Or.inr bK))
 have Q32_2' := aK Q32_2 (vs' := ([8, 9, 2, 3, 6, 1, 4, 7, 0, 5] : List Int32)) (by decide +kernel)
 have qV := (qU.keep Kq32)
 obtain ⟨T34, L34, X34, N34, Kq34, vN, vO, Q34_2, st34⟩ := bA 2 11 (0 : Int32) (0 : Int32) b1 r21_b1 (4 : Int32) (1 : Int32) (([8, 1, 2, 3, 6, 9, 4, 7, 0, 5] : List Int32).getD ((5 : Int32)).toNatClampNeg 0) (((((((0 : Int64) + ((0 : Int64) * (-7046029254386353131 : Int64))) + (-7046029254386353131 : Int64)) + (-7046029254386353131 : Int64)) + (-7046029254386353131 : Int64)) + (-7046029254386353131 : Int64)) + (-7046029254386353131 : Int64)) (0 : Int32) (10 : Int32) ([8, 9, 2, 3, 6, 1, 4, 7, 0, 5] : List Int32) (3 : Int32) X32 hx hZ hw hby hml hown rfl N32 (Nat.le_trans Z0 K32.1) vM vL g_r21_b1 Q32_2' g_b1 (by decide +kernel) (by decide +kernel) (by decide +kernel) (by decide +kernel) aH (by decide +kernel) (by decide +kernel) (by decide +kernel) (by decide +kernel) (by decide +kernel) (by decide +kernel) (by decide +kernel) (Ne.symm aH) (by decide : 2 + (0) ≤ _) (by decide : 11 + (0) ≤ _)
 have K34 : Keep h0 T34.heap [] := K32.trans Kq34 (dN (Or.inr bN) (Or.inr bK))
 have Q34_2' := aK Q34_2 (vs' := ([6, 9, 2, 3, 8, 1, 4, 7, 0, 5] : List Int32)) (by decide +kernel)
 have qW := (qV.keep Kq34)
 obtain ⟨T36, L36, X36, N36, Kq36, vP, vQ, Q36_2, st36⟩ := bA 2 11 (0 : Int32) (0 : Int32) b1 r21_b1 (3 : Int32) (0 : Int32) (([8, 9, 2, 3, 6, 1, 4, 7, 0, 5] : List Int32).getD ((4 : Int32)).toNatClampNeg 0) ((((((((0 : Int64) + ((0 : Int64) * (-7046029254386353131 : Int64))) + (-7046029254386353131 : Int64)) + (-7046029254386353131 : Int64)) + (-7046029254386353131 : Int64)) + (-7046029254386353131 : Int64)) + (-7046029254386353131 : Int64)) + (-7046029254386353131 : Int64)) (1 : Int32) (10 : Int32) ([6, 9, 2, 3, 8, 1, 4, 7, 0, 5] : List Int32) (2 : Int32) X34 hx hZ hw hby hml hown rfl N34 (Nat.le_trans Z0 K34.1) vO vN g_r21_b1 Q34_2' g_b1 (by decide +kernel) (by decide +kernel) (by decide +kernel) (by decide +kernel) aH (by decide +kernel) (by decide +kernel) (by decide +kernel) (by decide +kernel) (by decide +kernel) (by decide +kernel) (by decide +kernel) (Ne.symm aH) (by decide : 2 + (0) ≤ _) (by decide : 11 + (0) ≤ _)
 have K36 : Keep h0 T36.heap [] := K34.trans Kq36 (dN (Or.inr bN) (Or.inr bK))
 have Q36_2' := aK Q36_2 (vs' := ([6, 3, 2, 9, 8, 1, 4, 7, 0, 5] : List Int32)) (by decide +kernel)
 have qX := (qW.keep Kq36)
 obtain ⟨T38, L38, X38, N38, Kq38, vR, vS, Q38_2, st38⟩ := bA 2 11 (0 : Int32) (0 : Int32) b1 r21_b1 (2 : Int32) (1 : Int32) (([6, 9, 2, 3, 8, 1, 4, 7, 0, 5] : List Int32).getD ((3 : Int32)).toNatClampNeg 0) (((((((((0 : Int64) + ((0 : Int64) * (-7046029254386353131 : Int64))) + (-7046029254386353131 : Int64)) + (-7046029254386353131 : Int64)) + (-7046029254386353131 : Int64)) + (-7046029254386353131 : Int64)) + (-7046029254386353131 : Int64)) + (-7046029254386353131 : Int64)) + (-7046029254386353131 : Int64)) (2 : Int32) (10 : Int32) ([6, 3, 2, 9, 8, 1, 4, 7, 0, 5] : List Int32) (1 : Int32) X36 hx hZ hw hby hml hown rfl N36 (Nat.le_trans Z0 K36.1) vQ vP g_r21_b1 Q36_2' g_b1 (by decide +kernel) (by decide +kernel) (by decide +kernel) (by decide +kernel) aH (by decide +kernel) (by decide +kernel) (by decide +kernel) (by decide +kernel) (by decide +kernel) (by decide +kernel) (by decide +kernel) (Ne.symm aH) (by decide : 2 + (0) ≤ _) (by decide : 11 + (0) ≤ _)
 have K38 : Keep h0 T38.heap [] := K36.trans Kq38 (dN (Or.inr bN) (Or.inr bK))
 have Q38_2' := aK Q38_2 (vs' := ([6, 3, 2, 9, 8, 1, 4, 7, 0, 5] : List Int32)) (by decide +kernel)
 have qY := (qX.keep Kq38)
 obtain ⟨T40, L40, X40, N40, Kq40, aM5, aM6, Q40_2, st40⟩ := bA 2 11 (0 : Int32) (0 : Int32) b1 r21_b1 (1 : Int32) (2 : Int32) (([6, 3, 2, 9, 8, 1, 4, 7, 0, 5] : List Int32).getD ((2 : Int32)).toNatClampNeg 0) ((((((((((0 : Int64) + ((0 : Int64) * (-7046029254386353131 : Int64))) + (-7046029254386353131 : Int64)) + (-7046029254386353131 : Int64)) + (-7046029254386353131 : Int64)) + (-7046029254386353131 : Int64)) + (-7046029254386353131 : Int64)) + (-7046029254386353131 : Int64)) + (-7046029254386353131 : Int64)) + (-7046029254386353131 : Int64)) (1 : Int32) (10 : Int32) ([6, 3, 2, 9, 8, 1, 4, 7, 0, 5] : List Int32) (0 : Int32) X38 hx hZ hw hby hml hown rfl N38 (Nat.le_trans Z0 K38.1) vS vR g_r21_b1 Q38_2' g_b1 (by decide +kernel) (by decide +kernel) (by decide +kernel) (by decide +kernel) aH (by decide +kernel) (by decide +kernel) (by decide +kernel) (by decide +kernel) (by decide +kernel) (by decide +kernel) (by decide +kernel) (Ne.symm aH) (by decide : 2 + (0) ≤ _) (by decide : 11 + (0) ≤ _)
 have K40 : Keep h0 T40.heap [] := K38.trans Kq40 (dN (Or.inr bN) (Or.inr bK))
 have Q40_2' := aK Q40_2 (vs' := ([6, 3, 2, 9, 8, 1, 4, 7, 0, 5] : List Int32)) (by decide +kernel)
 have qZ := (qY.keep Kq40)
 obtain ⟨fs, hr, hrun, hended, hW, hsame⟩ := X40.leave (v := some (.ref b1)) (fun h => by rw [Bd.returns] at h; cases h)
 refine ⟨_, _, castTop (rN m (0 : Int32) (0 : Int32)) ?_, hrun, hended, _, _, rfl, ?_, ⟨_, rfl⟩, hW, (hsame.mono (by decide) (by decide))⟩
 · show oZ p e below s₁ (mkF m 0 #[oI 0, oI 0, .unset, .unset, .unset, .unset, .unset] []) _
   refine XS.bipush X0.here hx rfl (oG hby d23 0 rfl) ?_
   refine st1 _ ?_
   refine XS.astoreN X1.here hx rfl (oG hby d23 2 rfl) rfl rfl (l' := #[oI 0, oI 0, oA b1, .unset, .unset, .unset, .unset]) rfl ?_
   refine XS.iconst X1.here hx rfl (oG hby d23 3 rfl) ?_
   refine XS.istoreN X1.here hx rfl (oG hby d23 4 rfl) rfl (l' := #[oI 0, oI 0, oA b1, oI 0, .unset, .unset, .unset]) rfl ?_
   refine st2 _ ?_
   refine st3 _ ?_
   refine st5 _ ?_
   refine st7 _ ?_
   refine st9 _ ?_
   refine st11 _ ?_
   show oZ p e below T11 (mkF m 7 #[oI 0, oI 0, oA b1, oI 6, .unset, .unset, .unset] []) _
   refine st13 _ ?_
   refine st15 _ ?_
   refine st17 _ ?_
   refine st19 _ ?_
   refine XS.iloadN X19.here hx rfl (oG hby d23 5 rfl) rfl ?_
   refine XS.bipush X19.here hx rfl (oG hby d23 6 rfl) ?_
   refine XS.icmpYes X19.here hx rfl (pc0 := 10) (pc' := 23) rfl (oG hby d23 7 rfl) rfl (flt (by decide +kernel : ¬ ((10 : Int32) < (10 : Int32)))).2.1 (by decide) (by decide) ?_
   refine XS.iloadN X19.here hx rfl (oG hby d23 14 rfl) rfl ?_
   refine XS.i2l X19.here hx rfl (oG hby d23 15 rfl) rfl ?_
   show oZ p e below T19 (mkF m 25 #[oI 0, oI 0, oA b1, oI 10, .unset, .unset, .unset] [(.long ((0 : Int32).toInt64))]) _
   rw [(by decide +kernel : ((0 : Int32).toInt64) = (0 : Int64))]
   refine XS.iloadN X19.here hx rfl (oG hby d23 16 rfl) rfl ?_
   refine XS.i2l X19.here hx rfl (oG hby d23 17 rfl) rfl ?_
   show oZ p e below T19 (mkF m 27 #[oI 0, oI 0, oA b1, oI 10, .unset, .unset, .unset] [(.long ((0 : Int32).toInt64)), (.long 0)]) _
   rw [(by decide +kernel : ((0 : Int32).toInt64) = (0 : Int64))]
   refine X19.ldc2Long hx hown (mvT hZ (oW hw 142 rfl)) (g := (mkF m 27 #[oI 0, oI 0, oA b1, oI 10, .unset, .unset, .unset] [(.long 0), (.long 0)])) rfl (oG hby d23 18 rfl) _ ?_
   refine XS.lmul X19.here hx rfl (oG hby d23 19 rfl) rfl ?_
   show oZ p e below T19 (mkF m 31 #[oI 0, oI 0, oA b1, oI 10, .unset, .unset, .unset] [(.long ((0 : Int64) * (9 : Int64))), (.long 0)]) _
   rw [(by decide +kernel : ((0 : Int64) * (9 : Int64)) = (0 : Int64))]
   refine st21 _ ?_
   refine XS.astoreN X21.here hx rfl (oG hby d23 21 rfl) rfl rfl (l' := #[oI 0, oI 0, oA b1, oA r21_b1, .unset, .unset, .unset]) rfl ?_
   refine XS.bipush X21.here hx rfl (oG hby d23 22 rfl) ?_
   refine XS.istore X21.here hx rfl (oG hby d23 23 rfl) rfl (l' := #[oI 0, oI 0, oA b1, oA r21_b1, oI 9, .unset, .unset]) rfl ?_
   refine st23 _ ?_
   refine st26 _ ?_
   refine st28 _ ?_
   refine st30 _ ?_
   refine st32 _ ?_
   refine st34 _ ?_
   show oZ p e below T34 (mkF m 39 #[oI 0, oI 0, oA b1, oA r21_b1, oI 3, oI 0, oI (([8, 9, 2, 3, 6, 1, 4, 7, 0, 5] : List Int32).getD ((4 : Int32)).toNatClampNeg 0)] []) _
   refine st36 _ ?_
   refine st38 _ ?_
   refine st40 _ ?_
   refine XS.iload X40.here hx rfl (oG hby d23 24 rfl) rfl ?_
   refine XS.ifYes X40.here hx rfl (pc0 := 41) (pc' := 85) rfl (oG hby d23 25 rfl) rfl ((if0 _ _).trans (flt (by decide +kernel : ¬ ((0 : Int32) < (0 : Int32)))).2.2.2) (by decide) (by decide) ?_
   refine XS.aloadN X40.here hx rfl (oG hby d23 51 rfl) rfl rfl ?_
   show oZ p e below T40 (mkF m 86 #[oI 0, oI 0, oA b1, oA r21_b1, oI 0, oI 1, oI (([6, 3, 2, 9, 8, 1, 4, 7, 0, 5] : List Int32).getD ((1 : Int32)).toNatClampNeg 0)] [(.ref b1)]) _
   jvm_step X40.here [X40.here.top, hx, (oG hby d23 52 rfl), X40.method', Bd.returns, Value.isRef, FieldType.isReference]
   first | (intro acts; rw [hr _ acts rfl rfl rfl]) | rw [hr _ _ rfl rfl rfl]
   exact Steps.refl _
 · show lB Z  h0 n0 _ T40.heap _
   exact ⟨b1, rfl, N40, K40, bK, qZ, Q40_2'⟩
def lD (Z : State)  (h0 : Heap) (n0 : Nat) (v : Option Value) (h : Heap) (L : List Loc) : Prop := ∃ b1 : Addr, v = some (.ref b1) ∧ Fr n0 L ∧ Keep h0 h [] ∧ h0.size ≤ b1 ∧ Exa Z h b1 "[I" ∧ bB Z h b1 (10 : Int32) ([7, 4, 9, 5, 2, 3, 8, 6, 1, 0] : List Int32)
theorem rW (l : Launch) (Z : State) (a0 : Array Value) (hw : oH a0 Z) (ws : List Jvm.Cond)  (h0 : Heap) (n0 : Nat) (Z0 : n0 ≤ h0.size) :
   oMet l oM7 prog_29_method_19_code 7 (some (.array .int)) ws (oR 3 2 11 60) Z h0 #[(.int 0), (.int 1)] (lD Z  h0 n0) := by
 refine oBd n0 (plainFor_of_name eC) ?_
 intro p e s m below meth c s₁ Bd hx hZ hby hml hown hnm X0 e0 N0
 obtain ⟨T1, h1, k1, X1, e1, E1, A1, B1, st1⟩ := newPE X0 hx hZ (oW hw 84 rfl) e0 (g := (mkF m 2 #[oI 0, oI 1, .unset, .unset, .unset, .unset, .unset] [(.int 10)])) rfl (oG hby d23 1 rfl) rfl (by decide) (cap := 10) (by decide) (by decide) (by decide) (by decide) (ad := "[I") rfl
 obtain ⟨b1, g1⟩ : ∃ z, z = h0.size := ⟨_, rfl⟩
 rw [← g1] at A1 B1 st1
 have lA : h0.size ≤ b1 := Nat.le_of_eq g1.symm
 have bK : h0.size ≤ b1 := Nat.le_trans (Keep.refl h0 []).1 lA
 have g_b1 : n0 ≤ b1 := Nat.le_trans Z0 bK
 have K1 : Keep h0 h1 [] := (Keep.refl h0 []).ext E1
 have V1 : bB Z h1 b1 (10 : Int32) ([0, 0, 0, 0, 0, 0, 0, 0, 0, 0] : List Int32) := dY (m := 10) A1 (by decide)
 obtain ⟨T2, L2, X2, N2, Kq2, Q2_0, st2⟩ := aV 2 11 (0 : Int32) (1 : Int32) b1 (0 : Int32) (10 : Int32) ([0, 0, 0, 0, 0, 0, 0, 0, 0, 0] : List Int32) (1 : Int32) X1 hx hZ hw hby hml hown e1 N0 (Nat.le_trans Z0 K1.1) V1 g_b1 (by decide +kernel) (by decide +kernel) (by decide +kernel) (by decide +kernel) (by decide +kernel) (by decide : 1 + (0) ≤ _) (by decide : 10 + (0) ≤ _)
 have K2 : Keep h0 T2.heap [] := K1.trans Kq2 (bJ (Or.inr bK))
 have Q2_0' := aK Q2_0 (vs' := ([0, 0, 0, 0, 0, 0, 0, 0, 0, 0] : List Int32)) (by decide +kernel)
 have uY := (B1.keep Kq2)
 obtain ⟨T3, L3, X3, N3, Kq3, Q3_0, st3⟩ := aV 2 11 (0 : Int32) (1 : Int32) b1 (1 : Int32) (10 : Int32) ([0, 0, 0, 0, 0, 0, 0, 0, 0, 0] : List Int32) (2 : Int32) X2 hx hZ hw hby hml hown rfl N2 (Nat.le_trans Z0 K2.1) Q2_0' g_b1 (by decide +kernel) (by decide +kernel) (by decide +kernel) (by decide +kernel) (by decide +kernel) (by decide : 1 + (0) ≤ _) (by decide : 10 + (0) ≤ _)
 have K3 : Keep h0 T3.heap [] := K2.trans Kq3 (bJ (Or.inr bK))
 have Q3_0' := aK Q3_0 (vs' := ([0, 1, 0, 0, 0, 0, 0, 0, 0, 0] : List Int32)) (by decide +kernel)
 have uZ := (uY.keep Kq3)
 obtain ⟨T5, L5, X5, N5, Kq5, Q5_0, st5⟩ := aV 2 11 (0 : Int32) (1 : Int32) b1 (2 : Int32) (10 : Int32) ([0, 1, 0, 0, 0, 0, 0, 0, 0, 0] : List Int32) (3 : Int32) X3 hx hZ hw hby hml hown rfl N3 (Nat.le_trans Z0 K3.1) Q3_0' g_b1 (by decide +kernel) (by decide +kernel) (by decide +kernel) (by decide +kernel) (by decide +kernel) (by decide : 1 + (0) ≤ _) (by decide : 10 + (0) ≤ _)
 have K5 : Keep h0 T5.heap [] := K3.trans Kq5 (bJ (Or.inr bK))
 have Q5_0' := aK Q5_0 (vs' := ([0, 1, 2, 0, 0, 0, 0, 0, 0, 0] : List Int32)) (by decide +kernel)
 have vA := (uZ.keep Kq5)
 obtain ⟨T7, L7, X7, N7, Kq7, Q7_0, st7⟩ := aV 2 11 (0 : Int32) (1 : Int32) b1 (3 : Int32) (10 : Int32) ([0, 1, 2, 0, 0, 0, 0, 0, 0, 0] : List Int32) (4 : Int32) X5 hx hZ hw hby hml hown rfl N5 (Nat.le_trans Z0 K5.1) Q5_0' g_b1 (by decide +kernel) (by decide +kernel) (by decide +kernel) (by decide +kernel) (by decide +kernel) (by decide : 1 + (0) ≤ _) (by decide : 10 + (0) ≤ _)
 have K7 : Keep h0 T7.heap [] := K5.trans Kq7 (bJ (Or.inr bK))
 have Q7_0' := aK Q7_0 (vs' := ([0, 1, 2, 3, 0, 0, 0, 0, 0, 0] : List Int32)) (by decide +kernel)
 have qL := (vA.keep Kq7)
 obtain ⟨T9, L9, X9, N9, Kq9, Q9_0, st9⟩ := aV 2 11 (0 : Int32) (1 : Int32) b1 (4 : Int32) (10 : Int32) ([0, 1, 2, 3, 0, 0, 0, 0, 0, 0] : List Int32) (5 : Int32) X7 hx hZ hw hby hml hown rfl N7 (Nat.le_trans Z0 K7.1) Q7_0' g_b1 (by decide +kernel) (by decide +kernel) (by decide +kernel) (by decide +kernel) (by decide +kernel) (by decide : 1 + (0) ≤ _) (by decide : 10 + (0) ≤ _)
 have K9 : Keep h0 T9.heap [] := K7.trans Kq9 (bJ (Or.inr bK))
 have Q9_0' := aK Q9_0 (vs' := ([0, 1, 2, 3, 4, 0, 0, 0, 0, 0] : List Int32)) (by decide +kernel)
 have lY := (qL.keep Kq9)
 obtain ⟨T11, L11, X11, N11, Kq11, Q11_0, st11⟩ := aV 2 11 (0 : Int32) (1 : Int32) b1 (5 : Int32) (10 : Int32) ([0, 1, 2, 3, 4, 0, 0, 0, 0, 0] : List Int32) (6 : Int32) X9 hx hZ hw hby hml hown rfl N9 (Nat.le_trans Z0 K9.1) Q9_0' g_b1 (by decide +kernel) (by decide +kernel) (by decide +kernel) (by decide +kernel) (by decide +kernel) (by decide : 1 + (0) ≤ _) (by decide : 10 + (0) ≤ _)
 have K11 : Keep h0 T11.heap [] := K9.trans Kq11 (bJ (Or.inr bK))
 have Q11_0' := aK Q11_0 (vs' := ([0, 1, 2, 3, 4, 5, 0, 0, 0, 0] : List Int32)) (by decide +kernel)
 have nA := (lY.keep Kq11)
 obtain ⟨T13, L13, X13, N13, Kq13, Q13_0, st13⟩ := aV 2 11 (0 : Int32) (1 : Int32) b1 (6 : Int32) (10 : Int32) ([0, 1, 2, 3, 4, 5, 0, 0, 0, 0] : List Int32) (7 : Int32) X11 hx hZ hw hby hml hown rfl N11 (Nat.le_trans Z0 K11.1) Q11_0' g_b1 (by decide +kernel) (by decide +kernel) (by decide +kernel) (by decide +kernel) (by decide +kernel) (by decide : 1 + (0) ≤ _) (by decide : 10 + (0) ≤ _)
 have K13 : Keep h0 T13.heap [] := K11.trans Kq13 (bJ (Or.inr bK))
 have Q13_0' := aK Q13_0 (vs' := ([0, 1, 2, 3, 4, 5, 6, 0, 0, 0] : List Int32)) (by decide +kernel)
 have qM := (nA.keep Kq13)
 obtain ⟨T15, L15, X15, N15, Kq15, Q15_0, st15⟩ := aV 2 11 (0 : Int32) (1 : Int32) b1 (7 : Int32) (10 : Int32) ([0, 1, 2, 3, 4, 5, 6, 0, 0, 0] : List Int32) (8 : Int32) X13 hx hZ hw hby hml hown rfl N13 (Nat.le_trans Z0 K13.1) Q13_0' g_b1 (by decide +kernel) (by decide +kernel) (by decide +kernel) (by decide +kernel) (by decide +kernel) (by decide : 1 + (0) ≤ _) (by decide : 10 + (0) ≤ _)
 have K15 : Keep h0 T15.heap [] := K13.trans Kq15 (bJ (Or.inr bK))
 have Q15_0' := aK Q15_0 (vs' := ([0, 1, 2, 3, 4, 5, 6, 7, 0, 0] : List Int32)) (by decide +kernel)
 have qN := (qM.keep Kq15)
 obtain ⟨T17, L17, X17, N17, Kq17, Q17_0, st17⟩ := aV 2 11 (0 : Int32) (1 : Int32) b1 (8 : Int32) (10 : Int32) ([0, 1, 2, 3, 4, 5, 6, 7, 0, 0] : List Int32) (9 : Int32) X15 hx hZ hw hby hml hown rfl N15 (Nat.le_trans Z0 K15.1) Q15_0' g_b1 (by decide +kernel) (by decide +kernel) (by decide +kernel) (by decide +kernel) (by decide +kernel) (by decide : 1 + (0) ≤ _) (by decide : 10 + (0) ≤ _)
 have K17 : Keep h0 T17.heap [] := K15.trans Kq17 (bJ (Or.inr bK))
 have Q17_0' := aK Q17_0 (vs' := ([0, 1, 2, 3, 4, 5, 6, 7, 8, 0] : List Int32)) (by decide +kernel)
 have qO := (qN.keep Kq17)
 obtain ⟨T19, L19, X19, N19, Kq19, Q19_0, st19⟩ := aV 2 11 (0 : Int32) (1 : Int32) b1 (9 : Int32) (10 : Int32) ([0, 1, 2, 3, 4, 5, 6, 7, 8, 0] : List Int32) (10 : Int32) X17 hx hZ hw hby hml hown rfl N17 (Nat.le_trans Z0 K17.1) Q17_0' g_b1 (by decide +kernel) (by decide +kernel) (by decide +kernel) (by decide +kernel) (by decide +kernel) (by decide : 1 + (0) ≤ _) (by decide : 10 + (0) ≤ _)
 have K19 : Keep h0 T19.heap [] := K17.trans Kq19 (bJ (Or.inr bK))
 have Q19_0' := aK Q19_0 (vs' := ([0, 1, 2, 3, 4, 5, 6, 7, 8, 9] : List Int32)) (by decide +kernel)
 obtain ⟨_, _, ⟨T21, L21, k21, n21⟩, -, X21, ⟨Lc21, hQ21, l21, y21, z21⟩, st21⟩ := Jvm.LawKit.callS X19 hx (y := oM6) hown (mvT hZ (oW hw 143 rfl)) (mvT hZ (oW hw 144 rfl)) (mvT hZ (oW hw 145 rfl)) (mvT hZ (oW hw 146 rfl)) (by decide) (backOf (W := 0) (kK l Z a0 hw [] (0 : Int64) (9 : Int64) T19.heap n0 (Nat.le_trans Z0 K19.1) ) hZ (oW hw 146 rfl) (oW hw 145 rfl) (by decide) (by decide)) (g := (mkF m 31 #[oI 0, oI 1, oA b1, oI 10, .unset, .unset, .unset] [(.long 9), (.long 0)])) rfl (by rw [hml]; rfl) (argsL := [(.long 0), (.long 9)]) (rest := []) (lenOf uH rfl) rfl (by show 2 * 0 + _ ≤ _; exact Nat.le_of_eq rfl) (oG hby d23 20 rfl) (fun _ _ => ⟨rfl, rfl, (by decide : 1 + 1 ≤ _), (by decide : 10 + 1 ≤ _)⟩)
 dsimp only [Pt.U, Pt.locs, Pt.cells, Pt.slots] at X21 l21 y21 z21 st21 hQ21
 subst l21 y21 z21
 obtain ⟨r21_b1, rfl, N21q, Kq21, gP, vB, vC⟩ := hQ21
 have N21 := Fr.app N19 N21q
 have lC := (qO.keep Kq19)
 have aH : b1 ≠ r21_b1 := oV lC.lt gP
 have bN : h0.size ≤ r21_b1 := Nat.le_trans K19.1 gP
 have g_r21_b1 : n0 ≤ r21_b1 := Nat.le_trans Z0 bN
 have K21 : Keep h0 T21.heap [] := K19.trans Kq21 dX
 have qP := (Q19_0'.keep Kq21 (dP _))
 have qQ := (lC.keep Kq21)
 obtain ⟨T23, L23, X23, N23, Kq23, vD, vE, Q23_2, st23⟩ := iP 2 11 (0 : Int32) (1 : Int32) b1 r21_b1 (9 : Int32) ((0 : Int64) + ((9 : Int64) * (-7046029254386353131 : Int64))) (0 : Int32) (10 : Int32) ([0, 1, 2, 3, 4, 5, 6, 7, 8, 9] : List Int32) (8 : Int32) X21 hx hZ hw hby hml hown rfl N21 (Nat.le_trans Z0 K21.1) vC vB g_r21_b1 qP g_b1 (by decide +kernel) (by decide +kernel) (by decide +kernel) (by decide +kernel) aH (by decide +kernel) (by decide +kernel) (by decide +kernel) (by decide +kernel) (by decide +kernel) (by decide +kernel) (by decide +kernel) (Ne.symm aH) (by decide : 2 + (0) ≤ _) (by decide : 11 + (0) ≤ _)
 have K23 : Keep h0 T23.heap [] := K21.trans Kq23 (dN (Or.inr bN) (Or.inr bK))
 have Q23_2' := aK Q23_2 (vs' := ([9, 1, 2, 3, 4, 5, 6, 7, 8, 0] : List Int32)) (by decide +kernel)
 have qR := (qQ.keep Kq23)
 obtain ⟨T26, L26, X26, N26, Kq26, vF, vG, Q26_2, st26⟩ := bA 2 11 (0 : Int32) (1 : Int32) b1 r21_b1 (8 : Int32) (0 : Int32) (([0, 1, 2, 3, 4, 5, 6, 7, 8, 9] : List Int32).getD ((9 : Int32)).toNatClampNeg 0) (((0 : Int64) + ((9 : Int64) * (-7046029254386353131 : Int64))) + (-7046029254386353131 : Int64)) (1 : Int32) (10 : Int32) ([9, 1, 2, 3, 4, 5, 6, 7, 8, 0] : List Int32) (7 : Int32) X23 hx hZ hw hby hml hown rfl N23 (Nat.le_trans Z0 K23.1) vE vD g_r21_b1 Q23_2' g_b1 (by decide +kernel) (by decide +kernel) (by decide +kernel) (by decide +kernel) aH (by decide +kernel) (by decide +kernel) (by decide +kernel) (by decide +kernel) (by decide +kernel) (by decide +kernel) (by decide +kernel) (Ne.symm aH) (by decide : 2 + (0) ≤ _) (by decide : 11 + (0) ≤ _)
 have K26 : Keep h0 T26.heap [] := K23.trans Kq26 (dN (Or.inr bN) (Or.inr bK))
 have Q26_2' := aK Q26_2 (vs' := ([9, 8, 2, 3, 4, 5, 6, 7, 1, 0] : List Int32)) (by decide +kernel)
 have qS := (qR.keep Kq26)
 obtain ⟨T28, L28, X28, N28, Kq28, vH, vI, Q28_2, st28⟩ := bA 2 11 (0 : Int32) (1 : Int32) b1 r21_b1 (7 : Int32) (1 : Int32) (([9, 1, 2, 3, 4, 5, 6, 7, 8, 0] : List Int32).getD ((8 : Int32)).toNatClampNeg 0) ((((0 : Int64) + ((9 : Int64) * (-7046029254386353131 : Int64))) + (-7046029254386353131 : Int64)) + (-7046029254386353131 : Int64)) (6 : Int32) (10 : Int32) ([9, 8, 2, 3, 4, 5, 6, 7, 1, 0] : List Int32) (6 : Int32) X26 hx hZ hw hby hml hown rfl N26 (Nat.le_trans Z0 K26.1) vG vF g_r21_b1 Q26_2' g_b1 (by decide +kernel) (by decide +kernel) (by decide +kernel) (by decide +kernel) aH (by decide +kernel) (by decide +kernel) (by decide +kernel) (by decide +kernel) (by decide +kernel) (by decide +kernel) (by decide +kernel) (Ne.symm aH) (by decide : 2 + (0) ≤ _) (by decide : 11 + (0) ≤ _)
 have K28 : Keep h0 T28.heap [] := K26.trans Kq28 (dN (Or.inr bN) (Or.inr bK))
 have Q28_2' := aK Q28_2 (vs' := ([9, 8, 2, 3, 4, 5, 7, 6, 1, 0] : List Int32)) (by decide +kernel)
 have qT := (qS.keep Kq28)
 obtain ⟨T30, L30, X30, N30, Kq30, vJ, vK, Q30_2, st30⟩ := bA 2 11 (0 : Int32) (1 : Int32) b1 r21_b1 (6 : Int32) (6 : Int32) (([9, 8, 2, 3, 4, 5, 6, 7, 1, 0] : List Int32).getD ((7 : Int32)).toNatClampNeg 0) (((((0 : Int64) + ((9 : Int64) * (-7046029254386353131 : Int64))) + (-7046029254386353131 : Int64)) + (-7046029254386353131 : Int64)) + (-7046029254386353131 : Int64)) (1 : Int32) (10 : Int32) ([9, 8, 2, 3, 4, 5, 7, 6, 1, 0] : List Int32) (5 : Int32) X28 hx hZ hw hby hml hown rfl N28 (Nat.le_trans Z0 K28.1) vI vH g_r21_b1 Q28_2' g_b1 (by decide +kernel) (by decide +kernel) (by decide +kernel) (by decide +kernel) aH (by decide +kernel) (by decide +kernel) (by decide +kernel) (by decide +kernel) (by decide +kernel) (by decide +kernel) (by decide +kernel) (Ne.symm aH) (by decide : 2 + (0) ≤ _) (by decide : 11 + (0) ≤ _)
 have K30 : Keep h0 T30.heap [] := K28.trans Kq30 (dN (Or.inr bN) (Or.inr bK))
 have Q30_2' := aK Q30_2 (vs' := ([9, 7, 2, 3, 4, 5, 8, 6, 1, 0] : List Int32)) (by decide +kernel)
 have qU := (qT.keep Kq30)
 obtain ⟨T32, L32, X32, N32, Kq32, vL, vM, Q32_2, st32⟩ := bA 2 11 (0 : Int32) (1 : Int32) b1 r21_b1 (5 : Int32) (1 : Int32) (([9, 8, 2, 3, 4, 5, 7, 6, 1, 0] : List Int32).getD ((6 : Int32)).toNatClampNeg 0) ((((((0 : Int64) + ((9 : Int64) * (-7046029254386353131 : Int64))) + (-7046029254386353131 : Int64)) + (-7046029254386353131 : Int64)) + (-7046029254386353131 : Int64)) + (-7046029254386353131 : Int64)) (3 : Int32) (10 : Int32) ([9, 7, 2, 3, 4, 5, 8, 6, 1, 0] : List Int32) (4 : Int32) X30 hx hZ hw hby hml hown rfl N30 (Nat.le_trans Z0 K30.1) vK vJ g_r21_b1 Q30_2' g_b1 (by decide +kernel) (by decide +kernel) (by decide +kernel) (by decide +kernel) aH (by decide +kernel) (by decide +kernel) (by decide +kernel) (by decide +kernel) (by decide +kernel) (by decide +kernel) (by decide +kernel) (Ne.symm aH) (by decide : 2 + (0) ≤ _) (by decide : 11 + (0) ≤ _)
 have K32 : Keep h0 T32.heap [] := K30.trans Kq32 (dN (Or.inr bN) (Or.inr bK))
 have Q32_2' := aK Q32_2 (vs' := ([9, 7, 2, 5, 4, 3, 8, 6, 1, 0] : List Int32)) (by decide +kernel)
 have qV := (qU.keep Kq32)
 obtain ⟨T34, L34, X34, N34, Kq34, vN, vO, Q34_2, st34⟩ := bA 2 11 (0 : Int32) (1 : Int32) b1 r21_b1 (4 : Int32) (3 : Int32) (([9, 7, 2, 3, 4, 5, 8, 6, 1, 0] : List Int32).getD ((5 : Int32)).toNatClampNeg 0) (((((((0 : Int64) + ((9 : Int64) * (-7046029254386353131 : Int64))) + (-7046029254386353131 : Int64)) + (-7046029254386353131 : Int64)) + (-7046029254386353131 : Int64)) + (-7046029254386353131 : Int64)) + (-7046029254386353131 : Int64)) (2 : Int32) (10 : Int32) ([9, 7, 2, 5, 4, 3, 8, 6, 1, 0] : List Int32) (3 : Int32) X32 hx hZ hw hby hml hown rfl N32 (Nat.le_trans Z0 K32.1) vM vL g_r21_b1 Q32_2' g_b1 (by decide +kernel) (by decide +kernel) (by decide +kernel) (by decide +kernel) aH (by decide +kernel) (by decide +kernel) (by decide +kernel) (by decide +kernel) (by decide +kernel) (by decide +kernel) (by decide +kernel) (Ne.symm aH) (by decide : 2 + (0) ≤ _) (by decide : 11 + (0) ≤ _)
 have K34 : Keep h0 T34.heap [] := K32.trans Kq34 (dN (Or.inr bN) (Or.inr bK))
 have Q34_2' := aK Q34_2 (vs' := ([9, 7, 4, 5, 2, 3, 8, 6, 1, 0] : List Int32)) (by decide +kernel)
 have qW := (qV.keep Kq34)
 obtain ⟨T36, L36, X36, N36, Kq36, vP, vQ, Q36_2, st36⟩ := bA 2 11 (0 : Int32) (1 : Int32) b1 r21_b1 (3 : Int32) (2 : Int32) (([9, 7, 2, 5, 4, 3, 8, 6, 1, 0] : List Int32).getD ((4 : Int32)).toNatClampNeg 0) ((((((((0 : Int64) + ((9 : Int64) * (-7046029254386353131 : Int64))) + (-7046029254386353131 : Int64)) + (-7046029254386353131 : Int64)) + (-7046029254386353131 : Int64)) + (-7046029254386353131 : Int64)) + (-7046029254386353131 : Int64)) + (-7046029254386353131 : Int64)) (3 : Int32) (10 : Int32) ([9, 7, 4, 5, 2, 3, 8, 6, 1, 0] : List Int32) (2 : Int32) X34 hx hZ hw hby hml hown rfl N34 (Nat.le_trans Z0 K34.1) vO vN g_r21_b1 Q34_2' g_b1 (by decide +kernel) (by decide +kernel) (by decide +kernel) (by decide +kernel) aH (by decide +kernel) (by decide +kernel) (by decide +kernel) (by decide +kernel) (by decide +kernel) (by decide +kernel) (by decide +kernel) (Ne.symm aH) (by decide : 2 + (0) ≤ _) (by decide : 11 + (0) ≤ _)
 have K36 : Keep h0 T36.heap [] := K34.trans Kq36 (dN (Or.inr bN) (Or.inr bK))
 have Q36_2' := aK Q36_2 (vs' := ([9, 7, 4, 5, 2, 3, 8, 6, 1, 0] : List Int32)) (by decide +kernel)
 have qX := (qW.keep Kq36)
 obtain ⟨T38, L38, X38, N38, Kq38, vR, vS, Q38_2, st38⟩ := bA 2 11 (0 : Int32) (1 : Int32) b1 r21_b1 (2 : Int32) (3 : Int32) (([9, 7, 4, 5, 2, 3, 8, 6, 1, 0] : List Int32).getD ((3 : Int32)).toNatClampNeg 0) (((((((((0 : Int64) + ((9 : Int64) * (-7046029254386353131 : Int64))) + (-7046029254386353131 : Int64)) + (-7046029254386353131 : Int64)) + (-7046029254386353131 : Int64)) + (-7046029254386353131 : Int64)) + (-7046029254386353131 : Int64)) + (-7046029254386353131 : Int64)) + (-7046029254386353131 : Int64)) (0 : Int32) (10 : Int32) ([9, 7, 4, 5, 2, 3, 8, 6, 1, 0] : List Int32) (1 : Int32) X36 hx hZ hw hby hml hown rfl N36 (Nat.le_trans Z0 K36.1) vQ vP g_r21_b1 Q36_2' g_b1 (by decide +kernel) (by decide +kernel) (by decide +kernel) (by decide +kernel) aH (by decide +kernel) (by decide +kernel) (by decide +kernel) (by decide +kernel) (by decide +kernel) (by decide +kernel) (by decide +kernel) (Ne.symm aH) (by decide : 2 + (0) ≤ _) (by decide : 11 + (0) ≤ _)
 have K38 : Keep h0 T38.heap [] := K36.trans Kq38 (dN (Or.inr bN) (Or.inr bK))
 have Q38_2' := aK Q38_2 (vs' := ([4, 7, 9, 5, 2, 3, 8, 6, 1, 0] : List Int32)) (by decide +kernel)
 have qY := (qX.keep Kq38)
 obtain ⟨T40, L40, X40, N40, Kq40, aM5, aM6, Q40_2, st40⟩ := bA 2 11 (0 : Int32) (1 : Int32) b1 r21_b1 (1 : Int32) (0 : Int32) (([9, 7, 4, 5, 2, 3, 8, 6, 1, 0] : List Int32).getD ((2 : Int32)).toNatClampNeg 0) ((((((((((0 : Int64) + ((9 : Int64) * (-7046029254386353131 : Int64))) + (-7046029254386353131 : Int64)) + (-7046029254386353131 : Int64)) + (-7046029254386353131 : Int64)) + (-7046029254386353131 : Int64)) + (-7046029254386353131 : Int64)) + (-7046029254386353131 : Int64)) + (-7046029254386353131 : Int64)) + (-7046029254386353131 : Int64)) (0 : Int32) (10 : Int32) ([4, 7, 9, 5, 2, 3, 8, 6, 1, 0] : List Int32) (0 : Int32) X38 hx hZ hw hby hml hown rfl N38 (Nat.le_trans Z0 K38.1) vS vR g_r21_b1 Q38_2' g_b1 (by decide +kernel) (by decide +kernel) (by decide +kernel) (by decide +kernel) aH (by decide +kernel) (by decide +kernel) (by decide +kernel) (by decide +kernel) (by decide +kernel) (by decide +kernel) (by decide +kernel) (Ne.symm aH) (by decide : 2 + (0) ≤ _) (by decide : 11 + (0) ≤ _)
 have K40 : Keep h0 T40.heap [] := K38.trans Kq40 (dN (Or.inr bN) (Or.inr bK))
 have Q40_2' := aK Q40_2 (vs' := ([7, 4, 9, 5, 2, 3, 8, 6, 1, 0] : List Int32)) (by decide +kernel)
 have qZ := (qY.keep Kq40)
 obtain ⟨fs, hr, hrun, hended, hW, hsame⟩ := X40.leave (v := some (.ref b1)) (fun h => by rw [Bd.returns] at h; cases h)
 refine ⟨_, _, castTop (rN m (0 : Int32) (1 : Int32)) ?_, hrun, hended, _, _, rfl, ?_, ⟨_, rfl⟩, hW, (hsame.mono (by decide) (by decide))⟩
 · show oZ p e below s₁ (mkF m 0 #[oI 0, oI 1, .unset, .unset, .unset, .unset, .unset] []) _
   refine XS.bipush X0.here hx rfl (oG hby d23 0 rfl) ?_
   refine st1 _ ?_
   refine XS.astoreN X1.here hx rfl (oG hby d23 2 rfl) rfl rfl (l' := #[oI 0, oI 1, oA b1, .unset, .unset, .unset, .unset]) rfl ?_
   refine XS.iconst X1.here hx rfl (oG hby d23 3 rfl) ?_
   refine XS.istoreN X1.here hx rfl (oG hby d23 4 rfl) rfl (l' := #[oI 0, oI 1, oA b1, oI 0, .unset, .unset, .unset]) rfl ?_
   refine st2 _ ?_
   refine st3 _ ?_
   refine st5 _ ?_
   refine st7 _ ?_
   refine st9 _ ?_
   refine st11 _ ?_
   show oZ p e below T11 (mkF m 7 #[oI 0, oI 1, oA b1, oI 6, .unset, .unset, .unset] []) _
   refine st13 _ ?_
   refine st15 _ ?_
   refine st17 _ ?_
   refine st19 _ ?_
   refine XS.iloadN X19.here hx rfl (oG hby d23 5 rfl) rfl ?_
   refine XS.bipush X19.here hx rfl (oG hby d23 6 rfl) ?_
   refine XS.icmpYes X19.here hx rfl (pc0 := 10) (pc' := 23) rfl (oG hby d23 7 rfl) rfl (flt (by decide +kernel : ¬ ((10 : Int32) < (10 : Int32)))).2.1 (by decide) (by decide) ?_
   refine XS.iloadN X19.here hx rfl (oG hby d23 14 rfl) rfl ?_
   refine XS.i2l X19.here hx rfl (oG hby d23 15 rfl) rfl ?_
   show oZ p e below T19 (mkF m 25 #[oI 0, oI 1, oA b1, oI 10, .unset, .unset, .unset] [(.long ((0 : Int32).toInt64))]) _
   rw [(by decide +kernel : ((0 : Int32).toInt64) = (0 : Int64))]
   refine XS.iloadN X19.here hx rfl (oG hby d23 16 rfl) rfl ?_
   refine XS.i2l X19.here hx rfl (oG hby d23 17 rfl) rfl ?_
   show oZ p e below T19 (mkF m 27 #[oI 0, oI 1, oA b1, oI 10, .unset, .unset, .unset] [(.long ((1 : Int32).toInt64)), (.long 0)]) _
   rw [(by decide +kernel : ((1 : Int32).toInt64) = (1 : Int64))]
   refine X19.ldc2Long hx hown (mvT hZ (oW hw 142 rfl)) (g := (mkF m 27 #[oI 0, oI 1, oA b1, oI 10, .unset, .unset, .unset] [(.long 1), (.long 0)])) rfl (oG hby d23 18 rfl) _ ?_
   refine XS.lmul X19.here hx rfl (oG hby d23 19 rfl) rfl ?_
   show oZ p e below T19 (mkF m 31 #[oI 0, oI 1, oA b1, oI 10, .unset, .unset, .unset] [(.long ((1 : Int64) * (9 : Int64))), (.long 0)]) _
   rw [(by decide +kernel : ((1 : Int64) * (9 : Int64)) = (9 : Int64))]
   refine st21 _ ?_
   refine XS.astoreN X21.here hx rfl (oG hby d23 21 rfl) rfl rfl (l' := #[oI 0, oI 1, oA b1, oA r21_b1, .unset, .unset, .unset]) rfl ?_
   refine XS.bipush X21.here hx rfl (oG hby d23 22 rfl) ?_
   refine XS.istore X21.here hx rfl (oG hby d23 23 rfl) rfl (l' := #[oI 0, oI 1, oA b1, oA r21_b1, oI 9, .unset, .unset]) rfl ?_
   refine st23 _ ?_
   refine st26 _ ?_
   refine st28 _ ?_
   refine st30 _ ?_
   refine st32 _ ?_
   refine st34 _ ?_
   show oZ p e below T34 (mkF m 39 #[oI 0, oI 1, oA b1, oA r21_b1, oI 3, oI 2, oI (([9, 7, 2, 5, 4, 3, 8, 6, 1, 0] : List Int32).getD ((4 : Int32)).toNatClampNeg 0)] []) _
   refine st36 _ ?_
   refine st38 _ ?_
   refine st40 _ ?_
   refine XS.iload X40.here hx rfl (oG hby d23 24 rfl) rfl ?_
   refine XS.ifYes X40.here hx rfl (pc0 := 41) (pc' := 85) rfl (oG hby d23 25 rfl) rfl ((if0 _ _).trans (flt (by decide +kernel : ¬ ((0 : Int32) < (0 : Int32)))).2.2.2) (by decide) (by decide) ?_
   refine XS.aloadN X40.here hx rfl (oG hby d23 51 rfl) rfl rfl ?_
   show oZ p e below T40 (mkF m 86 #[oI 0, oI 1, oA b1, oA r21_b1, oI 0, oI 0, oI (([4, 7, 9, 5, 2, 3, 8, 6, 1, 0] : List Int32).getD ((1 : Int32)).toNatClampNeg 0)] [(.ref b1)]) _
   jvm_step X40.here [X40.here.top, hx, (oG hby d23 52 rfl), X40.method', Bd.returns, Value.isRef, FieldType.isReference]
   first | (intro acts; rw [hr _ acts rfl rfl rfl]) | rw [hr _ _ rfl rfl rfl]
   exact Steps.refl _
 · show lD Z  h0 n0 _ T40.heap _
   exact ⟨b1, rfl, N40, K40, bK, qZ, Q40_2'⟩
def lE (Z : State)  (h0 : Heap) (n0 : Nat) (v : Option Value) (h : Heap) (L : List Loc) : Prop := ∃ b1 : Addr, v = some (.ref b1) ∧ Fr n0 L ∧ Keep h0 h [] ∧ h0.size ≤ b1 ∧ Exa Z h b1 "[I" ∧ bB Z h b1 (10 : Int32) ([6, 4, 9, 1, 5, 0, 3, 8, 7, 2] : List Int32)
theorem rX (l : Launch) (Z : State) (a0 : Array Value) (hw : oH a0 Z) (ws : List Jvm.Cond)  (h0 : Heap) (n0 : Nat) (Z0 : n0 ≤ h0.size) :
   oMet l oM7 prog_29_method_19_code 7 (some (.array .int)) ws (oR 3 2 11 60) Z h0 #[(.int 0), (.int 2)] (lE Z  h0 n0) := by
 refine oBd n0 (plainFor_of_name eC) ?_
 intro p e s m below meth c s₁ Bd hx hZ hby hml hown hnm X0 e0 N0
 obtain ⟨T1, h1, k1, X1, e1, E1, A1, B1, st1⟩ := newPE X0 hx hZ (oW hw 84 rfl) e0 (g := (mkF m 2 #[oI 0, oI 2, .unset, .unset, .unset, .unset, .unset] [(.int 10)])) rfl (oG hby d23 1 rfl) rfl (by decide) (cap := 10) (by decide) (by decide) (by decide) (by decide) (ad := "[I") rfl
 obtain ⟨b1, g1⟩ : ∃ z, z = h0.size := ⟨_, rfl⟩
 rw [← g1] at A1 B1 st1
 have lA : h0.size ≤ b1 := Nat.le_of_eq g1.symm
 have bK : h0.size ≤ b1 := Nat.le_trans (Keep.refl h0 []).1 lA
 have g_b1 : n0 ≤ b1 := Nat.le_trans Z0 bK
 have K1 : Keep h0 h1 [] := (Keep.refl h0 []).ext E1
 have V1 : bB Z h1 b1 (10 : Int32) ([0, 0, 0, 0, 0, 0, 0, 0, 0, 0] : List Int32) := dY (m := 10) A1 (by decide)
 obtain ⟨T2, L2, X2, N2, Kq2, Q2_0, st2⟩ := aV 2 11 (0 : Int32) (2 : Int32) b1 (0 : Int32) (10 : Int32) ([0, 0, 0, 0, 0, 0, 0, 0, 0, 0] : List Int32) (1 : Int32) X1 hx hZ hw hby hml hown e1 N0 (Nat.le_trans Z0 K1.1) V1 g_b1 (by decide +kernel) (by decide +kernel) (by decide +kernel) (by decide +kernel) (by decide +kernel) (by decide : 1 + (0) ≤ _) (by decide : 10 + (0) ≤ _)
 have K2 : Keep h0 T2.heap [] := K1.trans Kq2 (bJ (Or.inr bK))
 have Q2_0' := aK Q2_0 (vs' := ([0, 0, 0, 0, 0, 0, 0, 0, 0, 0] : List Int32)) (by decide +kernel)
 have uY := (B1.keep Kq2)
 obtain ⟨T3, L3, X3, N3, Kq3, Q3_0, st3⟩ := aV 2 11 (0 : Int32) (2 : Int32) b1 (1 : Int32) (10 : Int32) ([0, 0, 0, 0, 0, 0, 0, 0, 0, 0] : List Int32) (2 : Int32) X2 hx hZ hw hby hml hown rfl N2 (Nat.le_trans Z0 K2.1) Q2_0' g_b1 (by decide +kernel) (by decide +kernel) (by decide +kernel) (by decide +kernel) (by decide +kernel) (by decide : 1 + (0) ≤ _) (by decide : 10 + (0) ≤ _)
 have K3 : Keep h0 T3.heap [] := K2.trans Kq3 (bJ (Or.inr bK))
 have Q3_0' := aK Q3_0 (vs' := ([0, 1, 0, 0, 0, 0, 0, 0, 0, 0] : List Int32)) (by decide +kernel)
 have uZ := (uY.keep Kq3)
 obtain ⟨T5, L5, X5, N5, Kq5, Q5_0, st5⟩ := aV 2 11 (0 : Int32) (2 : Int32) b1 (2 : Int32) (10 : Int32) ([0, 1, 0, 0, 0, 0, 0, 0, 0, 0] : List Int32) (3 : Int32) X3 hx hZ hw hby hml hown rfl N3 (Nat.le_trans Z0 K3.1) Q3_0' g_b1 (by decide +kernel) (by decide +kernel) (by decide +kernel) (by decide +kernel) (by decide +kernel) (by decide : 1 + (0) ≤ _) (by decide : 10 + (0) ≤ _)
 have K5 : Keep h0 T5.heap [] := K3.trans Kq5 (bJ (Or.inr bK))
 have Q5_0' := aK Q5_0 (vs' := ([0, 1, 2, 0, 0, 0, 0, 0, 0, 0] : List Int32)) (by decide +kernel)
 have vA := (uZ.keep Kq5)
 obtain ⟨T7, L7, X7, N7, Kq7, Q7_0, st7⟩ := aV 2 11 (0 : Int32) (2 : Int32) b1 (3 : Int32) (10 : Int32) ([0, 1, 2, 0, 0, 0, 0, 0, 0, 0] : List Int32) (4 : Int32) X5 hx hZ hw hby hml hown rfl N5 (Nat.le_trans Z0 K5.1) Q5_0' g_b1 (by decide +kernel) (by decide +kernel) (by decide +kernel) (by decide +kernel) (by decide +kernel) (by decide : 1 + (0) ≤ _) (by decide : 10 + (0) ≤ _)
 have K7 : Keep h0 T7.heap [] := K5.trans Kq7 (bJ (Or.inr bK))
 have Q7_0' := aK Q7_0 (vs' := ([0, 1, 2, 3, 0, 0, 0, 0, 0, 0] : List Int32)) (by decide +kernel)
 have qL := (vA.keep Kq7)
 obtain ⟨T9, L9, X9, N9, Kq9, Q9_0, st9⟩ := aV 2 11 (0 : Int32) (2 : Int32) b1 (4 : Int32) (10 : Int32) ([0, 1, 2, 3, 0, 0, 0, 0, 0, 0] : List Int32) (5 : Int32) X7 hx hZ hw hby hml hown rfl N7 (Nat.le_trans Z0 K7.1) Q7_0' g_b1 (by decide +kernel) (by decide +kernel) (by decide +kernel) (by decide +kernel) (by decide +kernel) (by decide : 1 + (0) ≤ _) (by decide : 10 + (0) ≤ _)
 have K9 : Keep h0 T9.heap [] := K7.trans Kq9 (bJ (Or.inr bK))
 have Q9_0' := aK Q9_0 (vs' := ([0, 1, 2, 3, 4, 0, 0, 0, 0, 0] : List Int32)) (by decide +kernel)
 have lY := (qL.keep Kq9)
 obtain ⟨T11, L11, X11, N11, Kq11, Q11_0, st11⟩ := aV 2 11 (0 : Int32) (2 : Int32) b1 (5 : Int32) (10 : Int32) ([0, 1, 2, 3, 4, 0, 0, 0, 0, 0] : List Int32) (6 : Int32) X9 hx hZ hw hby hml hown rfl N9 (Nat.le_trans Z0 K9.1) Q9_0' g_b1 (by decide +kernel) (by decide +kernel) (by decide +kernel) (by decide +kernel) (by decide +kernel) (by decide : 1 + (0) ≤ _) (by decide : 10 + (0) ≤ _)
 have K11 : Keep h0 T11.heap [] := K9.trans Kq11 (bJ (Or.inr bK))
 have Q11_0' := aK Q11_0 (vs' := ([0, 1, 2, 3, 4, 5, 0, 0, 0, 0] : List Int32)) (by decide +kernel)
 have nA := (lY.keep Kq11)
 obtain ⟨T13, L13, X13, N13, Kq13, Q13_0, st13⟩ := aV 2 11 (0 : Int32) (2 : Int32) b1 (6 : Int32) (10 : Int32) ([0, 1, 2, 3, 4, 5, 0, 0, 0, 0] : List Int32) (7 : Int32) X11 hx hZ hw hby hml hown rfl N11 (Nat.le_trans Z0 K11.1) Q11_0' g_b1 (by decide +kernel) (by decide +kernel) (by decide +kernel) (by decide +kernel) (by decide +kernel) (by decide : 1 + (0) ≤ _) (by decide : 10 + (0) ≤ _)
 have K13 : Keep h0 T13.heap [] := K11.trans Kq13 (bJ (Or.inr bK))
 have Q13_0' := aK Q13_0 (vs' := ([0, 1, 2, 3, 4, 5, 6, 0, 0, 0] : List Int32)) (by decide +kernel)
 have qM := (nA.keep Kq13)
 obtain ⟨T15, L15, X15, N15, Kq15, Q15_0, st15⟩ := aV 2 11 (0 : Int32) (2 : Int32) b1 (7 : Int32) (10 : Int32) ([0, 1, 2, 3, 4, 5, 6, 0, 0, 0] : List Int32) (8 : Int32) X13 hx hZ hw hby hml hown rfl N13 (Nat.le_trans Z0 K13.1) Q13_0' g_b1 (by decide +kernel) (by decide +kernel) (by decide +kernel) (by decide +kernel) (by decide +kernel) (by decide : 1 + (0) ≤ _) (by decide : 10 + (0) ≤ _)
 have K15 : Keep h0 T15.heap [] := K13.trans Kq15 (bJ (Or.inr bK))
 have Q15_0' := aK Q15_0 (vs' := ([0, 1, 2, 3, 4, 5, 6, 7, 0, 0] : List Int32)) (by decide +kernel)
 have qN := (qM.keep Kq15)
 obtain ⟨T17, L17, X17, N17, Kq17, Q17_0, st17⟩ := aV 2 11 (0 : Int32) (2 : Int32) b1 (8 : Int32) (10 : Int32) ([0, 1, 2, 3, 4, 5, 6, 7, 0, 0] : List Int32) (9 : Int32) X15 hx hZ hw hby hml hown rfl N15 (Nat.le_trans Z0 K15.1) Q15_0' g_b1 (by decide +kernel) (by decide +kernel) (by decide +kernel) (by decide +kernel) (by decide +kernel) (by decide : 1 + (0) ≤ _) (by decide : 10 + (0) ≤ _)
 have K17 : Keep h0 T17.heap [] := K15.trans Kq17 (bJ (Or.inr bK))
 have Q17_0' := aK Q17_0 (vs' := ([0, 1, 2, 3, 4, 5, 6, 7, 8, 0] : List Int32)) (by decide +kernel)
 have qO := (qN.keep Kq17)
 obtain ⟨T19, L19, X19, N19, Kq19, Q19_0, st19⟩ := aV 2 11 (0 : Int32) (2 : Int32) b1 (9 : Int32) (10 : Int32) ([0, 1, 2, 3, 4, 5, 6, 7, 8, 0] : List Int32) (10 : Int32) X17 hx hZ hw hby hml hown rfl N17 (Nat.le_trans Z0 K17.1) Q17_0' g_b1 (by decide +kernel) (by decide +kernel) (by decide +kernel) (by decide +kernel) (by decide +kernel) (by decide : 1 + (0) ≤ _) (by decide : 10 + (0) ≤ _)
 have K19 : Keep h0 T19.heap [] := K17.trans Kq19 (bJ (Or.inr bK))
 have Q19_0' := aK Q19_0 (vs' := ([0, 1, 2, 3, 4, 5, 6, 7, 8, 9] : List Int32)) (by decide +kernel)
 obtain ⟨_, _, ⟨T21, L21, k21, n21⟩, -, X21, ⟨Lc21, hQ21, l21, y21, z21⟩, st21⟩ := Jvm.LawKit.callS X19 hx (y := oM6) hown (mvT hZ (oW hw 143 rfl)) (mvT hZ (oW hw 144 rfl)) (mvT hZ (oW hw 145 rfl)) (mvT hZ (oW hw 146 rfl)) (by decide) (backOf (W := 0) (kK l Z a0 hw [] (0 : Int64) (18 : Int64) T19.heap n0 (Nat.le_trans Z0 K19.1) ) hZ (oW hw 146 rfl) (oW hw 145 rfl) (by decide) (by decide)) (g := (mkF m 31 #[oI 0, oI 2, oA b1, oI 10, .unset, .unset, .unset] [(.long 18), (.long 0)])) rfl (by rw [hml]; rfl) (argsL := [(.long 0), (.long 18)]) (rest := []) (lenOf uH rfl) rfl (by show 2 * 0 + _ ≤ _; exact Nat.le_of_eq rfl) (oG hby d23 20 rfl) (fun _ _ => ⟨rfl, rfl, (by decide : 1 + 1 ≤ _), (by decide : 10 + 1 ≤ _)⟩)
 dsimp only [Pt.U, Pt.locs, Pt.cells, Pt.slots] at X21 l21 y21 z21 st21 hQ21
 subst l21 y21 z21
 obtain ⟨r21_b1, rfl, N21q, Kq21, gP, vB, vC⟩ := hQ21
 have N21 := Fr.app N19 N21q
 have lC := (qO.keep Kq19)
 have aH : b1 ≠ r21_b1 := oV lC.lt gP
 have bN : h0.size ≤ r21_b1 := Nat.le_trans K19.1 gP
 have g_r21_b1 : n0 ≤ r21_b1 := Nat.le_trans Z0 bN
 have K21 : Keep h0 T21.heap [] := K19.trans Kq21 dX
 have qP := (Q19_0'.keep Kq21 (dP _))
 have qQ := (lC.keep Kq21)
 obtain ⟨T23, L23, X23, N23, Kq23, vD, vE, Q23_2, st23⟩ := iP 2 11 (0 : Int32) (2 : Int32) b1 r21_b1 (9 : Int32) ((0 : Int64) + ((18 : Int64) * (-7046029254386353131 : Int64))) (2 : Int32) (10 : Int32) ([0, 1, 2, 3, 4, 5, 6, 7, 8, 9] : List Int32) (8 : Int32) X21 hx hZ hw hby hml hown rfl N21 (Nat.le_trans Z0 K21.1) vC vB g_r21_b1 qP g_b1 (by decide +kernel) (by decide +kernel) (by decide +kernel) (by decide +kernel) aH (by decide +kernel) (by decide +kernel) (by decide +kernel) (by decide +kernel) (by decide +kernel) (by decide +kernel) (by decide +kernel) (Ne.symm aH) (by decide : 2 + (0) ≤ _) (by decide : 11 + (0) ≤ _)
 have K23 : Keep h0 T23.heap [] := K21.trans Kq23 (dN (Or.inr bN) (Or.inr bK))
 have Q23_2' := aK Q23_2 (vs' := ([0, 1, 9, 3, 4, 5, 6, 7, 8, 2] : List Int32)) (by decide +kernel)
 have qR := (qQ.keep Kq23)
 obtain ⟨T26, L26, X26, N26, Kq26, vF, vG, Q26_2, st26⟩ := bA 2 11 (0 : Int32) (2 : Int32) b1 r21_b1 (8 : Int32) (2 : Int32) (([0, 1, 2, 3, 4, 5, 6, 7, 8, 9] : List Int32).getD ((9 : Int32)).toNatClampNeg 0) (((0 : Int64) + ((18 : Int64) * (-7046029254386353131 : Int64))) + (-7046029254386353131 : Int64)) (7 : Int32) (10 : Int32) ([0, 1, 9, 3, 4, 5, 6, 7, 8, 2] : List Int32) (7 : Int32) X23 hx hZ hw hby hml hown rfl N23 (Nat.le_trans Z0 K23.1) vE vD g_r21_b1 Q23_2' g_b1 (by decide +kernel) (by decide +kernel) (by decide +kernel) (by decide +kernel) aH (by decide +kernel) (by decide +kernel) (by decide +kernel) (by decide +kernel) (by decide +kernel) (by decide +kernel) (by decide +kernel) (Ne.symm aH) (by decide : 2 + (0) ≤ _) (by decide : 11 + (0) ≤ _)
 have K26 : Keep h0 T26.heap [] := K23.trans Kq26 (dN (Or.inr bN) (Or.inr bK))
 have Q26_2' := aK Q26_2 (vs' := ([0, 1, 9, 3, 4, 5, 6, 8, 7, 2] : List Int32)) (by decide +kernel)
 have qS := (qR.keep Kq26)
 obtain ⟨T28, L28, X28, N28, Kq28, vH, vI, Q28_2, st28⟩ := bA 2 11 (0 : Int32) (2 : Int32) b1 r21_b1 (7 : Int32) (7 : Int32) (([0, 1, 9, 3, 4, 5, 6, 7, 8, 2] : List Int32).getD ((8 : Int32)).toNatClampNeg 0) ((((0 : Int64) + ((18 : Int64) * (-7046029254386353131 : Int64))) + (-7046029254386353131 : Int64)) + (-7046029254386353131 : Int64)) (7 : Int32) (10 : Int32) ([0, 1, 9, 3, 4, 5, 6, 8, 7, 2] : List Int32) (6 : Int32) X26 hx hZ hw hby hml hown rfl N26 (Nat.le_trans Z0 K26.1) vG vF g_r21_b1 Q26_2' g_b1 (by decide +kernel) (by decide +kernel) (by decide +kernel) (by decide +kernel) aH (by decide +kernel) (by decide +kernel) (by decide +kernel) (by decide +kernel) (by decide +kernel) (by decide +kernel) (by decide +kernel) (Ne.symm aH) (by decide : 2 + (0) ≤ _) (by decide : 11 + (0) ≤ _)
 have K28 : Keep h0 T28.heap [] := K26.trans Kq28 (dN (Or.inr bN) (Or.inr bK))
 have Q28_2' := aK Q28_2 (vs' := ([0, 1, 9, 3, 4, 5, 6, 8, 7, 2] : List Int32)) (by decide +kernel)
 have qT := (qS.keep Kq28)
 obtain ⟨T30, L30, X30, N30, Kq30, vJ, vK, Q30_2, st30⟩ := bA 2 11 (0 : Int32) (2 : Int32) b1 r21_b1 (6 : Int32) (7 : Int32) (([0, 1, 9, 3, 4, 5, 6, 8, 7, 2] : List Int32).getD ((7 : Int32)).toNatClampNeg 0) (((((0 : Int64) + ((18 : Int64) * (-7046029254386353131 : Int64))) + (-7046029254386353131 : Int64)) + (-7046029254386353131 : Int64)) + (-7046029254386353131 : Int64)) (3 : Int32) (10 : Int32) ([0, 1, 9, 3, 4, 5, 6, 8, 7, 2] : List Int32) (5 : Int32) X28 hx hZ hw hby hml hown rfl N28 (Nat.le_trans Z0 K28.1) vI vH g_r21_b1 Q28_2' g_b1 (by decide +kernel) (by decide +kernel) (by decide +kernel) (by decide +kernel) aH (by decide +kernel) (by decide +kernel) (by decide +kernel) (by decide +kernel) (by decide +kernel) (by decide +kernel) (by decide +kernel) (Ne.symm aH) (by decide : 2 + (0) ≤ _) (by decide : 11 + (0) ≤ _)
 have K30 : Keep h0 T30.heap [] := K28.trans Kq30 (dN (Or.inr bN) (Or.inr bK))
 have Q30_2' := aK Q30_2 (vs' := ([0, 1, 9, 6, 4, 5, 3, 8, 7, 2] : List Int32)) (by decide +kernel)
 have qU := (qT.keep Kq30)
 obtain ⟨T32, L32, X32, N32, Kq32, vL, vM, Q32_2, st32⟩ := bA 2 11 (0 : Int32) (2 : Int32) b1 r21_b1 (5 : Int32) (3 : Int32) (([0, 1, 9, 3, 4, 5, 6, 8, 7, 2] : List Int32).getD ((6 : Int32)).toNatClampNeg 0) ((((((0 : Int64) + ((18 : Int64) * (-7046029254386353131 : Int64))) + (-7046029254386353131 : Int64)) + (-7046029254386353131 : Int64)) + (-7046029254386353131 : Int64)) + (-7046029254386353131 : Int64)) (0 : Int32) (10 : Int32) ([0, 1, 9, 6, 4, 5, 3, 8, 7, 2] : List Int32) (4 : Int32) X30 hx hZ hw hby hml hown rfl N30 (Nat.le_trans Z0 K30.1) vK vJ g_r21_b1 Q30_2' g_b1 (by decide +kernel) (by decide +kernel) (by decide +kernel) (by decide +kernel) aH (by decide +kernel) (by decide +kernel) (by decide +kernel) (by decide +kernel) (by decide +kernel) (by decide +kernel) (by decide +kernel) (Ne.symm aH) (by decide : 2 + (0) ≤ _) (by decide : 11 + (0) ≤ _)
 have K32 : Keep h0 T32.heap [] := K30.trans Kq32 (dN (Or.inr bN) (Or.inr bK))
 have Q32_2' := aK Q32_2 (vs' := ([5, 1, 9, 6, 4, 0, 3, 8, 7, 2] : List Int32)) (by decide +kernel)
 have qV := (qU.keep Kq32)
 obtain ⟨T34, L34, X34, N34, Kq34, vN, vO, Q34_2, st34⟩ := bA 2 11 (0 : Int32) (2 : Int32) b1 r21_b1 (4 : Int32) (0 : Int32) (([0, 1, 9, 6, 4, 5, 3, 8, 7, 2] : List Int32).getD ((5 : Int32)).toNatClampNeg 0) (((((((0 : Int64) + ((18 : Int64) * (-7046029254386353131 : Int64))) + (-7046029254386353131 : Int64)) + (-7046029254386353131 : Int64)) + (-7046029254386353131 : Int64)) + (-7046029254386353131 : Int64)) + (-7046029254386353131 : Int64)) (0 : Int32) (10 : Int32) ([5, 1, 9, 6, 4, 0, 3, 8, 7, 2] : List Int32) (3 : Int32) X32 hx hZ hw hby hml hown rfl N32 (Nat.le_trans Z0 K32.1) vM vL g_r21_b1 Q32_2' g_b1 (by decide +kernel) (by decide +kernel) (by decide +kernel) (by decide +kernel) aH (by decide +kernel) (by decide +kernel) (by decide +kernel) (by decide +kernel) (by decide +kernel) (by decide +kernel) (by decide +kernel) (Ne.symm aH) (by decide : 2 + (0) ≤ _) (by decide : 11 + (0) ≤ _)
 have K34 : Keep h0 T34.heap [] := K32.trans Kq34 (dN (Or.inr bN) (Or.inr bK))
 have Q34_2' := aK Q34_2 (vs' := ([4, 1, 9, 6, 5, 0, 3, 8, 7, 2] : List Int32)) (by decide +kernel)
 have qW := (qV.keep Kq34)
 obtain ⟨T36, L36, X36, N36, Kq36, vP, vQ, Q36_2, st36⟩ := bA 2 11 (0 : Int32) (2 : Int32) b1 r21_b1 (3 : Int32) (0 : Int32) (([5, 1, 9, 6, 4, 0, 3, 8, 7, 2] : List Int32).getD ((4 : Int32)).toNatClampNeg 0) ((((((((0 : Int64) + ((18 : Int64) * (-7046029254386353131 : Int64))) + (-7046029254386353131 : Int64)) + (-7046029254386353131 : Int64)) + (-7046029254386353131 : Int64)) + (-7046029254386353131 : Int64)) + (-7046029254386353131 : Int64)) + (-7046029254386353131 : Int64)) (1 : Int32) (10 : Int32) ([4, 1, 9, 6, 5, 0, 3, 8, 7, 2] : List Int32) (2 : Int32) X34 hx hZ hw hby hml hown rfl N34 (Nat.le_trans Z0 K34.1) vO vN g_r21_b1 Q34_2' g_b1 (by decide +kernel) (by decide +kernel) (by decide +kernel) (by decide +kernel) aH (by decide +kernel) (by decide +kernel) (by decide +kernel) (by decide +kernel) (by decide +kernel) (by decide +kernel) (by decide +kernel) (Ne.symm aH) (by decide : 2 + (0) ≤ _) (by decide : 11 + (0) ≤ _)
 have K36 : Keep h0 T36.heap [] := K34.trans Kq36 (dN (Or.inr bN) (Or.inr bK))
 have Q36_2' := aK Q36_2 (vs' := ([4, 6, 9, 1, 5, 0, 3, 8, 7, 2] : List Int32)) (by decide +kernel)
 have qX := (qW.keep Kq36)
 obtain ⟨T38, L38, X38, N38, Kq38, vR, vS, Q38_2, st38⟩ := bA 2 11 (0 : Int32) (2 : Int32) b1 r21_b1 (2 : Int32) (1 : Int32) (([4, 1, 9, 6, 5, 0, 3, 8, 7, 2] : List Int32).getD ((3 : Int32)).toNatClampNeg 0) (((((((((0 : Int64) + ((18 : Int64) * (-7046029254386353131 : Int64))) + (-7046029254386353131 : Int64)) + (-7046029254386353131 : Int64)) + (-7046029254386353131 : Int64)) + (-7046029254386353131 : Int64)) + (-7046029254386353131 : Int64)) + (-7046029254386353131 : Int64)) + (-7046029254386353131 : Int64)) (2 : Int32) (10 : Int32) ([4, 6, 9, 1, 5, 0, 3, 8, 7, 2] : List Int32) (1 : Int32) X36 hx hZ hw hby hml hown rfl N36 (Nat.le_trans Z0 K36.1) vQ vP g_r21_b1 Q36_2' g_b1 (by decide +kernel) (by decide +kernel) (by decide +kernel) (by decide +kernel) aH (by decide +kernel) (by decide +kernel) (by decide +kernel) (by decide +kernel) (by decide +kernel) (by decide +kernel) (by decide +kernel) (Ne.symm aH) (by decide : 2 + (0) ≤ _) (by decide : 11 + (0) ≤ _)
 have K38 : Keep h0 T38.heap [] := K36.trans Kq38 (dN (Or.inr bN) (Or.inr bK))
 have Q38_2' := aK Q38_2 (vs' := ([4, 6, 9, 1, 5, 0, 3, 8, 7, 2] : List Int32)) (by decide +kernel)
 have qY := (qX.keep Kq38)
 obtain ⟨T40, L40, X40, N40, Kq40, aM5, aM6, Q40_2, st40⟩ := bA 2 11 (0 : Int32) (2 : Int32) b1 r21_b1 (1 : Int32) (2 : Int32) (([4, 6, 9, 1, 5, 0, 3, 8, 7, 2] : List Int32).getD ((2 : Int32)).toNatClampNeg 0) ((((((((((0 : Int64) + ((18 : Int64) * (-7046029254386353131 : Int64))) + (-7046029254386353131 : Int64)) + (-7046029254386353131 : Int64)) + (-7046029254386353131 : Int64)) + (-7046029254386353131 : Int64)) + (-7046029254386353131 : Int64)) + (-7046029254386353131 : Int64)) + (-7046029254386353131 : Int64)) + (-7046029254386353131 : Int64)) (0 : Int32) (10 : Int32) ([4, 6, 9, 1, 5, 0, 3, 8, 7, 2] : List Int32) (0 : Int32) X38 hx hZ hw hby hml hown rfl N38 (Nat.le_trans Z0 K38.1) vS vR g_r21_b1 Q38_2' g_b1 (by decide +kernel) (by decide +kernel) (by decide +kernel) (by decide +kernel) aH (by decide +kernel) (by decide +kernel) (by decide +kernel) (by decide +kernel) (by decide +kernel) (by decide +kernel) (by decide +kernel) (Ne.symm aH) (by decide : 2 + (0) ≤ _) (by decide : 11 + (0) ≤ _)
 have K40 : Keep h0 T40.heap [] := K38.trans Kq40 (dN (Or.inr bN) (Or.inr bK))
 have Q40_2' := aK Q40_2 (vs' := ([6, 4, 9, 1, 5, 0, 3, 8, 7, 2] : List Int32)) (by decide +kernel)
 have qZ := (qY.keep Kq40)
 obtain ⟨fs, hr, hrun, hended, hW, hsame⟩ := X40.leave (v := some (.ref b1)) (fun h => by rw [Bd.returns] at h; cases h)
 refine ⟨_, _, castTop (rN m (0 : Int32) (2 : Int32)) ?_, hrun, hended, _, _, rfl, ?_, ⟨_, rfl⟩, hW, (hsame.mono (by decide) (by decide))⟩
 · show oZ p e below s₁ (mkF m 0 #[oI 0, oI 2, .unset, .unset, .unset, .unset, .unset] []) _
   refine XS.bipush X0.here hx rfl (oG hby d23 0 rfl) ?_
   refine st1 _ ?_
   refine XS.astoreN X1.here hx rfl (oG hby d23 2 rfl) rfl rfl (l' := #[oI 0, oI 2, oA b1, .unset, .unset, .unset, .unset]) rfl ?_
   refine XS.iconst X1.here hx rfl (oG hby d23 3 rfl) ?_
   refine XS.istoreN X1.here hx rfl (oG hby d23 4 rfl) rfl (l' := #[oI 0, oI 2, oA b1, oI 0, .unset, .unset, .unset]) rfl ?_
   refine st2 _ ?_
   refine st3 _ ?_
   refine st5 _ ?_
   refine st7 _ ?_
   refine st9 _ ?_
   refine st11 _ ?_
   show oZ p e below T11 (mkF m 7 #[oI 0, oI 2, oA b1, oI 6, .unset, .unset, .unset] []) _
   refine st13 _ ?_
   refine st15 _ ?_
   refine st17 _ ?_
   refine st19 _ ?_
   refine XS.iloadN X19.here hx rfl (oG hby d23 5 rfl) rfl ?_
   refine XS.bipush X19.here hx rfl (oG hby d23 6 rfl) ?_
   refine XS.icmpYes X19.here hx rfl (pc0 := 10) (pc' := 23) rfl (oG hby d23 7 rfl) rfl (flt (by decide +kernel : ¬ ((10 : Int32) < (10 : Int32)))).2.1 (by decide) (by decide) ?_
   refine XS.iloadN X19.here hx rfl (oG hby d23 14 rfl) rfl ?_
   refine XS.i2l X19.here hx rfl (oG hby d23 15 rfl) rfl ?_
   show oZ p e below T19 (mkF m 25 #[oI 0, oI 2, oA b1, oI 10, .unset, .unset, .unset] [(.long ((0 : Int32).toInt64))]) _
   rw [(by decide +kernel : ((0 : Int32).toInt64) = (0 : Int64))]
   refine XS.iloadN X19.here hx rfl (oG hby d23 16 rfl) rfl ?_
   refine XS.i2l X19.here hx rfl (oG hby d23 17 rfl) rfl ?_
   show oZ p e below T19 (mkF m 27 #[oI 0, oI 2, oA b1, oI 10, .unset, .unset, .unset] [(.long ((2 : Int32).toInt64)), (.long 0)]) _
   rw [(by decide +kernel : ((2 : Int32).toInt64) = (2 : Int64))]
   refine X19.ldc2Long hx hown (mvT hZ (oW hw 142 rfl)) (g := (mkF m 27 #[oI 0, oI 2, oA b1, oI 10, .unset, .unset, .unset] [(.long 2), (.long 0)])) rfl (oG hby d23 18 rfl) _ ?_
   refine XS.lmul X19.here hx rfl (oG hby d23 19 rfl) rfl ?_
   show oZ p e below T19 (mkF m 31 #[oI 0, oI 2, oA b1, oI 10, .unset, .unset, .unset] [(.long ((2 : Int64) * (9 : Int64))), (.long 0)]) _
   rw [(by decide +kernel : ((2 : Int64) * (9 : Int64)) = (18 : Int64))]
   refine st21 _ ?_
   refine XS.astoreN X21.here hx rfl (oG hby d23 21 rfl) rfl rfl (l' := #[oI 0, oI 2, oA b1, oA r21_b1, .unset, .unset, .unset]) rfl ?_
   refine XS.bipush X21.here hx rfl (oG hby d23 22 rfl) ?_
   refine XS.istore X21.here hx rfl (oG hby d23 23 rfl) rfl (l' := #[oI 0, oI 2, oA b1, oA r21_b1, oI 9, .unset, .unset]) rfl ?_
   refine st23 _ ?_
   refine st26 _ ?_
   refine st28 _ ?_
   refine st30 _ ?_
   refine st32 _ ?_
   refine st34 _ ?_
   show oZ p e below T34 (mkF m 39 #[oI 0, oI 2, oA b1, oA r21_b1, oI 3, oI 0, oI (([5, 1, 9, 6, 4, 0, 3, 8, 7, 2] : List Int32).getD ((4 : Int32)).toNatClampNeg 0)] []) _
   refine st36 _ ?_
   refine st38 _ ?_
   refine st40 _ ?_
   refine XS.iload X40.here hx rfl (oG hby d23 24 rfl) rfl ?_
   refine XS.ifYes X40.here hx rfl (pc0 := 41) (pc' := 85) rfl (oG hby d23 25 rfl) rfl ((if0 _ _).trans (flt (by decide +kernel : ¬ ((0 : Int32) < (0 : Int32)))).2.2.2) (by decide) (by decide) ?_
   refine XS.aloadN X40.here hx rfl (oG hby d23 51 rfl) rfl rfl ?_
   show oZ p e below T40 (mkF m 86 #[oI 0, oI 2, oA b1, oA r21_b1, oI 0, oI 0, oI (([4, 6, 9, 1, 5, 0, 3, 8, 7, 2] : List Int32).getD ((1 : Int32)).toNatClampNeg 0)] [(.ref b1)]) _
   jvm_step X40.here [X40.here.top, hx, (oG hby d23 52 rfl), X40.method', Bd.returns, Value.isRef, FieldType.isReference]
   first | (intro acts; rw [hr _ acts rfl rfl rfl]) | rw [hr _ _ rfl rfl rfl]
   exact Steps.refl _
 · show lE Z  h0 n0 _ T40.heap _
   exact ⟨b1, rfl, N40, K40, bK, qZ, Q40_2'⟩
def lF (Z : State)  (h0 : Heap) (n0 : Nat) (v : Option Value) (h : Heap) (L : List Loc) : Prop := ∃ b1 : Addr, v = some (.ref b1) ∧ Fr n0 L ∧ Keep h0 h [] ∧ h0.size ≤ b1 ∧ Exa Z h b1 "[I" ∧ bB Z h b1 (10 : Int32) ([0, 8, 3, 1, 6, 5, 4, 9, 7, 2] : List Int32)
theorem rY (l : Launch) (Z : State) (a0 : Array Value) (hw : oH a0 Z) (ws : List Jvm.Cond)  (h0 : Heap) (n0 : Nat) (Z0 : n0 ≤ h0.size) :
   oMet l oM7 prog_29_method_19_code 7 (some (.array .int)) ws (oR 3 2 11 60) Z h0 #[(.int 0), (.int 3)] (lF Z  h0 n0) := by
 refine oBd n0 (plainFor_of_name eC) ?_
 intro p e s m below meth c s₁ Bd hx hZ hby hml hown hnm X0 e0 N0
 obtain ⟨T1, h1, k1, X1, e1, E1, A1, B1, st1⟩ := newPE X0 hx hZ (oW hw 84 rfl) e0 (g := (mkF m 2 #[oI 0, oI 3, .unset, .unset, .unset, .unset, .unset] [(.int 10)])) rfl (oG hby d23 1 rfl) rfl (by decide) (cap := 10) (by decide) (by decide) (by decide) (by decide) (ad := "[I") rfl
 obtain ⟨b1, g1⟩ : ∃ z, z = h0.size := ⟨_, rfl⟩
 rw [← g1] at A1 B1 st1
 have lA : h0.size ≤ b1 := Nat.le_of_eq g1.symm
 have bK : h0.size ≤ b1 := Nat.le_trans (Keep.refl h0 []).1 lA
 have g_b1 : n0 ≤ b1 := Nat.le_trans Z0 bK
 have K1 : Keep h0 h1 [] := (Keep.refl h0 []).ext E1
 have V1 : bB Z h1 b1 (10 : Int32) ([0, 0, 0, 0, 0, 0, 0, 0, 0, 0] : List Int32) := dY (m := 10) A1 (by decide)
 obtain ⟨T2, L2, X2, N2, Kq2, Q2_0, st2⟩ := aV 2 11 (0 : Int32) (3 : Int32) b1 (0 : Int32) (10 : Int32) ([0, 0, 0, 0, 0, 0, 0, 0, 0, 0] : List Int32) (1 : Int32) X1 hx hZ hw hby hml hown e1 N0 (Nat.le_trans Z0 K1.1) V1 g_b1 (by decide +kernel) (by decide +kernel) (by decide +kernel) (by decide +kernel) (by decide +kernel) (by decide : 1 + (0) ≤ _) (by decide : 10 + (0) ≤ _)
 have K2 : Keep h0 T2.heap [] := K1.trans Kq2 (bJ (Or.inr bK))
 have Q2_0' := aK Q2_0 (vs' := ([0, 0, 0, 0, 0, 0, 0, 0, 0, 0] : List Int32)) (by decide +kernel)
 have uY := (B1.keep Kq2)
 obtain ⟨T3, L3, X3, N3, Kq3, Q3_0, st3⟩ := aV 2 11 (0 : Int32) (3 : Int32) b1 (1 : Int32) (10 : Int32) ([0, 0, 0, 0, 0, 0, 0, 0, 0, 0] : List Int32) (2 : Int32) X2 hx hZ hw hby hml hown rfl N2 (Nat.le_trans Z0 K2.1) Q2_0' g_b1 (by decide +kernel) (by decide +kernel) (by decide +kernel) (by decide +kernel) (by decide +kernel) (by decide : 1 + (0) ≤ _) (by decide : 10 + (0) ≤ _)
 have K3 : Keep h0 T3.heap [] := K2.trans Kq3 (bJ (Or.inr bK))
 have Q3_0' := aK Q3_0 (vs' := ([0, 1, 0, 0, 0, 0, 0, 0, 0, 0] : List Int32)) (by decide +kernel)
 have uZ := (uY.keep Kq3)
 obtain ⟨T5, L5, X5, N5, Kq5, Q5_0, st5⟩ := aV 2 11 (0 : Int32) (3 : Int32) b1 (2 : Int32) (10 : Int32) ([0, 1, 0, 0, 0, 0, 0, 0, 0, 0] : List Int32) (3 : Int32) X3 hx hZ hw hby hml hown rfl N3 (Nat.le_trans Z0 K3.1) Q3_0' g_b1 (by decide +kernel) (by decide +kernel) (by decide +kernel) (by decide +kernel) (by decide +kernel) (by decide : 1 + (0) ≤ _) (by decide : 10 + (0) ≤ _)
 have K5 : Keep h0 T5.heap [] := K3.trans Kq5 (bJ (Or.inr bK))
 have Q5_0' := aK Q5_0 (vs' := ([0, 1, 2, 0, 0, 0, 0, 0, 0, 0] : List Int32)) (by decide +kernel)
 have vA := (uZ.keep Kq5)
 obtain ⟨T7, L7, X7, N7, Kq7, Q7_0, st7⟩ := aV 2 11 (0 : Int32) (3 : Int32) b1 (3 : Int32) (10 : Int32) ([0, 1, 2, 0, 0, 0, 0, 0, 0, 0] : List Int32) (4 : Int32) X5 hx hZ hw hby hml hown rfl N5 (Nat.le_trans Z0 K5.1) Q5_0' g_b1 (by decide +kernel) (by decide +kernel) (by decide +kernel) (by decide +kernel) (by decide +kernel) (by decide : 1 + (0) ≤ _) (by decide : 10 + (0) ≤ _)
 have K7 : Keep h0 T7.heap [] := K5.trans Kq7 (bJ (Or.inr bK))
 have Q7_0' := aK Q7_0 (vs' := ([0, 1, 2, 3, 0, 0, 0, 0, 0, 0] : List Int32)) (by decide +kernel)
 have qL := (vA.keep Kq7)
 obtain ⟨T9, L9, X9, N9, Kq9, Q9_0, st9⟩ := aV 2 11 (0 : Int32) (3 : Int32) b1 (4 : Int32) (10 : Int32) ([0, 1, 2, 3, 0, 0, 0, 0, 0, 0] : List Int32) (5 : Int32) X7 hx hZ hw hby hml hown rfl N7 (Nat.le_trans Z0 K7.1) Q7_0' g_b1 (by decide +kernel) (by decide +kernel) (by decide +kernel) (by decide +kernel) (by decide +kernel) (by decide : 1 + (0) ≤ _) (by decide : 10 + (0) ≤ _)
 have K9 : Keep h0 T9.heap [] := K7.trans Kq9 (bJ (Or.inr bK))
 have Q9_0' := aK Q9_0 (vs' := ([0, 1, 2, 3, 4, 0, 0, 0, 0, 0] : List Int32)) (by decide +kernel)
 have lY := (qL.keep Kq9)
 obtain ⟨T11, L11, X11, N11, Kq11, Q11_0, st11⟩ := aV 2 11 (0 : Int32) (3 : Int32) b1 (5 : Int32) (10 : Int32) ([0, 1, 2, 3, 4, 0, 0, 0, 0, 0] : List Int32) (6 : Int32) X9 hx hZ hw hby hml hown rfl N9 (Nat.le_trans Z0 K9.1) Q9_0' g_b1 (by decide +kernel) (by decide +kernel) (by decide +kernel) (by decide +kernel) (by decide +kernel) (by decide : 1 + (0) ≤ _) (by decide : 10 + (0) ≤ _)
 have K11 : Keep h0 T11.heap [] := K9.trans Kq11 (bJ (Or.inr bK))
 have Q11_0' := aK Q11_0 (vs' := ([0, 1, 2, 3, 4, 5, 0, 0, 0, 0] : List Int32)) (by decide +kernel)
 have nA := (lY.keep Kq11)
 obtain ⟨T13, L13, X13, N13, Kq13, Q13_0, st13⟩ := aV 2 11 (0 : Int32) (3 : Int32) b1 (6 : Int32) (10 : Int32) ([0, 1, 2, 3, 4, 5, 0, 0, 0, 0] : List Int32) (7 : Int32) X11 hx hZ hw hby hml hown rfl N11 (Nat.le_trans Z0 K11.1) Q11_0' g_b1 (by decide +kernel) (by decide +kernel) (by decide +kernel) (by decide +kernel) (by decide +kernel) (by decide : 1 + (0) ≤ _) (by decide : 10 + (0) ≤ _)
 have K13 : Keep h0 T13.heap [] := K11.trans Kq13 (bJ (Or.inr bK))
 have Q13_0' := aK Q13_0 (vs' := ([0, 1, 2, 3, 4, 5, 6, 0, 0, 0] : List Int32)) (by decide +kernel)
 have qM := (nA.keep Kq13)
 obtain ⟨T15, L15, X15, N15, Kq15, Q15_0, st15⟩ := aV 2 11 (0 : Int32) (3 : Int32) b1 (7 : Int32) (10 : Int32) ([0, 1, 2, 3, 4, 5, 6, 0, 0, 0] : List Int32) (8 : Int32) X13 hx hZ hw hby hml hown rfl N13 (Nat.le_trans Z0 K13.1) Q13_0' g_b1 (by decide +kernel) (by decide +kernel) (by decide +kernel) (by decide +kernel) (by decide +kernel) (by decide : 1 + (0) ≤ _) (by decide : 10 + (0) ≤ _)
 have K15 : Keep h0 T15.heap [] := K13.trans Kq15 (bJ (Or.inr bK))
 have Q15_0' := aK Q15_0 (vs' := ([0, 1, 2, 3, 4, 5, 6, 7, 0, 0] : List Int32)) (by decide +kernel)
 have qN := (qM.keep Kq15)
 obtain ⟨T17, L17, X17, N17, Kq17, Q17_0, st17⟩ := aV 2 11 (0 : Int32) (3 : Int32) b1 (8 : Int32) (10 : Int32) ([0, 1, 2, 3, 4, 5, 6, 7, 0, 0] : List Int32) (9 : Int32) X15 hx hZ hw hby hml hown rfl N15 (Nat.le_trans Z0 K15.1) Q15_0' g_b1 (by decide +kernel) (by decide +kernel) (by decide +kernel) (by decide +kernel) (by decide +kernel) (by decide : 1 + (0) ≤ _) (by decide : 10 + (0) ≤ _)
 have K17 : Keep h0 T17.heap [] := K15.trans Kq17 (bJ (Or.inr bK))
 have Q17_0' := aK Q17_0 (vs' := ([0, 1, 2, 3, 4, 5, 6, 7, 8, 0] : List Int32)) (by decide +kernel)
 have qO := (qN.keep Kq17)
 obtain ⟨T19, L19, X19, N19, Kq19, Q19_0, st19⟩ := aV 2 11 (0 : Int32) (3 : Int32) b1 (9 : Int32) (10 : Int32) ([0, 1, 2, 3, 4, 5, 6, 7, 8, 0] : List Int32) (10 : Int32) X17 hx hZ hw hby hml hown rfl N17 (Nat.le_trans Z0 K17.1) Q17_0' g_b1 (by decide +kernel) (by decide +kernel) (by decide +kernel) (by decide +kernel) (by decide +kernel) (by decide : 1 + (0) ≤ _) (by decide : 10 + (0) ≤ _)
 have K19 : Keep h0 T19.heap [] := K17.trans Kq19 (bJ (Or.inr bK))
 have Q19_0' := aK Q19_0 (vs' := ([0, 1, 2, 3, 4, 5, 6, 7, 8, 9] : List Int32)) (by decide +kernel)
 obtain ⟨_, _, ⟨T21, L21, k21, n21⟩, -, X21, ⟨Lc21, hQ21, l21, y21, z21⟩, st21⟩ := Jvm.LawKit.callS X19 hx (y := oM6) hown (mvT hZ (oW hw 143 rfl)) (mvT hZ (oW hw 144 rfl)) (mvT hZ (oW hw 145 rfl)) (mvT hZ (oW hw 146 rfl)) (by decide) (backOf (W := 0) (kK l Z a0 hw [] (0 : Int64) (27 : Int64) T19.heap n0 (Nat.le_trans Z0 K19.1) ) hZ (oW hw 146 rfl) (oW hw 145 rfl) (by decide) (by decide)) (g := (mkF m 31 #[oI 0, oI 3, oA b1, oI 10, .unset, .unset, .unset] [(.long 27), (.long 0)])) rfl (by rw [hml]; rfl) (argsL := [(.long 0), (.long 27)]) (rest := []) (lenOf uH rfl) rfl (by show 2 * 0 + _ ≤ _; exact Nat.le_of_eq rfl) (oG hby d23 20 rfl) (fun _ _ => ⟨rfl, rfl, (by decide : 1 + 1 ≤ _), (by decide : 10 + 1 ≤ _)⟩)
 dsimp only [Pt.U, Pt.locs, Pt.cells, Pt.slots] at X21 l21 y21 z21 st21 hQ21
 subst l21 y21 z21
 obtain ⟨r21_b1, rfl, N21q, Kq21, gP, vB, vC⟩ := hQ21
 have N21 := Fr.app N19 N21q
 have lC := (qO.keep Kq19)
 have aH : b1 ≠ r21_b1 := oV lC.lt gP
 have bN : h0.size ≤ r21_b1 := Nat.le_trans K19.1 gP
 have g_r21_b1 : n0 ≤ r21_b1 := Nat.le_trans Z0 bN
 have K21 : Keep h0 T21.heap [] := K19.trans Kq21 dX
 have qP := (Q19_0'.keep Kq21 (dP _))
 have qQ := (lC.keep Kq21)
 obtain ⟨T23, L23, X23, N23, Kq23, vD, vE, Q23_2, st23⟩ := iP 2 11 (0 : Int32) (3 : Int32) b1 r21_b1 (9 : Int32) ((0 : Int64) + ((27 : Int64) * (-7046029254386353131 : Int64))) (2 : Int32) (10 : Int32) ([0, 1, 2, 3, 4, 5, 6, 7, 8, 9] : List Int32) (8 : Int32) X21 hx hZ hw hby hml hown rfl N21 (Nat.le_trans Z0 K21.1) vC vB g_r21_b1 qP g_b1 (by decide +kernel) (by decide +kernel) (by decide +kernel) (by decide +kernel) aH (by decide +kernel) (by decide +kernel) (by decide +kernel) (by decide +kernel) (by decide +kernel) (by decide +kernel) (by decide +kernel) (Ne.symm aH) (by decide : 2 + (0) ≤ _) (by decide : 11 + (0) ≤ _)
 have K23 : Keep h0 T23.heap [] := K21.trans Kq23 (dN (Or.inr bN) (Or.inr bK))
 have Q23_2' := aK Q23_2 (vs' := ([0, 1, 9, 3, 4, 5, 6, 7, 8, 2] : List Int32)) (by decide +kernel)
 have qR := (qQ.keep Kq23)
 obtain ⟨T26, L26, X26, N26, Kq26, vF, vG, Q26_2, st26⟩ := bA 2 11 (0 : Int32) (3 : Int32) b1 r21_b1 (8 : Int32) (2 : Int32) (([0, 1, 2, 3, 4, 5, 6, 7, 8, 9] : List Int32).getD ((9 : Int32)).toNatClampNeg 0) (((0 : Int64) + ((27 : Int64) * (-7046029254386353131 : Int64))) + (-7046029254386353131 : Int64)) (7 : Int32) (10 : Int32) ([0, 1, 9, 3, 4, 5, 6, 7, 8, 2] : List Int32) (7 : Int32) X23 hx hZ hw hby hml hown rfl N23 (Nat.le_trans Z0 K23.1) vE vD g_r21_b1 Q23_2' g_b1 (by decide +kernel) (by decide +kernel) (by decide +kernel) (by decide +kernel) aH (by decide +kernel) (by decide +kernel) (by decide +kernel) (by decide +kernel) (by decide +kernel) (by decide +kernel) (by decide +kernel) (Ne.symm aH) (by decide : 2 + (0) ≤ _) (by decide : 11 + (0) ≤ _)
 have K26 : Keep h0 T26.heap [] := K23.trans Kq26 (dN (Or.inr bN) (Or.inr bK))
 have Q26_2' := aK Q26_2 (vs' := ([0, 1, 9, 3, 4, 5, 6, 8, 7, 2] : List Int32)) (by decide +kernel)
 have qS := (qR.keep Kq26)
 obtain ⟨T28, L28, X28, N28, Kq28, vH, vI, Q28_2, st28⟩ := bA 2 11 (0 : Int32) (3 : Int32) b1 r21_b1 (7 : Int32) (7 : Int32) (([0, 1, 9, 3, 4, 5, 6, 7, 8, 2] : List Int32).getD ((8 : Int32)).toNatClampNeg 0) ((((0 : Int64) + ((27 : Int64) * (-7046029254386353131 : Int64))) + (-7046029254386353131 : Int64)) + (-7046029254386353131 : Int64)) (2 : Int32) (10 : Int32) ([0, 1, 9, 3, 4, 5, 6, 8, 7, 2] : List Int32) (6 : Int32) X26 hx hZ hw hby hml hown rfl N26 (Nat.le_trans Z0 K26.1) vG vF g_r21_b1 Q26_2' g_b1 (by decide +kernel) (by decide +kernel) (by decide +kernel) (by decide +kernel) aH (by decide +kernel) (by decide +kernel) (by decide +kernel) (by decide +kernel) (by decide +kernel) (by decide +kernel) (by decide +kernel) (Ne.symm aH) (by decide : 2 + (0) ≤ _) (by decide : 11 + (0) ≤ _)
 have K28 : Keep h0 T28.heap [] := K26.trans Kq28 (dN (Or.inr bN) (Or.inr bK))
 have Q28_2' := aK Q28_2 (vs' := ([0, 1, 8, 3, 4, 5, 6, 9, 7, 2] : List Int32)) (by decide +kernel)
 have qT := (qS.keep Kq28)
 obtain ⟨T30, L30, X30, N30, Kq30, vJ, vK, Q30_2, st30⟩ := bA 2 11 (0 : Int32) (3 : Int32) b1 r21_b1 (6 : Int32) (2 : Int32) (([0, 1, 9, 3, 4, 5, 6, 8, 7, 2] : List Int32).getD ((7 : Int32)).toNatClampNeg 0) (((((0 : Int64) + ((27 : Int64) * (-7046029254386353131 : Int64))) + (-7046029254386353131 : Int64)) + (-7046029254386353131 : Int64)) + (-7046029254386353131 : Int64)) (4 : Int32) (10 : Int32) ([0, 1, 8, 3, 4, 5, 6, 9, 7, 2] : List Int32) (5 : Int32) X28 hx hZ hw hby hml hown rfl N28 (Nat.le_trans Z0 K28.1) vI vH g_r21_b1 Q28_2' g_b1 (by decide +kernel) (by decide +kernel) (by decide +kernel) (by decide +kernel) aH (by decide +kernel) (by decide +kernel) (by decide +kernel) (by decide +kernel) (by decide +kernel) (by decide +kernel) (by decide +kernel) (Ne.symm aH) (by decide : 2 + (0) ≤ _) (by decide : 11 + (0) ≤ _)
 have K30 : Keep h0 T30.heap [] := K28.trans Kq30 (dN (Or.inr bN) (Or.inr bK))
 have Q30_2' := aK Q30_2 (vs' := ([0, 1, 8, 3, 6, 5, 4, 9, 7, 2] : List Int32)) (by decide +kernel)
 have qU := (qT.keep Kq30)
 obtain ⟨T32, L32, X32, N32, Kq32, vL, vM, Q32_2, st32⟩ := bA 2 11 (0 : Int32) (3 : Int32) b1 r21_b1 (5 : Int32) (4 : Int32) (([0, 1, 8, 3, 4, 5, 6, 9, 7, 2] : List Int32).getD ((6 : Int32)).toNatClampNeg 0) ((((((0 : Int64) + ((27 : Int64) * (-7046029254386353131 : Int64))) + (-7046029254386353131 : Int64)) + (-7046029254386353131 : Int64)) + (-7046029254386353131 : Int64)) + (-7046029254386353131 : Int64)) (5 : Int32) (10 : Int32) ([0, 1, 8, 3, 6, 5, 4, 9, 7, 2] : List Int32) (4 : Int32) X30 hx hZ hw hby hml hown rfl N30 (Nat.le_trans Z0 K30.1) vK vJ g_r21_b1 Q30_2' g_b1 (by decide +kernel) (by decide +kernel) (by decide +kernel) (by decide +kernel) aH (by decide +kernel) (by decide +kernel) (by decide +kernel) (by decide +kernel) (by decide +kernel) (by decide +kernel) (by decide +kernel) (Ne.symm aH) (by decide : 2 + (0) ≤ _) (by decide : 11 + (0) ≤ _)
 have K32 : Keep h0 T32.heap [] := K30.trans Kq32 (dN (Or.inr bN) (Or.inr bK))
 have Q32_2' := aK Q32_2 (vs' := ([0, 1, 8, 3, 6, 5, 4, 9, 7, 2] : List Int32)) (by decide +kernel)
 have qV := (qU.keep Kq32)
 obtain ⟨T34, L34, X34, N34, Kq34, vN, vO, Q34_2, st34⟩ := bA 2 11 (0 : Int32) (3 : Int32) b1 r21_b1 (4 : Int32) (5 : Int32) (([0, 1, 8, 3, 6, 5, 4, 9, 7, 2] : List Int32).getD ((5 : Int32)).toNatClampNeg 0) (((((((0 : Int64) + ((27 : Int64) * (-7046029254386353131 : Int64))) + (-7046029254386353131 : Int64)) + (-7046029254386353131 : Int64)) + (-7046029254386353131 : Int64)) + (-7046029254386353131 : Int64)) + (-7046029254386353131 : Int64)) (4 : Int32) (10 : Int32) ([0, 1, 8, 3, 6, 5, 4, 9, 7, 2] : List Int32) (3 : Int32) X32 hx hZ hw hby hml hown rfl N32 (Nat.le_trans Z0 K32.1) vM vL g_r21_b1 Q32_2' g_b1 (by decide +kernel) (by decide +kernel) (by decide +kernel) (by decide +kernel) aH (by decide +kernel) (by decide +kernel) (by decide +kernel) (by decide +kernel) (by decide +kernel) (by decide +kernel) (by decide +kernel) (Ne.symm aH) (by decide : 2 + (0) ≤ _) (by decide : 11 + (0) ≤ _)
 have K34 : Keep h0 T34.heap [] := K32.trans Kq34 (dN (Or.inr bN) (Or.inr bK))
 have Q34_2' := aK Q34_2 (vs' := ([0, 1, 8, 3, 6, 5, 4, 9, 7, 2] : List Int32)) (by decide +kernel)
 have qW := (qV.keep Kq34)
 obtain ⟨T36, L36, X36, N36, Kq36, vP, vQ, Q36_2, st36⟩ := bA 2 11 (0 : Int32) (3 : Int32) b1 r21_b1 (3 : Int32) (4 : Int32) (([0, 1, 8, 3, 6, 5, 4, 9, 7, 2] : List Int32).getD ((4 : Int32)).toNatClampNeg 0) ((((((((0 : Int64) + ((27 : Int64) * (-7046029254386353131 : Int64))) + (-7046029254386353131 : Int64)) + (-7046029254386353131 : Int64)) + (-7046029254386353131 : Int64)) + (-7046029254386353131 : Int64)) + (-7046029254386353131 : Int64)) + (-7046029254386353131 : Int64)) (1 : Int32) (10 : Int32) ([0, 1, 8, 3, 6, 5, 4, 9, 7, 2] : List Int32) (2 : Int32) X34 hx hZ hw hby hml hown rfl N34 (Nat.le_trans Z0 K34.1) vO vN g_r21_b1 Q34_2' g_b1 (by decide +kernel) (by decide +kernel) (by decide +kernel) (by decide +kernel) aH (by decide +kernel) (by decide +kernel) (by decide +kernel) (by decide +kernel) (by decide +kernel) (by decide +kernel) (by decide +kernel) (Ne.symm aH) (by decide : 2 + (0) ≤ _) (by decide : 11 + (0) ≤ _)
 have K36 : Keep h0 T36.heap [] := K34.trans Kq36 (dN (Or.inr bN) (Or.inr bK))
 have Q36_2' := aK Q36_2 (vs' := ([0, 3, 8, 1, 6, 5, 4, 9, 7, 2] : List Int32)) (by decide +kernel)
 have qX := (qW.keep Kq36)
 obtain ⟨T38, L38, X38, N38, Kq38, vR, vS, Q38_2, st38⟩ := bA 2 11 (0 : Int32) (3 : Int32) b1 r21_b1 (2 : Int32) (1 : Int32) (([0, 1, 8, 3, 6, 5, 4, 9, 7, 2] : List Int32).getD ((3 : Int32)).toNatClampNeg 0) (((((((((0 : Int64) + ((27 : Int64) * (-7046029254386353131 : Int64))) + (-7046029254386353131 : Int64)) + (-7046029254386353131 : Int64)) + (-7046029254386353131 : Int64)) + (-7046029254386353131 : Int64)) + (-7046029254386353131 : Int64)) + (-7046029254386353131 : Int64)) + (-7046029254386353131 : Int64)) (1 : Int32) (10 : Int32) ([0, 3, 8, 1, 6, 5, 4, 9, 7, 2] : List Int32) (1 : Int32) X36 hx hZ hw hby hml hown rfl N36 (Nat.le_trans Z0 K36.1) vQ vP g_r21_b1 Q36_2' g_b1 (by decide +kernel) (by decide +kernel) (by decide +kernel) (by decide +kernel) aH (by decide +kernel) (by decide +kernel) (by decide +kernel) (by decide +kernel) (by decide +kernel) (by decide +kernel) (by decide +kernel) (Ne.symm aH) (by decide : 2 + (0) ≤ _) (by decide : 11 + (0) ≤ _)
 have K38 : Keep h0 T38.heap [] := K36.trans Kq38 (dN (Or.inr bN) (Or.inr bK))
 have Q38_2' := aK Q38_2 (vs' := ([0, 8, 3, 1, 6, 5, 4, 9, 7, 2] : List Int32)) (by decide +kernel)
 have qY := (qX.keep Kq38)
 obtain ⟨T40, L40, X40, N40, Kq40, aM5, aM6, Q40_2, st40⟩ := bA 2 11 (0 : Int32) (3 : Int32) b1 r21_b1 (1 : Int32) (1 : Int32) (([0, 3, 8, 1, 6, 5, 4, 9, 7, 2] : List Int32).getD ((2 : Int32)).toNatClampNeg 0) ((((((((((0 : Int64) + ((27 : Int64) * (-7046029254386353131 : Int64))) + (-7046029254386353131 : Int64)) + (-7046029254386353131 : Int64)) + (-7046029254386353131 : Int64)) + (-7046029254386353131 : Int64)) + (-7046029254386353131 : Int64)) + (-7046029254386353131 : Int64)) + (-7046029254386353131 : Int64)) + (-7046029254386353131 : Int64)) (1 : Int32) (10 : Int32) ([0, 8, 3, 1, 6, 5, 4, 9, 7, 2] : List Int32) (0 : Int32) X38 hx hZ hw hby hml hown rfl N38 (Nat.le_trans Z0 K38.1) vS vR g_r21_b1 Q38_2' g_b1 (by decide +kernel) (by decide +kernel) (by decide +kernel) (by decide +kernel) aH (by decide +kernel) (by decide +kernel) (by decide +kernel) (by decide +kernel) (by decide +kernel) (by decide +kernel) (by decide +kernel) (Ne.symm aH) (by decide : 2 + (0) ≤ _) (by decide : 11 + (0) ≤ _)
 have K40 : Keep h0 T40.heap [] := K38.trans Kq40 (dN (Or.inr bN) (Or.inr bK))
 have Q40_2' := aK Q40_2 (vs' := ([0, 8, 3, 1, 6, 5, 4, 9, 7, 2] : List Int32)) (by decide +kernel)
 have qZ := (qY.keep Kq40)
 obtain ⟨fs, hr, hrun, hended, hW, hsame⟩ := X40.leave (v := some (.ref b1)) (fun h => by rw [Bd.returns] at h; cases h)
 refine ⟨_, _, castTop (rN m (0 : Int32) (3 : Int32)) ?_, hrun, hended, _, _, rfl, ?_, ⟨_, rfl⟩, hW, (hsame.mono (by decide) (by decide))⟩
 · show oZ p e below s₁ (mkF m 0 #[oI 0, oI 3, .unset, .unset, .unset, .unset, .unset] []) _
   refine XS.bipush X0.here hx rfl (oG hby d23 0 rfl) ?_
   refine st1 _ ?_
   refine XS.astoreN X1.here hx rfl (oG hby d23 2 rfl) rfl rfl (l' := #[oI 0, oI 3, oA b1, .unset, .unset, .unset, .unset]) rfl ?_
   refine XS.iconst X1.here hx rfl (oG hby d23 3 rfl) ?_
   refine XS.istoreN X1.here hx rfl (oG hby d23 4 rfl) rfl (l' := #[oI 0, oI 3, oA b1, oI 0, .unset, .unset, .unset]) rfl ?_
   refine st2 _ ?_
   refine st3 _ ?_
   refine st5 _ ?_
   refine st7 _ ?_
   refine st9 _ ?_
   refine st11 _ ?_
   show oZ p e below T11 (mkF m 7 #[oI 0, oI 3, oA b1, oI 6, .unset, .unset, .unset] []) _
   refine st13 _ ?_
   refine st15 _ ?_
   refine st17 _ ?_
   refine st19 _ ?_
   refine XS.iloadN X19.here hx rfl (oG hby d23 5 rfl) rfl ?_
   refine XS.bipush X19.here hx rfl (oG hby d23 6 rfl) ?_
   refine XS.icmpYes X19.here hx rfl (pc0 := 10) (pc' := 23) rfl (oG hby d23 7 rfl) rfl (flt (by decide +kernel : ¬ ((10 : Int32) < (10 : Int32)))).2.1 (by decide) (by decide) ?_
   refine XS.iloadN X19.here hx rfl (oG hby d23 14 rfl) rfl ?_
   refine XS.i2l X19.here hx rfl (oG hby d23 15 rfl) rfl ?_
   show oZ p e below T19 (mkF m 25 #[oI 0, oI 3, oA b1, oI 10, .unset, .unset, .unset] [(.long ((0 : Int32).toInt64))]) _
   rw [(by decide +kernel : ((0 : Int32).toInt64) = (0 : Int64))]
   refine XS.iloadN X19.here hx rfl (oG hby d23 16 rfl) rfl ?_
   refine XS.i2l X19.here hx rfl (oG hby d23 17 rfl) rfl ?_
   show oZ p e below T19 (mkF m 27 #[oI 0, oI 3, oA b1, oI 10, .unset, .unset, .unset] [(.long ((3 : Int32).toInt64)), (.long 0)]) _
   rw [(by decide +kernel : ((3 : Int32).toInt64) = (3 : Int64))]
   refine X19.ldc2Long hx hown (mvT hZ (oW hw 142 rfl)) (g := (mkF m 27 #[oI 0, oI 3, oA b1, oI 10, .unset, .unset, .unset] [(.long 3), (.long 0)])) rfl (oG hby d23 18 rfl) _ ?_
   refine XS.lmul X19.here hx rfl (oG hby d23 19 rfl) rfl ?_
   show oZ p e below T19 (mkF m 31 #[oI 0, oI 3, oA b1, oI 10, .unset, .unset, .unset] [(.long ((3 : Int64) * (9 : Int64))), (.long 0)]) _
   rw [(by decide +kernel : ((3 : Int64) * (9 : Int64)) = (27 : Int64))]
   refine st21 _ ?_
   refine XS.astoreN X21.here hx rfl (oG hby d23 21 rfl) rfl rfl (l' := #[oI 0, oI 3, oA b1, oA r21_b1, .unset, .unset, .unset]) rfl ?_
   refine XS.bipush X21.here hx rfl (oG hby d23 22 rfl) ?_
   refine XS.istore X21.here hx rfl (oG hby d23 23 rfl) rfl (l' := #[oI 0, oI 3, oA b1, oA r21_b1, oI 9, .unset, .unset]) rfl ?_
   refine st23 _ ?_
   refine st26 _ ?_
   refine st28 _ ?_
   refine st30 _ ?_
   refine st32 _ ?_
   refine st34 _ ?_
   show oZ p e below T34 (mkF m 39 #[oI 0, oI 3, oA b1, oA r21_b1, oI 3, oI 4, oI (([0, 1, 8, 3, 6, 5, 4, 9, 7, 2] : List Int32).getD ((4 : Int32)).toNatClampNeg 0)] []) _
   refine st36 _ ?_
   refine st38 _ ?_
   refine st40 _ ?_
   refine XS.iload X40.here hx rfl (oG hby d23 24 rfl) rfl ?_
   refine XS.ifYes X40.here hx rfl (pc0 := 41) (pc' := 85) rfl (oG hby d23 25 rfl) rfl ((if0 _ _).trans (flt (by decide +kernel : ¬ ((0 : Int32) < (0 : Int32)))).2.2.2) (by decide) (by decide) ?_
   refine XS.aloadN X40.here hx rfl (oG hby d23 51 rfl) rfl rfl ?_
   show oZ p e below T40 (mkF m 86 #[oI 0, oI 3, oA b1, oA r21_b1, oI 0, oI 1, oI (([0, 8, 3, 1, 6, 5, 4, 9, 7, 2] : List Int32).getD ((1 : Int32)).toNatClampNeg 0)] [(.ref b1)]) _
   jvm_step X40.here [X40.here.top, hx, (oG hby d23 52 rfl), X40.method', Bd.returns, Value.isRef, FieldType.isReference]
   first | (intro acts; rw [hr _ acts rfl rfl rfl]) | rw [hr _ _ rfl rfl rfl]
   exact Steps.refl _
 · show lF Z  h0 n0 _ T40.heap _
   exact ⟨b1, rfl, N40, K40, bK, qZ, Q40_2'⟩
def gK (lot : Int32) : List Int32 := if lot = 0 then ([6, 3, 2, 9, 8, 1, 4, 7, 0, 5] : List Int32) else if lot = 1 then ([7, 4, 9, 5, 2, 3, 8, 6, 1, 0] : List Int32) else if lot = 2 then ([6, 4, 9, 1, 5, 0, 3, 8, 7, 2] : List Int32) else ([0, 8, 3, 1, 6, 5, 4, 9, 7, 2] : List Int32)
def aZ5 (Z : State) (lot : Int32) (h0 : Heap) (n0 : Nat) (v : Option Value) (h : Heap) (L : List Loc) : Prop := ∃ r : Addr, v = some (.ref r) ∧ Fr n0 L ∧ Keep h0 h [] ∧ h0.size ≤ r ∧ bB Z h r (10 : Int32) (gK lot)
theorem zX (l : Launch) (Z : State) (a0 : Array Value) (hw : oH a0 Z) (ws : List Jvm.Cond) (lot : Int32) (h0 : Heap) (n0 : Nat) (Z0 : n0 ≤ h0.size) (hl : lot = 0 ∨ lot = 1 ∨ lot = 2 ∨ lot = 3) :
   oMet l oM7 prog_29_method_19_code 7 (some (.array .int)) ws (oR 3 2 11 60) Z h0 #[(.int 0), (.int lot)] (aZ5 Z lot h0 n0) := by
 rcases hl with rfl | rfl | rfl | rfl
 · exact dJ (rV l Z a0 hw ws h0 n0 Z0) fun v h L ⟨r, a1, a2, a3, a4, b0, b1⟩ => ⟨r, a1, a2, a3, a4, b1⟩
 · exact dJ (rW l Z a0 hw ws h0 n0 Z0) fun v h L ⟨r, a1, a2, a3, a4, b0, b1⟩ => ⟨r, a1, a2, a3, a4, b1⟩
 · exact dJ (rX l Z a0 hw ws h0 n0 Z0) fun v h L ⟨r, a1, a2, a3, a4, b0, b1⟩ => ⟨r, a1, a2, a3, a4, b1⟩
 · exact dJ (rY l Z a0 hw ws h0 n0 Z0) fun v h L ⟨r, a1, a2, a3, a4, b0, b1⟩ => ⟨r, a1, a2, a3, a4, b1⟩
def nN (Z : State) (a0_ : Addr) (p2_ : Int32) (p3_ : Int32) (aO : Int32) (h0 : Heap) (n0 : Nat) (v : Option Value) (h : Heap) (L : List Loc) : Prop := v = some (.int (-1 : Int32)) ∧ Fr n0 L ∧ Keep h0 h []
theorem vT (l : Launch) (Z : State) (a0 : Array Value) (hw : oH a0 Z) (ws : List Jvm.Cond) (a0_ : Addr) (p2_ : Int32) (p3_ : Int32) (aO : Int32) (h0 : Heap) (n0 : Nat) (Z0 : n0 ≤ h0.size) (cF : Fld Z h0 a0_ oC0 "backends" "I" (.int aO)) (hf0 : p2_ = 0 ∨ p2_ = 1 ∨ p2_ = 2 ∨ p2_ = 3) (hf1 : ¬ (p3_ < 0)) (hf2 : p3_ < (10 : Int32)) (hf3 : ¬ ((lcmpW (((p2_.toInt64) * (10 : Int64)) + (((gK p2_).getD (p3_).toNatClampNeg 0).toInt64)) (aO.toInt64)) < (0 : Int32))) :
   oMet l oM5 prog_29_method_14_code 6 (some .int) ws (oR 4 2 11 100) Z h0 #[(.ref a0_), (.int 0), (.int p2_), (.int p3_)] (nN Z a0_ p2_ p3_ aO h0 n0) := by
 refine oBd n0 (plainFor_of_name eC) ?_
 intro p e s m below meth c s₁ Bd hx hZ hby hml hown hnm X0 e0 N0
 obtain ⟨_, _, ⟨T1, L1, k1, n1⟩, -, X1, ⟨Lc1, hQ1, l1, y1, z1⟩, st1⟩ := Jvm.LawKit.callS X0 hx (y := oM7) hown (mvT hZ (oW hw 139 rfl)) (mvT hZ (oW hw 140 rfl)) (mvT hZ (oW hw 12 rfl)) (mvT hZ (oW hw 141 rfl)) (by decide) (backOf (W := 2) (zX l Z a0 hw [] p2_ h0 n0 Z0 hf0) hZ (oW hw 141 rfl) (oW hw 12 rfl) (by decide) (by decide)) (g := (mkF m 8 #[oA a0_, oI 0, oI p2_, oI p3_, .unset, .unset] [(.int p2_), (.int 0), (.long ((p2_.toInt64) * (10 : Int64)))])) rfl (by rw [hml]; rfl) (argsL := [(.int 0), (.int p2_)]) (rest := [(.long ((p2_.toInt64) * (10 : Int64)))]) (lenOf mX rfl) rfl (by show 2 * 0 + _ ≤ _; exact Nat.le_of_eq rfl) (oG hby d22 6 rfl) (fun _ _ => ⟨rfl, e0, (by decide : 0 + 2 ≤ _), (by decide : 0 + 11 ≤ _)⟩)
 dsimp only [Pt.U, Pt.locs, Pt.cells, Pt.slots] at X1 l1 y1 z1 st1 hQ1
 subst l1 y1 z1
 obtain ⟨r1_r, rfl, N1q, Kq1, nB, rT⟩ := hQ1
 have N1 := Fr.app N0 N1q
 have pM : h0.size ≤ r1_r := Nat.le_trans (Keep.refl h0 []).1 nB
 have g_r1_r : n0 ≤ r1_r := Nat.le_trans Z0 pM
 have K1 : Keep h0 T1.heap [] := (Keep.refl h0 []).trans Kq1 dX
 obtain ⟨c2, A2, hin2, hat2⟩ := bS (j := p3_) rT hf1 hf2
 have hat2' : c2.slots[(p3_).toNatClampNeg]? = some (.int ((gK p2_).getD (p3_).toNatClampNeg 0)) := hat2
 have jZ := (cF.keep Kq1 (dP _))
 obtain ⟨T4, X4, e4, st4⟩ := getF X1 hx hZ hown (host := "") (Or.inl (oW hw 20 rfl)) Via.refl rfl jZ (g := (mkF m 20 #[oA a0_, oI 0, oI p2_, oI p3_, oJ (((p2_.toInt64) * (10 : Int64)) + (((gK p2_).getD (p3_).toNatClampNeg 0).toInt64)), .second] [(.ref a0_), (.long (((p2_.toInt64) * (10 : Int64)) + (((gK p2_).getD (p3_).toNatClampNeg 0).toInt64)))])) rfl rfl (oG hby d22 14 rfl)
 obtain ⟨fs, hr, hrun, hended, hW, hsame⟩ := X4.leave (v := some (.int (-1 : Int32))) (fun h => by rw [Bd.returns] at h; cases h)
 refine ⟨_, _, castTop (zK m a0_ (0 : Int32) p2_ p3_) ?_, hrun, hended, _, _, rfl, ?_, ⟨_, rfl⟩, hW, (hsame.mono (by decide) (by decide))⟩
 · show oZ p e below s₁ (mkF m 0 #[oA a0_, oI 0, oI p2_, oI p3_, .unset, .unset] []) _
   refine XS.iloadN X0.here hx rfl (oG hby d22 0 rfl) rfl ?_
   refine XS.i2l X0.here hx rfl (oG hby d22 1 rfl) rfl ?_
   refine X0.ldc2Long hx hown (mvT hZ (oW hw 89 rfl)) (g := (mkF m 2 #[oA a0_, oI 0, oI p2_, oI p3_, .unset, .unset] [(.long (p2_.toInt64))])) rfl (oG hby d22 2 rfl) _ ?_
   refine XS.lmul X0.here hx rfl (oG hby d22 3 rfl) rfl ?_
   refine XS.iloadN X0.here hx rfl (oG hby d22 4 rfl) rfl ?_
   refine XS.iloadN X0.here hx rfl (oG hby d22 5 rfl) rfl ?_
   refine st1 _ ?_
   refine XS.iloadN X1.here hx rfl (oG hby d22 7 rfl) rfl ?_
   refine X1.iaload hx (j := p3_) (v := (.int ((gK p2_).getD (p3_).toNatClampNeg 0))) A2.1 (State.isArrayOf_alike hZ.alike A2.2.1) A2.2.2 hin2 hat2' (g := (mkF m 12 #[oA a0_, oI 0, oI p2_, oI p3_, .unset, .unset] [(.int p3_), (.ref r1_r), (.long ((p2_.toInt64) * (10 : Int64)))])) rfl rfl (oG hby d22 8 rfl) _ ?_
   refine XS.i2l X1.here hx rfl (oG hby d22 9 rfl) rfl ?_
   refine XS.ladd X1.here hx rfl (oG hby d22 10 rfl) rfl ?_
   show oZ p e below T1 (mkF m 15 #[oA a0_, oI 0, oI p2_, oI p3_, .unset, .unset] [(.long (((p2_.toInt64) * (10 : Int64)) + (((gK p2_).getD (p3_).toNatClampNeg 0).toInt64)))]) _
   refine XS.lstore X1.here hx rfl (oG hby d22 11 rfl) rfl (l' := #[oA a0_, oI 0, oI p2_, oI p3_, oJ (((p2_.toInt64) * (10 : Int64)) + (((gK p2_).getD (p3_).toNatClampNeg 0).toInt64)), .second]) rfl ?_
   refine XS.lload X1.here hx rfl (oG hby d22 12 rfl) rfl ?_
   refine XS.aloadN X1.here hx rfl (oG hby d22 13 rfl) rfl rfl ?_
   refine st4 _ ?_
   refine XS.i2l X4.here hx rfl (oG hby d22 15 rfl) rfl ?_
   refine XS.lcmp X4.here hx rfl (oG hby d22 16 rfl) rfl ?_
   refine XS.ifYes X4.here hx rfl (pc0 := 25) (pc' := 34) rfl (oG hby d22 17 rfl) rfl ((if0 _ _).trans (flt hf3).2.1) (by decide) (by decide) ?_
   refine XS.iconst X4.here hx rfl (oG hby d22 21 rfl) ?_
   show oZ p e below T4 (mkF m 35 #[oA a0_, oI 0, oI p2_, oI p3_, oJ (((p2_.toInt64) * (10 : Int64)) + (((gK p2_).getD (p3_).toNatClampNeg 0).toInt64)), .second] [(.int (-1 : Int32))]) _
   exact retI X4 hx Bd.returns (oG hby d22 22 rfl) hr
 · show nN Z a0_ p2_ p3_ aO h0 n0 _ T4.heap _
   rw [e4]
   exact ⟨rfl, N1, K1⟩
def vU (p2_ : Int32) (p3_ : Int32) : Int32 := ((((p2_.toInt64) * (10 : Int64)) + (((gK p2_).getD (p3_).toNatClampNeg 0).toInt64)).toInt32)
def nO (Z : State) (a0_ : Addr) (p2_ : Int32) (p3_ : Int32) (aO : Int32) (h0 : Heap) (n0 : Nat) (v : Option Value) (h : Heap) (L : List Loc) : Prop := v = some (.int (vU p2_ p3_)) ∧ Fr n0 L ∧ Keep h0 h []
theorem vV (l : Launch) (Z : State) (a0 : Array Value) (hw : oH a0 Z) (ws : List Jvm.Cond) (a0_ : Addr) (p2_ : Int32) (p3_ : Int32) (aO : Int32) (h0 : Heap) (n0 : Nat) (Z0 : n0 ≤ h0.size) (cF : Fld Z h0 a0_ oC0 "backends" "I" (.int aO)) (hf0 : p2_ = 0 ∨ p2_ = 1 ∨ p2_ = 2 ∨ p2_ = 3) (hf1 : ¬ (p3_ < 0)) (hf2 : p3_ < (10 : Int32)) (hf3 : (lcmpW (((p2_.toInt64) * (10 : Int64)) + (((gK p2_).getD (p3_).toNatClampNeg 0).toInt64)) (aO.toInt64)) < (0 : Int32)) :
   oMet l oM5 prog_29_method_14_code 6 (some .int) ws (oR 4 2 11 100) Z h0 #[(.ref a0_), (.int 0), (.int p2_), (.int p3_)] (nO Z a0_ p2_ p3_ aO h0 n0) := by
 refine oBd n0 (plainFor_of_name eC) ?_
 intro p e s m below meth c s₁ Bd hx hZ hby hml hown hnm X0 e0 N0
 obtain ⟨_, _, ⟨T1, L1, k1, n1⟩, -, X1, ⟨Lc1, hQ1, l1, y1, z1⟩, st1⟩ := Jvm.LawKit.callS X0 hx (y := oM7) hown (mvT hZ (oW hw 139 rfl)) (mvT hZ (oW hw 140 rfl)) (mvT hZ (oW hw 12 rfl)) (mvT hZ (oW hw 141 rfl)) (by decide) (backOf (W := 2) (zX l Z a0 hw [] p2_ h0 n0 Z0 hf0) hZ (oW hw 141 rfl) (oW hw 12 rfl) (by decide) (by decide)) (g := (mkF m 8 #[oA a0_, oI 0, oI p2_, oI p3_, .unset, .unset] [(.int p2_), (.int 0), (.long ((p2_.toInt64) * (10 : Int64)))])) rfl (by rw [hml]; rfl) (argsL := [(.int 0), (.int p2_)]) (rest := [(.long ((p2_.toInt64) * (10 : Int64)))]) (lenOf mX rfl) rfl (by show 2 * 0 + _ ≤ _; exact Nat.le_of_eq rfl) (oG hby d22 6 rfl) (fun _ _ => ⟨rfl, e0, (by decide : 0 + 2 ≤ _), (by decide : 0 + 11 ≤ _)⟩)
 dsimp only [Pt.U, Pt.locs, Pt.cells, Pt.slots] at X1 l1 y1 z1 st1 hQ1
 subst l1 y1 z1
 obtain ⟨r1_r, rfl, N1q, Kq1, nB, rT⟩ := hQ1
 have N1 := Fr.app N0 N1q
 have pM : h0.size ≤ r1_r := Nat.le_trans (Keep.refl h0 []).1 nB
 have g_r1_r : n0 ≤ r1_r := Nat.le_trans Z0 pM
 have K1 : Keep h0 T1.heap [] := (Keep.refl h0 []).trans Kq1 dX
 obtain ⟨c2, A2, hin2, hat2⟩ := bS (j := p3_) rT hf1 hf2
 have hat2' : c2.slots[(p3_).toNatClampNeg]? = some (.int ((gK p2_).getD (p3_).toNatClampNeg 0)) := hat2
 have jZ := (cF.keep Kq1 (dP _))
 obtain ⟨T4, X4, e4, st4⟩ := getF X1 hx hZ hown (host := "") (Or.inl (oW hw 20 rfl)) Via.refl rfl jZ (g := (mkF m 20 #[oA a0_, oI 0, oI p2_, oI p3_, oJ (((p2_.toInt64) * (10 : Int64)) + (((gK p2_).getD (p3_).toNatClampNeg 0).toInt64)), .second] [(.ref a0_), (.long (((p2_.toInt64) * (10 : Int64)) + (((gK p2_).getD (p3_).toNatClampNeg 0).toInt64)))])) rfl rfl (oG hby d22 14 rfl)
 obtain ⟨fs, hr, hrun, hended, hW, hsame⟩ := X4.leave (v := some (.int ((((p2_.toInt64) * (10 : Int64)) + (((gK p2_).getD (p3_).toNatClampNeg 0).toInt64)).toInt32))) (fun h => by rw [Bd.returns] at h; cases h)
 refine ⟨_, _, castTop (zK m a0_ (0 : Int32) p2_ p3_) ?_, hrun, hended, _, _, rfl, ?_, ⟨_, rfl⟩, hW, (hsame.mono (by decide) (by decide))⟩
 · show oZ p e below s₁ (mkF m 0 #[oA a0_, oI 0, oI p2_, oI p3_, .unset, .unset] []) _
   refine XS.iloadN X0.here hx rfl (oG hby d22 0 rfl) rfl ?_
   refine XS.i2l X0.here hx rfl (oG hby d22 1 rfl) rfl ?_
   refine X0.ldc2Long hx hown (mvT hZ (oW hw 89 rfl)) (g := (mkF m 2 #[oA a0_, oI 0, oI p2_, oI p3_, .unset, .unset] [(.long (p2_.toInt64))])) rfl (oG hby d22 2 rfl) _ ?_
   refine XS.lmul X0.here hx rfl (oG hby d22 3 rfl) rfl ?_
   refine XS.iloadN X0.here hx rfl (oG hby d22 4 rfl) rfl ?_
   refine XS.iloadN X0.here hx rfl (oG hby d22 5 rfl) rfl ?_
   refine st1 _ ?_
   refine XS.iloadN X1.here hx rfl (oG hby d22 7 rfl) rfl ?_
   refine X1.iaload hx (j := p3_) (v := (.int ((gK p2_).getD (p3_).toNatClampNeg 0))) A2.1 (State.isArrayOf_alike hZ.alike A2.2.1) A2.2.2 hin2 hat2' (g := (mkF m 12 #[oA a0_, oI 0, oI p2_, oI p3_, .unset, .unset] [(.int p3_), (.ref r1_r), (.long ((p2_.toInt64) * (10 : Int64)))])) rfl rfl (oG hby d22 8 rfl) _ ?_
   refine XS.i2l X1.here hx rfl (oG hby d22 9 rfl) rfl ?_
   refine XS.ladd X1.here hx rfl (oG hby d22 10 rfl) rfl ?_
   show oZ p e below T1 (mkF m 15 #[oA a0_, oI 0, oI p2_, oI p3_, .unset, .unset] [(.long (((p2_.toInt64) * (10 : Int64)) + (((gK p2_).getD (p3_).toNatClampNeg 0).toInt64)))]) _
   refine XS.lstore X1.here hx rfl (oG hby d22 11 rfl) rfl (l' := #[oA a0_, oI 0, oI p2_, oI p3_, oJ (((p2_.toInt64) * (10 : Int64)) + (((gK p2_).getD (p3_).toNatClampNeg 0).toInt64)), .second]) rfl ?_
   refine XS.lload X1.here hx rfl (oG hby d22 12 rfl) rfl ?_
   refine XS.aloadN X1.here hx rfl (oG hby d22 13 rfl) rfl rfl ?_
   refine st4 _ ?_
   refine XS.i2l X4.here hx rfl (oG hby d22 15 rfl) rfl ?_
   refine XS.lcmp X4.here hx rfl (oG hby d22 16 rfl) rfl ?_
   refine XS.ifNo X4.here hx rfl (oG hby d22 17 rfl) rfl ((if0 _ _).trans (tlt hf3).2.1) ?_
   refine XS.lload X4.here hx rfl (oG hby d22 18 rfl) rfl ?_
   refine XS.l2i X4.here hx rfl (oG hby d22 19 rfl) rfl ?_
   refine XS.goto X4.here hx rfl (pc0 := 31) (pc' := 35) rfl (oG hby d22 20 rfl) (by decide) (by decide) ?_
   show oZ p e below T4 (mkF m 35 #[oA a0_, oI 0, oI p2_, oI p3_, oJ (((p2_.toInt64) * (10 : Int64)) + (((gK p2_).getD (p3_).toNatClampNeg 0).toInt64)), .second] [(.int ((((p2_.toInt64) * (10 : Int64)) + (((gK p2_).getD (p3_).toNatClampNeg 0).toInt64)).toInt32))]) _
   exact retI X4 hx Bd.returns (oG hby d22 22 rfl) hr
 · show nO Z a0_ p2_ p3_ aO h0 n0 _ T4.heap _
   rw [e4]
   exact ⟨rfl, N1, K1⟩
def sW (lot row : Int32) : Int64 := (((lot.toInt64) * (10 : Int64)) + (((gK lot).getD (row).toNatClampNeg 0).toInt64))
def cO (b lot row : Int32) : Int32 := if sW lot row < b.toInt64 then (sW lot row).toInt32 else -1
def aZ6 (r : Int32) (h0 : Heap) (n0 : Nat) (v : Option Value) (h : Heap) (L : List Loc) : Prop := v = some (.int r) ∧ Fr n0 L ∧ Keep h0 h []
theorem bG1 (x y : Int64) : ((0 : Int32) < lcmpW x y) ↔ y < x := by rw [lcW]; exact lc_gt x y
theorem pN (x y : Int64) : (lcmpW x y < (0 : Int32)) ↔ x < y := by rw [lcW]; exact lc_lt x y
theorem oC (l : Launch) (Z : State) (a0 : Array Value) (hw : oH a0 Z) (ws : List Jvm.Cond) (a0_ : Addr) (lot row b : Int32) (h0 : Heap) (n0 : Nat) (Z0 : n0 ≤ h0.size) (F : Fld Z h0 a0_ oC0 "backends" "I" (.int b)) (hl : lot = 0 ∨ lot = 1 ∨ lot = 2 ∨ lot = 3) (h1 : ¬ (row < 0)) (h2 : row < (10 : Int32)) :
   oMet l oM5 prog_29_method_14_code 6 (some .int) ws (oR 4 2 11 100) Z h0 #[(.ref a0_), (.int 0), (.int lot), (.int row)] (aZ6 (cO b lot row) h0 n0) := by
 by_cases hb : sW lot row < b.toInt64
 · have e : cO b lot row = (sW lot row).toInt32 := if_pos hb
   rw [e]
   refine dJ (vV l Z a0 hw ws a0_ lot row b h0 n0 Z0 F hl h1 h2 ((pN _ _).mpr hb)) ?_
   rintro v h L ⟨rfl, N, K⟩
   exact ⟨rfl, N, K⟩
 · have e : cO b lot row = -1 := if_neg hb
   rw [e]
   refine dJ (vT l Z a0 hw ws a0_ lot row b h0 n0 Z0 F hl h1 h2 (fun q => hb ((pN _ _).mp q))) ?_
   rintro v h L ⟨rfl, N, K⟩
   exact ⟨rfl, N, K⟩
theorem aV1 (rc : Nat) (rs : Nat) (o0_ : Addr) (o1_ : Addr) (i2_ : Int32) (o3_ : Addr) (w_START_ROWS : Addr) (n_w_START_ROWS : Int32) (vs_w_START_ROWS : List Int32)
   (X0 : Stand p l e (oR 6 rc rs 140) s m args below meth c T0 locs cells slots) (hx : p.tables.exec = Jvm.exec) (hZ : Z.Warmed39 s.vm) (hw : oH a0 Z) (hby : c.code = prog_29_method_10_code) (hml : c.maxLocals = 10) (hown : s.vm.findClass oC0 = some m.cls) (e0 : T0.heap = h0) (N0 : Fr n0 locs) (Z0 : n0 ≤ h0.size) (S_START_ROWS : Sta Z h0 oC0 "START_ROWS" "[I" (.ref w_START_ROWS)) (A_w_START_ROWS : bB Z h0 w_START_ROWS n_w_START_ROWS vs_w_START_ROWS) (hc : cells + (0) ≤ rc) (hs : slots + (0) ≤ rs) :
   ∃ (T' : State) (locs' : List Loc), Stand p l e (oR 6 rc rs 140) s m args below meth c T' locs' cells slots ∧ Fr n0 locs' ∧ T'.heap = h0 ∧
     ∀ target, Steps p.tables e below (T'.setTop (mkF m 13 #[oA o0_, oA o1_, oI i2_, oA o3_, oA w_START_ROWS, oI n_w_START_ROWS, oI 0, .unset, .unset, .unset] [])) target → Steps p.tables e below (T0.setTop (mkF m 0 #[oA o0_, oA o1_, oI i2_, oA o3_, .unset, .unset, .unset, .unset, .unset, .unset] [])) target := by
 obtain ⟨T1, X1, e1, st1⟩ := getS2 X0 hx hZ hown (host := "") (Or.inl (oW hw 133 rfl)) Via.refl e0 S_START_ROWS (g := (mkF m 0 #[oA o0_, oA o1_, oI i2_, oA o3_, .unset, .unset, .unset, .unset, .unset, .unset] [])) rfl (oG hby d21 0 rfl)
 obtain ⟨c2, A2, S2, M2⟩ := bV A_w_START_ROWS
 refine ⟨T1, _, X1, N0, e1, fun target kt => ?_⟩
 show oZ p e below T0 (mkF m 0 #[oA o0_, oA o1_, oI i2_, oA o3_, .unset, .unset, .unset, .unset, .unset, .unset] []) _
 refine st1 _ ?_
 refine XS.astore X1.here hx rfl (oG hby d21 1 rfl) rfl rfl (l' := #[oA o0_, oA o1_, oI i2_, oA o3_, oA w_START_ROWS, .unset, .unset, .unset, .unset, .unset]) rfl ?_
 refine XS.aload X1.here hx rfl (oG hby d21 2 rfl) rfl rfl ?_
 refine X1.arraylength hx (by rw [e1]; exact A2.1) (State.isArrayOf_alike hZ.alike A2.2.1) (g := (mkF m 7 #[oA o0_, oA o1_, oI i2_, oA o3_, oA w_START_ROWS, .unset, .unset, .unset, .unset, .unset] [(.ref w_START_ROWS)])) rfl rfl (oG hby d21 3 rfl) _ ?_
 rw [len_of S2 M2]
 refine XS.istore X1.here hx rfl (oG hby d21 4 rfl) rfl (l' := #[oA o0_, oA o1_, oI i2_, oA o3_, oA w_START_ROWS, oI n_w_START_ROWS, .unset, .unset, .unset, .unset]) rfl ?_
 refine XS.iconst X1.here hx rfl (oG hby d21 5 rfl) ?_
 refine XS.istore X1.here hx rfl (oG hby d21 6 rfl) rfl (l' := #[oA o0_, oA o1_, oI i2_, oA o3_, oA w_START_ROWS, oI n_w_START_ROWS, oI 0, .unset, .unset, .unset]) rfl ?_
 exact kt
theorem aV2 (rc : Nat) (rs : Nat) (o0_ : Addr) (o1_ : Addr) (i2_ : Int32) (o3_ : Addr) (o4_ : Addr) (i5_ : Int32) (i6_ : Int32) (s7_ : Slot) (s8_ : Slot) (s9_ : Slot) (tM : Int32) (sX : List Int32) (r_ : Int32)
   (X0 : Stand p l e (oR 6 rc rs 140) s m args below meth c T0 locs cells slots) (hx : p.tables.exec = Jvm.exec) (hZ : Z.Warmed39 s.vm) (hw : oH a0 Z) (hby : c.code = prog_29_method_10_code) (hml : c.maxLocals = 10) (hown : s.vm.findClass oC0 = some m.cls) (e0 : T0.heap = h0) (N0 : Fr n0 locs) (Z0 : n0 ≤ h0.size) (aM7 : bB Z h0 o4_ tM sX) (zY : (s7_ = .unset ∨ ∃ z : Int32, s7_ = oI z)) (zZ : (s8_ = .unset ∨ ∃ z : Int32, s8_ = oI z)) (hf0 : i6_ < i5_) (hf1 : ¬ (i6_ < 0)) (hf2 : i6_ < tM) (hf3 : (sX.getD (i6_).toNatClampNeg 0) = r_) (hc : cells + (0) ≤ rc) (hs : slots + (0) ≤ rs) :
   ∃ (T' : State) (locs' : List Loc), Stand p l e (oR 6 rc rs 140) s m args below meth c T' locs' cells slots ∧ Fr n0 locs' ∧ T'.heap = h0 ∧
     ∀ target, Steps p.tables e below (T'.setTop (mkF m 30 #[oA o0_, oA o1_, oI i2_, oA o3_, oA o4_, oI i5_, oI i6_, oI r_, oI 0, s9_] [])) target → Steps p.tables e below (T0.setTop (mkF m 13 #[oA o0_, oA o1_, oI i2_, oA o3_, oA o4_, oI i5_, oI i6_, s7_, s8_, s9_] [])) target := by
 obtain ⟨c1, A1, hin1, hat1⟩ := bS (j := i6_) aM7 hf1 hf2
 have hat1' : c1.slots[(i6_).toNatClampNeg]? = some (.int (sX.getD (i6_).toNatClampNeg 0)) := hat1
 refine ⟨T0, _, X0, N0, e0, fun target kt => ?_⟩
 show oZ p e below T0 (mkF m 13 #[oA o0_, oA o1_, oI i2_, oA o3_, oA o4_, oI i5_, oI i6_, s7_, s8_, s9_] []) _
 refine XS.iload X0.here hx rfl (oG hby d21 7 rfl) rfl ?_
 refine XS.iload X0.here hx rfl (oG hby d21 8 rfl) rfl ?_
 refine XS.icmpNo X0.here hx rfl (oG hby d21 9 rfl) rfl (tlt hf0).2.1 ?_
 refine XS.aload X0.here hx rfl (oG hby d21 10 rfl) rfl rfl ?_
 refine XS.iload X0.here hx rfl (oG hby d21 11 rfl) rfl ?_
 refine X0.iaload hx (j := i6_) (v := (.int (sX.getD (i6_).toNatClampNeg 0))) (by rw [e0]; exact A1.1) (State.isArrayOf_alike hZ.alike A1.2.1) A1.2.2 hin1 hat1' (g := (mkF m 24 #[oA o0_, oA o1_, oI i2_, oA o3_, oA o4_, oI i5_, oI i6_, s7_, s8_, s9_] [(.int i6_), (.ref o4_)])) rfl rfl (oG hby d21 12 rfl) _ ?_
 show oZ p e below T0 (mkF m 25 #[oA o0_, oA o1_, oI i2_, oA o3_, oA o4_, oI i5_, oI i6_, s7_, s8_, s9_] [(.int (sX.getD (i6_).toNatClampNeg 0))]) _
 rw [hf3]
 refine XS.istore X0.here hx rfl (oG hby d21 13 rfl) rfl (l' := #[oA o0_, oA o1_, oI i2_, oA o3_, oA o4_, oI i5_, oI i6_, oI r_, s8_, s9_]) (by rcases zY with rfl | ⟨_, rfl⟩ <;> rfl) ?_
 refine XS.iconst X0.here hx rfl (oG hby d21 14 rfl) ?_
 refine XS.istore X0.here hx rfl (oG hby d21 15 rfl) rfl (l' := #[oA o0_, oA o1_, oI i2_, oA o3_, oA o4_, oI i5_, oI i6_, oI r_, oI 0, s9_]) (by rcases zZ with rfl | ⟨_, rfl⟩ <;> rfl) ?_
 exact kt
theorem aV3 (rc : Nat) (rs : Nat) (o0_ : Addr) (o1_ : Addr) (i2_ : Int32) (o3_ : Addr) (o4_ : Addr) (i5_ : Int32) (i6_ : Int32) (s7_ : Slot) (s8_ : Slot) (s9_ : Slot) 
   (X0 : Stand p l e (oR 6 rc rs 140) s m args below meth c T0 locs cells slots) (hx : p.tables.exec = Jvm.exec) (hZ : Z.Warmed39 s.vm) (hw : oH a0 Z) (hby : c.code = prog_29_method_10_code) (hml : c.maxLocals = 10) (hown : s.vm.findClass oC0 = some m.cls) (e0 : T0.heap = h0) (N0 : Fr n0 locs) (Z0 : n0 ≤ h0.size) (hf0 : ¬ (i6_ < i5_)) (hc : cells + (0) ≤ rc) (hs : slots + (0) ≤ rs) :
   ∃ (T' : State) (locs' : List Loc), Stand p l e (oR 6 rc rs 140) s m args below meth c T' locs' cells slots ∧ Fr n0 locs' ∧ T'.heap = h0 ∧
     ∀ target, Steps p.tables e below (T'.setTop (mkF m 77 #[oA o0_, oA o1_, oI i2_, oA o3_, oA o4_, oI i5_, oI i6_, s7_, s8_, s9_] [])) target → Steps p.tables e below (T0.setTop (mkF m 13 #[oA o0_, oA o1_, oI i2_, oA o3_, oA o4_, oI i5_, oI i6_, s7_, s8_, s9_] [])) target := by
 refine ⟨T0, _, X0, N0, e0, fun target kt => ?_⟩
 show oZ p e below T0 (mkF m 13 #[oA o0_, oA o1_, oI i2_, oA o3_, oA o4_, oI i5_, oI i6_, s7_, s8_, s9_] []) _
 refine XS.iload X0.here hx rfl (oG hby d21 7 rfl) rfl ?_
 refine XS.iload X0.here hx rfl (oG hby d21 8 rfl) rfl ?_
 refine XS.icmpYes X0.here hx rfl (pc0 := 17) (pc' := 77) rfl (oG hby d21 9 rfl) rfl (flt hf0).2.1 (by decide) (by decide) ?_
 exact kt
theorem aV4 (rc : Nat) (rs : Nat) (o0_ : Addr) (o1_ : Addr) (i2_ : Int32) (o3_ : Addr) (o4_ : Addr) (i5_ : Int32) (i6_ : Int32) (s7_ : Slot) (s8_ : Slot) (s9_ : Slot) (j_ : Int32)
   (X0 : Stand p l e (oR 6 rc rs 140) s m args below meth c T0 locs cells slots) (hx : p.tables.exec = Jvm.exec) (hZ : Z.Warmed39 s.vm) (hw : oH a0 Z) (hby : c.code = prog_29_method_10_code) (hml : c.maxLocals = 10) (hown : s.vm.findClass oC0 = some m.cls) (e0 : T0.heap = h0) (N0 : Fr n0 locs) (Z0 : n0 ≤ h0.size) (hf0 : (i6_ + (1 : Int32)) = j_) (hc : cells + (0) ≤ rc) (hs : slots + (0) ≤ rs) :
   ∃ (T' : State) (locs' : List Loc), Stand p l e (oR 6 rc rs 140) s m args below meth c T' locs' cells slots ∧ Fr n0 locs' ∧ T'.heap = h0 ∧
     ∀ target, Steps p.tables e below (T'.setTop (mkF m 13 #[oA o0_, oA o1_, oI i2_, oA o3_, oA o4_, oI i5_, oI j_, s7_, s8_, s9_] [])) target → Steps p.tables e below (T0.setTop (mkF m 71 #[oA o0_, oA o1_, oI i2_, oA o3_, oA o4_, oI i5_, oI i6_, s7_, s8_, s9_] [])) target := by
 refine ⟨T0, _, X0, N0, e0, fun target kt => ?_⟩
 show oZ p e below T0 (mkF m 71 #[oA o0_, oA o1_, oI i2_, oA o3_, oA o4_, oI i5_, oI i6_, s7_, s8_, s9_] []) _
 refine XS.iinc X0.here hx rfl (oG hby d21 37 rfl) rfl (l' := #[oA o0_, oA o1_, oI i2_, oA o3_, oA o4_, oI i5_, oI (i6_ + (1 : Int32)), s7_, s8_, s9_]) rfl ?_
 show oZ p e below T0 (mkF m 74 #[oA o0_, oA o1_, oI i2_, oA o3_, oA o4_, oI i5_, oI (i6_ + (1 : Int32)), s7_, s8_, s9_] []) _
 rw [hf0]
 refine XS.goto X0.here hx rfl (pc0 := 74) (pc' := 13) rfl (oG hby d21 38 rfl) (by decide) (by decide) ?_
 exact kt
theorem aM8 (rc : Nat) (rs : Nat) (o0_ : Addr) (o1_ : Addr) (i2_ : Int32) (o3_ : Addr) (o4_ : Addr) (i5_ : Int32) (i6_ : Int32) (i7_ : Int32) (i8_ : Int32) (s9_ : Slot) (dG : Int32) (aU : List Int32) (aE : Int32) (x_ : Int32) (j_ : Int32)
   (X0 : Stand p l e (oR 6 rc rs 140) s m args below meth c T0 locs cells slots) (hx : p.tables.exec = Jvm.exec) (hZ : Z.Warmed39 s.vm) (hw : oH a0 Z) (hby : c.code = prog_29_method_10_code) (hml : c.maxLocals = 10) (hown : s.vm.findClass oC0 = some m.cls) (e0 : T0.heap = h0) (N0 : Fr n0 locs) (Z0 : n0 ≤ h0.size) (fQ : bB Z h0 o1_ dG aU) (cU : Fld Z h0 o0_ oC0 "backends" "I" (.int aE)) (bL : Exa Z h0 o0_ oC0) (aA0 : (s9_ = .unset ∨ ∃ z : Int32, s9_ = oI z)) (hf0 : i8_ < i2_) (hf1 : ¬ (i8_ < 0)) (hf2 : i8_ < dG) (hf3 : (aU.getD (i8_).toNatClampNeg 0) = 0 ∨ (aU.getD (i8_).toNatClampNeg 0) = 1 ∨ (aU.getD (i8_).toNatClampNeg 0) = 2 ∨ (aU.getD (i8_).toNatClampNeg 0) = 3) (hf4 : ¬ (i7_ < 0)) (hf5 : i7_ < (10 : Int32)) (hf6 : (cO aE (aU.getD (i8_).toNatClampNeg 0) i7_) = x_) (hf7 : x_ < (0 : Int32)) (hf8 : (i8_ + (1 : Int32)) = j_) (hc : cells + (2) ≤ rc) (hs : slots + (11) ≤ rs) :
   ∃ (T' : State) (locs' : List Loc), Stand p l e (oR 6 rc rs 140) s m args below meth c T' locs' (cells + 2) (slots + 11) ∧ Fr n0 locs' ∧ Keep h0 T'.heap [] ∧
     ∀ target, Steps p.tables e below (T'.setTop (mkF m 30 #[oA o0_, oA o1_, oI i2_, oA o3_, oA o4_, oI i5_, oI i6_, oI i7_, oI j_, oI x_] [])) target → Steps p.tables e below (T0.setTop (mkF m 30 #[oA o0_, oA o1_, oI i2_, oA o3_, oA o4_, oI i5_, oI i6_, oI i7_, oI i8_, s9_] [])) target := by
 obtain ⟨c1, A1, hin1, hat1⟩ := bS (j := i8_) fQ hf1 hf2
 have hat1' : c1.slots[(i8_).toNatClampNeg]? = some (.int (aU.getD (i8_).toNatClampNeg 0)) := hat1
 obtain ⟨cq2, q2, q2'⟩ := bL.cell
 obtain ⟨_, _, ⟨T2, L2, k2, n2⟩, -, X2, ⟨Lc2, hQ2, l2, y2, z2⟩, st2⟩ := X0.privateBack hx (y := oM5) hown (mvT hZ (oW hw 135 rfl)) (mvT hZ (oW hw 136 rfl)) (cG (mvT hZ (oW hw 15 rfl)) (mvP hZ (oW hw 137 rfl) (args := #[])) (mvT hZ (oW hw 136 rfl)) (by decide)) (Cond.privateMethod_at (mvP hZ (oW hw 137 rfl) (args := #[]))) (mvT hZ (oW hw 138 rfl)) (by decide) (backOf (W := 0) (oC l Z a0 hw [] o0_ (aU.getD (i8_).toNatClampNeg 0) i7_ aE h0 n0 Z0 cU hf3 hf4 hf5) hZ (oW hw 138 rfl) (oW hw 12 rfl) (Nat.le_of_ble_eq_true rfl) (Nat.le_of_ble_eq_true rfl)) (g := (mkF m 44 #[oA o0_, oA o1_, oI i2_, oA o3_, oA o4_, oI i5_, oI i6_, oI i7_, oI i8_, s9_] [(.int i7_), (.int (aU.getD (i8_).toNatClampNeg 0)), (.int 0), (.ref o0_)])) rfl (by rw [hml]; rfl) (Steps.refl _) (a := o0_) (by rw [e0]; exact q2) q2' (argsL := [(.int 0), (.int (aU.getD (i8_).toNatClampNeg 0)), (.int i7_)]) (rest := []) (lenOf rJ rfl) rfl (by show 2 * 0 + _ ≤ _; exact Nat.le_of_eq rfl) (oG hby d21 25 rfl) (fun _ _ => ⟨rfl, e0, (show cells + 2 ≤ rc from by omega), (show slots + 11 ≤ rs from by omega)⟩)
 dsimp only [Pt.U, Pt.locs, Pt.cells, Pt.slots] at X2 l2 y2 z2 st2 hQ2
 subst l2; rw [y2, z2] at X2
 obtain ⟨rfl, N2q, Kq2⟩ := hQ2
 have N2 := Fr.app N0 N2q
 have K2 : Keep h0 T2.heap [] := (Keep.refl h0 []).trans Kq2 dX
 refine ⟨T2, _, eS X2 (by omega) (by omega), N2, K2, fun target kt => ?_⟩
 show oZ p e below T0 (mkF m 30 #[oA o0_, oA o1_, oI i2_, oA o3_, oA o4_, oI i5_, oI i6_, oI i7_, oI i8_, s9_] []) _
 refine XS.iload X0.here hx rfl (oG hby d21 16 rfl) rfl ?_
 refine XS.iloadN X0.here hx rfl (oG hby d21 17 rfl) rfl ?_
 refine XS.icmpNo X0.here hx rfl (oG hby d21 18 rfl) rfl (tlt hf0).2.1 ?_
 refine XS.aloadN X0.here hx rfl (oG hby d21 19 rfl) rfl rfl ?_
 refine XS.iconst X0.here hx rfl (oG hby d21 20 rfl) ?_
 refine XS.aloadN X0.here hx rfl (oG hby d21 21 rfl) rfl rfl ?_
 refine XS.iload X0.here hx rfl (oG hby d21 22 rfl) rfl ?_
 refine X0.iaload hx (j := i8_) (v := (.int (aU.getD (i8_).toNatClampNeg 0))) (by rw [e0]; exact A1.1) (State.isArrayOf_alike hZ.alike A1.2.1) A1.2.2 hin1 hat1' (g := (mkF m 41 #[oA o0_, oA o1_, oI i2_, oA o3_, oA o4_, oI i5_, oI i6_, oI i7_, oI i8_, s9_] [(.int i8_), (.ref o1_), (.int 0), (.ref o0_)])) rfl rfl (oG hby d21 23 rfl) _ ?_
 refine XS.iload X0.here hx rfl (oG hby d21 24 rfl) rfl ?_
 refine st2.trans ?_
 show oZ p e below T2 (mkF m 47 #[oA o0_, oA o1_, oI i2_, oA o3_, oA o4_, oI i5_, oI i6_, oI i7_, oI i8_, s9_] [(.int (cO aE (aU.getD (i8_).toNatClampNeg 0) i7_))]) _
 rw [hf6]
 refine XS.istore X2.here hx rfl (oG hby d21 26 rfl) rfl (l' := #[oA o0_, oA o1_, oI i2_, oA o3_, oA o4_, oI i5_, oI i6_, oI i7_, oI i8_, oI x_]) (by rcases aA0 with rfl | ⟨_, rfl⟩ <;> rfl) ?_
 refine XS.iload X2.here hx rfl (oG hby d21 27 rfl) rfl ?_
 refine XS.ifYes X2.here hx rfl (pc0 := 51) (pc' := 65) rfl (oG hby d21 28 rfl) rfl ((if0 _ _).trans (tlt hf7).1) (by decide) (by decide) ?_
 refine XS.iinc X2.here hx rfl (oG hby d21 35 rfl) rfl (l' := #[oA o0_, oA o1_, oI i2_, oA o3_, oA o4_, oI i5_, oI i6_, oI i7_, oI (i8_ + (1 : Int32)), oI x_]) rfl ?_
 show oZ p e below T2 (mkF m 68 #[oA o0_, oA o1_, oI i2_, oA o3_, oA o4_, oI i5_, oI i6_, oI i7_, oI (i8_ + (1 : Int32)), oI x_] []) _
 rw [hf8]
 refine XS.goto X2.here hx rfl (pc0 := 68) (pc' := 30) rfl (oG hby d21 36 rfl) (by decide) (by decide) ?_
 exact kt
theorem aM9 (rc : Nat) (rs : Nat) (o0_ : Addr) (o1_ : Addr) (i2_ : Int32) (o3_ : Addr) (o4_ : Addr) (i5_ : Int32) (i6_ : Int32) (i7_ : Int32) (i8_ : Int32) (s9_ : Slot) (dG : Int32) (aU : List Int32) (aE : Int32) (x_ : Int32) (ch_ : Addr) (bs_ : Addr) (wd_ : Addr) (n_ : Int32) (us_ : Value) (st_ : fC) (j_ : Int32)
   (X0 : Stand p l e (oR 6 rc rs 140) s m args below meth c T0 locs cells slots) (hx : p.tables.exec = Jvm.exec) (hZ : Z.Warmed39 s.vm) (hw : oH a0 Z) (hby : c.code = prog_29_method_10_code) (hml : c.maxLocals = 10) (hown : s.vm.findClass oC0 = some m.cls) (e0 : T0.heap = h0) (N0 : Fr n0 locs) (Z0 : n0 ≤ h0.size) (fQ : bB Z h0 o1_ dG aU) (cU : Fld Z h0 o0_ oC0 "backends" "I" (.int aE)) (bL : Exa Z h0 o0_ oC0) (aA0 : (s9_ = .unset ∨ ∃ z : Int32, s9_ = oI z)) (P_str : dQ Z h0 o3_ ch_ bs_ wd_ n_ us_ st_) (D_ : kV n0 o3_ ch_ bs_ wd_) (S__assertionsDisabled : Sta Z h0 oC3 "$assertionsDisabled" "Z" (.int 1)) (rS : n0 ≤ o3_) (aN0 : n0 ≤ ch_) (aN1 : n0 ≤ bs_) (aN2 : n0 ≤ wd_) (hf0 : i8_ < i2_) (hf1 : ¬ (i8_ < 0)) (hf2 : i8_ < dG) (hf3 : (aU.getD (i8_).toNatClampNeg 0) = 0 ∨ (aU.getD (i8_).toNatClampNeg 0) = 1 ∨ (aU.getD (i8_).toNatClampNeg 0) = 2 ∨ (aU.getD (i8_).toNatClampNeg 0) = 3) (hf4 : ¬ (i7_ < 0)) (hf5 : i7_ < (10 : Int32)) (hf6 : (cO aE (aU.getD (i8_).toNatClampNeg 0) i7_) = x_) (hf7 : ¬ (x_ < (0 : Int32))) (hf8 : (x_ >>> ((6 : Int32) &&& 31)) = (0 : Int32)) (hf9 : ¬ (st_.2.1 < 0)) (hf10 : st_.2.1 < n_) (hf11 : st_.2.2.1 = 0 ∨ st_.2.2.1 = 1) (hf12 : (dH n_ x_ st_).2 = (0 : Int32)) (hf13 : (i8_ + (1 : Int32)) = j_) (hc : cells + (2) ≤ rc) (hs : slots + (11) ≤ rs) :
   ∃ (T' : State) (locs' : List Loc), Stand p l e (oR 6 rc rs 140) s m args below meth c T' locs' (cells + 2) (slots + 11) ∧ Fr n0 locs' ∧ Keep h0 T'.heap [o3_, ch_, bs_, wd_] ∧ dQ Z T'.heap o3_ ch_ bs_ wd_ n_ us_ (dH n_ x_ st_).1 ∧
     ∀ target, Steps p.tables e below (T'.setTop (mkF m 30 #[oA o0_, oA o1_, oI i2_, oA o3_, oA o4_, oI i5_, oI i6_, oI i7_, oI j_, oI x_] [])) target → Steps p.tables e below (T0.setTop (mkF m 30 #[oA o0_, oA o1_, oI i2_, oA o3_, oA o4_, oI i5_, oI i6_, oI i7_, oI i8_, s9_] [])) target := by
 obtain ⟨c1, A1, hin1, hat1⟩ := bS (j := i8_) fQ hf1 hf2
 have hat1' : c1.slots[(i8_).toNatClampNeg]? = some (.int (aU.getD (i8_).toNatClampNeg 0)) := hat1
 obtain ⟨cq2, q2, q2'⟩ := bL.cell
 obtain ⟨_, _, ⟨T2, L2, k2, n2⟩, -, X2, ⟨Lc2, hQ2, l2, y2, z2⟩, st2⟩ := X0.privateBack hx (y := oM5) hown (mvT hZ (oW hw 135 rfl)) (mvT hZ (oW hw 136 rfl)) (cG (mvT hZ (oW hw 15 rfl)) (mvP hZ (oW hw 137 rfl) (args := #[])) (mvT hZ (oW hw 136 rfl)) (by decide)) (Cond.privateMethod_at (mvP hZ (oW hw 137 rfl) (args := #[]))) (mvT hZ (oW hw 138 rfl)) (by decide) (backOf (W := 0) (oC l Z a0 hw [] o0_ (aU.getD (i8_).toNatClampNeg 0) i7_ aE h0 n0 Z0 cU hf3 hf4 hf5) hZ (oW hw 138 rfl) (oW hw 12 rfl) (Nat.le_of_ble_eq_true rfl) (Nat.le_of_ble_eq_true rfl)) (g := (mkF m 44 #[oA o0_, oA o1_, oI i2_, oA o3_, oA o4_, oI i5_, oI i6_, oI i7_, oI i8_, s9_] [(.int i7_), (.int (aU.getD (i8_).toNatClampNeg 0)), (.int 0), (.ref o0_)])) rfl (by rw [hml]; rfl) (Steps.refl _) (a := o0_) (by rw [e0]; exact q2) q2' (argsL := [(.int 0), (.int (aU.getD (i8_).toNatClampNeg 0)), (.int i7_)]) (rest := []) (lenOf rJ rfl) rfl (by show 2 * 0 + _ ≤ _; exact Nat.le_of_eq rfl) (oG hby d21 25 rfl) (fun _ _ => ⟨rfl, e0, (show cells + 2 ≤ rc from by omega), (show slots + 11 ≤ rs from by omega)⟩)
 dsimp only [Pt.U, Pt.locs, Pt.cells, Pt.slots] at X2 l2 y2 z2 st2 hQ2
 subst l2; rw [y2, z2] at X2
 obtain ⟨rfl, N2q, Kq2⟩ := hQ2
 have N2 := Fr.app N0 N2q
 have K2 : Keep h0 T2.heap [o3_, ch_, bs_, wd_] := (Keep.refl h0 [o3_, ch_, bs_, wd_]).trans Kq2 dX
 have vW := (P_str.ext (iD Kq2))
 have cL := (fM S__assertionsDisabled Kq2 (dX ))
 obtain ⟨cq3, kq3, q3a, q3b, q3c⟩ := isOf hZ rfl vW.1
 obtain ⟨_, _, ⟨T3, L3, k3, n3⟩, -, X3, ⟨Lc3, hQ3, l3, y3, z3⟩, st3⟩ := X2.virtualBack hx (y := oM0) (z := oM0) hown (mvT hZ (oW hw 168 rfl)) (mvT hZ (oW hw 169 rfl)) (notFace_of_selects (args := #[]) (mvT hZ (oW hw 171 rfl))) (mvT hZ (oW hw 171 rfl)) (mvT hZ (oW hw 170 rfl)) (by decide) (backOf (W := 0) (xP l Z a0 hw [] o3_ x_ ch_ bs_ wd_ n_ us_ st_ T2.heap n0 (Nat.le_trans Z0 K2.1) vW D_ cL hf7 hf8 hf9 hf10 hf11) hZ (oW hw 172 rfl) (oW hw 96 rfl) (Nat.le_of_ble_eq_true rfl) (Nat.le_of_ble_eq_true rfl)) q3a q3c (g := (mkF m 57 #[oA o0_, oA o1_, oI i2_, oA o3_, oA o4_, oI i5_, oI i6_, oI i7_, oI i8_, oI x_] [(.int x_), (.ref o3_)])) rfl (by rw [hml]; rfl) (Steps.refl _) (argsL := [(.int x_)]) (rest := []) (lenOf mW rfl) rfl (by show 2 * 0 + _ ≤ _; exact Nat.le_of_eq rfl) (oG hby d21 31 rfl) (fun _ _ => ⟨rfl, rfl, (show cells + 2 + 0 ≤ rc from by omega), (show slots + 11 + 0 ≤ rs from by omega)⟩)
 dsimp only [Pt.U, Pt.locs, Pt.cells, Pt.slots] at X3 l3 y3 z3 st3 hQ3
 subst l3; rw [y3, z3] at X3
 obtain ⟨rfl, N3q, Kq3, Q3_0⟩ := hQ3
 have N3 := Fr.app N2 N3q
 have K3 : Keep h0 T3.heap [o3_, ch_, bs_, wd_] := K2.trans Kq3 (nT (Or.inl (oX 0 rfl)) (Or.inl (oX 1 rfl)) (Or.inl (oX 2 rfl)) (Or.inl (oX 3 rfl)))
 refine ⟨T3, _, eS X3 (by omega) (by omega), N3, K3, Q3_0, fun target kt => ?_⟩
 show oZ p e below T0 (mkF m 30 #[oA o0_, oA o1_, oI i2_, oA o3_, oA o4_, oI i5_, oI i6_, oI i7_, oI i8_, s9_] []) _
 refine XS.iload X0.here hx rfl (oG hby d21 16 rfl) rfl ?_
 refine XS.iloadN X0.here hx rfl (oG hby d21 17 rfl) rfl ?_
 refine XS.icmpNo X0.here hx rfl (oG hby d21 18 rfl) rfl (tlt hf0).2.1 ?_
 refine XS.aloadN X0.here hx rfl (oG hby d21 19 rfl) rfl rfl ?_
 refine XS.iconst X0.here hx rfl (oG hby d21 20 rfl) ?_
 refine XS.aloadN X0.here hx rfl (oG hby d21 21 rfl) rfl rfl ?_
 refine XS.iload X0.here hx rfl (oG hby d21 22 rfl) rfl ?_
 refine X0.iaload hx (j := i8_) (v := (.int (aU.getD (i8_).toNatClampNeg 0))) (by rw [e0]; exact A1.1) (State.isArrayOf_alike hZ.alike A1.2.1) A1.2.2 hin1 hat1' (g := (mkF m 41 #[oA o0_, oA o1_, oI i2_, oA o3_, oA o4_, oI i5_, oI i6_, oI i7_, oI i8_, s9_] [(.int i8_), (.ref o1_), (.int 0), (.ref o0_)])) rfl rfl (oG hby d21 23 rfl) _ ?_
 refine XS.iload X0.here hx rfl (oG hby d21 24 rfl) rfl ?_
 refine st2.trans ?_
 show oZ p e below T2 (mkF m 47 #[oA o0_, oA o1_, oI i2_, oA o3_, oA o4_, oI i5_, oI i6_, oI i7_, oI i8_, s9_] [(.int (cO aE (aU.getD (i8_).toNatClampNeg 0) i7_))]) _
 rw [hf6]
 refine XS.istore X2.here hx rfl (oG hby d21 26 rfl) rfl (l' := #[oA o0_, oA o1_, oI i2_, oA o3_, oA o4_, oI i5_, oI i6_, oI i7_, oI i8_, oI x_]) (by rcases aA0 with rfl | ⟨_, rfl⟩ <;> rfl) ?_
 refine XS.iload X2.here hx rfl (oG hby d21 27 rfl) rfl ?_
 refine XS.ifNo X2.here hx rfl (oG hby d21 28 rfl) rfl ((if0 _ _).trans (flt hf7).1) ?_
 refine XS.aloadN X2.here hx rfl (oG hby d21 29 rfl) rfl rfl ?_
 refine XS.iload X2.here hx rfl (oG hby d21 30 rfl) rfl ?_
 refine st3.trans ?_
 refine XS.ifYes X3.here hx rfl (pc0 := 60) (pc' := 65) rfl (oG hby d21 32 rfl) rfl ((if0 _ _).trans (teq hf12).1) (by decide) (by decide) ?_
 refine XS.iinc X3.here hx rfl (oG hby d21 35 rfl) rfl (l' := #[oA o0_, oA o1_, oI i2_, oA o3_, oA o4_, oI i5_, oI i6_, oI i7_, oI (i8_ + (1 : Int32)), oI x_]) rfl ?_
 show oZ p e below T3 (mkF m 68 #[oA o0_, oA o1_, oI i2_, oA o3_, oA o4_, oI i5_, oI i6_, oI i7_, oI (i8_ + (1 : Int32)), oI x_] []) _
 rw [hf13]
 refine XS.goto X3.here hx rfl (pc0 := 68) (pc' := 30) rfl (oG hby d21 36 rfl) (by decide) (by decide) ?_
 exact kt
theorem aN3 (rc : Nat) (rs : Nat) (o0_ : Addr) (o1_ : Addr) (i2_ : Int32) (o3_ : Addr) (o4_ : Addr) (i5_ : Int32) (i6_ : Int32) (i7_ : Int32) (i8_ : Int32) (s9_ : Slot) (dG : Int32) (aU : List Int32) (aE : Int32) (x_ : Int32) (ch_ : Addr) (bs_ : Addr) (wd_ : Addr) (n_ : Int32) (us_ : Value) (st_ : fC)
   (X0 : Stand p l e (oR 6 rc rs 140) s m args below meth c T0 locs cells slots) (hx : p.tables.exec = Jvm.exec) (hZ : Z.Warmed39 s.vm) (hw : oH a0 Z) (hby : c.code = prog_29_method_10_code) (hml : c.maxLocals = 10) (hown : s.vm.findClass oC0 = some m.cls) (e0 : T0.heap = h0) (N0 : Fr n0 locs) (Z0 : n0 ≤ h0.size) (fQ : bB Z h0 o1_ dG aU) (cU : Fld Z h0 o0_ oC0 "backends" "I" (.int aE)) (bL : Exa Z h0 o0_ oC0) (aA0 : (s9_ = .unset ∨ ∃ z : Int32, s9_ = oI z)) (P_str : dQ Z h0 o3_ ch_ bs_ wd_ n_ us_ st_) (D_ : kV n0 o3_ ch_ bs_ wd_) (S__assertionsDisabled : Sta Z h0 oC3 "$assertionsDisabled" "Z" (.int 1)) (rS : n0 ≤ o3_) (aN0 : n0 ≤ ch_) (aN1 : n0 ≤ bs_) (aN2 : n0 ≤ wd_) (hf0 : i8_ < i2_) (hf1 : ¬ (i8_ < 0)) (hf2 : i8_ < dG) (hf3 : (aU.getD (i8_).toNatClampNeg 0) = 0 ∨ (aU.getD (i8_).toNatClampNeg 0) = 1 ∨ (aU.getD (i8_).toNatClampNeg 0) = 2 ∨ (aU.getD (i8_).toNatClampNeg 0) = 3) (hf4 : ¬ (i7_ < 0)) (hf5 : i7_ < (10 : Int32)) (hf6 : (cO aE (aU.getD (i8_).toNatClampNeg 0) i7_) = x_) (hf7 : ¬ (x_ < (0 : Int32))) (hf8 : (x_ >>> ((6 : Int32) &&& 31)) = (0 : Int32)) (hf9 : ¬ (st_.2.1 < 0)) (hf10 : st_.2.1 < n_) (hf11 : st_.2.2.1 = 0 ∨ st_.2.2.1 = 1) (hf12 : ¬ ((dH n_ x_ st_).2 = (0 : Int32))) (hc : cells + (2) ≤ rc) (hs : slots + (11) ≤ rs) :
   ∃ (T' : State) (locs' : List Loc), Stand p l e (oR 6 rc rs 140) s m args below meth c T' locs' (cells + 2) (slots + 11) ∧ Fr n0 locs' ∧ Keep h0 T'.heap [o3_, ch_, bs_, wd_] ∧ dQ Z T'.heap o3_ ch_ bs_ wd_ n_ us_ (dH n_ x_ st_).1 ∧
     ∀ target, Steps p.tables e below (T'.setTop (mkF m 63 #[oA o0_, oA o1_, oI i2_, oA o3_, oA o4_, oI i5_, oI i6_, oI i7_, oI i8_, oI x_] [])) target → Steps p.tables e below (T0.setTop (mkF m 30 #[oA o0_, oA o1_, oI i2_, oA o3_, oA o4_, oI i5_, oI i6_, oI i7_, oI i8_, s9_] [])) target := by
 obtain ⟨c1, A1, hin1, hat1⟩ := bS (j := i8_) fQ hf1 hf2
 have hat1' : c1.slots[(i8_).toNatClampNeg]? = some (.int (aU.getD (i8_).toNatClampNeg 0)) := hat1
 obtain ⟨cq2, q2, q2'⟩ := bL.cell
 obtain ⟨_, _, ⟨T2, L2, k2, n2⟩, -, X2, ⟨Lc2, hQ2, l2, y2, z2⟩, st2⟩ := X0.privateBack hx (y := oM5) hown (mvT hZ (oW hw 135 rfl)) (mvT hZ (oW hw 136 rfl)) (cG (mvT hZ (oW hw 15 rfl)) (mvP hZ (oW hw 137 rfl) (args := #[])) (mvT hZ (oW hw 136 rfl)) (by decide)) (Cond.privateMethod_at (mvP hZ (oW hw 137 rfl) (args := #[]))) (mvT hZ (oW hw 138 rfl)) (by decide) (backOf (W := 0) (oC l Z a0 hw [] o0_ (aU.getD (i8_).toNatClampNeg 0) i7_ aE h0 n0 Z0 cU hf3 hf4 hf5) hZ (oW hw 138 rfl) (oW hw 12 rfl) (Nat.le_of_ble_eq_true rfl) (Nat.le_of_ble_eq_true rfl)) (g := (mkF m 44 #[oA o0_, oA o1_, oI i2_, oA o3_, oA o4_, oI i5_, oI i6_, oI i7_, oI i8_, s9_] [(.int i7_), (.int (aU.getD (i8_).toNatClampNeg 0)), (.int 0), (.ref o0_)])) rfl (by rw [hml]; rfl) (Steps.refl _) (a := o0_) (by rw [e0]; exact q2) q2' (argsL := [(.int 0), (.int (aU.getD (i8_).toNatClampNeg 0)), (.int i7_)]) (rest := []) (lenOf rJ rfl) rfl (by show 2 * 0 + _ ≤ _; exact Nat.le_of_eq rfl) (oG hby d21 25 rfl) (fun _ _ => ⟨rfl, e0, (show cells + 2 ≤ rc from by omega), (show slots + 11 ≤ rs from by omega)⟩)
 dsimp only [Pt.U, Pt.locs, Pt.cells, Pt.slots] at X2 l2 y2 z2 st2 hQ2
 subst l2; rw [y2, z2] at X2
 obtain ⟨rfl, N2q, Kq2⟩ := hQ2
 have N2 := Fr.app N0 N2q
 have K2 : Keep h0 T2.heap [o3_, ch_, bs_, wd_] := (Keep.refl h0 [o3_, ch_, bs_, wd_]).trans Kq2 dX
 have vW := (P_str.ext (iD Kq2))
 have cL := (fM S__assertionsDisabled Kq2 (dX ))
 obtain ⟨cq3, kq3, q3a, q3b, q3c⟩ := isOf hZ rfl vW.1
 obtain ⟨_, _, ⟨T3, L3, k3, n3⟩, -, X3, ⟨Lc3, hQ3, l3, y3, z3⟩, st3⟩ := X2.virtualBack hx (y := oM0) (z := oM0) hown (mvT hZ (oW hw 168 rfl)) (mvT hZ (oW hw 169 rfl)) (notFace_of_selects (args := #[]) (mvT hZ (oW hw 171 rfl))) (mvT hZ (oW hw 171 rfl)) (mvT hZ (oW hw 170 rfl)) (by decide) (backOf (W := 0) (xP l Z a0 hw [] o3_ x_ ch_ bs_ wd_ n_ us_ st_ T2.heap n0 (Nat.le_trans Z0 K2.1) vW D_ cL hf7 hf8 hf9 hf10 hf11) hZ (oW hw 172 rfl) (oW hw 96 rfl) (Nat.le_of_ble_eq_true rfl) (Nat.le_of_ble_eq_true rfl)) q3a q3c (g := (mkF m 57 #[oA o0_, oA o1_, oI i2_, oA o3_, oA o4_, oI i5_, oI i6_, oI i7_, oI i8_, oI x_] [(.int x_), (.ref o3_)])) rfl (by rw [hml]; rfl) (Steps.refl _) (argsL := [(.int x_)]) (rest := []) (lenOf mW rfl) rfl (by show 2 * 0 + _ ≤ _; exact Nat.le_of_eq rfl) (oG hby d21 31 rfl) (fun _ _ => ⟨rfl, rfl, (show cells + 2 + 0 ≤ rc from by omega), (show slots + 11 + 0 ≤ rs from by omega)⟩)
 dsimp only [Pt.U, Pt.locs, Pt.cells, Pt.slots] at X3 l3 y3 z3 st3 hQ3
 subst l3; rw [y3, z3] at X3
 obtain ⟨rfl, N3q, Kq3, Q3_0⟩ := hQ3
 have N3 := Fr.app N2 N3q
 have K3 : Keep h0 T3.heap [o3_, ch_, bs_, wd_] := K2.trans Kq3 (nT (Or.inl (oX 0 rfl)) (Or.inl (oX 1 rfl)) (Or.inl (oX 2 rfl)) (Or.inl (oX 3 rfl)))
 refine ⟨T3, _, eS X3 (by omega) (by omega), N3, K3, Q3_0, fun target kt => ?_⟩
 show oZ p e below T0 (mkF m 30 #[oA o0_, oA o1_, oI i2_, oA o3_, oA o4_, oI i5_, oI i6_, oI i7_, oI i8_, s9_] []) _
 refine XS.iload X0.here hx rfl (oG hby d21 16 rfl) rfl ?_
 refine XS.iloadN X0.here hx rfl (oG hby d21 17 rfl) rfl ?_
 refine XS.icmpNo X0.here hx rfl (oG hby d21 18 rfl) rfl (tlt hf0).2.1 ?_
 refine XS.aloadN X0.here hx rfl (oG hby d21 19 rfl) rfl rfl ?_
 refine XS.iconst X0.here hx rfl (oG hby d21 20 rfl) ?_
 refine XS.aloadN X0.here hx rfl (oG hby d21 21 rfl) rfl rfl ?_
 refine XS.iload X0.here hx rfl (oG hby d21 22 rfl) rfl ?_
 refine X0.iaload hx (j := i8_) (v := (.int (aU.getD (i8_).toNatClampNeg 0))) (by rw [e0]; exact A1.1) (State.isArrayOf_alike hZ.alike A1.2.1) A1.2.2 hin1 hat1' (g := (mkF m 41 #[oA o0_, oA o1_, oI i2_, oA o3_, oA o4_, oI i5_, oI i6_, oI i7_, oI i8_, s9_] [(.int i8_), (.ref o1_), (.int 0), (.ref o0_)])) rfl rfl (oG hby d21 23 rfl) _ ?_
 refine XS.iload X0.here hx rfl (oG hby d21 24 rfl) rfl ?_
 refine st2.trans ?_
 show oZ p e below T2 (mkF m 47 #[oA o0_, oA o1_, oI i2_, oA o3_, oA o4_, oI i5_, oI i6_, oI i7_, oI i8_, s9_] [(.int (cO aE (aU.getD (i8_).toNatClampNeg 0) i7_))]) _
 rw [hf6]
 refine XS.istore X2.here hx rfl (oG hby d21 26 rfl) rfl (l' := #[oA o0_, oA o1_, oI i2_, oA o3_, oA o4_, oI i5_, oI i6_, oI i7_, oI i8_, oI x_]) (by rcases aA0 with rfl | ⟨_, rfl⟩ <;> rfl) ?_
 refine XS.iload X2.here hx rfl (oG hby d21 27 rfl) rfl ?_
 refine XS.ifNo X2.here hx rfl (oG hby d21 28 rfl) rfl ((if0 _ _).trans (flt hf7).1) ?_
 refine XS.aloadN X2.here hx rfl (oG hby d21 29 rfl) rfl rfl ?_
 refine XS.iload X2.here hx rfl (oG hby d21 30 rfl) rfl ?_
 refine st3.trans ?_
 refine XS.ifNo X3.here hx rfl (oG hby d21 32 rfl) rfl ((if0 _ _).trans (feq hf12).1) ?_
 exact kt
theorem aN4 (rc : Nat) (rs : Nat) (o0_ : Addr) (o1_ : Addr) (i2_ : Int32) (o3_ : Addr) (o4_ : Addr) (i5_ : Int32) (i6_ : Int32) (i7_ : Int32) (i8_ : Int32) (s9_ : Slot) 
   (X0 : Stand p l e (oR 6 rc rs 140) s m args below meth c T0 locs cells slots) (hx : p.tables.exec = Jvm.exec) (hZ : Z.Warmed39 s.vm) (hw : oH a0 Z) (hby : c.code = prog_29_method_10_code) (hml : c.maxLocals = 10) (hown : s.vm.findClass oC0 = some m.cls) (e0 : T0.heap = h0) (N0 : Fr n0 locs) (Z0 : n0 ≤ h0.size) (hf0 : ¬ (i8_ < i2_)) (hc : cells + (0) ≤ rc) (hs : slots + (0) ≤ rs) :
   ∃ (T' : State) (locs' : List Loc), Stand p l e (oR 6 rc rs 140) s m args below meth c T' locs' cells slots ∧ Fr n0 locs' ∧ T'.heap = h0 ∧
     ∀ target, Steps p.tables e below (T'.setTop (mkF m 71 #[oA o0_, oA o1_, oI i2_, oA o3_, oA o4_, oI i5_, oI i6_, oI i7_, oI i8_, s9_] [])) target → Steps p.tables e below (T0.setTop (mkF m 30 #[oA o0_, oA o1_, oI i2_, oA o3_, oA o4_, oI i5_, oI i6_, oI i7_, oI i8_, s9_] [])) target := by
 refine ⟨T0, _, X0, N0, e0, fun target kt => ?_⟩
 show oZ p e below T0 (mkF m 30 #[oA o0_, oA o1_, oI i2_, oA o3_, oA o4_, oI i5_, oI i6_, oI i7_, oI i8_, s9_] []) _
 refine XS.iload X0.here hx rfl (oG hby d21 16 rfl) rfl ?_
 refine XS.iloadN X0.here hx rfl (oG hby d21 17 rfl) rfl ?_
 refine XS.icmpYes X0.here hx rfl (pc0 := 33) (pc' := 71) rfl (oG hby d21 18 rfl) rfl (flt hf0).2.1 (by decide) (by decide) ?_
 exact kt
section OwnInner
theorem eB {i : Nat} (h : i < 2 ^ 31) : (Int32.ofNat i).toInt = i := Int32.toInt_ofNat_small h
theorem dV {i c : Nat} (h : i < c) (hc : c < 2 ^ 31) : Int32.ofNat i < Int32.ofNat c := by
 rw [Int32.lt_iff_toInt_lt, eB (by omega), eB hc]; omega
theorem eU {i c : Nat} (h : c ≤ i) (hc : i < 2 ^ 31) : ¬ (Int32.ofNat i < Int32.ofNat c) := by
 rw [Int32.lt_iff_toInt_lt, eB (by omega), eB (by omega)]; omega
theorem eP {i : Nat} (h : i < 2 ^ 31) : ¬ (Int32.ofNat i < 0) := by
 rw [Int32.lt_iff_toInt_lt, eB h, Int32.toInt_zero]; omega
theorem eQ {i : Nat} (h : i < 2 ^ 31) : (Int32.ofNat i).toNatClampNeg = i := by
 show (Int32.ofNat i).toInt.toNat = i
 rw [eB h]; simp
theorem bW (i : Nat) : (Int32.ofNat i + (1 : Int32)) = Int32.ofNat (i + 1) := by
 rw [Int32.ofNat_add]; rfl
def cB (b n row : Int32) (vs : List Int32) : Nat → Nat → fC → fC × Int32 × Nat
 | 0, _, st => (st, 0, 0)
 | k + 1, i, st =>
   if cO b (vs.getD i 0) row < (0 : Int32) then ((cB b n row vs k (i + 1) st).1, (cB b n row vs k (i + 1) st).2.1, (cB b n row vs k (i + 1) st).2.2 + 1)
   else if (dH n (cO b (vs.getD i 0) row) st).2 = (0 : Int32) then ((cB b n row vs k (i + 1) (dH n (cO b (vs.getD i 0) row) st).1).1, (cB b n row vs k (i + 1) (dH n (cO b (vs.getD i 0) row) st).1).2.1, (cB b n row vs k (i + 1) (dH n (cO b (vs.getD i 0) row) st).1).2.2 + 1)
   else ((dH n (cO b (vs.getD i 0) row) st).1, 1, 1)
def hY (vs : List Int32) : Prop := ∀ i, vs.getD i 0 = 0 ∨ vs.getD i 0 = 1 ∨ vs.getD i 0 = 2 ∨ vs.getD i 0 = 3
def hQ (n : Int32) (st : fC) : Prop := ¬ (st.2.1 < 0) ∧ st.2.1 < n ∧ (st.2.2.1 = 0 ∨ st.2.2.1 = 1)
theorem vX {n x : Int32} {st : fC} (h : hQ n st) (h0 : (dH n x st).2 = (0 : Int32)) : hQ n (dH n x st).1 := by
 obtain ⟨sk, tk, u, w⟩ := st
 obtain ⟨h1, h2, h3⟩ := h
 dsimp only at h1 h2 h3
 unfold dH at h0 ⊢
 split
 · exact ⟨h1, h2, h3⟩
 · rename_i q1
   rw [if_neg q1] at h0
   split
   · exact ⟨h1, h2, h3⟩
   · rename_i q2
     rw [if_neg q2] at h0
     by_cases q : tk + 1 = n
     · rw [if_pos q] at h0; exact absurd (show (1 : Int32) = 0 from h0) (by decide)
     · have b1 := n.toInt_lt
       rw [Int32.lt_iff_toInt_lt] at h1 h2
       rw [Int32.toInt_zero] at h1
       have e1 : (1 : Int32).toInt = 1 := by decide
       have e2 := Jvm.Kit.i32_add (p := tk) (q := 1) (by omega) (by omega)
       have e3 : (tk + 1).toInt ≠ n.toInt := fun z => q (Int32.toInt_inj.mp z)
       refine ⟨?_, ?_, Or.inr rfl⟩
       · show ¬ (tk + 1 < 0)
         rw [Int32.lt_iff_toInt_lt, Int32.toInt_zero]; omega
       · show tk + 1 < n
         rw [Int32.lt_iff_toInt_lt]; omega
theorem aV5 {b lot row : Int32} (hl : lot = 0 ∨ lot = 1 ∨ lot = 2 ∨ lot = 3) (h1 : ¬ (row < 0)) (h2 : row < (10 : Int32)) (hb : ¬ (cO b lot row < (0 : Int32))) : (cO b lot row >>> ((6 : Int32) &&& 31)) = (0 : Int32) := by
 have hk : row.toNatClampNeg < 10 := by
   show row.toInt.toNat < 10
   rw [Int32.lt_iff_toInt_lt] at h1 h2
   have e : (10 : Int32).toInt = 10 := by decide
   rw [Int32.toInt_zero] at h1
   omega
 have q : (sW lot row).toInt32 >>> ((6 : Int32) &&& 31) = (0 : Int32) := by
   unfold sW
   generalize row.toNatClampNeg = k at hk
   have : k = 0 ∨ k = 1 ∨ k = 2 ∨ k = 3 ∨ k = 4 ∨ k = 5 ∨ k = 6 ∨ k = 7 ∨ k = 8 ∨ k = 9 := by omega
   rcases hl with rfl | rfl | rfl | rfl <;> rcases this with rfl | rfl | rfl | rfl | rfl | rfl | rfl | rfl | rfl | rfl <;> decide +kernel
 unfold cO at hb ⊢
 split
 · exact q
 · rename_i r
   rw [if_neg r] at hb; exact absurd hb (by decide)
def jU (Z : State) (h : Heap) (o0 o1 o4 : Addr) (b : Int32) (nn : Int32) (vs : List Int32) : Prop :=
 Exa Z h o0 oC0 ∧ Fld Z h o0 oC0 "backends" "I" (.int b) ∧ bB Z h o1 nn vs ∧ bB Z h o4 10 [0, 8, 2, 4, 6, 1, 9, 5, 3, 7] ∧ Sta Z h oC3 "$assertionsDisabled" "Z" (.int 1)
variable {Z : State} {h h' : Heap} {o0 o1 o4 sp ch bs wd : Addr} {b nn n : Int32} {vs : List Int32} {us : Value} {st : fC}
def rZ (o0 o1 o4 sp ch bs wd : Addr) : Prop := o0 ∉ [sp, ch, bs, wd] ∧ o1 ∉ [sp, ch, bs, wd] ∧ o4 ∉ [sp, ch, bs, wd]
theorem jU.ext (X : jU Z h o0 o1 o4 b nn vs) (E : Ext h h') : jU Z h' o0 o1 o4 b nn vs := by
 obtain ⟨a1, a2, a3, a4, a5⟩ := X; exact ⟨a1.ext E, a2.ext E, a3.ext E, a4.ext E, a5.ext E⟩
theorem dQ.ns (S : dQ Z h sp ch bs wd n us st) : ∀ a ∈ [sp, ch, bs, wd], qJ h a := nT (mF S.1) (sU S.2.2.2.2.2.1) (mF S.2.2.2.2.2.2.1) (aG7 S.2.2.2.2.2.2.2.2.2.2)
theorem jU.keep (X : jU Z h o0 o1 o4 b nn vs) (K : Keep h h' [sp, ch, bs, wd]) (S : dQ Z h sp ch bs wd n us st) (d : rZ o0 o1 o4 sp ch bs wd) : jU Z h' o0 o1 o4 b nn vs := by
 obtain ⟨a1, a2, a3, a4, a5⟩ := X
 exact ⟨a1.keep K, a2.keep K d.1, a3.keep K d.2.1, a4.keep K d.2.2, fM a5 K S.ns⟩
theorem eV {h1 h2 : Heap} {W W1 : List Addr} (K : Keep h h1 W1) (K' : Keep h1 h2 W) (q : ∀ x ∈ W1, x ∈ W) : Keep h h2 W := (hG K q).trans K' fun x hx => Or.inl hx
theorem aH3 {p : Program} {l : Launch} {e : Env} {s : State} {m : MethodId} {args : Array Value} {below : List Frame} {meth : Method} {c : Code} {Z : State} {a0 : Array Value} {n0 : Nat} {rc rs : Nat} {o0 o1 o3 o4 ch bs wd : Addr} {i5 i6 row b n : Int32} {us : Value} {vs : List Int32} {nn cnt : Nat}
   (hx : p.tables.exec = Jvm.exec) (hZ : Z.Warmed39 s.vm) (hw : oH a0 Z) (hby : c.code = prog_29_method_10_code) (hml : c.maxLocals = 10) (hown : s.vm.findClass oC0 = some m.cls)
   (D : kV n0 o3 ch bs wd) (d : rZ o0 o1 o4 o3 ch bs wd) (hvs : hY vs) (hr0 : ¬ (row < 0)) (hr1 : row < (10 : Int32)) (hcn : cnt ≤ nn) (hnn : nn < 1000) :
   ∀ (k i : Nat) (st : fC) (s9 : Slot) (T0 : State) (locs : List Loc) (cells slots : Nat), i + k = cnt → (s9 = .unset ∨ ∃ z : Int32, s9 = oI z) → hQ n st →
     Stand p l e (oR 6 rc rs 140) s m args below meth c T0 locs cells slots → Fr n0 locs → n0 ≤ T0.heap.size → jU Z T0.heap o0 o1 o4 b (Int32.ofNat nn) vs → dQ Z T0.heap o3 ch bs wd n us st →
     cells + 2 * (cB b n row vs k i st).2.2 ≤ rc → slots + 11 * (cB b n row vs k i st).2.2 ≤ rs →
     ∃ (T' : State) (locs' : List Loc) (z8 : Int32) (s9' : Slot), Stand p l e (oR 6 rc rs 140) s m args below meth c T' locs' (cells + 2 * (cB b n row vs k i st).2.2) (slots + 11 * (cB b n row vs k i st).2.2) ∧ Fr n0 locs' ∧ Keep T0.heap T'.heap [o3, ch, bs, wd] ∧ dQ Z T'.heap o3 ch bs wd n us (cB b n row vs k i st).1 ∧ (s9' = .unset ∨ ∃ z : Int32, s9' = oI z) ∧ ((cB b n row vs k i st).2.1 = 0 → hQ n (cB b n row vs k i st).1) ∧ ((cB b n row vs k i st).2.1 = 0 ∨ (cB b n row vs k i st).2.1 = 1) ∧
     ∀ target, Steps p.tables e below (T'.setTop (mkF m (if (cB b n row vs k i st).2.1 = 0 then 71 else 63) #[oA o0, oA o1, oI (Int32.ofNat cnt), oA o3, oA o4, oI i5, oI i6, oI row, oI z8, s9'] [])) target →
       Steps p.tables e below (T0.setTop (mkF m 30 #[oA o0, oA o1, oI (Int32.ofNat cnt), oA o3, oA o4, oI i5, oI i6, oI row, oI (Int32.ofNat i), s9] [])) target := by
 intro k
 induction k with
 | zero =>
   intro i st s9 T0 locs cells slots hik h9 hok X N Z0 C S hc hs
   have hf := eU (i := i) (c := cnt) (by omega) (by omega)
   obtain ⟨T', L', X', N', e', st'⟩ := aN4 (s9_ := s9) (i8_ := Int32.ofNat i) (i2_ := Int32.ofNat cnt) (o0_ := o0) (o1_ := o1) (o3_ := o3) (o4_ := o4) (i5_ := i5) (i6_ := i6) (i7_ := row) rc rs X hx hZ hw hby hml hown rfl N Z0 hf (by simpa [cB] using hc) (by simpa [cB] using hs)
   refine ⟨T', L', Int32.ofNat i, s9, eS X' (by simp [cB]) (by simp [cB]), N', by rw [e']; exact Keep.refl _ _, by rw [e']; exact S, h9, fun _ => hok, Or.inl rfl, ?_⟩
   intro target kt; exact st' target (by simpa [cB] using kt)
 | succ k ih =>
   intro i st s9 T0 locs cells slots hik h9 hok X N Z0 C S hc hs
   have hi : i < 2 ^ 31 := by omega
   have hf1 := dV (i := i) (c := cnt) (by omega) (by omega)
   have hf2 := eP hi
   have hf3 := dV (i := i) (c := nn) (by omega) (by omega)
   have hv : vs.getD (Int32.ofNat i).toNatClampNeg 0 = vs.getD i 0 := by rw [eQ hi]
   have hlot : vs.getD (Int32.ofNat i).toNatClampNeg 0 = 0 ∨ vs.getD (Int32.ofNat i).toNatClampNeg 0 = 1 ∨ vs.getD (Int32.ofNat i).toNatClampNeg 0 = 2 ∨ vs.getD (Int32.ofNat i).toNatClampNeg 0 = 3 := by rw [hv]; exact hvs i
   have hxx : cO b (vs.getD (Int32.ofNat i).toNatClampNeg 0) row = cO b (vs.getD i 0) row := by rw [hv]
   have hD := D.1
   by_cases q1 : cO b (vs.getD i 0) row < (0 : Int32)
   · have eqk : cB b n row vs (k + 1) i st = ((cB b n row vs k (i + 1) st).1, (cB b n row vs k (i + 1) st).2.1, (cB b n row vs k (i + 1) st).2.2 + 1) := by rw [cB, if_pos q1]
     rw [eqk] at hc hs ⊢
     dsimp only at hc hs ⊢
     obtain ⟨T1, L1, X1, N1, K1, st1⟩ : ∃ (T1 : State) (L1 : List Loc), Stand p l e (oR 6 rc rs 140) s m args below meth c T1 L1 (cells + 2) (slots + 11) ∧ Fr n0 L1 ∧ Keep T0.heap T1.heap [] ∧ ∀ target, Steps p.tables e below (T1.setTop (mkF m 30 #[oA o0, oA o1, oI (Int32.ofNat cnt), oA o3, oA o4, oI i5, oI i6, oI row, oI (Int32.ofNat (i + 1)), oI (cO b (vs.getD i 0) row)] [])) target → Steps p.tables e below (T0.setTop (mkF m 30 #[oA o0, oA o1, oI (Int32.ofNat cnt), oA o3, oA o4, oI i5, oI i6, oI row, oI (Int32.ofNat i), s9] [])) target := by
       exact aM8 (s9_ := s9) (i8_ := Int32.ofNat i) (i2_ := Int32.ofNat cnt) (o0_ := o0) (o1_ := o1) (o3_ := o3) (o4_ := o4) (i5_ := i5) (i6_ := i6) (i7_ := row) (dG := Int32.ofNat nn) (aU := vs) (aE := b) (x_ := cO b (vs.getD i 0) row) (j_ := Int32.ofNat (i + 1)) rc rs X hx hZ hw hby hml hown rfl N Z0 C.2.2.1 C.2.1 C.1 h9 hf1 hf2 hf3 hlot hr0 hr1 hxx q1 (bW i) (by omega) (by omega)
     obtain ⟨T', L', z8, s9', X', N', K', S', h9', ok', fl', st'⟩ := ih (i + 1) st (oI (cO b (vs.getD i 0) row)) T1 L1 (cells + 2) (slots + 11) (by omega) (Or.inr ⟨_, rfl⟩) hok X1 N1 (Nat.le_trans Z0 K1.1) (C.ext (iD K1)) (S.ext (iD K1)) (by omega) (by omega)
     exact ⟨T', L', z8, s9', eS X' (by omega) (by omega), N', eV K1 K' (by simp), S', h9', ok', fl', fun target kt => st1 _ (st' _ kt)⟩
   · have q6 := aV5 (b := b) (hvs i) hr0 hr1 q1
     by_cases q2 : (dH n (cO b (vs.getD i 0) row) st).2 = (0 : Int32)
     · have eqk : cB b n row vs (k + 1) i st = ((cB b n row vs k (i + 1) (dH n (cO b (vs.getD i 0) row) st).1).1, (cB b n row vs k (i + 1) (dH n (cO b (vs.getD i 0) row) st).1).2.1, (cB b n row vs k (i + 1) (dH n (cO b (vs.getD i 0) row) st).1).2.2 + 1) := by rw [cB, if_neg q1, if_pos q2]
       rw [eqk] at hc hs ⊢
       dsimp only at hc hs ⊢
       obtain ⟨T1, L1, X1, N1, K1, S1, st1⟩ : ∃ (T1 : State) (L1 : List Loc), Stand p l e (oR 6 rc rs 140) s m args below meth c T1 L1 (cells + 2) (slots + 11) ∧ Fr n0 L1 ∧ Keep T0.heap T1.heap [o3, ch, bs, wd] ∧ dQ Z T1.heap o3 ch bs wd n us (dH n (cO b (vs.getD i 0) row) st).1 ∧ ∀ target, Steps p.tables e below (T1.setTop (mkF m 30 #[oA o0, oA o1, oI (Int32.ofNat cnt), oA o3, oA o4, oI i5, oI i6, oI row, oI (Int32.ofNat (i + 1)), oI (cO b (vs.getD i 0) row)] [])) target → Steps p.tables e below (T0.setTop (mkF m 30 #[oA o0, oA o1, oI (Int32.ofNat cnt), oA o3, oA o4, oI i5, oI i6, oI row, oI (Int32.ofNat i), s9] [])) target := by
         exact aM9 (s9_ := s9) (i8_ := Int32.ofNat i) (i2_ := Int32.ofNat cnt) (o0_ := o0) (o1_ := o1) (o3_ := o3) (o4_ := o4) (i5_ := i5) (i6_ := i6) (i7_ := row) (dG := Int32.ofNat nn) (aU := vs) (aE := b) (x_ := cO b (vs.getD i 0) row) (ch_ := ch) (bs_ := bs) (wd_ := wd) (n_ := n) (us_ := us) (st_ := st) (j_ := Int32.ofNat (i + 1)) rc rs X hx hZ hw hby hml hown rfl N Z0 C.2.2.1 C.2.1 C.1 h9 S D C.2.2.2.2 hD.1 hD.2.1 hD.2.2.1 hD.2.2.2 hf1 hf2 hf3 hlot hr0 hr1 hxx q1 q6 hok.1 hok.2.1 hok.2.2 q2 (bW i) (by omega) (by omega)
       obtain ⟨T', L', z8, s9', X', N', K', S', h9', ok', fl', st'⟩ := ih (i + 1) _ (oI (cO b (vs.getD i 0) row)) T1 L1 (cells + 2) (slots + 11) (by omega) (Or.inr ⟨_, rfl⟩) (vX hok q2) X1 N1 (Nat.le_trans Z0 K1.1) (C.keep K1 S d) S1 (by omega) (by omega)
       exact ⟨T', L', z8, s9', eS X' (by omega) (by omega), N', eV K1 K' (fun x hx => hx), S', h9', ok', fl', fun target kt => st1 _ (st' _ kt)⟩
     · have eqk : cB b n row vs (k + 1) i st = ((dH n (cO b (vs.getD i 0) row) st).1, 1, 1) := by rw [cB, if_neg q1, if_neg q2]
       rw [eqk] at hc hs ⊢
       dsimp only at hc hs ⊢
       obtain ⟨T1, L1, X1, N1, K1, S1, st1⟩ := aN3 (s9_ := s9) (i8_ := Int32.ofNat i) (i2_ := Int32.ofNat cnt) (o0_ := o0) (o1_ := o1) (o3_ := o3) (o4_ := o4) (i5_ := i5) (i6_ := i6) (i7_ := row) (dG := Int32.ofNat nn) (aU := vs) (aE := b) (x_ := cO b (vs.getD i 0) row) (ch_ := ch) (bs_ := bs) (wd_ := wd) (n_ := n) (us_ := us) (st_ := st) rc rs X hx hZ hw hby hml hown rfl N Z0 C.2.2.1 C.2.1 C.1 h9 S D C.2.2.2.2 hD.1 hD.2.1 hD.2.2.1 hD.2.2.2 hf1 hf2 hf3 hlot hr0 hr1 hxx q1 q6 hok.1 hok.2.1 hok.2.2 q2 (by omega) (by omega)
       exact ⟨T1, L1, _, _, X1, N1, K1, S1, Or.inr ⟨_, rfl⟩, fun q => absurd q (by decide), Or.inr rfl, fun target kt => st1 _ kt⟩
end OwnInner

section OwnOuter
abbrev cP : List Int32 := [0, 8, 2, 4, 6, 1, 9, 5, 3, 7]
theorem aC7 (i : Nat) : ¬ (cP.getD i 0 < 0) ∧ cP.getD i 0 < (10 : Int32) := by
 by_cases h : i < 10
 · have : i = 0 ∨ i = 1 ∨ i = 2 ∨ i = 3 ∨ i = 4 ∨ i = 5 ∨ i = 6 ∨ i = 7 ∨ i = 8 ∨ i = 9 := by omega
   rcases this with rfl | rfl | rfl | rfl | rfl | rfl | rfl | rfl | rfl | rfl <;> decide
 · have e : cP.getD i 0 = 0 := by
     rw [List.getD_eq_getElem?_getD, List.getElem?_eq_none (by show 10 ≤ i; omega)]; rfl
   rw [e]; decide
def bI (b n : Int32) (vs : List Int32) (cnt : Nat) : Nat → Nat → fC → fC × Int32 × Nat
 | 0, _, st => (st, 0, 0)
 | k + 1, i, st =>
   if (cB b n (cP.getD i 0) vs cnt 0 st).2.1 = 0 then ((bI b n vs cnt k (i + 1) (cB b n (cP.getD i 0) vs cnt 0 st).1).1, (bI b n vs cnt k (i + 1) (cB b n (cP.getD i 0) vs cnt 0 st).1).2.1, (cB b n (cP.getD i 0) vs cnt 0 st).2.2 + (bI b n vs cnt k (i + 1) (cB b n (cP.getD i 0) vs cnt 0 st).1).2.2)
   else ((cB b n (cP.getD i 0) vs cnt 0 st).1, 1, (cB b n (cP.getD i 0) vs cnt 0 st).2.2)
theorem aH4 {p : Program} {l : Launch} {e : Env} {s : State} {m : MethodId} {args : Array Value} {below : List Frame} {meth : Method} {c : Code} {Z : State} {a0 : Array Value} {n0 : Nat} {rc rs : Nat} {o0 o1 o3 o4 ch bs wd : Addr} {b n : Int32} {us : Value} {vs : List Int32} {nn cnt : Nat}
   (hx : p.tables.exec = Jvm.exec) (hZ : Z.Warmed39 s.vm) (hw : oH a0 Z) (hby : c.code = prog_29_method_10_code) (hml : c.maxLocals = 10) (hown : s.vm.findClass oC0 = some m.cls)
   (D : kV n0 o3 ch bs wd) (d : rZ o0 o1 o4 o3 ch bs wd) (hvs : hY vs) (hcn : cnt ≤ nn) (hnn : nn < 1000) :
   ∀ (k i : Nat) (st : fC) (s7 s8 s9 : Slot) (T0 : State) (locs : List Loc) (cells slots : Nat), i + k = 10 → (s7 = .unset ∨ ∃ z : Int32, s7 = oI z) → (s8 = .unset ∨ ∃ z : Int32, s8 = oI z) → (s9 = .unset ∨ ∃ z : Int32, s9 = oI z) → hQ n st →
     Stand p l e (oR 6 rc rs 140) s m args below meth c T0 locs cells slots → Fr n0 locs → n0 ≤ T0.heap.size → jU Z T0.heap o0 o1 o4 b (Int32.ofNat nn) vs → dQ Z T0.heap o3 ch bs wd n us st →
     cells + 2 * (bI b n vs cnt k i st).2.2 ≤ rc → slots + 11 * (bI b n vs cnt k i st).2.2 ≤ rs →
     ∃ (T' : State) (locs' : List Loc) (Ls' : Array Slot), Stand p l e (oR 6 rc rs 140) s m args below meth c T' locs' (cells + 2 * (bI b n vs cnt k i st).2.2) (slots + 11 * (bI b n vs cnt k i st).2.2) ∧ Fr n0 locs' ∧ Keep T0.heap T'.heap [o3, ch, bs, wd] ∧ dQ Z T'.heap o3 ch bs wd n us (bI b n vs cnt k i st).1 ∧ ((bI b n vs cnt k i st).2.1 = 0 → hQ n (bI b n vs cnt k i st).1) ∧ ((bI b n vs cnt k i st).2.1 = 0 ∨ (bI b n vs cnt k i st).2.1 = 1) ∧
     ∀ target, Steps p.tables e below (T'.setTop (mkF m (if (bI b n vs cnt k i st).2.1 = 0 then 77 else 63) Ls' [])) target →
       Steps p.tables e below (T0.setTop (mkF m 13 #[oA o0, oA o1, oI (Int32.ofNat cnt), oA o3, oA o4, oI 10, oI (Int32.ofNat i), s7, s8, s9] [])) target := by
 intro k
 induction k with
 | zero =>
   intro i st s7 s8 s9 T0 locs cells slots hik h7 h8 h9 hok X N Z0 C S hc hs
   have hf : ¬ (Int32.ofNat i < (10 : Int32)) := eU (i := i) (c := 10) (by omega) (by omega)
   obtain ⟨T', L', X', N', e', st'⟩ := aV3 (i6_ := Int32.ofNat i) (i2_ := Int32.ofNat cnt) (o0_ := o0) (o1_ := o1) (o3_ := o3) (o4_ := o4) (i5_ := 10) (s7_ := s7) (s8_ := s8) (s9_ := s9) rc rs X hx hZ hw hby hml hown rfl N Z0 hf (by simpa [bI] using hc) (by simpa [bI] using hs)
   refine ⟨T', L', #[oA o0, oA o1, oI (Int32.ofNat cnt), oA o3, oA o4, oI 10, oI (Int32.ofNat i), s7, s8, s9], eS X' (by simp [bI]) (by simp [bI]), N', by rw [e']; exact Keep.refl _ _, by rw [e']; exact S, fun _ => hok, Or.inl rfl, ?_⟩
   intro target kt; exact st' target (by simpa [bI] using kt)
 | succ k ih =>
   intro i st s7 s8 s9 T0 locs cells slots hik h7 h8 h9 hok X N Z0 C S hc hs
   have hi : i < 2 ^ 31 := by omega
   have hf1 : Int32.ofNat i < (10 : Int32) := dV (i := i) (c := 10) (by omega) (by omega)
   have hf2 := eP hi
   have hv : cP.getD (Int32.ofNat i).toNatClampNeg 0 = cP.getD i 0 := by rw [eQ hi]
   obtain ⟨hr0, hr1⟩ := aC7 i
   have hle : (cB b n (cP.getD i 0) vs cnt 0 st).2.2 ≤ (bI b n vs cnt (k + 1) i st).2.2 := by
     rw [bI]; split
     · exact Nat.le_add_right _ _
     · exact Nat.le_refl _
   obtain ⟨T1, L1, X1, N1, e1, st1⟩ : ∃ (T1 : State) (L1 : List Loc), Stand p l e (oR 6 rc rs 140) s m args below meth c T1 L1 cells slots ∧ Fr n0 L1 ∧ T1.heap = T0.heap ∧ ∀ target, Steps p.tables e below (T1.setTop (mkF m 30 #[oA o0, oA o1, oI (Int32.ofNat cnt), oA o3, oA o4, oI 10, oI (Int32.ofNat i), oI (cP.getD i 0), oI 0, s9] [])) target → Steps p.tables e below (T0.setTop (mkF m 13 #[oA o0, oA o1, oI (Int32.ofNat cnt), oA o3, oA o4, oI 10, oI (Int32.ofNat i), s7, s8, s9] [])) target := by
     exact aV2 (i6_ := Int32.ofNat i) (i2_ := Int32.ofNat cnt) (o0_ := o0) (o1_ := o1) (o3_ := o3) (o4_ := o4) (i5_ := 10) (s7_ := s7) (s8_ := s8) (s9_ := s9) (tM := 10) (sX := cP) (r_ := cP.getD i 0) rc rs X hx hZ hw hby hml hown rfl N Z0 C.2.2.2.1 h7 h8 hf1 hf2 hf1 hv (by omega) (by omega)
   obtain ⟨T2, L2, z8, s9', X2, N2, K2, S2, h92, ok2, fl2, st2⟩ := aH3 (i5 := 10) (i6 := Int32.ofNat i) (us := us) hx hZ hw hby hml hown D d hvs hr0 hr1 hcn hnn cnt 0 st s9 T1 L1 cells slots (by omega) h9 hok X1 N1 (by rw [e1]; exact Z0) (by rw [e1]; exact C) (by rw [e1]; exact S) (by omega) (by omega)
   rw [e1] at K2
   by_cases q : (cB b n (cP.getD i 0) vs cnt 0 st).2.1 = 0
   · have eqk : bI b n vs cnt (k + 1) i st = ((bI b n vs cnt k (i + 1) (cB b n (cP.getD i 0) vs cnt 0 st).1).1, (bI b n vs cnt k (i + 1) (cB b n (cP.getD i 0) vs cnt 0 st).1).2.1, (cB b n (cP.getD i 0) vs cnt 0 st).2.2 + (bI b n vs cnt k (i + 1) (cB b n (cP.getD i 0) vs cnt 0 st).1).2.2) := by rw [bI, if_pos q]
     rw [eqk] at hc hs ⊢
     dsimp only at hc hs ⊢
     rw [if_pos q] at st2
     obtain ⟨T3, L3, X3, N3, e3, st3⟩ := aV4 (i6_ := Int32.ofNat i) (i2_ := Int32.ofNat cnt) (o0_ := o0) (o1_ := o1) (o3_ := o3) (o4_ := o4) (i5_ := 10) (s7_ := oI (cP.getD i 0)) (s8_ := oI z8) (s9_ := s9') (j_ := Int32.ofNat (i + 1)) rc rs X2 hx hZ hw hby hml hown rfl N2 (Nat.le_trans Z0 K2.1) (bW i) (by omega) (by omega)
     obtain ⟨T', L', Ls', X', N', K', S', ok', fl', st'⟩ := ih (i + 1) _ (oI (cP.getD i 0)) (oI z8) s9' T3 L3 _ _ (by omega) (Or.inr ⟨_, rfl⟩) (Or.inr ⟨_, rfl⟩) h92 (ok2 q) X3 N3 (by rw [e3]; exact Nat.le_trans Z0 K2.1) (by rw [e3]; exact C.keep K2 S d) (by rw [e3]; exact S2) (by omega) (by omega)
     rw [e3] at K'
     refine ⟨T', L', Ls', eS X' (by omega) (by omega), N', eV K2 K' (fun x hx => hx), S', ok', fl', fun target kt => st1 _ (st2 _ (st3 _ (st' _ kt)))⟩
   · have eqk : bI b n vs cnt (k + 1) i st = ((cB b n (cP.getD i 0) vs cnt 0 st).1, 1, (cB b n (cP.getD i 0) vs cnt 0 st).2.2) := by rw [bI, if_neg q]
     rw [eqk] at hc hs ⊢
     dsimp only at hc hs ⊢
     rw [if_neg q] at st2
     exact ⟨T2, L2, _, X2, N2, K2, S2, fun r => absurd r (by decide), Or.inr rfl, fun target kt => st1 _ (st2 _ kt)⟩
theorem aH5 (l : Launch) (Z : State) (a0 : Array Value) (hw : oH a0 Z) (ws : List Jvm.Cond) (rc rs : Nat) (o0 o1 : Addr) (cnt : Nat) (o3 ch bs wd o4 : Addr) (b n : Int32) (us : Value) (st : fC) (vs : List Int32) (nn : Nat) (h0 : Heap) (n0 : Nat) (Z0 : n0 ≤ h0.size)
   (SR : Sta Z h0 oC0 "START_ROWS" "[I" (.ref o4)) (C : jU Z h0 o0 o1 o4 b (Int32.ofNat nn) vs) (S : dQ Z h0 o3 ch bs wd n us st) (D : kV n0 o3 ch bs wd) (d : rZ o0 o1 o4 o3 ch bs wd) (hvs : hY vs) (hcn : cnt ≤ nn) (hnn : nn < 1000) (hok : hQ n st) (hc : 2 * (bI b n vs cnt 10 0 st).2.2 ≤ rc) (hs : 11 * (bI b n vs cnt 10 0 st).2.2 ≤ rs) :
   oMet l oM8 prog_29_method_10_code 10 (some .boolean) ws (oR 6 rc rs 140) Z h0 #[(.ref o0), (.ref o1), (.int (Int32.ofNat cnt)), (.ref o3)] (aC4 Z o3 ch bs wd n us (bI b n vs cnt 10 0 st).1 (bI b n vs cnt 10 0 st).2.1 h0 n0) := by
 refine oBd n0 (plainFor_of_name eC) ?_
 intro p e s m below meth c s₁ Bd hx hZ hby hml hown hnm X0 e0 N0
 obtain ⟨T1, L1, X1, N1, e1, st1⟩ := aV1 (o0_ := o0) (o1_ := o1) (i2_ := Int32.ofNat cnt) (o3_ := o3) (w_START_ROWS := o4) (n_w_START_ROWS := 10) (vs_w_START_ROWS := cP) rc rs X0 hx hZ hw hby hml hown e0 N0 Z0 SR C.2.2.2.1 (by omega) (by omega)
 obtain ⟨T2, L2, Ls2, X2, N2, K2, S2, ok2, fl2, st2⟩ := aH4 (us := us) hx hZ hw hby hml hown D d hvs hcn hnn 10 0 st .unset .unset .unset T1 L1 0 0 (by omega) (Or.inl rfl) (Or.inl rfl) (Or.inl rfl) hok X1 N1 (by rw [e1]; exact Z0) (by rw [e1]; exact C) (by rw [e1]; exact S) (by omega) (by omega)
 rw [e1] at K2
 rcases fl2 with q | q
 · rw [q] at st2 ⊢
   obtain ⟨fs, hr, hrun, hended, hW, hsame⟩ := X2.leave (v := some (.int 0)) (fun h => by rw [Bd.returns] at h; cases h)
   refine ⟨_, _, castTop (zL m o0 o1 (Int32.ofNat cnt) o3) (st1 _ (st2 _ ?_)), hrun, hended, _, _, rfl, ⟨rfl, N2, K2, S2⟩, ⟨_, rfl⟩, hW, hsame.mono (show 0 + 2 * (bI b n vs cnt 10 0 st).2.2 ≤ rc by omega) (show 0 + 11 * (bI b n vs cnt 10 0 st).2.2 ≤ rs by omega)⟩
   show oZ p e below T2 (mkF m 77 Ls2 []) _
   refine XS.iconst X2.here hx rfl (oG hby d21 39 rfl) ?_
   show oZ p e below T2 (mkF m 78 Ls2 [(.int 0)]) _
   exact retN X2 hx (t := .boolean) Bd.returns (by simp) (oG hby d21 40 rfl) hr
 · rw [q] at st2 ⊢
   obtain ⟨fs, hr, hrun, hended, hW, hsame⟩ := X2.leave (v := some (.int 1)) (fun h => by rw [Bd.returns] at h; cases h)
   refine ⟨_, _, castTop (zL m o0 o1 (Int32.ofNat cnt) o3) (st1 _ (st2 _ ?_)), hrun, hended, _, _, rfl, ⟨rfl, N2, K2, S2⟩, ⟨_, rfl⟩, hW, hsame.mono (show 0 + 2 * (bI b n vs cnt 10 0 st).2.2 ≤ rc by omega) (show 0 + 11 * (bI b n vs cnt 10 0 st).2.2 ≤ rs by omega)⟩
   show oZ p e below T2 (mkF m 63 Ls2 []) _
   refine XS.iconst X2.here hx rfl (oG hby d21 33 rfl) ?_
   show oZ p e below T2 (mkF m 64 Ls2 [(.int 1)]) _
   exact retN X2 hx (t := .boolean) Bd.returns (by simp) (oG hby d21 34 rfl) hr
end OwnOuter

section OwnRounds
variable {Z : State} {h h' : Heap} {n0 : Nat} {o0 o1 o4 sp ch bs wd : Addr} {b nn n : Int32} {vs : List Int32} {us : Value} {st : fC} {cnt : Nat}
def oD (Z : State) (h : Heap) (n0 : Nat) (o0 o1 o4 sp ch bs wd : Addr) (b : Int32) (vs : List Int32) (cnt : Nat) : Prop :=
 Sta Z h oC0 "START_ROWS" "[I" (.ref o4) ∧ jU Z h o0 o1 o4 b (Int32.ofNat cnt) vs ∧ kV n0 sp ch bs wd ∧ rZ o0 o1 o4 sp ch bs wd ∧ hY vs ∧ cnt < 1000
theorem oD.keep (X : oD Z h n0 o0 o1 o4 sp ch bs wd b vs cnt) (K : Keep h h' [sp, ch, bs, wd]) (S : dQ Z h sp ch bs wd n us st) : oD Z h' n0 o0 o1 o4 sp ch bs wd b vs cnt :=
 ⟨fM X.1 K S.ns, X.2.1.keep K S X.2.2.2.1, X.2.2⟩
theorem xS (l : Launch) (Z : State) (a0 : Array Value) (hw : oH a0 Z) (ws : List Jvm.Cond) (o0 o1 : Addr) (p2 : Int32) (o3 ch bs wd : Addr) (n : Int32) (us : Value) (st : fC) (o4 : Addr) (b : Int32) (vs : List Int32) (cnt : Nat) (h0 : Heap) (n0 : Nat) (Z0 : n0 ≤ h0.size)
   (S : dQ Z h0 o3 ch bs wd n us st) (Y : oD Z h0 n0 o0 o1 o4 o3 ch bs wd b vs cnt) (hok : hQ n st) (hp : p2 = Int32.ofNat cnt) :
   oMet l oM8 prog_29_method_10_code 10 (some .boolean) ws (oR 6 (2 * (bI b n vs cnt 10 0 st).2.2) (11 * (bI b n vs cnt 10 0 st).2.2) 140) Z h0 #[(.ref o0), (.ref o1), (.int p2), (.ref o3)] (aC4 Z o3 ch bs wd n us (bI b n vs cnt 10 0 st).1 (bI b n vs cnt 10 0 st).2.1 h0 n0) := by
 subst hp
 exact aH5 l Z a0 hw ws _ _ o0 o1 cnt o3 ch bs wd o4 b n us st vs cnt h0 n0 Z0 Y.1 Y.2.1 S Y.2.2.1 Y.2.2.2.1 Y.2.2.2.2.1 (Nat.le_refl _) Y.2.2.2.2.2 hok (Nat.le_refl _) (Nat.le_refl _)
end OwnRounds

theorem aN5 (o0_ : Addr) (o1_ : Addr) (j2_ : Int64) 
   (X0 : Stand p l e (oR 0 0 0 0) s m args below meth c T0 locs cells slots) (hx : p.tables.exec = Jvm.exec) (hZ : Z.Warmed39 s.vm) (hw : oH a0 Z) (hby : c.code = prog_29_method_11_code) (hml : c.maxLocals = 8) (hown : s.vm.findClass oC0 = some m.cls) (e0 : T0.heap = h0) (N0 : Fr n0 locs) (Z0 : n0 ≤ h0.size) (hc : cells + (0) ≤ 0) (hs : slots + (0) ≤ 0) :
   ∃ (T' : State) (locs' : List Loc), Stand p l e (oR 0 0 0 0) s m args below meth c T' locs' cells slots ∧ Fr n0 locs' ∧ T'.heap = h0 ∧
     ∀ target, Steps p.tables e below (T'.setTop (mkF m 6 #[oA o0_, oA o1_, oJ j2_, .second, oI 0, oJ 0, .second, .unset] [])) target → Steps p.tables e below (T0.setTop (mkF m 0 #[oA o0_, oA o1_, oJ j2_, .second, .unset, .unset, .unset, .unset] [])) target := by
 refine ⟨T0, _, X0, N0, e0, fun target kt => ?_⟩
 show oZ p e below T0 (mkF m 0 #[oA o0_, oA o1_, oJ j2_, .second, .unset, .unset, .unset, .unset] []) _
 refine XS.iconst X0.here hx rfl (oG hby d16 0 rfl) ?_
 refine XS.istore X0.here hx rfl (oG hby d16 1 rfl) rfl (l' := #[oA o0_, oA o1_, oJ j2_, .second, oI 0, .unset, .unset, .unset]) rfl ?_
 refine XS.lconst X0.here hx rfl (oG hby d16 2 rfl) ?_
 show oZ p e below T0 (mkF m 4 #[oA o0_, oA o1_, oJ j2_, .second, oI 0, .unset, .unset, .unset] [(.long 0)]) _
 refine XS.lstore X0.here hx rfl (oG hby d16 3 rfl) rfl (l' := #[oA o0_, oA o1_, oJ j2_, .second, oI 0, oJ 0, .second, .unset]) rfl ?_
 exact kt
theorem aN6 (o0_ : Addr) (o1_ : Addr) (j2_ : Int64) (i4_ : Int32) (j5_ : Int64) (s7_ : Slot) (dG : Int32) (aU : List Int32) (cM : Int32) (k_ : Int32)
   (X0 : Stand p l e (oR 0 0 0 0) s m args below meth c T0 locs cells slots) (hx : p.tables.exec = Jvm.exec) (hZ : Z.Warmed39 s.vm) (hw : oH a0 Z) (hby : c.code = prog_29_method_11_code) (hml : c.maxLocals = 8) (hown : s.vm.findClass oC0 = some m.cls) (e0 : T0.heap = h0) (N0 : Fr n0 locs) (Z0 : n0 ≤ h0.size) (fQ : bB Z h0 o1_ dG aU) (zY : (s7_ = .unset ∨ ∃ z : Int32, s7_ = oI z)) (fN : Fld Z h0 o0_ oC0 "lots" "I" (.int cM)) (hf0 : (lcmpW j5_ j2_) < (0 : Int32)) (hf1 : ¬ (i4_ < 0)) (hf2 : i4_ < dG) (hf3 : ¬ ((aU.getD (i4_).toNatClampNeg 0) = (cM - (1 : Int32)))) (hf4 : (i4_ + (1 : Int32)) = k_) (hc : cells + (0) ≤ 0) (hs : slots + (0) ≤ 0) :
   ∃ (T' : State) (locs' : List Loc), Stand p l e (oR 0 0 0 0) s m args below meth c T' locs' cells slots ∧ Fr n0 locs' ∧ T'.heap = h0 ∧
     ∀ target, Steps p.tables e below (T'.setTop (mkF m 6 #[oA o0_, oA o1_, oJ j2_, .second, oI k_, oJ (j5_ + (10 : Int64)), .second, oI (aU.getD (i4_).toNatClampNeg 0)] [])) target → Steps p.tables e below (T0.setTop (mkF m 6 #[oA o0_, oA o1_, oJ j2_, .second, oI i4_, oJ j5_, .second, s7_] [])) target := by
 obtain ⟨c1, A1, hin1, hat1⟩ := bS (j := i4_) fQ hf1 hf2
 have hat1' : c1.slots[(i4_).toNatClampNeg]? = some (.int (aU.getD (i4_).toNatClampNeg 0)) := hat1
 obtain ⟨T2, X2, e2, st2⟩ := getF X0 hx hZ hown (host := "") (Or.inl (oW hw 24 rfl)) Via.refl e0 fN (g := (mkF m 24 #[oA o0_, oA o1_, oJ j2_, .second, oI i4_, oJ j5_, .second, oI (aU.getD (i4_).toNatClampNeg 0)] [(.ref o0_), (.int (aU.getD (i4_).toNatClampNeg 0)), (.long j5_)])) rfl rfl (oG hby d16 15 rfl)
 refine ⟨T2, _, X2, N0, e2, fun target kt => ?_⟩
 show oZ p e below T0 (mkF m 6 #[oA o0_, oA o1_, oJ j2_, .second, oI i4_, oJ j5_, .second, s7_] []) _
 refine XS.lload X0.here hx rfl (oG hby d16 4 rfl) rfl ?_
 refine XS.lloadN X0.here hx rfl (oG hby d16 5 rfl) rfl ?_
 refine XS.lcmp X0.here hx rfl (oG hby d16 6 rfl) rfl ?_
 refine XS.ifNo X0.here hx rfl (oG hby d16 7 rfl) rfl ((if0 _ _).trans (tlt hf0).2.1) ?_
 refine XS.aloadN X0.here hx rfl (oG hby d16 8 rfl) rfl rfl ?_
 refine XS.iload X0.here hx rfl (oG hby d16 9 rfl) rfl ?_
 refine X0.iaload hx (j := i4_) (v := (.int (aU.getD (i4_).toNatClampNeg 0))) (by rw [e0]; exact A1.1) (State.isArrayOf_alike hZ.alike A1.2.1) A1.2.2 hin1 hat1' (g := (mkF m 16 #[oA o0_, oA o1_, oJ j2_, .second, oI i4_, oJ j5_, .second, s7_] [(.int i4_), (.ref o1_)])) rfl rfl (oG hby d16 10 rfl) _ ?_
 refine XS.istore X0.here hx rfl (oG hby d16 11 rfl) rfl (l' := #[oA o0_, oA o1_, oJ j2_, .second, oI i4_, oJ j5_, .second, oI (aU.getD (i4_).toNatClampNeg 0)]) (by rcases zY with rfl | ⟨_, rfl⟩ <;> rfl) ?_
 refine XS.lload X0.here hx rfl (oG hby d16 12 rfl) rfl ?_
 refine XS.iload X0.here hx rfl (oG hby d16 13 rfl) rfl ?_
 refine XS.aloadN X0.here hx rfl (oG hby d16 14 rfl) rfl rfl ?_
 show oZ p e below T0 (mkF m 24 #[oA o0_, oA o1_, oJ j2_, .second, oI i4_, oJ j5_, .second, oI (aU.getD (i4_).toNatClampNeg 0)] [(.ref o0_), (.int (aU.getD (i4_).toNatClampNeg 0)), (.long j5_)]) _
 refine st2 _ ?_
 refine XS.iconst X2.here hx rfl (oG hby d16 16 rfl) ?_
 refine XS.isub X2.here hx rfl (oG hby d16 17 rfl) rfl ?_
 refine XS.icmpYes X2.here hx rfl (pc0 := 29) (pc' := 48) rfl (oG hby d16 18 rfl) rfl (feq hf3).2 (by decide) (by decide) ?_
 refine X2.ldc2Long hx hown (mvT hZ (oW hw 89 rfl)) (g := (mkF m 48 #[oA o0_, oA o1_, oJ j2_, .second, oI i4_, oJ j5_, .second, oI (aU.getD (i4_).toNatClampNeg 0)] [(.long j5_)])) rfl (oG hby d16 28 rfl) _ ?_
 refine XS.ladd X2.here hx rfl (oG hby d16 29 rfl) rfl ?_
 refine XS.lstore X2.here hx rfl (oG hby d16 30 rfl) rfl (l' := #[oA o0_, oA o1_, oJ j2_, .second, oI i4_, oJ (j5_ + (10 : Int64)), .second, oI (aU.getD (i4_).toNatClampNeg 0)]) rfl ?_
 refine XS.iinc X2.here hx rfl (oG hby d16 31 rfl) rfl (l' := #[oA o0_, oA o1_, oJ j2_, .second, oI (i4_ + (1 : Int32)), oJ (j5_ + (10 : Int64)), .second, oI (aU.getD (i4_).toNatClampNeg 0)]) rfl ?_
 show oZ p e below T2 (mkF m 57 #[oA o0_, oA o1_, oJ j2_, .second, oI (i4_ + (1 : Int32)), oJ (j5_ + (10 : Int64)), .second, oI (aU.getD (i4_).toNatClampNeg 0)] []) _
 rw [hf4]
 refine XS.goto X2.here hx rfl (pc0 := 57) (pc' := 6) rfl (oG hby d16 32 rfl) (by decide) (by decide) ?_
 exact kt
theorem aN7 (o0_ : Addr) (o1_ : Addr) (j2_ : Int64) (i4_ : Int32) (j5_ : Int64) (s7_ : Slot) (dG : Int32) (aU : List Int32) (cM : Int32) (aE : Int32) (k_ : Int32)
   (X0 : Stand p l e (oR 0 0 0 0) s m args below meth c T0 locs cells slots) (hx : p.tables.exec = Jvm.exec) (hZ : Z.Warmed39 s.vm) (hw : oH a0 Z) (hby : c.code = prog_29_method_11_code) (hml : c.maxLocals = 8) (hown : s.vm.findClass oC0 = some m.cls) (e0 : T0.heap = h0) (N0 : Fr n0 locs) (Z0 : n0 ≤ h0.size) (fQ : bB Z h0 o1_ dG aU) (zY : (s7_ = .unset ∨ ∃ z : Int32, s7_ = oI z)) (fN : Fld Z h0 o0_ oC0 "lots" "I" (.int cM)) (cU : Fld Z h0 o0_ oC0 "backends" "I" (.int aE)) (hf0 : (lcmpW j5_ j2_) < (0 : Int32)) (hf1 : ¬ (i4_ < 0)) (hf2 : i4_ < dG) (hf3 : (aU.getD (i4_).toNatClampNeg 0) = (cM - (1 : Int32))) (hf4 : (i4_ + (1 : Int32)) = k_) (hc : cells + (0) ≤ 0) (hs : slots + (0) ≤ 0) :
   ∃ (T' : State) (locs' : List Loc), Stand p l e (oR 0 0 0 0) s m args below meth c T' locs' cells slots ∧ Fr n0 locs' ∧ T'.heap = h0 ∧
     ∀ target, Steps p.tables e below (T'.setTop (mkF m 6 #[oA o0_, oA o1_, oJ j2_, .second, oI k_, oJ (j5_ + ((aE.toInt64) - (((aU.getD (i4_).toNatClampNeg 0).toInt64) * (10 : Int64)))), .second, oI (aU.getD (i4_).toNatClampNeg 0)] [])) target → Steps p.tables e below (T0.setTop (mkF m 6 #[oA o0_, oA o1_, oJ j2_, .second, oI i4_, oJ j5_, .second, s7_] [])) target := by
 obtain ⟨c1, A1, hin1, hat1⟩ := bS (j := i4_) fQ hf1 hf2
 have hat1' : c1.slots[(i4_).toNatClampNeg]? = some (.int (aU.getD (i4_).toNatClampNeg 0)) := hat1
 obtain ⟨T2, X2, e2, st2⟩ := getF X0 hx hZ hown (host := "") (Or.inl (oW hw 24 rfl)) Via.refl e0 fN (g := (mkF m 24 #[oA o0_, oA o1_, oJ j2_, .second, oI i4_, oJ j5_, .second, oI (aU.getD (i4_).toNatClampNeg 0)] [(.ref o0_), (.int (aU.getD (i4_).toNatClampNeg 0)), (.long j5_)])) rfl rfl (oG hby d16 15 rfl)
 obtain ⟨T3, X3, e3, st3⟩ := getF X2 hx hZ hown (host := "") (Or.inl (oW hw 20 rfl)) Via.refl e2 cU (g := (mkF m 33 #[oA o0_, oA o1_, oJ j2_, .second, oI i4_, oJ j5_, .second, oI (aU.getD (i4_).toNatClampNeg 0)] [(.ref o0_), (.long j5_)])) rfl rfl (oG hby d16 20 rfl)
 refine ⟨T3, _, X3, N0, e3, fun target kt => ?_⟩
 show oZ p e below T0 (mkF m 6 #[oA o0_, oA o1_, oJ j2_, .second, oI i4_, oJ j5_, .second, s7_] []) _
 refine XS.lload X0.here hx rfl (oG hby d16 4 rfl) rfl ?_
 refine XS.lloadN X0.here hx rfl (oG hby d16 5 rfl) rfl ?_
 refine XS.lcmp X0.here hx rfl (oG hby d16 6 rfl) rfl ?_
 refine XS.ifNo X0.here hx rfl (oG hby d16 7 rfl) rfl ((if0 _ _).trans (tlt hf0).2.1) ?_
 refine XS.aloadN X0.here hx rfl (oG hby d16 8 rfl) rfl rfl ?_
 refine XS.iload X0.here hx rfl (oG hby d16 9 rfl) rfl ?_
 refine X0.iaload hx (j := i4_) (v := (.int (aU.getD (i4_).toNatClampNeg 0))) (by rw [e0]; exact A1.1) (State.isArrayOf_alike hZ.alike A1.2.1) A1.2.2 hin1 hat1' (g := (mkF m 16 #[oA o0_, oA o1_, oJ j2_, .second, oI i4_, oJ j5_, .second, s7_] [(.int i4_), (.ref o1_)])) rfl rfl (oG hby d16 10 rfl) _ ?_
 refine XS.istore X0.here hx rfl (oG hby d16 11 rfl) rfl (l' := #[oA o0_, oA o1_, oJ j2_, .second, oI i4_, oJ j5_, .second, oI (aU.getD (i4_).toNatClampNeg 0)]) (by rcases zY with rfl | ⟨_, rfl⟩ <;> rfl) ?_
 refine XS.lload X0.here hx rfl (oG hby d16 12 rfl) rfl ?_
 refine XS.iload X0.here hx rfl (oG hby d16 13 rfl) rfl ?_
 refine XS.aloadN X0.here hx rfl (oG hby d16 14 rfl) rfl rfl ?_
 show oZ p e below T0 (mkF m 24 #[oA o0_, oA o1_, oJ j2_, .second, oI i4_, oJ j5_, .second, oI (aU.getD (i4_).toNatClampNeg 0)] [(.ref o0_), (.int (aU.getD (i4_).toNatClampNeg 0)), (.long j5_)]) _
 refine st2 _ ?_
 refine XS.iconst X2.here hx rfl (oG hby d16 16 rfl) ?_
 refine XS.isub X2.here hx rfl (oG hby d16 17 rfl) rfl ?_
 refine XS.icmpNo X2.here hx rfl (oG hby d16 18 rfl) rfl (teq hf3).2 ?_
 refine XS.aloadN X2.here hx rfl (oG hby d16 19 rfl) rfl rfl ?_
 refine st3 _ ?_
 refine XS.i2l X3.here hx rfl (oG hby d16 21 rfl) rfl ?_
 refine XS.iload X3.here hx rfl (oG hby d16 22 rfl) rfl ?_
 refine XS.i2l X3.here hx rfl (oG hby d16 23 rfl) rfl ?_
 refine X3.ldc2Long hx hown (mvT hZ (oW hw 89 rfl)) (g := (mkF m 40 #[oA o0_, oA o1_, oJ j2_, .second, oI i4_, oJ j5_, .second, oI (aU.getD (i4_).toNatClampNeg 0)] [(.long ((aU.getD (i4_).toNatClampNeg 0).toInt64)), (.long (aE.toInt64)), (.long j5_)])) rfl (oG hby d16 24 rfl) _ ?_
 refine XS.lmul X3.here hx rfl (oG hby d16 25 rfl) rfl ?_
 show oZ p e below T3 (mkF m 44 #[oA o0_, oA o1_, oJ j2_, .second, oI i4_, oJ j5_, .second, oI (aU.getD (i4_).toNatClampNeg 0)] [(.long (((aU.getD (i4_).toNatClampNeg 0).toInt64) * (10 : Int64))), (.long (aE.toInt64)), (.long j5_)]) _
 refine XS.lsub X3.here hx rfl (oG hby d16 26 rfl) rfl ?_
 refine XS.goto X3.here hx rfl (pc0 := 45) (pc' := 51) rfl (oG hby d16 27 rfl) (by decide) (by decide) ?_
 refine XS.ladd X3.here hx rfl (oG hby d16 29 rfl) rfl ?_
 refine XS.lstore X3.here hx rfl (oG hby d16 30 rfl) rfl (l' := #[oA o0_, oA o1_, oJ j2_, .second, oI i4_, oJ (j5_ + ((aE.toInt64) - (((aU.getD (i4_).toNatClampNeg 0).toInt64) * (10 : Int64)))), .second, oI (aU.getD (i4_).toNatClampNeg 0)]) rfl ?_
 refine XS.iinc X3.here hx rfl (oG hby d16 31 rfl) rfl (l' := #[oA o0_, oA o1_, oJ j2_, .second, oI (i4_ + (1 : Int32)), oJ (j5_ + ((aE.toInt64) - (((aU.getD (i4_).toNatClampNeg 0).toInt64) * (10 : Int64)))), .second, oI (aU.getD (i4_).toNatClampNeg 0)]) rfl ?_
 show oZ p e below T3 (mkF m 57 #[oA o0_, oA o1_, oJ j2_, .second, oI (i4_ + (1 : Int32)), oJ (j5_ + ((aE.toInt64) - (((aU.getD (i4_).toNatClampNeg 0).toInt64) * (10 : Int64)))), .second, oI (aU.getD (i4_).toNatClampNeg 0)] []) _
 rw [hf4]
 refine XS.goto X3.here hx rfl (pc0 := 57) (pc' := 6) rfl (oG hby d16 32 rfl) (by decide) (by decide) ?_
 exact kt
theorem aN8 (o0_ : Addr) (o1_ : Addr) (j2_ : Int64) (i4_ : Int32) (j5_ : Int64) (s7_ : Slot) 
   (X0 : Stand p l e (oR 0 0 0 0) s m args below meth c T0 locs cells slots) (hx : p.tables.exec = Jvm.exec) (hZ : Z.Warmed39 s.vm) (hw : oH a0 Z) (hby : c.code = prog_29_method_11_code) (hml : c.maxLocals = 8) (hown : s.vm.findClass oC0 = some m.cls) (e0 : T0.heap = h0) (N0 : Fr n0 locs) (Z0 : n0 ≤ h0.size) (hf0 : ¬ ((lcmpW j5_ j2_) < (0 : Int32))) (hc : cells + (0) ≤ 0) (hs : slots + (0) ≤ 0) :
   ∃ (T' : State) (locs' : List Loc), Stand p l e (oR 0 0 0 0) s m args below meth c T' locs' cells slots ∧ Fr n0 locs' ∧ T'.heap = h0 ∧
     ∀ target, Steps p.tables e below (T'.setTop (mkF m 60 #[oA o0_, oA o1_, oJ j2_, .second, oI i4_, oJ j5_, .second, s7_] [])) target → Steps p.tables e below (T0.setTop (mkF m 6 #[oA o0_, oA o1_, oJ j2_, .second, oI i4_, oJ j5_, .second, s7_] [])) target := by
 refine ⟨T0, _, X0, N0, e0, fun target kt => ?_⟩
 show oZ p e below T0 (mkF m 6 #[oA o0_, oA o1_, oJ j2_, .second, oI i4_, oJ j5_, .second, s7_] []) _
 refine XS.lload X0.here hx rfl (oG hby d16 4 rfl) rfl ?_
 refine XS.lloadN X0.here hx rfl (oG hby d16 5 rfl) rfl ?_
 refine XS.lcmp X0.here hx rfl (oG hby d16 6 rfl) rfl ?_
 refine XS.ifYes X0.here hx rfl (pc0 := 10) (pc' := 60) rfl (oG hby d16 7 rfl) rfl ((if0 _ _).trans (flt hf0).2.1) (by decide) (by decide) ?_
 exact kt
section OwnHold
def aZ7 (h0 : Heap) (n0 : Nat) (v : Option Value) (h : Heap) (L : List Loc) : Prop := ∃ z : Int32, v = some (.int z) ∧ Fr n0 L ∧ Keep h0 h []
def rA (b L : Int32) (vs : List Int32) (w : Int64) : Nat → Nat → Int64 → Bool
 | 0, _, x => decide (¬ (x < w))
 | k + 1, i, x => if x < w then rA b L vs w k (i + 1) (if vs.getD i 0 = L - 1 then x + (b.toInt64 - ((vs.getD i 0).toInt64 * 10)) else x + 10) else true
theorem aN9 {p : Program} {l : Launch} {e : Env} {s : State} {m : MethodId} {args : Array Value} {below : List Frame} {meth : Method} {c : Code} {Z : State} {a0 : Array Value} {h0 : Heap} {n0 : Nat} {o0 o1 : Addr} {b L : Int32} {w : Int64} {vs : List Int32} {cnt : Nat}
   (hx : p.tables.exec = Jvm.exec) (hZ : Z.Warmed39 s.vm) (hw : oH a0 Z) (hby : c.code = prog_29_method_11_code) (hml : c.maxLocals = 8) (hown : s.vm.findClass oC0 = some m.cls) (Z0 : n0 ≤ h0.size)
   (A : bB Z h0 o1 (Int32.ofNat cnt) vs) (F1 : Fld Z h0 o0 oC0 "lots" "I" (.int L)) (F2 : Fld Z h0 o0 oC0 "backends" "I" (.int b)) (hc : cnt < 1000) :
   ∀ (k i : Nat) (x : Int64) (s7 : Slot) (T0 : State) (locs : List Loc), i + k = cnt → (s7 = .unset ∨ ∃ z : Int32, s7 = oI z) → rA b L vs w k i x = true →
     Stand p l e (oR 0 0 0 0) s m args below meth c T0 locs 0 0 → Fr n0 locs → T0.heap = h0 →
     ∃ (T' : State) (locs' : List Loc) (i' : Int32) (x' : Int64) (s7' : Slot), Stand p l e (oR 0 0 0 0) s m args below meth c T' locs' 0 0 ∧ Fr n0 locs' ∧ T'.heap = h0 ∧
     ∀ target, Steps p.tables e below (T'.setTop (mkF m 60 #[oA o0, oA o1, oJ w, .second, oI i', oJ x', .second, s7'] [])) target →
       Steps p.tables e below (T0.setTop (mkF m 6 #[oA o0, oA o1, oJ w, .second, oI (Int32.ofNat i), oJ x, .second, s7] [])) target := by
 have out : ∀ (i : Nat) (x : Int64) (s7 : Slot) (T0 : State) (locs : List Loc), ¬ (x < w) → 
     Stand p l e (oR 0 0 0 0) s m args below meth c T0 locs 0 0 → Fr n0 locs → T0.heap = h0 →
     ∃ (T' : State) (locs' : List Loc) (i' : Int32) (x' : Int64) (s7' : Slot), Stand p l e (oR 0 0 0 0) s m args below meth c T' locs' 0 0 ∧ Fr n0 locs' ∧ T'.heap = h0 ∧
     ∀ target, Steps p.tables e below (T'.setTop (mkF m 60 #[oA o0, oA o1, oJ w, .second, oI i', oJ x', .second, s7'] [])) target →
       Steps p.tables e below (T0.setTop (mkF m 6 #[oA o0, oA o1, oJ w, .second, oI (Int32.ofNat i), oJ x, .second, s7] [])) target := by
   intro i x s7 T0 locs q X N e0
   obtain ⟨T', L', X', N', e', st'⟩ := aN8 (o0_ := o0) (o1_ := o1) (j2_ := w) (i4_ := Int32.ofNat i) (j5_ := x) (s7_ := s7) X hx hZ hw hby hml hown e0 N Z0 (fun r => q ((pN _ _).mp r)) (by omega) (by omega)
   exact ⟨T', L', _, _, _, X', N', e', st'⟩
 intro k
 induction k with
 | zero =>
   intro i x s7 T0 locs hik h7 hh X N e0
   exact out i x s7 T0 locs (by simpa [rA] using hh) X N e0
 | succ k ih =>
   intro i x s7 T0 locs hik h7 hh X N e0
   by_cases q : x < w
   · have hi : i < 2 ^ 31 := by omega
     have hf2 := eP hi
     have hf3 := dV (i := i) (c := cnt) (by omega) (by omega)
     have hv : vs.getD (Int32.ofNat i).toNatClampNeg 0 = vs.getD i 0 := by rw [eQ hi]
     rw [rA, if_pos q] at hh
     by_cases q2 : vs.getD i 0 = L - 1
     · rw [if_pos q2] at hh
       obtain ⟨T1, L1, X1, N1, e1, st1⟩ := aN7 (o0_ := o0) (o1_ := o1) (j2_ := w) (i4_ := Int32.ofNat i) (j5_ := x) (s7_ := s7) (dG := Int32.ofNat cnt) (aU := vs) (cM := L) (aE := b) (k_ := Int32.ofNat (i + 1)) X hx hZ hw hby hml hown e0 N Z0 A h7 F1 F2 ((pN _ _).mpr q) hf2 hf3 (by rw [hv]; exact q2) (bW i) (by omega) (by omega)
       rw [hv] at st1
       obtain ⟨T', L', i', x', s7', X', N', e', st'⟩ := ih (i + 1) _ (oI (vs.getD i 0)) T1 L1 (by omega) (Or.inr ⟨_, rfl⟩) hh X1 N1 e1
       exact ⟨T', L', i', x', s7', X', N', e', fun target kt => st1 _ (st' _ kt)⟩
     · rw [if_neg q2] at hh
       obtain ⟨T1, L1, X1, N1, e1, st1⟩ := aN6 (o0_ := o0) (o1_ := o1) (j2_ := w) (i4_ := Int32.ofNat i) (j5_ := x) (s7_ := s7) (dG := Int32.ofNat cnt) (aU := vs) (cM := L) (k_ := Int32.ofNat (i + 1)) X hx hZ hw hby hml hown e0 N Z0 A h7 F1 ((pN _ _).mpr q) hf2 hf3 (by rw [hv]; exact q2) (bW i) (by omega) (by omega)
       rw [hv] at st1
       obtain ⟨T', L', i', x', s7', X', N', e', st'⟩ := ih (i + 1) _ (oI (vs.getD i 0)) T1 L1 (by omega) (Or.inr ⟨_, rfl⟩) hh X1 N1 e1
       exact ⟨T', L', i', x', s7', X', N', e', fun target kt => st1 _ (st' _ kt)⟩
   · exact out i x s7 T0 locs q X N e0
theorem aV6 (l : Launch) (Z : State) (a0 : Array Value) (hw : oH a0 Z) (ws : List Jvm.Cond) (o0 o1 : Addr) (w : Int64) (b L : Int32) (vs : List Int32) (n1 : Int32) (cnt : Nat) (h0 : Heap) (n0 : Nat) (Z0 : n0 ≤ h0.size)
   (A : bB Z h0 o1 n1 vs) (F1 : Fld Z h0 o0 oC0 "lots" "I" (.int L)) (F2 : Fld Z h0 o0 oC0 "backends" "I" (.int b)) (hn : n1 = Int32.ofNat cnt) (hc : cnt < 1000) (hh : rA b L vs w cnt 0 0 = true) :
   oMet l oM31 prog_29_method_11_code 8 (some .int) ws (oR 0 0 0 0) Z h0 #[(.ref o0), (.ref o1), (.long w)] (aZ7 h0 n0) := by
 subst hn
 refine oBd n0 (plainFor_of_name eC) ?_
 intro p e s m below meth c s₁ Bd hx hZ hby hml hown hnm X0 e0 N0
 obtain ⟨T1, L1, X1, N1, e1, st1⟩ := aN5 (o0_ := o0) (o1_ := o1) (j2_ := w) X0 hx hZ hw hby hml hown e0 N0 Z0 (by omega) (by omega)
 obtain ⟨T2, L2, i2, x2, s2, X2, N2, e2, st2⟩ := aN9 (b := b) (L := L) (w := w) hx hZ hw hby hml hown Z0 A F1 F2 hc cnt 0 0 .unset T1 L1 (by omega) (Or.inl rfl) hh X1 N1 e1
 obtain ⟨fs, hr, hrun, hended, hW, hsame⟩ := X2.leave (v := some (.int i2)) (fun h => by rw [Bd.returns] at h; cases h)
 refine ⟨_, _, castTop (aK6 m o0 o1 w) (st1 _ (st2 _ ?_)), hrun, hended, _, _, rfl, ⟨i2, rfl, N2, ?_⟩, ⟨_, rfl⟩, hW, hsame.mono (by decide) (by decide)⟩
 · refine XS.iload X2.here hx rfl (oG hby d16 33 rfl) rfl ?_
   show oZ p e below T2 (mkF m 62 #[oA o0, oA o1, oJ w, .second, oI i2, oJ x2, .second, s2] [(.int i2)]) _
   exact retI X2 hx Bd.returns (oG hby d16 34 rfl) hr
 · show Keep h0 T2.heap []
   rw [e2]; exact Keep.refl _ _
end OwnHold

def mI (p0_ : Int32) : Int32 := ((((p0_ <<< ((24 : Int32) &&& 31)) ||| ((p0_ &&& (65280 : Int32)) <<< ((8 : Int32) &&& 31))) ||| ((aL p0_ (8 : Int32)) &&& (65280 : Int32))) ||| (aL p0_ (24 : Int32)))
theorem aH6 (l : Launch) (Z : State) (a0 : Array Value) (hw : oH a0 Z) (ws : List Jvm.Cond) (p0_ : Int32) (h0 : Heap) (n0 : Nat) (Z0 : n0 ≤ h0.size) :
   oMet l oM38 jdk_33_method_57_code 1 (some .int) ws (oR 0 0 0 0) Z h0 #[(.int p0_)] (cD (some (.int (mI p0_))) h0 n0) := by
 refine oBd n0 (plainFor_of_name rH) ?_
 intro p e s m below meth c s₁ Bd hx hZ hby hml hown hnm X0 e0 N0
 obtain ⟨fs, hr, hrun, hended, hW, hsame⟩ := X0.leave (v := some (.int ((((p0_ <<< ((24 : Int32) &&& 31)) ||| ((p0_ &&& (65280 : Int32)) <<< ((8 : Int32) &&& 31))) ||| ((aL p0_ (8 : Int32)) &&& (65280 : Int32))) ||| (aL p0_ (24 : Int32))))) (fun h => by rw [Bd.returns] at h; cases h)
 refine ⟨_, _, castTop (aK7 m p0_) ?_, hrun, hended, _, _, rfl, ?_, ⟨_, rfl⟩, hW, (hsame.mono (by decide) (by decide))⟩
 · show oZ p e below s₁ (mkF m 0 #[oI p0_] []) _
   refine XS.iloadN X0.here hx rfl (oG hby d13 0 rfl) rfl ?_
   refine XS.bipush X0.here hx rfl (oG hby d13 1 rfl) ?_
   refine XS.ishl X0.here hx rfl (oG hby d13 2 rfl) rfl ?_
   refine XS.iloadN X0.here hx rfl (oG hby d13 3 rfl) rfl ?_
   refine X0.ldcwInt hx hown (mvT hZ (oW hw 79 rfl)) (g := (mkF m 5 #[oI p0_] [(.int p0_), (.int (p0_ <<< ((24 : Int32) &&& 31)))])) rfl (oG hby d13 4 rfl) _ ?_
   refine XS.iand X0.here hx rfl (oG hby d13 5 rfl) rfl ?_
   refine XS.bipush X0.here hx rfl (oG hby d13 6 rfl) ?_
   refine XS.ishl X0.here hx rfl (oG hby d13 7 rfl) rfl ?_
   refine XS.ior X0.here hx rfl (oG hby d13 8 rfl) rfl ?_
   refine XS.iloadN X0.here hx rfl (oG hby d13 9 rfl) rfl ?_
   refine XS.bipush X0.here hx rfl (oG hby d13 10 rfl) ?_
   show oZ p e below s₁ (mkF m 16 #[oI p0_] [(.int 8), (.int p0_), (.int ((p0_ <<< ((24 : Int32) &&& 31)) ||| ((p0_ &&& (65280 : Int32)) <<< ((8 : Int32) &&& 31))))]) _
   refine XS.iushr X0.here hx rfl (oG hby d13 11 rfl) rfl ?_
   refine X0.ldcwInt hx hown (mvT hZ (oW hw 79 rfl)) (g := (mkF m 17 #[oI p0_] [(.int (aL p0_ (8 : Int32))), (.int ((p0_ <<< ((24 : Int32) &&& 31)) ||| ((p0_ &&& (65280 : Int32)) <<< ((8 : Int32) &&& 31))))])) rfl (oG hby d13 12 rfl) _ ?_
   refine XS.iand X0.here hx rfl (oG hby d13 13 rfl) rfl ?_
   refine XS.ior X0.here hx rfl (oG hby d13 14 rfl) rfl ?_
   refine XS.iloadN X0.here hx rfl (oG hby d13 15 rfl) rfl ?_
   refine XS.bipush X0.here hx rfl (oG hby d13 16 rfl) ?_
   refine XS.iushr X0.here hx rfl (oG hby d13 17 rfl) rfl ?_
   refine XS.ior X0.here hx rfl (oG hby d13 18 rfl) rfl ?_
   show oZ p e below s₁ (mkF m 27 #[oI p0_] [(.int ((((p0_ <<< ((24 : Int32) &&& 31)) ||| ((p0_ &&& (65280 : Int32)) <<< ((8 : Int32) &&& 31))) ||| ((aL p0_ (8 : Int32)) &&& (65280 : Int32))) ||| (aL p0_ (24 : Int32))))]) _
   exact retI X0 hx Bd.returns (oG hby d13 19 rfl) hr
 · show cD (some (.int (mI p0_))) h0 n0 _ s₁.heap _
   exact ⟨rfl, N0, e0⟩
def aJ (p0_ : Int32) : Int32 := (mI (((((((((p0_ &&& (1431655765 : Int32)) <<< ((1 : Int32) &&& 31)) ||| ((aL p0_ (1 : Int32)) &&& (1431655765 : Int32))) &&& (858993459 : Int32)) <<< ((2 : Int32) &&& 31)) ||| ((aL (((p0_ &&& (1431655765 : Int32)) <<< ((1 : Int32) &&& 31)) ||| ((aL p0_ (1 : Int32)) &&& (1431655765 : Int32))) (2 : Int32)) &&& (858993459 : Int32))) &&& (252645135 : Int32)) <<< ((4 : Int32) &&& 31)) ||| ((aL ((((((p0_ &&& (1431655765 : Int32)) <<< ((1 : Int32) &&& 31)) ||| ((aL p0_ (1 : Int32)) &&& (1431655765 : Int32))) &&& (858993459 : Int32)) <<< ((2 : Int32) &&& 31)) ||| ((aL (((p0_ &&& (1431655765 : Int32)) <<< ((1 : Int32) &&& 31)) ||| ((aL p0_ (1 : Int32)) &&& (1431655765 : Int32))) (2 : Int32)) &&& (858993459 : Int32))) (4 : Int32)) &&& (252645135 : Int32))))
theorem sA (l : Launch) (Z : State) (a0 : Array Value) (hw : oH a0 Z) (ws : List Jvm.Cond) (p0_ : Int32) (h0 : Heap) (n0 : Nat) (Z0 : n0 ≤ h0.size) :
   oMet l oM30 jdk_33_method_52_code 1 (some .int) ws (oR 1 0 0 12) Z h0 #[(.int p0_)] (cD (some (.int (aJ p0_))) h0 n0) := by
 refine oBd n0 (plainFor_of_name rH) ?_
 intro p e s m below meth c s₁ Bd hx hZ hby hml hown hnm X0 e0 N0
 obtain ⟨_, _, ⟨T1, L1, k1, n1⟩, -, X1, ⟨Lc1, hQ1, l1, y1, z1⟩, st1⟩ := Jvm.LawKit.callS X0 hx (y := oM38) hown (mvT hZ (oW hw 76 rfl)) (mvT hZ (oW hw 77 rfl)) (mvT hZ (oW hw 28 rfl)) (mvT hZ (oW hw 78 rfl)) (by decide) (backOf (W := 0) (aH6 l Z a0 hw [] (((((((((p0_ &&& (1431655765 : Int32)) <<< ((1 : Int32) &&& 31)) ||| ((aL p0_ (1 : Int32)) &&& (1431655765 : Int32))) &&& (858993459 : Int32)) <<< ((2 : Int32) &&& 31)) ||| ((aL (((p0_ &&& (1431655765 : Int32)) <<< ((1 : Int32) &&& 31)) ||| ((aL p0_ (1 : Int32)) &&& (1431655765 : Int32))) (2 : Int32)) &&& (858993459 : Int32))) &&& (252645135 : Int32)) <<< ((4 : Int32) &&& 31)) ||| ((aL ((((((p0_ &&& (1431655765 : Int32)) <<< ((1 : Int32) &&& 31)) ||| ((aL p0_ (1 : Int32)) &&& (1431655765 : Int32))) &&& (858993459 : Int32)) <<< ((2 : Int32) &&& 31)) ||| ((aL (((p0_ &&& (1431655765 : Int32)) <<< ((1 : Int32) &&& 31)) ||| ((aL p0_ (1 : Int32)) &&& (1431655765 : Int32))) (2 : Int32)) &&& (858993459 : Int32))) (4 : Int32)) &&& (252645135 : Int32))) h0 n0 Z0 ) hZ (oW hw 78 rfl) (oW hw 28 rfl) (by decide) (by decide)) (g := (mkF m 49 #[oI (((((((((p0_ &&& (1431655765 : Int32)) <<< ((1 : Int32) &&& 31)) ||| ((aL p0_ (1 : Int32)) &&& (1431655765 : Int32))) &&& (858993459 : Int32)) <<< ((2 : Int32) &&& 31)) ||| ((aL (((p0_ &&& (1431655765 : Int32)) <<< ((1 : Int32) &&& 31)) ||| ((aL p0_ (1 : Int32)) &&& (1431655765 : Int32))) (2 : Int32)) &&& (858993459 : Int32))) &&& (252645135 : Int32)) <<< ((4 : Int32) &&& 31)) ||| ((aL ((((((p0_ &&& (1431655765 : Int32)) <<< ((1 : Int32) &&& 31)) ||| ((aL p0_ (1 : Int32)) &&& (1431655765 : Int32))) &&& (858993459 : Int32)) <<< ((2 : Int32) &&& 31)) ||| ((aL (((p0_ &&& (1431655765 : Int32)) <<< ((1 : Int32) &&& 31)) ||| ((aL p0_ (1 : Int32)) &&& (1431655765 : Int32))) (2 : Int32)) &&& (858993459 : Int32))) (4 : Int32)) &&& (252645135 : Int32)))] [(.int (((((((((p0_ &&& (1431655765 : Int32)) <<< ((1 : Int32) &&& 31)) ||| ((aL p0_ (1 : Int32)) &&& (1431655765 : Int32))) &&& (858993459 : Int32)) <<< ((2 : Int32) &&& 31)) ||| ((aL (((p0_ &&& (1431655765 : Int32)) <<< ((1 : Int32) &&& 31)) ||| ((aL p0_ (1 : Int32)) &&& (1431655765 : Int32))) (2 : Int32)) &&& (858993459 : Int32))) &&& (252645135 : Int32)) <<< ((4 : Int32) &&& 31)) ||| ((aL ((((((p0_ &&& (1431655765 : Int32)) <<< ((1 : Int32) &&& 31)) ||| ((aL p0_ (1 : Int32)) &&& (1431655765 : Int32))) &&& (858993459 : Int32)) <<< ((2 : Int32) &&& 31)) ||| ((aL (((p0_ &&& (1431655765 : Int32)) <<< ((1 : Int32) &&& 31)) ||| ((aL p0_ (1 : Int32)) &&& (1431655765 : Int32))) (2 : Int32)) &&& (858993459 : Int32))) (4 : Int32)) &&& (252645135 : Int32))))])) rfl (by rw [hml]; rfl) (argsL := [(.int (((((((((p0_ &&& (1431655765 : Int32)) <<< ((1 : Int32) &&& 31)) ||| ((aL p0_ (1 : Int32)) &&& (1431655765 : Int32))) &&& (858993459 : Int32)) <<< ((2 : Int32) &&& 31)) ||| ((aL (((p0_ &&& (1431655765 : Int32)) <<< ((1 : Int32) &&& 31)) ||| ((aL p0_ (1 : Int32)) &&& (1431655765 : Int32))) (2 : Int32)) &&& (858993459 : Int32))) &&& (252645135 : Int32)) <<< ((4 : Int32) &&& 31)) ||| ((aL ((((((p0_ &&& (1431655765 : Int32)) <<< ((1 : Int32) &&& 31)) ||| ((aL p0_ (1 : Int32)) &&& (1431655765 : Int32))) &&& (858993459 : Int32)) <<< ((2 : Int32) &&& 31)) ||| ((aL (((p0_ &&& (1431655765 : Int32)) <<< ((1 : Int32) &&& 31)) ||| ((aL p0_ (1 : Int32)) &&& (1431655765 : Int32))) (2 : Int32)) &&& (858993459 : Int32))) (4 : Int32)) &&& (252645135 : Int32))))]) (rest := []) (lenOf fL rfl) rfl (by show 2 * 0 + _ ≤ _; exact Nat.le_of_eq rfl) (oG hby d12 37 rfl) (fun _ _ => ⟨rfl, e0, (by decide : 0 + 0 ≤ _), (by decide : 0 + 0 ≤ _)⟩)
 dsimp only [Pt.U, Pt.locs, Pt.cells, Pt.slots] at X1 l1 y1 z1 st1 hQ1
 subst l1 y1 z1
 obtain ⟨rfl, N1q, e1⟩ := hQ1
 have N1 := Fr.app N0 N1q
 obtain ⟨fs, hr, hrun, hended, hW, hsame⟩ := X1.leave (v := some (.int (mI (((((((((p0_ &&& (1431655765 : Int32)) <<< ((1 : Int32) &&& 31)) ||| ((aL p0_ (1 : Int32)) &&& (1431655765 : Int32))) &&& (858993459 : Int32)) <<< ((2 : Int32) &&& 31)) ||| ((aL (((p0_ &&& (1431655765 : Int32)) <<< ((1 : Int32) &&& 31)) ||| ((aL p0_ (1 : Int32)) &&& (1431655765 : Int32))) (2 : Int32)) &&& (858993459 : Int32))) &&& (252645135 : Int32)) <<< ((4 : Int32) &&& 31)) ||| ((aL ((((((p0_ &&& (1431655765 : Int32)) <<< ((1 : Int32) &&& 31)) ||| ((aL p0_ (1 : Int32)) &&& (1431655765 : Int32))) &&& (858993459 : Int32)) <<< ((2 : Int32) &&& 31)) ||| ((aL (((p0_ &&& (1431655765 : Int32)) <<< ((1 : Int32) &&& 31)) ||| ((aL p0_ (1 : Int32)) &&& (1431655765 : Int32))) (2 : Int32)) &&& (858993459 : Int32))) (4 : Int32)) &&& (252645135 : Int32)))))) (fun h => by rw [Bd.returns] at h; cases h)
 refine ⟨_, _, castTop (aK8 m p0_) ?_, hrun, hended, _, _, rfl, ?_, ⟨_, rfl⟩, hW, (hsame.mono (by decide) (by decide))⟩
 · show oZ p e below s₁ (mkF m 0 #[oI p0_] []) _
   refine XS.iloadN X0.here hx rfl (oG hby d12 0 rfl) rfl ?_
   refine X0.ldcwInt hx hown (mvT hZ (oW hw 73 rfl)) (g := (mkF m 1 #[oI p0_] [(.int p0_)])) rfl (oG hby d12 1 rfl) _ ?_
   refine XS.iand X0.here hx rfl (oG hby d12 2 rfl) rfl ?_
   refine XS.iconst X0.here hx rfl (oG hby d12 3 rfl) ?_
   refine XS.ishl X0.here hx rfl (oG hby d12 4 rfl) rfl ?_
   refine XS.iloadN X0.here hx rfl (oG hby d12 5 rfl) rfl ?_
   refine XS.iconst X0.here hx rfl (oG hby d12 6 rfl) ?_
   refine XS.iushr X0.here hx rfl (oG hby d12 7 rfl) rfl ?_
   refine X0.ldcwInt hx hown (mvT hZ (oW hw 73 rfl)) (g := (mkF m 10 #[oI p0_] [(.int (aL p0_ (1 : Int32))), (.int ((p0_ &&& (1431655765 : Int32)) <<< ((1 : Int32) &&& 31)))])) rfl (oG hby d12 8 rfl) _ ?_
   refine XS.iand X0.here hx rfl (oG hby d12 9 rfl) rfl ?_
   refine XS.ior X0.here hx rfl (oG hby d12 10 rfl) rfl ?_
   show oZ p e below s₁ (mkF m 15 #[oI p0_] [(.int (((p0_ &&& (1431655765 : Int32)) <<< ((1 : Int32) &&& 31)) ||| ((aL p0_ (1 : Int32)) &&& (1431655765 : Int32))))]) _
   refine XS.istoreN X0.here hx rfl (oG hby d12 11 rfl) rfl (l' := #[oI (((p0_ &&& (1431655765 : Int32)) <<< ((1 : Int32) &&& 31)) ||| ((aL p0_ (1 : Int32)) &&& (1431655765 : Int32)))]) rfl ?_
   refine XS.iloadN X0.here hx rfl (oG hby d12 12 rfl) rfl ?_
   refine X0.ldcwInt hx hown (mvT hZ (oW hw 74 rfl)) (g := (mkF m 17 #[oI (((p0_ &&& (1431655765 : Int32)) <<< ((1 : Int32) &&& 31)) ||| ((aL p0_ (1 : Int32)) &&& (1431655765 : Int32)))] [(.int (((p0_ &&& (1431655765 : Int32)) <<< ((1 : Int32) &&& 31)) ||| ((aL p0_ (1 : Int32)) &&& (1431655765 : Int32))))])) rfl (oG hby d12 13 rfl) _ ?_
   refine XS.iand X0.here hx rfl (oG hby d12 14 rfl) rfl ?_
   refine XS.iconst X0.here hx rfl (oG hby d12 15 rfl) ?_
   refine XS.ishl X0.here hx rfl (oG hby d12 16 rfl) rfl ?_
   refine XS.iloadN X0.here hx rfl (oG hby d12 17 rfl) rfl ?_
   refine XS.iconst X0.here hx rfl (oG hby d12 18 rfl) ?_
   refine XS.iushr X0.here hx rfl (oG hby d12 19 rfl) rfl ?_
   refine X0.ldcwInt hx hown (mvT hZ (oW hw 74 rfl)) (g := (mkF m 26 #[oI (((p0_ &&& (1431655765 : Int32)) <<< ((1 : Int32) &&& 31)) ||| ((aL p0_ (1 : Int32)) &&& (1431655765 : Int32)))] [(.int (aL (((p0_ &&& (1431655765 : Int32)) <<< ((1 : Int32) &&& 31)) ||| ((aL p0_ (1 : Int32)) &&& (1431655765 : Int32))) (2 : Int32))), (.int (((((p0_ &&& (1431655765 : Int32)) <<< ((1 : Int32) &&& 31)) ||| ((aL p0_ (1 : Int32)) &&& (1431655765 : Int32))) &&& (858993459 : Int32)) <<< ((2 : Int32) &&& 31)))])) rfl (oG hby d12 20 rfl) _ ?_
   refine XS.iand X0.here hx rfl (oG hby d12 21 rfl) rfl ?_
   show oZ p e below s₁ (mkF m 30 #[oI (((p0_ &&& (1431655765 : Int32)) <<< ((1 : Int32) &&& 31)) ||| ((aL p0_ (1 : Int32)) &&& (1431655765 : Int32)))] [(.int ((aL (((p0_ &&& (1431655765 : Int32)) <<< ((1 : Int32) &&& 31)) ||| ((aL p0_ (1 : Int32)) &&& (1431655765 : Int32))) (2 : Int32)) &&& (858993459 : Int32))), (.int (((((p0_ &&& (1431655765 : Int32)) <<< ((1 : Int32) &&& 31)) ||| ((aL p0_ (1 : Int32)) &&& (1431655765 : Int32))) &&& (858993459 : Int32)) <<< ((2 : Int32) &&& 31)))]) _
   refine XS.ior X0.here hx rfl (oG hby d12 22 rfl) rfl ?_
   refine XS.istoreN X0.here hx rfl (oG hby d12 23 rfl) rfl (l' := #[oI ((((((p0_ &&& (1431655765 : Int32)) <<< ((1 : Int32) &&& 31)) ||| ((aL p0_ (1 : Int32)) &&& (1431655765 : Int32))) &&& (858993459 : Int32)) <<< ((2 : Int32) &&& 31)) ||| ((aL (((p0_ &&& (1431655765 : Int32)) <<< ((1 : Int32) &&& 31)) ||| ((aL p0_ (1 : Int32)) &&& (1431655765 : Int32))) (2 : Int32)) &&& (858993459 : Int32)))]) rfl ?_
   refine XS.iloadN X0.here hx rfl (oG hby d12 24 rfl) rfl ?_
   refine X0.ldcwInt hx hown (mvT hZ (oW hw 75 rfl)) (g := (mkF m 33 #[oI ((((((p0_ &&& (1431655765 : Int32)) <<< ((1 : Int32) &&& 31)) ||| ((aL p0_ (1 : Int32)) &&& (1431655765 : Int32))) &&& (858993459 : Int32)) <<< ((2 : Int32) &&& 31)) ||| ((aL (((p0_ &&& (1431655765 : Int32)) <<< ((1 : Int32) &&& 31)) ||| ((aL p0_ (1 : Int32)) &&& (1431655765 : Int32))) (2 : Int32)) &&& (858993459 : Int32)))] [(.int ((((((p0_ &&& (1431655765 : Int32)) <<< ((1 : Int32) &&& 31)) ||| ((aL p0_ (1 : Int32)) &&& (1431655765 : Int32))) &&& (858993459 : Int32)) <<< ((2 : Int32) &&& 31)) ||| ((aL (((p0_ &&& (1431655765 : Int32)) <<< ((1 : Int32) &&& 31)) ||| ((aL p0_ (1 : Int32)) &&& (1431655765 : Int32))) (2 : Int32)) &&& (858993459 : Int32))))])) rfl (oG hby d12 25 rfl) _ ?_
   refine XS.iand X0.here hx rfl (oG hby d12 26 rfl) rfl ?_
   refine XS.iconst X0.here hx rfl (oG hby d12 27 rfl) ?_
   refine XS.ishl X0.here hx rfl (oG hby d12 28 rfl) rfl ?_
   refine XS.iloadN X0.here hx rfl (oG hby d12 29 rfl) rfl ?_
   refine XS.iconst X0.here hx rfl (oG hby d12 30 rfl) ?_
   refine XS.iushr X0.here hx rfl (oG hby d12 31 rfl) rfl ?_
   refine X0.ldcwInt hx hown (mvT hZ (oW hw 75 rfl)) (g := (mkF m 42 #[oI ((((((p0_ &&& (1431655765 : Int32)) <<< ((1 : Int32) &&& 31)) ||| ((aL p0_ (1 : Int32)) &&& (1431655765 : Int32))) &&& (858993459 : Int32)) <<< ((2 : Int32) &&& 31)) ||| ((aL (((p0_ &&& (1431655765 : Int32)) <<< ((1 : Int32) &&& 31)) ||| ((aL p0_ (1 : Int32)) &&& (1431655765 : Int32))) (2 : Int32)) &&& (858993459 : Int32)))] [(.int (aL ((((((p0_ &&& (1431655765 : Int32)) <<< ((1 : Int32) &&& 31)) ||| ((aL p0_ (1 : Int32)) &&& (1431655765 : Int32))) &&& (858993459 : Int32)) <<< ((2 : Int32) &&& 31)) ||| ((aL (((p0_ &&& (1431655765 : Int32)) <<< ((1 : Int32) &&& 31)) ||| ((aL p0_ (1 : Int32)) &&& (1431655765 : Int32))) (2 : Int32)) &&& (858993459 : Int32))) (4 : Int32))), (.int ((((((((p0_ &&& (1431655765 : Int32)) <<< ((1 : Int32) &&& 31)) ||| ((aL p0_ (1 : Int32)) &&& (1431655765 : Int32))) &&& (858993459 : Int32)) <<< ((2 : Int32) &&& 31)) ||| ((aL (((p0_ &&& (1431655765 : Int32)) <<< ((1 : Int32) &&& 31)) ||| ((aL p0_ (1 : Int32)) &&& (1431655765 : Int32))) (2 : Int32)) &&& (858993459 : Int32))) &&& (252645135 : Int32)) <<< ((4 : Int32) &&& 31)))])) rfl (oG hby d12 32 rfl) _ ?_
   show oZ p e below s₁ (mkF m 45 #[oI ((((((p0_ &&& (1431655765 : Int32)) <<< ((1 : Int32) &&& 31)) ||| ((aL p0_ (1 : Int32)) &&& (1431655765 : Int32))) &&& (858993459 : Int32)) <<< ((2 : Int32) &&& 31)) ||| ((aL (((p0_ &&& (1431655765 : Int32)) <<< ((1 : Int32) &&& 31)) ||| ((aL p0_ (1 : Int32)) &&& (1431655765 : Int32))) (2 : Int32)) &&& (858993459 : Int32)))] [(.int 252645135), (.int (aL ((((((p0_ &&& (1431655765 : Int32)) <<< ((1 : Int32) &&& 31)) ||| ((aL p0_ (1 : Int32)) &&& (1431655765 : Int32))) &&& (858993459 : Int32)) <<< ((2 : Int32) &&& 31)) ||| ((aL (((p0_ &&& (1431655765 : Int32)) <<< ((1 : Int32) &&& 31)) ||| ((aL p0_ (1 : Int32)) &&& (1431655765 : Int32))) (2 : Int32)) &&& (858993459 : Int32))) (4 : Int32))), (.int ((((((((p0_ &&& (1431655765 : Int32)) <<< ((1 : Int32) &&& 31)) ||| ((aL p0_ (1 : Int32)) &&& (1431655765 : Int32))) &&& (858993459 : Int32)) <<< ((2 : Int32) &&& 31)) ||| ((aL (((p0_ &&& (1431655765 : Int32)) <<< ((1 : Int32) &&& 31)) ||| ((aL p0_ (1 : Int32)) &&& (1431655765 : Int32))) (2 : Int32)) &&& (858993459 : Int32))) &&& (252645135 : Int32)) <<< ((4 : Int32) &&& 31)))]) _
   refine XS.iand X0.here hx rfl (oG hby d12 33 rfl) rfl ?_
   refine XS.ior X0.here hx rfl (oG hby d12 34 rfl) rfl ?_
   refine XS.istoreN X0.here hx rfl (oG hby d12 35 rfl) rfl (l' := #[oI (((((((((p0_ &&& (1431655765 : Int32)) <<< ((1 : Int32) &&& 31)) ||| ((aL p0_ (1 : Int32)) &&& (1431655765 : Int32))) &&& (858993459 : Int32)) <<< ((2 : Int32) &&& 31)) ||| ((aL (((p0_ &&& (1431655765 : Int32)) <<< ((1 : Int32) &&& 31)) ||| ((aL p0_ (1 : Int32)) &&& (1431655765 : Int32))) (2 : Int32)) &&& (858993459 : Int32))) &&& (252645135 : Int32)) <<< ((4 : Int32) &&& 31)) ||| ((aL ((((((p0_ &&& (1431655765 : Int32)) <<< ((1 : Int32) &&& 31)) ||| ((aL p0_ (1 : Int32)) &&& (1431655765 : Int32))) &&& (858993459 : Int32)) <<< ((2 : Int32) &&& 31)) ||| ((aL (((p0_ &&& (1431655765 : Int32)) <<< ((1 : Int32) &&& 31)) ||| ((aL p0_ (1 : Int32)) &&& (1431655765 : Int32))) (2 : Int32)) &&& (858993459 : Int32))) (4 : Int32)) &&& (252645135 : Int32)))]) rfl ?_
   refine XS.iloadN X0.here hx rfl (oG hby d12 36 rfl) rfl ?_
   refine st1 _ ?_
   show oZ p e below T1 (mkF m 52 #[oI (((((((((p0_ &&& (1431655765 : Int32)) <<< ((1 : Int32) &&& 31)) ||| ((aL p0_ (1 : Int32)) &&& (1431655765 : Int32))) &&& (858993459 : Int32)) <<< ((2 : Int32) &&& 31)) ||| ((aL (((p0_ &&& (1431655765 : Int32)) <<< ((1 : Int32) &&& 31)) ||| ((aL p0_ (1 : Int32)) &&& (1431655765 : Int32))) (2 : Int32)) &&& (858993459 : Int32))) &&& (252645135 : Int32)) <<< ((4 : Int32) &&& 31)) ||| ((aL ((((((p0_ &&& (1431655765 : Int32)) <<< ((1 : Int32) &&& 31)) ||| ((aL p0_ (1 : Int32)) &&& (1431655765 : Int32))) &&& (858993459 : Int32)) <<< ((2 : Int32) &&& 31)) ||| ((aL (((p0_ &&& (1431655765 : Int32)) <<< ((1 : Int32) &&& 31)) ||| ((aL p0_ (1 : Int32)) &&& (1431655765 : Int32))) (2 : Int32)) &&& (858993459 : Int32))) (4 : Int32)) &&& (252645135 : Int32)))] [(.int (mI (((((((((p0_ &&& (1431655765 : Int32)) <<< ((1 : Int32) &&& 31)) ||| ((aL p0_ (1 : Int32)) &&& (1431655765 : Int32))) &&& (858993459 : Int32)) <<< ((2 : Int32) &&& 31)) ||| ((aL (((p0_ &&& (1431655765 : Int32)) <<< ((1 : Int32) &&& 31)) ||| ((aL p0_ (1 : Int32)) &&& (1431655765 : Int32))) (2 : Int32)) &&& (858993459 : Int32))) &&& (252645135 : Int32)) <<< ((4 : Int32) &&& 31)) ||| ((aL ((((((p0_ &&& (1431655765 : Int32)) <<< ((1 : Int32) &&& 31)) ||| ((aL p0_ (1 : Int32)) &&& (1431655765 : Int32))) &&& (858993459 : Int32)) <<< ((2 : Int32) &&& 31)) ||| ((aL (((p0_ &&& (1431655765 : Int32)) <<< ((1 : Int32) &&& 31)) ||| ((aL p0_ (1 : Int32)) &&& (1431655765 : Int32))) (2 : Int32)) &&& (858993459 : Int32))) (4 : Int32)) &&& (252645135 : Int32)))))]) _
   exact retI X1 hx Bd.returns (oG hby d12 38 rfl) hr
 · show cD (some (.int (aJ p0_))) h0 n0 _ T1.heap _
   exact ⟨rfl, N1, e1⟩
theorem aH7 (l : Launch) (Z : State) (a0 : Array Value) (hw : oH a0 Z) (ws : List Jvm.Cond) (p0_ : Int32) (h0 : Heap) (n0 : Nat) (Z0 : n0 ≤ h0.size) :
   oMet l oM36 jdk_33_method_42_code 1 (some .long) ws (oR 0 0 0 0) Z h0 #[(.int p0_)] (cD (some (.long ((p0_.toInt64) &&& (4294967295 : Int64)))) h0 n0) := by
 refine oBd n0 (plainFor_of_name rH) ?_
 intro p e s m below meth c s₁ Bd hx hZ hby hml hown hnm X0 e0 N0
 obtain ⟨fs, hr, hrun, hended, hW, hsame⟩ := X0.leave (v := some (.long ((p0_.toInt64) &&& (4294967295 : Int64)))) (fun h => by rw [Bd.returns] at h; cases h)
 refine ⟨_, _, castTop (aK9 m p0_) ?_, hrun, hended, _, _, rfl, ?_, ⟨_, rfl⟩, hW, (hsame.mono (by decide) (by decide))⟩
 · show oZ p e below s₁ (mkF m 0 #[oI p0_] []) _
   refine XS.iloadN X0.here hx rfl (oG hby d14 0 rfl) rfl ?_
   refine XS.i2l X0.here hx rfl (oG hby d14 1 rfl) rfl ?_
   refine X0.ldc2Long hx hown (mvT hZ (oW hw 83 rfl)) (g := (mkF m 2 #[oI p0_] [(.long (p0_.toInt64))])) rfl (oG hby d14 2 rfl) _ ?_
   refine XS.land X0.here hx rfl (oG hby d14 3 rfl) rfl ?_
   show oZ p e below s₁ (mkF m 6 #[oI p0_] [(.long ((p0_.toInt64) &&& (4294967295 : Int64)))]) _
   exact X0.lreturnOut hx Bd.returns (oG hby d14 4 rfl) hr
 · show cD (some (.long ((p0_.toInt64) &&& (4294967295 : Int64)))) h0 n0 _ s₁.heap _
   exact ⟨rfl, N0, e0⟩
def dI (p1_ : Int32) (aR : Int32) : Int32 := ((bO (((((aJ p1_).toInt64) &&& (4294967295 : Int64)) + (cJ (1 : Int64) ((32 : Int32) - aR))) - (1 : Int64)) ((32 : Int32) - aR)).toInt32)
theorem gW (l : Launch) (Z : State) (a0 : Array Value) (hw : oH a0 Z) (ws : List Jvm.Cond) (a0_ : Addr) (p1_ : Int32) (aR : Int32) (h0 : Heap) (n0 : Nat) (Z0 : n0 ≤ h0.size) (aQ : Fld Z h0 a0_ oC0 "ringBits" "I" (.int aR)) :
   oMet l oM2 prog_29_method_17_code 5 (some .int) ws (oR 2 0 0 24) Z h0 #[(.ref a0_), (.int p1_)] (cD (some (.int (dI p1_ aR))) h0 n0) := by
 refine oBd n0 (plainFor_of_name eC) ?_
 intro p e s m below meth c s₁ Bd hx hZ hby hml hown hnm X0 e0 N0
 obtain ⟨_, _, ⟨T1, L1, k1, n1⟩, -, X1, ⟨Lc1, hQ1, l1, y1, z1⟩, st1⟩ := Jvm.LawKit.callS X0 hx (y := oM30) hown (mvT hZ (oW hw 70 rfl)) (mvT hZ (oW hw 71 rfl)) (mvT hZ (oW hw 28 rfl)) (mvT hZ (oW hw 72 rfl)) (by decide) (backOf (W := 0) (sA l Z a0 hw [] p1_ h0 n0 Z0 ) hZ (oW hw 72 rfl) (oW hw 28 rfl) (by decide) (by decide)) (g := (mkF m 1 #[oA a0_, oI p1_, .unset, .unset, .unset] [(.int p1_)])) rfl (by rw [hml]; rfl) (argsL := [(.int p1_)]) (rest := []) (lenOf fL rfl) rfl (by show 2 * 0 + _ ≤ _; exact Nat.le_of_eq rfl) (oG hby d11 1 rfl) (fun _ _ => ⟨rfl, e0, (by decide : 0 + 0 ≤ _), (by decide : 0 + 0 ≤ _)⟩)
 dsimp only [Pt.U, Pt.locs, Pt.cells, Pt.slots] at X1 l1 y1 z1 st1 hQ1
 subst l1 y1 z1
 obtain ⟨rfl, N1q, e1⟩ := hQ1
 have N1 := Fr.app N0 N1q
 obtain ⟨_, _, ⟨T2, L2, k2, n2⟩, -, X2, ⟨Lc2, hQ2, l2, y2, z2⟩, st2⟩ := Jvm.LawKit.callS X1 hx (y := oM36) hown (mvT hZ (oW hw 80 rfl)) (mvT hZ (oW hw 81 rfl)) (mvT hZ (oW hw 28 rfl)) (mvT hZ (oW hw 82 rfl)) (by decide) (backOf (W := 0) (aH7 l Z a0 hw [] (aJ p1_) h0 n0 Z0 ) hZ (oW hw 82 rfl) (oW hw 28 rfl) (by decide) (by decide)) (g := (mkF m 4 #[oA a0_, oI p1_, .unset, .unset, .unset] [(.int (aJ p1_))])) rfl (by rw [hml]; rfl) (argsL := [(.int (aJ p1_))]) (rest := []) (lenOf aJ7 rfl) rfl (by show 2 * 0 + _ ≤ _; exact Nat.le_of_eq rfl) (oG hby d11 2 rfl) (fun _ _ => ⟨rfl, e1, (by decide : 0 + 0 ≤ _), (by decide : 0 + 0 ≤ _)⟩)
 dsimp only [Pt.U, Pt.locs, Pt.cells, Pt.slots] at X2 l2 y2 z2 st2 hQ2
 subst l2 y2 z2
 obtain ⟨rfl, N2q, e2⟩ := hQ2
 have N2 := Fr.app N1 N2q
 obtain ⟨T3, X3, e3, st3⟩ := getF X2 hx hZ hown (host := "") (Or.inl (oW hw 34 rfl)) Via.refl e2 aQ (g := (mkF m 11 #[oA a0_, oI p1_, oJ (((aJ p1_).toInt64) &&& (4294967295 : Int64)), .second, .unset] [(.ref a0_), (.int 32)])) rfl rfl (oG hby d11 6 rfl)
 obtain ⟨fs, hr, hrun, hended, hW, hsame⟩ := X3.leave (v := some (.int ((bO (((((aJ p1_).toInt64) &&& (4294967295 : Int64)) + (cJ (1 : Int64) ((32 : Int32) - aR))) - (1 : Int64)) ((32 : Int32) - aR)).toInt32))) (fun h => by rw [Bd.returns] at h; cases h)
 refine ⟨_, _, castTop (aL0 m a0_ p1_) ?_, hrun, hended, _, _, rfl, ?_, ⟨_, rfl⟩, hW, (hsame.mono (by decide) (by decide))⟩
 · show oZ p e below s₁ (mkF m 0 #[oA a0_, oI p1_, .unset, .unset, .unset] []) _
   refine XS.iloadN X0.here hx rfl (oG hby d11 0 rfl) rfl ?_
   refine st1 _ ?_
   refine st2 _ ?_
   refine XS.lstoreN X2.here hx rfl (oG hby d11 3 rfl) rfl (l' := #[oA a0_, oI p1_, oJ (((aJ p1_).toInt64) &&& (4294967295 : Int64)), .second, .unset]) rfl ?_
   refine XS.bipush X2.here hx rfl (oG hby d11 4 rfl) ?_
   refine XS.aloadN X2.here hx rfl (oG hby d11 5 rfl) rfl rfl ?_
   refine st3 _ ?_
   refine XS.isub X3.here hx rfl (oG hby d11 7 rfl) rfl ?_
   refine XS.istore X3.here hx rfl (oG hby d11 8 rfl) rfl (l' := #[oA a0_, oI p1_, oJ (((aJ p1_).toInt64) &&& (4294967295 : Int64)), .second, oI ((32 : Int32) - aR)]) rfl ?_
   refine XS.lloadN X3.here hx rfl (oG hby d11 9 rfl) rfl ?_
   refine XS.lconst X3.here hx rfl (oG hby d11 10 rfl) ?_
   show oZ p e below T3 (mkF m 19 #[oA a0_, oI p1_, oJ (((aJ p1_).toInt64) &&& (4294967295 : Int64)), .second, oI ((32 : Int32) - aR)] [(.long 1), (.long (((aJ p1_).toInt64) &&& (4294967295 : Int64)))]) _
   refine XS.iload X3.here hx rfl (oG hby d11 11 rfl) rfl ?_
   refine XS.lshl X3.here hx rfl (oG hby d11 12 rfl) rfl ?_
   refine XS.ladd X3.here hx rfl (oG hby d11 13 rfl) rfl ?_
   refine XS.lconst X3.here hx rfl (oG hby d11 14 rfl) ?_
   show oZ p e below T3 (mkF m 24 #[oA a0_, oI p1_, oJ (((aJ p1_).toInt64) &&& (4294967295 : Int64)), .second, oI ((32 : Int32) - aR)] [(.long 1), (.long ((((aJ p1_).toInt64) &&& (4294967295 : Int64)) + (cJ (1 : Int64) ((32 : Int32) - aR))))]) _
   refine XS.lsub X3.here hx rfl (oG hby d11 15 rfl) rfl ?_
   refine XS.iload X3.here hx rfl (oG hby d11 16 rfl) rfl ?_
   refine XS.lushr X3.here hx rfl (oG hby d11 17 rfl) rfl ?_
   refine XS.l2i X3.here hx rfl (oG hby d11 18 rfl) rfl ?_
   show oZ p e below T3 (mkF m 29 #[oA a0_, oI p1_, oJ (((aJ p1_).toInt64) &&& (4294967295 : Int64)), .second, oI ((32 : Int32) - aR)] [(.int ((bO (((((aJ p1_).toInt64) &&& (4294967295 : Int64)) + (cJ (1 : Int64) ((32 : Int32) - aR))) - (1 : Int64)) ((32 : Int32) - aR)).toInt32))]) _
   exact retI X3 hx Bd.returns (oG hby d11 19 rfl) hr
 · show cD (some (.int (dI p1_ aR))) h0 n0 _ T3.heap _
   exact ⟨rfl, N2, e3⟩
theorem sB (l : Launch) (Z : State) (a0 : Array Value) (hw : oH a0 Z) (ws : List Jvm.Cond) (a0_ : Addr) (p1_ : Int32) (aR : Int32) (h0 : Heap) (n0 : Nat) (Z0 : n0 ≤ h0.size) (aQ : Fld Z h0 a0_ oC0 "ringBits" "I" (.int aR)) :
   oMet l oM26 prog_29_method_18_code 2 (some .int) ws (oR 2 0 0 24) Z h0 #[(.ref a0_), (.int p1_)] (cD (some (.int (aL (aJ p1_) ((32 : Int32) - aR)))) h0 n0) := by
 refine oBd n0 (plainFor_of_name eC) ?_
 intro p e s m below meth c s₁ Bd hx hZ hby hml hown hnm X0 e0 N0
 obtain ⟨_, _, ⟨T1, L1, k1, n1⟩, -, X1, ⟨Lc1, hQ1, l1, y1, z1⟩, st1⟩ := Jvm.LawKit.callS X0 hx (y := oM30) hown (mvT hZ (oW hw 70 rfl)) (mvT hZ (oW hw 71 rfl)) (mvT hZ (oW hw 28 rfl)) (mvT hZ (oW hw 72 rfl)) (by decide) (backOf (W := 0) (sA l Z a0 hw [] p1_ h0 n0 Z0 ) hZ (oW hw 72 rfl) (oW hw 28 rfl) (by decide) (by decide)) (g := (mkF m 1 #[oA a0_, oI p1_] [(.int p1_)])) rfl (by rw [hml]; rfl) (argsL := [(.int p1_)]) (rest := []) (lenOf fL rfl) rfl (by show 2 * 0 + _ ≤ _; exact Nat.le_of_eq rfl) (oG hby d15 1 rfl) (fun _ _ => ⟨rfl, e0, (by decide : 0 + 0 ≤ _), (by decide : 0 + 0 ≤ _)⟩)
 dsimp only [Pt.U, Pt.locs, Pt.cells, Pt.slots] at X1 l1 y1 z1 st1 hQ1
 subst l1 y1 z1
 obtain ⟨rfl, N1q, e1⟩ := hQ1
 have N1 := Fr.app N0 N1q
 obtain ⟨T2, X2, e2, st2⟩ := getF X1 hx hZ hown (host := "") (Or.inl (oW hw 34 rfl)) Via.refl e1 aQ (g := (mkF m 7 #[oA a0_, oI p1_] [(.ref a0_), (.int 32), (.int (aJ p1_))])) rfl rfl (oG hby d15 4 rfl)
 obtain ⟨fs, hr, hrun, hended, hW, hsame⟩ := X2.leave (v := some (.int (aL (aJ p1_) ((32 : Int32) - aR)))) (fun h => by rw [Bd.returns] at h; cases h)
 refine ⟨_, _, castTop (aL1 m a0_ p1_) ?_, hrun, hended, _, _, rfl, ?_, ⟨_, rfl⟩, hW, (hsame.mono (by decide) (by decide))⟩
 · show oZ p e below s₁ (mkF m 0 #[oA a0_, oI p1_] []) _
   refine XS.iloadN X0.here hx rfl (oG hby d15 0 rfl) rfl ?_
   refine st1 _ ?_
   refine XS.bipush X1.here hx rfl (oG hby d15 2 rfl) ?_
   refine XS.aloadN X1.here hx rfl (oG hby d15 3 rfl) rfl rfl ?_
   refine st2 _ ?_
   refine XS.isub X2.here hx rfl (oG hby d15 5 rfl) rfl ?_
   refine XS.iushr X2.here hx rfl (oG hby d15 6 rfl) rfl ?_
   show oZ p e below T2 (mkF m 12 #[oA a0_, oI p1_] [(.int (aL (aJ p1_) ((32 : Int32) - aR)))]) _
   exact retI X2 hx Bd.returns (oG hby d15 7 rfl) hr
 · show cD (some (.int (aL (aJ p1_) ((32 : Int32) - aR)))) h0 n0 _ T2.heap _
   exact ⟨rfl, N1, e2⟩
theorem fE (rc : Nat) (rs : Nat) (o0_ : Addr) (i1_ : Int32) (i2_ : Int32) (i3_ : Int32) (i4_ : Int32) (o5_ : Addr) (i6_ : Int32) (i7_ : Int32) (aY : Int32) (cM : Int32) (sC : Int32) (nC : List Int32) (x_ : Int32) (y_ : Int32)
   (X0 : Stand p l e (oR 5 rc rs 100) s m args below meth c T0 locs cells slots) (hx : p.tables.exec = Jvm.exec) (hZ : Z.Warmed39 s.vm) (hw : oH a0 Z) (hby : c.code = prog_29_method_13_code) (hml : c.maxLocals = 9) (hown : s.vm.findClass oC0 = some m.cls) (e0 : T0.heap = h0) (N0 : Fr n0 locs) (Z0 : n0 ≤ h0.size) (iA : Fld Z h0 o0_ oC0 "ringBits" "I" (.int aY)) (bL : Exa Z h0 o0_ oC0) (fN : Fld Z h0 o0_ oC0 "lots" "I" (.int cM)) (aA1 : bB Z h0 o5_ sC nC) (aO0 : n0 ≤ o5_) (hf0 : i6_ < i2_) (hf1 : (aL (aJ ((i4_ + i7_) &&& (i3_ - (1 : Int32)))) ((32 : Int32) - aY)) < cM) (hf2 : ¬ (i6_ < 0)) (hf3 : i6_ < sC) (hf4 : (i6_).toNatClampNeg < nC.length) (hf5 : (i6_ + (1 : Int32)) = x_) (hf6 : (i7_ + (1 : Int32)) = y_) (hc : cells + (0) ≤ rc) (hs : slots + (0) ≤ rs) :
   ∃ (T' : State) (locs' : List Loc), Stand p l e (oR 5 rc rs 100) s m args below meth c T' locs' cells slots ∧ Fr n0 locs' ∧ Keep h0 T'.heap [o5_] ∧ bB Z T'.heap o5_ sC (nC.set (i6_).toNatClampNeg (aL (aJ ((i4_ + i7_) &&& (i3_ - (1 : Int32)))) ((32 : Int32) - aY))) ∧
     ∀ target, Steps p.tables e below (T'.setTop (mkF m 25 #[oA o0_, oI i1_, oI i2_, oI i3_, oI i4_, oA o5_, oI x_, oI y_, oI (aL (aJ ((i4_ + i7_) &&& (i3_ - (1 : Int32)))) ((32 : Int32) - aY))] [])) target → Steps p.tables e below (T0.setTop (mkF m 25 #[oA o0_, oI i1_, oI i2_, oI i3_, oI i4_, oA o5_, oI i6_, oI i7_, .unset] [])) target := by
 obtain ⟨cq1, q1, q1'⟩ := bL.cell
 obtain ⟨_, _, ⟨T1, L1, k1, n1⟩, -, X1, ⟨Lc1, hQ1, l1, y1, z1⟩, st1⟩ := X0.privateBack hx (y := oM26) hown (mvT hZ (oW hw 85 rfl)) (mvT hZ (oW hw 86 rfl)) (cG (mvT hZ (oW hw 15 rfl)) (mvP hZ (oW hw 87 rfl) (args := #[])) (mvT hZ (oW hw 86 rfl)) (by decide)) (Cond.privateMethod_at (mvP hZ (oW hw 87 rfl) (args := #[]))) (mvT hZ (oW hw 88 rfl)) (by decide) (backOf (W := 0) (sB l Z a0 hw [] o0_ ((i4_ + i7_) &&& (i3_ - (1 : Int32))) aY h0 n0 Z0 iA) hZ (oW hw 88 rfl) (oW hw 12 rfl) (Nat.le_of_ble_eq_true rfl) (Nat.le_of_ble_eq_true rfl)) (g := (mkF m 41 #[oA o0_, oI i1_, oI i2_, oI i3_, oI i4_, oA o5_, oI i6_, oI i7_, .unset] [(.int ((i4_ + i7_) &&& (i3_ - (1 : Int32)))), (.ref o0_)])) rfl (by rw [hml]; rfl) (Steps.refl _) (a := o0_) (by rw [e0]; exact q1) q1' (argsL := [(.int ((i4_ + i7_) &&& (i3_ - (1 : Int32))))]) (rest := []) (lenOf fL rfl) rfl (by show 2 * 0 + _ ≤ _; exact Nat.le_of_eq rfl) (oG hby d10 27 rfl) (fun _ _ => ⟨rfl, e0, (show cells + 0 ≤ rc from by omega), (show slots + 0 ≤ rs from by omega)⟩)
 dsimp only [Pt.U, Pt.locs, Pt.cells, Pt.slots] at X1 l1 y1 z1 st1 hQ1
 subst l1; rw [y1, z1] at X1
 obtain ⟨rfl, N1q, e1⟩ := hQ1
 have N1 := Fr.app N0 N1q
 obtain ⟨T2, X2, e2, st2⟩ := getF X1 hx hZ hown (host := "") (Or.inl (oW hw 24 rfl)) Via.refl e1 fN (g := (mkF m 49 #[oA o0_, oI i1_, oI i2_, oI i3_, oI i4_, oA o5_, oI i6_, oI i7_, oI (aL (aJ ((i4_ + i7_) &&& (i3_ - (1 : Int32)))) ((32 : Int32) - aY))] [(.ref o0_), (.int (aL (aJ ((i4_ + i7_) &&& (i3_ - (1 : Int32)))) ((32 : Int32) - aY)))])) rfl rfl (oG hby d10 31 rfl)
 obtain ⟨c3, A3, hin3, -⟩ := bS (j := i6_) aA1 hf2 hf3
 obtain ⟨T4, h4, X4, e4, W4, st4⟩ := stI X2 hx hZ e2 A3 (j := i6_) hin3 (g := (mkF m 61 #[oA o0_, oI i1_, oI i2_, oI i3_, oI i4_, oA o5_, oI i6_, oI i7_, oI (aL (aJ ((i4_ + i7_) &&& (i3_ - (1 : Int32)))) ((32 : Int32) - aY))] [(.int (aL (aJ ((i4_ + i7_) &&& (i3_ - (1 : Int32)))) ((32 : Int32) - aY))), (.int i6_), (.ref o5_)])) rfl rfl (oG hby d10 36 rfl)
 have V4 : bB Z h4 o5_ sC (nC.set (i6_).toNatClampNeg (aL (aJ ((i4_ + i7_) &&& (i3_ - (1 : Int32)))) ((32 : Int32) - aY))) := jN aA1 hf2 hf3 W4 hf4
 have K4 : Keep h0 h4 [o5_] := (Keep.refl h0 [o5_]).wr W4 (Or.inl (oX 0 rfl))
 have N4 := Fr.snoc X4 N1 aO0
 subst e4
 refine ⟨T4, _, X4, N4, K4, V4, fun target kt => ?_⟩
 show oZ p e below T0 (mkF m 25 #[oA o0_, oI i1_, oI i2_, oI i3_, oI i4_, oA o5_, oI i6_, oI i7_, .unset] []) _
 refine XS.iload X0.here hx rfl (oG hby d10 16 rfl) rfl ?_
 refine XS.iloadN X0.here hx rfl (oG hby d10 17 rfl) rfl ?_
 refine XS.icmpNo X0.here hx rfl (oG hby d10 18 rfl) rfl (tlt hf0).2.1 ?_
 refine XS.aloadN X0.here hx rfl (oG hby d10 19 rfl) rfl rfl ?_
 refine XS.iload X0.here hx rfl (oG hby d10 20 rfl) rfl ?_
 refine XS.iload X0.here hx rfl (oG hby d10 21 rfl) rfl ?_
 refine XS.iadd X0.here hx rfl (oG hby d10 22 rfl) rfl ?_
 refine XS.iloadN X0.here hx rfl (oG hby d10 23 rfl) rfl ?_
 refine XS.iconst X0.here hx rfl (oG hby d10 24 rfl) ?_
 refine XS.isub X0.here hx rfl (oG hby d10 25 rfl) rfl ?_
 refine XS.iand X0.here hx rfl (oG hby d10 26 rfl) rfl ?_
 show oZ p e below T0 (mkF m 41 #[oA o0_, oI i1_, oI i2_, oI i3_, oI i4_, oA o5_, oI i6_, oI i7_, .unset] [(.int ((i4_ + i7_) &&& (i3_ - (1 : Int32)))), (.ref o0_)]) _
 refine st1.trans ?_
 refine XS.istore X1.here hx rfl (oG hby d10 28 rfl) rfl (l' := #[oA o0_, oI i1_, oI i2_, oI i3_, oI i4_, oA o5_, oI i6_, oI i7_, oI (aL (aJ ((i4_ + i7_) &&& (i3_ - (1 : Int32)))) ((32 : Int32) - aY))]) rfl ?_
 refine XS.iload X1.here hx rfl (oG hby d10 29 rfl) rfl ?_
 refine XS.aloadN X1.here hx rfl (oG hby d10 30 rfl) rfl rfl ?_
 refine st2 _ ?_
 refine XS.icmpNo X2.here hx rfl (oG hby d10 32 rfl) rfl (tlt hf1).2.1 ?_
 refine XS.aload X2.here hx rfl (oG hby d10 33 rfl) rfl rfl ?_
 refine XS.iload X2.here hx rfl (oG hby d10 34 rfl) rfl ?_
 refine XS.iload X2.here hx rfl (oG hby d10 35 rfl) rfl ?_
 refine st4 _ ?_
 refine XS.iinc X4.here hx rfl (oG hby d10 37 rfl) rfl (l' := #[oA o0_, oI i1_, oI i2_, oI i3_, oI i4_, oA o5_, oI (i6_ + (1 : Int32)), oI i7_, oI (aL (aJ ((i4_ + i7_) &&& (i3_ - (1 : Int32)))) ((32 : Int32) - aY))]) rfl ?_
 show oZ p e below T4 (mkF m 65 #[oA o0_, oI i1_, oI i2_, oI i3_, oI i4_, oA o5_, oI (i6_ + (1 : Int32)), oI i7_, oI (aL (aJ ((i4_ + i7_) &&& (i3_ - (1 : Int32)))) ((32 : Int32) - aY))] []) _
 rw [hf5]
 refine XS.iinc X4.here hx rfl (oG hby d10 38 rfl) rfl (l' := #[oA o0_, oI i1_, oI i2_, oI i3_, oI i4_, oA o5_, oI x_, oI (i7_ + (1 : Int32)), oI (aL (aJ ((i4_ + i7_) &&& (i3_ - (1 : Int32)))) ((32 : Int32) - aY))]) rfl ?_
 show oZ p e below T4 (mkF m 68 #[oA o0_, oI i1_, oI i2_, oI i3_, oI i4_, oA o5_, oI x_, oI (i7_ + (1 : Int32)), oI (aL (aJ ((i4_ + i7_) &&& (i3_ - (1 : Int32)))) ((32 : Int32) - aY))] []) _
 rw [hf6]
 refine XS.goto X4.here hx rfl (pc0 := 68) (pc' := 25) rfl (oG hby d10 39 rfl) (by decide) (by decide) ?_
 exact kt
def jG (Z : State) (a0_ : Addr) (h0 : Heap) (n0 : Nat) (v : Option Value) (h : Heap) (L : List Loc) : Prop := ∃ b3 : Addr, v = some (.ref b3) ∧ Fr n0 L ∧ Keep h0 h [] ∧ h0.size ≤ b3 ∧ Exa Z h b3 "[I" ∧ bB Z h b3 (1 : Int32) ([0] : List Int32)
theorem oE (l : Launch) (Z : State) (a0 : Array Value) (hw : oH a0 Z) (ws : List Jvm.Cond) (a0_ : Addr) (h0 : Heap) (n0 : Nat) (Z0 : n0 ≤ h0.size) (aQ : Fld Z h0 a0_ oC0 "ringBits" "I" (.int 1)) (bR : Exa Z h0 a0_ oC0) (bU : Fld Z h0 a0_ oC0 "lots" "I" (.int 1)) :
   oMet l oM1 prog_29_method_13_code 9 (some (.array .int)) ws (oR 5 1 4 100) Z h0 #[(.ref a0_), (.int 0), (.int 1)] (jG Z a0_ h0 n0) := by
 refine oBd n0 (plainFor_of_name eC) ?_
 intro p e s m below meth c s₁ Bd hx hZ hby hml hown hnm X0 e0 N0
 obtain ⟨T1, X1, e1, st1⟩ := getF X0 hx hZ hown (host := "") (Or.inl (oW hw 34 rfl)) Via.refl e0 aQ (g := (mkF m 2 #[oA a0_, oI 0, oI 1, .unset, .unset, .unset, .unset, .unset, .unset] [(.ref a0_), (.int 1)])) rfl rfl (oG hby d10 2 rfl)
 obtain ⟨cq2, q2, q2'⟩ := bR.cell
 obtain ⟨_, _, ⟨T2, L2, k2, n2⟩, -, X2, ⟨Lc2, hQ2, l2, y2, z2⟩, st2⟩ := X1.privateBack hx (y := oM2) hown (mvT hZ (oW hw 66 rfl)) (mvT hZ (oW hw 67 rfl)) (cG (mvT hZ (oW hw 15 rfl)) (mvP hZ (oW hw 68 rfl) (args := #[])) (mvT hZ (oW hw 67 rfl)) (by decide)) (Cond.privateMethod_at (mvP hZ (oW hw 68 rfl) (args := #[]))) (mvT hZ (oW hw 69 rfl)) (by decide) (backOf (W := 0) (gW l Z a0 hw [] a0_ (0 : Int32) (1 : Int32) h0 n0 Z0 aQ) hZ (oW hw 69 rfl) (oW hw 12 rfl) (by decide) (by decide)) (g := (mkF m 9 #[oA a0_, oI 0, oI 1, oI 2, .unset, .unset, .unset, .unset, .unset] [(.int 0), (.ref a0_)])) rfl (by rw [hml]; rfl) (Steps.refl _) (a := a0_) (by rw [e1]; exact q2) q2' (argsL := [(.int 0)]) (rest := []) (lenOf fL rfl) rfl (by show 2 * 0 + _ ≤ _; exact Nat.le_of_eq rfl) (oG hby d10 7 rfl) (fun _ _ => ⟨rfl, e1, (by decide : 0 + 0 ≤ _), (by decide : 0 + 0 ≤ _)⟩)
 dsimp only [Pt.U, Pt.locs, Pt.cells, Pt.slots] at X2 l2 y2 z2 st2 hQ2
 subst l2 y2 z2
 obtain ⟨rfl, N2q, e2⟩ := hQ2
 have N2 := Fr.app N0 N2q
 obtain ⟨T3, h3, k3, X3, e3, E3, A3, B3, st3⟩ := newPE X2 hx hZ (oW hw 84 rfl) e2 (g := (mkF m 15 #[oA a0_, oI 0, oI 1, oI 2, oI 0, .unset, .unset, .unset, .unset] [(.int 1)])) rfl (oG hby d10 10 rfl) rfl (by decide) (cap := 1) (by decide) (by decide) (by decide) (by decide) (ad := "[I") rfl
 obtain ⟨b3, g3⟩ : ∃ z, z = h0.size := ⟨_, rfl⟩
 rw [← g3] at A3 B3 st3
 have gZ : h0.size ≤ b3 := Nat.le_of_eq g3.symm
 have cH : a0_ ≠ b3 := oV aQ.lt gZ
 have bX : h0.size ≤ b3 := Nat.le_trans (Keep.refl h0 []).1 gZ
 have g_b3 : n0 ≤ b3 := Nat.le_trans Z0 bX
 have K3 : Keep h0 h3 [] := (Keep.refl h0 []).ext E3
 have V3 : bB Z h3 b3 (1 : Int32) ([0] : List Int32) := dY (m := 1) A3 (by decide)
 have bT := (aQ.ext E3)
 have eW := (bR.ext E3)
 have bZ := (bU.ext E3)
 obtain ⟨T4, L4, X4, N4, Kq4, Q4_0, st4⟩ := fE 1 4 a0_ (0 : Int32) (1 : Int32) (2 : Int32) (0 : Int32) b3 (0 : Int32) (0 : Int32) (1 : Int32) (1 : Int32) (1 : Int32) ([0] : List Int32) (1 : Int32) (1 : Int32) X3 hx hZ hw hby hml hown e3 N2 (Nat.le_trans Z0 K3.1) bT eW bZ V3 g_b3 (by decide +kernel) (by decide +kernel) (by decide +kernel) (by decide +kernel) (by decide +kernel) (by decide +kernel) (by decide +kernel) (by decide : 1 + (0) ≤ _) (by decide : 1 + (0) ≤ _)
 have K4 : Keep h0 T4.heap [] := K3.trans Kq4 (bJ (Or.inr bX))
 have Q4_0' := aK Q4_0 (vs' := ([0] : List Int32)) (by decide +kernel)
 have bD9 := (B3.keep Kq4)
 obtain ⟨fs, hr, hrun, hended, hW, hsame⟩ := X4.leave (v := some (.ref b3)) (fun h => by rw [Bd.returns] at h; cases h)
 refine ⟨_, _, castTop (kW m a0_ (0 : Int32) (1 : Int32)) ?_, hrun, hended, _, _, rfl, ?_, ⟨_, rfl⟩, hW, (hsame.mono (by decide) (by decide))⟩
 · show oZ p e below s₁ (mkF m 0 #[oA a0_, oI 0, oI 1, .unset, .unset, .unset, .unset, .unset, .unset] []) _
   refine XS.iconst X0.here hx rfl (oG hby d10 0 rfl) ?_
   refine XS.aloadN X0.here hx rfl (oG hby d10 1 rfl) rfl rfl ?_
   refine st1 _ ?_
   refine XS.ishl X1.here hx rfl (oG hby d10 3 rfl) rfl ?_
   show oZ p e below T1 (mkF m 6 #[oA a0_, oI 0, oI 1, .unset, .unset, .unset, .unset, .unset, .unset] [(.int ((1 : Int32) <<< ((1 : Int32) &&& 31)))]) _
   rw [(by decide +kernel : ((1 : Int32) <<< ((1 : Int32) &&& 31)) = (2 : Int32))]
   refine XS.istoreN X1.here hx rfl (oG hby d10 4 rfl) rfl (l' := #[oA a0_, oI 0, oI 1, oI 2, .unset, .unset, .unset, .unset, .unset]) rfl ?_
   refine XS.aloadN X1.here hx rfl (oG hby d10 5 rfl) rfl rfl ?_
   refine XS.iloadN X1.here hx rfl (oG hby d10 6 rfl) rfl ?_
   refine st2.trans ?_
   show oZ p e below T2 (mkF m 12 #[oA a0_, oI 0, oI 1, oI 2, .unset, .unset, .unset, .unset, .unset] [(.int (dI (0 : Int32) (1 : Int32)))]) _
   rw [(by decide +kernel : (dI (0 : Int32) (1 : Int32)) = (0 : Int32))]
   refine XS.istore X2.here hx rfl (oG hby d10 8 rfl) rfl (l' := #[oA a0_, oI 0, oI 1, oI 2, oI 0, .unset, .unset, .unset, .unset]) rfl ?_
   refine XS.iloadN X2.here hx rfl (oG hby d10 9 rfl) rfl ?_
   refine st3 _ ?_
   refine XS.astore X3.here hx rfl (oG hby d10 11 rfl) rfl rfl (l' := #[oA a0_, oI 0, oI 1, oI 2, oI 0, oA b3, .unset, .unset, .unset]) rfl ?_
   refine XS.iconst X3.here hx rfl (oG hby d10 12 rfl) ?_
   refine XS.istore X3.here hx rfl (oG hby d10 13 rfl) rfl (l' := #[oA a0_, oI 0, oI 1, oI 2, oI 0, oA b3, oI 0, .unset, .unset]) rfl ?_
   refine XS.iconst X3.here hx rfl (oG hby d10 14 rfl) ?_
   refine XS.istore X3.here hx rfl (oG hby d10 15 rfl) rfl (l' := #[oA a0_, oI 0, oI 1, oI 2, oI 0, oA b3, oI 0, oI 0, .unset]) rfl ?_
   refine st4 _ ?_
   refine XS.iload X4.here hx rfl (oG hby d10 16 rfl) rfl ?_
   show oZ p e below T4 (mkF m 27 #[oA a0_, oI 0, oI 1, oI 2, oI 0, oA b3, oI 1, oI 1, oI (aL (aJ (((0 : Int32) + (0 : Int32)) &&& ((2 : Int32) - (1 : Int32)))) ((32 : Int32) - (1 : Int32)))] [(.int 1)]) _
   refine XS.iloadN X4.here hx rfl (oG hby d10 17 rfl) rfl ?_
   refine XS.icmpYes X4.here hx rfl (pc0 := 28) (pc' := 71) rfl (oG hby d10 18 rfl) rfl (flt (by decide +kernel : ¬ ((1 : Int32) < (1 : Int32)))).2.1 (by decide) (by decide) ?_
   refine XS.aload X4.here hx rfl (oG hby d10 40 rfl) rfl rfl ?_
   show oZ p e below T4 (mkF m 73 #[oA a0_, oI 0, oI 1, oI 2, oI 0, oA b3, oI 1, oI 1, oI (aL (aJ (((0 : Int32) + (0 : Int32)) &&& ((2 : Int32) - (1 : Int32)))) ((32 : Int32) - (1 : Int32)))] [(.ref b3)]) _
   jvm_step X4.here [X4.here.top, hx, (oG hby d10 41 rfl), X4.method', Bd.returns, Value.isRef, FieldType.isReference]
   first | (intro acts; rw [hr _ acts rfl rfl rfl]) | rw [hr _ _ rfl rfl rfl]
   exact Steps.refl _
 · show jG Z a0_ h0 n0 _ T4.heap _
   exact ⟨b3, rfl, N4, K4, bX, bD9, Q4_0'⟩
theorem dS (rc : Nat) (rs : Nat) (o0_ : Addr) (i1_ : Int32) (i2_ : Int32) (i3_ : Int32) (i4_ : Int32) (o5_ : Addr) (i6_ : Int32) (i7_ : Int32) (i8_ : Int32) (aY : Int32) (cM : Int32) (sC : Int32) (nC : List Int32) (x_ : Int32) (y_ : Int32)
   (X0 : Stand p l e (oR 5 rc rs 100) s m args below meth c T0 locs cells slots) (hx : p.tables.exec = Jvm.exec) (hZ : Z.Warmed39 s.vm) (hw : oH a0 Z) (hby : c.code = prog_29_method_13_code) (hml : c.maxLocals = 9) (hown : s.vm.findClass oC0 = some m.cls) (e0 : T0.heap = h0) (N0 : Fr n0 locs) (Z0 : n0 ≤ h0.size) (iA : Fld Z h0 o0_ oC0 "ringBits" "I" (.int aY)) (bL : Exa Z h0 o0_ oC0) (fN : Fld Z h0 o0_ oC0 "lots" "I" (.int cM)) (aA1 : bB Z h0 o5_ sC nC) (aO0 : n0 ≤ o5_) (hf0 : i6_ < i2_) (hf1 : (aL (aJ ((i4_ + i7_) &&& (i3_ - (1 : Int32)))) ((32 : Int32) - aY)) < cM) (hf2 : ¬ (i6_ < 0)) (hf3 : i6_ < sC) (hf4 : (i6_).toNatClampNeg < nC.length) (hf5 : (i6_ + (1 : Int32)) = x_) (hf6 : (i7_ + (1 : Int32)) = y_) (hc : cells + (0) ≤ rc) (hs : slots + (0) ≤ rs) :
   ∃ (T' : State) (locs' : List Loc), Stand p l e (oR 5 rc rs 100) s m args below meth c T' locs' cells slots ∧ Fr n0 locs' ∧ Keep h0 T'.heap [o5_] ∧ bB Z T'.heap o5_ sC (nC.set (i6_).toNatClampNeg (aL (aJ ((i4_ + i7_) &&& (i3_ - (1 : Int32)))) ((32 : Int32) - aY))) ∧
     ∀ target, Steps p.tables e below (T'.setTop (mkF m 25 #[oA o0_, oI i1_, oI i2_, oI i3_, oI i4_, oA o5_, oI x_, oI y_, oI (aL (aJ ((i4_ + i7_) &&& (i3_ - (1 : Int32)))) ((32 : Int32) - aY))] [])) target → Steps p.tables e below (T0.setTop (mkF m 25 #[oA o0_, oI i1_, oI i2_, oI i3_, oI i4_, oA o5_, oI i6_, oI i7_, oI i8_] [])) target := by
 obtain ⟨cq1, q1, q1'⟩ := bL.cell
 obtain ⟨_, _, ⟨T1, L1, k1, n1⟩, -, X1, ⟨Lc1, hQ1, l1, y1, z1⟩, st1⟩ := X0.privateBack hx (y := oM26) hown (mvT hZ (oW hw 85 rfl)) (mvT hZ (oW hw 86 rfl)) (cG (mvT hZ (oW hw 15 rfl)) (mvP hZ (oW hw 87 rfl) (args := #[])) (mvT hZ (oW hw 86 rfl)) (by decide)) (Cond.privateMethod_at (mvP hZ (oW hw 87 rfl) (args := #[]))) (mvT hZ (oW hw 88 rfl)) (by decide) (backOf (W := 0) (sB l Z a0 hw [] o0_ ((i4_ + i7_) &&& (i3_ - (1 : Int32))) aY h0 n0 Z0 iA) hZ (oW hw 88 rfl) (oW hw 12 rfl) (Nat.le_of_ble_eq_true rfl) (Nat.le_of_ble_eq_true rfl)) (g := (mkF m 41 #[oA o0_, oI i1_, oI i2_, oI i3_, oI i4_, oA o5_, oI i6_, oI i7_, oI i8_] [(.int ((i4_ + i7_) &&& (i3_ - (1 : Int32)))), (.ref o0_)])) rfl (by rw [hml]; rfl) (Steps.refl _) (a := o0_) (by rw [e0]; exact q1) q1' (argsL := [(.int ((i4_ + i7_) &&& (i3_ - (1 : Int32))))]) (rest := []) (lenOf fL rfl) rfl (by show 2 * 0 + _ ≤ _; exact Nat.le_of_eq rfl) (oG hby d10 27 rfl) (fun _ _ => ⟨rfl, e0, (show cells + 0 ≤ rc from by omega), (show slots + 0 ≤ rs from by omega)⟩)
 dsimp only [Pt.U, Pt.locs, Pt.cells, Pt.slots] at X1 l1 y1 z1 st1 hQ1
 subst l1; rw [y1, z1] at X1
 obtain ⟨rfl, N1q, e1⟩ := hQ1
 have N1 := Fr.app N0 N1q
 obtain ⟨T2, X2, e2, st2⟩ := getF X1 hx hZ hown (host := "") (Or.inl (oW hw 24 rfl)) Via.refl e1 fN (g := (mkF m 49 #[oA o0_, oI i1_, oI i2_, oI i3_, oI i4_, oA o5_, oI i6_, oI i7_, oI (aL (aJ ((i4_ + i7_) &&& (i3_ - (1 : Int32)))) ((32 : Int32) - aY))] [(.ref o0_), (.int (aL (aJ ((i4_ + i7_) &&& (i3_ - (1 : Int32)))) ((32 : Int32) - aY)))])) rfl rfl (oG hby d10 31 rfl)
 obtain ⟨c3, A3, hin3, -⟩ := bS (j := i6_) aA1 hf2 hf3
 obtain ⟨T4, h4, X4, e4, W4, st4⟩ := stI X2 hx hZ e2 A3 (j := i6_) hin3 (g := (mkF m 61 #[oA o0_, oI i1_, oI i2_, oI i3_, oI i4_, oA o5_, oI i6_, oI i7_, oI (aL (aJ ((i4_ + i7_) &&& (i3_ - (1 : Int32)))) ((32 : Int32) - aY))] [(.int (aL (aJ ((i4_ + i7_) &&& (i3_ - (1 : Int32)))) ((32 : Int32) - aY))), (.int i6_), (.ref o5_)])) rfl rfl (oG hby d10 36 rfl)
 have V4 : bB Z h4 o5_ sC (nC.set (i6_).toNatClampNeg (aL (aJ ((i4_ + i7_) &&& (i3_ - (1 : Int32)))) ((32 : Int32) - aY))) := jN aA1 hf2 hf3 W4 hf4
 have K4 : Keep h0 h4 [o5_] := (Keep.refl h0 [o5_]).wr W4 (Or.inl (oX 0 rfl))
 have N4 := Fr.snoc X4 N1 aO0
 subst e4
 refine ⟨T4, _, X4, N4, K4, V4, fun target kt => ?_⟩
 show oZ p e below T0 (mkF m 25 #[oA o0_, oI i1_, oI i2_, oI i3_, oI i4_, oA o5_, oI i6_, oI i7_, oI i8_] []) _
 refine XS.iload X0.here hx rfl (oG hby d10 16 rfl) rfl ?_
 refine XS.iloadN X0.here hx rfl (oG hby d10 17 rfl) rfl ?_
 refine XS.icmpNo X0.here hx rfl (oG hby d10 18 rfl) rfl (tlt hf0).2.1 ?_
 refine XS.aloadN X0.here hx rfl (oG hby d10 19 rfl) rfl rfl ?_
 refine XS.iload X0.here hx rfl (oG hby d10 20 rfl) rfl ?_
 refine XS.iload X0.here hx rfl (oG hby d10 21 rfl) rfl ?_
 refine XS.iadd X0.here hx rfl (oG hby d10 22 rfl) rfl ?_
 refine XS.iloadN X0.here hx rfl (oG hby d10 23 rfl) rfl ?_
 refine XS.iconst X0.here hx rfl (oG hby d10 24 rfl) ?_
 refine XS.isub X0.here hx rfl (oG hby d10 25 rfl) rfl ?_
 refine XS.iand X0.here hx rfl (oG hby d10 26 rfl) rfl ?_
 show oZ p e below T0 (mkF m 41 #[oA o0_, oI i1_, oI i2_, oI i3_, oI i4_, oA o5_, oI i6_, oI i7_, oI i8_] [(.int ((i4_ + i7_) &&& (i3_ - (1 : Int32)))), (.ref o0_)]) _
 refine st1.trans ?_
 refine XS.istore X1.here hx rfl (oG hby d10 28 rfl) rfl (l' := #[oA o0_, oI i1_, oI i2_, oI i3_, oI i4_, oA o5_, oI i6_, oI i7_, oI (aL (aJ ((i4_ + i7_) &&& (i3_ - (1 : Int32)))) ((32 : Int32) - aY))]) rfl ?_
 refine XS.iload X1.here hx rfl (oG hby d10 29 rfl) rfl ?_
 refine XS.aloadN X1.here hx rfl (oG hby d10 30 rfl) rfl rfl ?_
 refine st2 _ ?_
 refine XS.icmpNo X2.here hx rfl (oG hby d10 32 rfl) rfl (tlt hf1).2.1 ?_
 refine XS.aload X2.here hx rfl (oG hby d10 33 rfl) rfl rfl ?_
 refine XS.iload X2.here hx rfl (oG hby d10 34 rfl) rfl ?_
 refine XS.iload X2.here hx rfl (oG hby d10 35 rfl) rfl ?_
 refine st4 _ ?_
 refine XS.iinc X4.here hx rfl (oG hby d10 37 rfl) rfl (l' := #[oA o0_, oI i1_, oI i2_, oI i3_, oI i4_, oA o5_, oI (i6_ + (1 : Int32)), oI i7_, oI (aL (aJ ((i4_ + i7_) &&& (i3_ - (1 : Int32)))) ((32 : Int32) - aY))]) rfl ?_
 show oZ p e below T4 (mkF m 65 #[oA o0_, oI i1_, oI i2_, oI i3_, oI i4_, oA o5_, oI (i6_ + (1 : Int32)), oI i7_, oI (aL (aJ ((i4_ + i7_) &&& (i3_ - (1 : Int32)))) ((32 : Int32) - aY))] []) _
 rw [hf5]
 refine XS.iinc X4.here hx rfl (oG hby d10 38 rfl) rfl (l' := #[oA o0_, oI i1_, oI i2_, oI i3_, oI i4_, oA o5_, oI x_, oI (i7_ + (1 : Int32)), oI (aL (aJ ((i4_ + i7_) &&& (i3_ - (1 : Int32)))) ((32 : Int32) - aY))]) rfl ?_
 show oZ p e below T4 (mkF m 68 #[oA o0_, oI i1_, oI i2_, oI i3_, oI i4_, oA o5_, oI x_, oI (i7_ + (1 : Int32)), oI (aL (aJ ((i4_ + i7_) &&& (i3_ - (1 : Int32)))) ((32 : Int32) - aY))] []) _
 rw [hf6]
 refine XS.goto X4.here hx rfl (pc0 := 68) (pc' := 25) rfl (oG hby d10 39 rfl) (by decide) (by decide) ?_
 exact kt
def jH (Z : State) (a0_ : Addr) (h0 : Heap) (n0 : Nat) (v : Option Value) (h : Heap) (L : List Loc) : Prop := ∃ b3 : Addr, v = some (.ref b3) ∧ Fr n0 L ∧ Keep h0 h [] ∧ h0.size ≤ b3 ∧ Exa Z h b3 "[I" ∧ bB Z h b3 (2 : Int32) ([0, 1] : List Int32)
theorem oF (l : Launch) (Z : State) (a0 : Array Value) (hw : oH a0 Z) (ws : List Jvm.Cond) (a0_ : Addr) (h0 : Heap) (n0 : Nat) (Z0 : n0 ≤ h0.size) (aQ : Fld Z h0 a0_ oC0 "ringBits" "I" (.int 1)) (bR : Exa Z h0 a0_ oC0) (bU : Fld Z h0 a0_ oC0 "lots" "I" (.int 2)) :
   oMet l oM1 prog_29_method_13_code 9 (some (.array .int)) ws (oR 5 1 4 100) Z h0 #[(.ref a0_), (.int 0), (.int 2)] (jH Z a0_ h0 n0) := by
 refine oBd n0 (plainFor_of_name eC) ?_
 intro p e s m below meth c s₁ Bd hx hZ hby hml hown hnm X0 e0 N0
 obtain ⟨T1, X1, e1, st1⟩ := getF X0 hx hZ hown (host := "") (Or.inl (oW hw 34 rfl)) Via.refl e0 aQ (g := (mkF m 2 #[oA a0_, oI 0, oI 2, .unset, .unset, .unset, .unset, .unset, .unset] [(.ref a0_), (.int 1)])) rfl rfl (oG hby d10 2 rfl)
 obtain ⟨cq2, q2, q2'⟩ := bR.cell
 obtain ⟨_, _, ⟨T2, L2, k2, n2⟩, -, X2, ⟨Lc2, hQ2, l2, y2, z2⟩, st2⟩ := X1.privateBack hx (y := oM2) hown (mvT hZ (oW hw 66 rfl)) (mvT hZ (oW hw 67 rfl)) (cG (mvT hZ (oW hw 15 rfl)) (mvP hZ (oW hw 68 rfl) (args := #[])) (mvT hZ (oW hw 67 rfl)) (by decide)) (Cond.privateMethod_at (mvP hZ (oW hw 68 rfl) (args := #[]))) (mvT hZ (oW hw 69 rfl)) (by decide) (backOf (W := 0) (gW l Z a0 hw [] a0_ (0 : Int32) (1 : Int32) h0 n0 Z0 aQ) hZ (oW hw 69 rfl) (oW hw 12 rfl) (by decide) (by decide)) (g := (mkF m 9 #[oA a0_, oI 0, oI 2, oI 2, .unset, .unset, .unset, .unset, .unset] [(.int 0), (.ref a0_)])) rfl (by rw [hml]; rfl) (Steps.refl _) (a := a0_) (by rw [e1]; exact q2) q2' (argsL := [(.int 0)]) (rest := []) (lenOf fL rfl) rfl (by show 2 * 0 + _ ≤ _; exact Nat.le_of_eq rfl) (oG hby d10 7 rfl) (fun _ _ => ⟨rfl, e1, (by decide : 0 + 0 ≤ _), (by decide : 0 + 0 ≤ _)⟩)
 dsimp only [Pt.U, Pt.locs, Pt.cells, Pt.slots] at X2 l2 y2 z2 st2 hQ2
 subst l2 y2 z2
 obtain ⟨rfl, N2q, e2⟩ := hQ2
 have N2 := Fr.app N0 N2q
 obtain ⟨T3, h3, k3, X3, e3, E3, A3, B3, st3⟩ := newPE X2 hx hZ (oW hw 84 rfl) e2 (g := (mkF m 15 #[oA a0_, oI 0, oI 2, oI 2, oI 0, .unset, .unset, .unset, .unset] [(.int 2)])) rfl (oG hby d10 10 rfl) rfl (by decide) (cap := 2) (by decide) (by decide) (by decide) (by decide) (ad := "[I") rfl
 obtain ⟨b3, g3⟩ : ∃ z, z = h0.size := ⟨_, rfl⟩
 rw [← g3] at A3 B3 st3
 have gZ : h0.size ≤ b3 := Nat.le_of_eq g3.symm
 have cH : a0_ ≠ b3 := oV aQ.lt gZ
 have bX : h0.size ≤ b3 := Nat.le_trans (Keep.refl h0 []).1 gZ
 have g_b3 : n0 ≤ b3 := Nat.le_trans Z0 bX
 have K3 : Keep h0 h3 [] := (Keep.refl h0 []).ext E3
 have V3 : bB Z h3 b3 (2 : Int32) ([0, 0] : List Int32) := dY (m := 2) A3 (by decide)
 have bT := (aQ.ext E3)
 have eW := (bR.ext E3)
 have bZ := (bU.ext E3)
 obtain ⟨T4, L4, X4, N4, Kq4, Q4_0, st4⟩ := fE 1 4 a0_ (0 : Int32) (2 : Int32) (2 : Int32) (0 : Int32) b3 (0 : Int32) (0 : Int32) (1 : Int32) (2 : Int32) (2 : Int32) ([0, 0] : List Int32) (1 : Int32) (1 : Int32) X3 hx hZ hw hby hml hown e3 N2 (Nat.le_trans Z0 K3.1) bT eW bZ V3 g_b3 (by decide +kernel) (by decide +kernel) (by decide +kernel) (by decide +kernel) (by decide +kernel) (by decide +kernel) (by decide +kernel) (by decide : 1 + (0) ≤ _) (by decide : 2 + (0) ≤ _)
 have K4 : Keep h0 T4.heap [] := K3.trans Kq4 (bJ (Or.inr bX))
 have Q4_0' := aK Q4_0 (vs' := ([0, 0] : List Int32)) (by decide +kernel)
 have cR := (bT.keep Kq4 (bH cH))
 have gE := (eW.keep Kq4)
 have dW := (bZ.keep Kq4 (bH cH))
 have lG := (B3.keep Kq4)
 obtain ⟨T8, L8, X8, N8, Kq8, Q8_0, st8⟩ := dS 1 4 a0_ (0 : Int32) (2 : Int32) (2 : Int32) (0 : Int32) b3 (1 : Int32) (1 : Int32) (aL (aJ (((0 : Int32) + (0 : Int32)) &&& ((2 : Int32) - (1 : Int32)))) ((32 : Int32) - (1 : Int32))) (1 : Int32) (2 : Int32) (2 : Int32) ([0, 0] : List Int32) (2 : Int32) (2 : Int32) X4 hx hZ hw hby hml hown rfl N4 (Nat.le_trans Z0 K4.1) cR gE dW Q4_0' g_b3 (by decide +kernel) (by decide +kernel) (by decide +kernel) (by decide +kernel) (by decide +kernel) (by decide +kernel) (by decide +kernel) (by decide : 1 + (0) ≤ _) (by decide : 2 + (0) ≤ _)
 have K8 : Keep h0 T8.heap [] := K4.trans Kq8 (bJ (Or.inr bX))
 have Q8_0' := aK Q8_0 (vs' := ([0, 1] : List Int32)) (by decide +kernel)
 have oK := (lG.keep Kq8)
 obtain ⟨fs, hr, hrun, hended, hW, hsame⟩ := X8.leave (v := some (.ref b3)) (fun h => by rw [Bd.returns] at h; cases h)
 refine ⟨_, _, castTop (kW m a0_ (0 : Int32) (2 : Int32)) ?_, hrun, hended, _, _, rfl, ?_, ⟨_, rfl⟩, hW, (hsame.mono (by decide) (by decide))⟩
 · show oZ p e below s₁ (mkF m 0 #[oA a0_, oI 0, oI 2, .unset, .unset, .unset, .unset, .unset, .unset] []) _
   refine XS.iconst X0.here hx rfl (oG hby d10 0 rfl) ?_
   refine XS.aloadN X0.here hx rfl (oG hby d10 1 rfl) rfl rfl ?_
   refine st1 _ ?_
   refine XS.ishl X1.here hx rfl (oG hby d10 3 rfl) rfl ?_
   show oZ p e below T1 (mkF m 6 #[oA a0_, oI 0, oI 2, .unset, .unset, .unset, .unset, .unset, .unset] [(.int ((1 : Int32) <<< ((1 : Int32) &&& 31)))]) _
   rw [(by decide +kernel : ((1 : Int32) <<< ((1 : Int32) &&& 31)) = (2 : Int32))]
   refine XS.istoreN X1.here hx rfl (oG hby d10 4 rfl) rfl (l' := #[oA a0_, oI 0, oI 2, oI 2, .unset, .unset, .unset, .unset, .unset]) rfl ?_
   refine XS.aloadN X1.here hx rfl (oG hby d10 5 rfl) rfl rfl ?_
   refine XS.iloadN X1.here hx rfl (oG hby d10 6 rfl) rfl ?_
   refine st2.trans ?_
   show oZ p e below T2 (mkF m 12 #[oA a0_, oI 0, oI 2, oI 2, .unset, .unset, .unset, .unset, .unset] [(.int (dI (0 : Int32) (1 : Int32)))]) _
   rw [(by decide +kernel : (dI (0 : Int32) (1 : Int32)) = (0 : Int32))]
   refine XS.istore X2.here hx rfl (oG hby d10 8 rfl) rfl (l' := #[oA a0_, oI 0, oI 2, oI 2, oI 0, .unset, .unset, .unset, .unset]) rfl ?_
   refine XS.iloadN X2.here hx rfl (oG hby d10 9 rfl) rfl ?_
   refine st3 _ ?_
   refine XS.astore X3.here hx rfl (oG hby d10 11 rfl) rfl rfl (l' := #[oA a0_, oI 0, oI 2, oI 2, oI 0, oA b3, .unset, .unset, .unset]) rfl ?_
   refine XS.iconst X3.here hx rfl (oG hby d10 12 rfl) ?_
   refine XS.istore X3.here hx rfl (oG hby d10 13 rfl) rfl (l' := #[oA a0_, oI 0, oI 2, oI 2, oI 0, oA b3, oI 0, .unset, .unset]) rfl ?_
   refine XS.iconst X3.here hx rfl (oG hby d10 14 rfl) ?_
   refine XS.istore X3.here hx rfl (oG hby d10 15 rfl) rfl (l' := #[oA a0_, oI 0, oI 2, oI 2, oI 0, oA b3, oI 0, oI 0, .unset]) rfl ?_
   refine st4 _ ?_
   refine st8 _ ?_
   show oZ p e below T8 (mkF m 25 #[oA a0_, oI 0, oI 2, oI 2, oI 0, oA b3, oI 2, oI 2, oI (aL (aJ (((0 : Int32) + (1 : Int32)) &&& ((2 : Int32) - (1 : Int32)))) ((32 : Int32) - (1 : Int32)))] []) _
   refine XS.iload X8.here hx rfl (oG hby d10 16 rfl) rfl ?_
   refine XS.iloadN X8.here hx rfl (oG hby d10 17 rfl) rfl ?_
   refine XS.icmpYes X8.here hx rfl (pc0 := 28) (pc' := 71) rfl (oG hby d10 18 rfl) rfl (flt (by decide +kernel : ¬ ((2 : Int32) < (2 : Int32)))).2.1 (by decide) (by decide) ?_
   refine XS.aload X8.here hx rfl (oG hby d10 40 rfl) rfl rfl ?_
   show oZ p e below T8 (mkF m 73 #[oA a0_, oI 0, oI 2, oI 2, oI 0, oA b3, oI 2, oI 2, oI (aL (aJ (((0 : Int32) + (1 : Int32)) &&& ((2 : Int32) - (1 : Int32)))) ((32 : Int32) - (1 : Int32)))] [(.ref b3)]) _
   jvm_step X8.here [X8.here.top, hx, (oG hby d10 41 rfl), X8.method', Bd.returns, Value.isRef, FieldType.isReference]
   first | (intro acts; rw [hr _ acts rfl rfl rfl]) | rw [hr _ _ rfl rfl rfl]
   exact Steps.refl _
 · show jH Z a0_ h0 n0 _ T8.heap _
   exact ⟨b3, rfl, N8, K8, bX, oK, Q8_0'⟩
def jI (Z : State) (a0_ : Addr) (h0 : Heap) (n0 : Nat) (v : Option Value) (h : Heap) (L : List Loc) : Prop := ∃ b3 : Addr, v = some (.ref b3) ∧ Fr n0 L ∧ Keep h0 h [] ∧ h0.size ≤ b3 ∧ Exa Z h b3 "[I" ∧ bB Z h b3 (2 : Int32) ([0, 2] : List Int32)
theorem oL (l : Launch) (Z : State) (a0 : Array Value) (hw : oH a0 Z) (ws : List Jvm.Cond) (a0_ : Addr) (h0 : Heap) (n0 : Nat) (Z0 : n0 ≤ h0.size) (aQ : Fld Z h0 a0_ oC0 "ringBits" "I" (.int 2)) (bR : Exa Z h0 a0_ oC0) (bU : Fld Z h0 a0_ oC0 "lots" "I" (.int 3)) :
   oMet l oM1 prog_29_method_13_code 9 (some (.array .int)) ws (oR 5 1 4 100) Z h0 #[(.ref a0_), (.int 0), (.int 2)] (jI Z a0_ h0 n0) := by
 refine oBd n0 (plainFor_of_name eC) ?_
 intro p e s m below meth c s₁ Bd hx hZ hby hml hown hnm X0 e0 N0
 obtain ⟨T1, X1, e1, st1⟩ := getF X0 hx hZ hown (host := "") (Or.inl (oW hw 34 rfl)) Via.refl e0 aQ (g := (mkF m 2 #[oA a0_, oI 0, oI 2, .unset, .unset, .unset, .unset, .unset, .unset] [(.ref a0_), (.int 1)])) rfl rfl (oG hby d10 2 rfl)
 obtain ⟨cq2, q2, q2'⟩ := bR.cell
 obtain ⟨_, _, ⟨T2, L2, k2, n2⟩, -, X2, ⟨Lc2, hQ2, l2, y2, z2⟩, st2⟩ := X1.privateBack hx (y := oM2) hown (mvT hZ (oW hw 66 rfl)) (mvT hZ (oW hw 67 rfl)) (cG (mvT hZ (oW hw 15 rfl)) (mvP hZ (oW hw 68 rfl) (args := #[])) (mvT hZ (oW hw 67 rfl)) (by decide)) (Cond.privateMethod_at (mvP hZ (oW hw 68 rfl) (args := #[]))) (mvT hZ (oW hw 69 rfl)) (by decide) (backOf (W := 0) (gW l Z a0 hw [] a0_ (0 : Int32) (2 : Int32) h0 n0 Z0 aQ) hZ (oW hw 69 rfl) (oW hw 12 rfl) (by decide) (by decide)) (g := (mkF m 9 #[oA a0_, oI 0, oI 2, oI 4, .unset, .unset, .unset, .unset, .unset] [(.int 0), (.ref a0_)])) rfl (by rw [hml]; rfl) (Steps.refl _) (a := a0_) (by rw [e1]; exact q2) q2' (argsL := [(.int 0)]) (rest := []) (lenOf fL rfl) rfl (by show 2 * 0 + _ ≤ _; exact Nat.le_of_eq rfl) (oG hby d10 7 rfl) (fun _ _ => ⟨rfl, e1, (by decide : 0 + 0 ≤ _), (by decide : 0 + 0 ≤ _)⟩)
 dsimp only [Pt.U, Pt.locs, Pt.cells, Pt.slots] at X2 l2 y2 z2 st2 hQ2
 subst l2 y2 z2
 obtain ⟨rfl, N2q, e2⟩ := hQ2
 have N2 := Fr.app N0 N2q
 obtain ⟨T3, h3, k3, X3, e3, E3, A3, B3, st3⟩ := newPE X2 hx hZ (oW hw 84 rfl) e2 (g := (mkF m 15 #[oA a0_, oI 0, oI 2, oI 4, oI 0, .unset, .unset, .unset, .unset] [(.int 2)])) rfl (oG hby d10 10 rfl) rfl (by decide) (cap := 2) (by decide) (by decide) (by decide) (by decide) (ad := "[I") rfl
 obtain ⟨b3, g3⟩ : ∃ z, z = h0.size := ⟨_, rfl⟩
 rw [← g3] at A3 B3 st3
 have gZ : h0.size ≤ b3 := Nat.le_of_eq g3.symm
 have cH : a0_ ≠ b3 := oV aQ.lt gZ
 have bX : h0.size ≤ b3 := Nat.le_trans (Keep.refl h0 []).1 gZ
 have g_b3 : n0 ≤ b3 := Nat.le_trans Z0 bX
 have K3 : Keep h0 h3 [] := (Keep.refl h0 []).ext E3
 have V3 : bB Z h3 b3 (2 : Int32) ([0, 0] : List Int32) := dY (m := 2) A3 (by decide)
 have bT := (aQ.ext E3)
 have eW := (bR.ext E3)
 have bZ := (bU.ext E3)
 obtain ⟨T4, L4, X4, N4, Kq4, Q4_0, st4⟩ := fE 1 4 a0_ (0 : Int32) (2 : Int32) (4 : Int32) (0 : Int32) b3 (0 : Int32) (0 : Int32) (2 : Int32) (3 : Int32) (2 : Int32) ([0, 0] : List Int32) (1 : Int32) (1 : Int32) X3 hx hZ hw hby hml hown e3 N2 (Nat.le_trans Z0 K3.1) bT eW bZ V3 g_b3 (by decide +kernel) (by decide +kernel) (by decide +kernel) (by decide +kernel) (by decide +kernel) (by decide +kernel) (by decide +kernel) (by decide : 1 + (0) ≤ _) (by decide : 2 + (0) ≤ _)
 have K4 : Keep h0 T4.heap [] := K3.trans Kq4 (bJ (Or.inr bX))
 have Q4_0' := aK Q4_0 (vs' := ([0, 0] : List Int32)) (by decide +kernel)
 have cR := (bT.keep Kq4 (bH cH))
 have gE := (eW.keep Kq4)
 have dW := (bZ.keep Kq4 (bH cH))
 have lG := (B3.keep Kq4)
 obtain ⟨T8, L8, X8, N8, Kq8, Q8_0, st8⟩ := dS 1 4 a0_ (0 : Int32) (2 : Int32) (4 : Int32) (0 : Int32) b3 (1 : Int32) (1 : Int32) (aL (aJ (((0 : Int32) + (0 : Int32)) &&& ((4 : Int32) - (1 : Int32)))) ((32 : Int32) - (2 : Int32))) (2 : Int32) (3 : Int32) (2 : Int32) ([0, 0] : List Int32) (2 : Int32) (2 : Int32) X4 hx hZ hw hby hml hown rfl N4 (Nat.le_trans Z0 K4.1) cR gE dW Q4_0' g_b3 (by decide +kernel) (by decide +kernel) (by decide +kernel) (by decide +kernel) (by decide +kernel) (by decide +kernel) (by decide +kernel) (by decide : 1 + (0) ≤ _) (by decide : 2 + (0) ≤ _)
 have K8 : Keep h0 T8.heap [] := K4.trans Kq8 (bJ (Or.inr bX))
 have Q8_0' := aK Q8_0 (vs' := ([0, 2] : List Int32)) (by decide +kernel)
 have oK := (lG.keep Kq8)
 obtain ⟨fs, hr, hrun, hended, hW, hsame⟩ := X8.leave (v := some (.ref b3)) (fun h => by rw [Bd.returns] at h; cases h)
 refine ⟨_, _, castTop (kW m a0_ (0 : Int32) (2 : Int32)) ?_, hrun, hended, _, _, rfl, ?_, ⟨_, rfl⟩, hW, (hsame.mono (by decide) (by decide))⟩
 · show oZ p e below s₁ (mkF m 0 #[oA a0_, oI 0, oI 2, .unset, .unset, .unset, .unset, .unset, .unset] []) _
   refine XS.iconst X0.here hx rfl (oG hby d10 0 rfl) ?_
   refine XS.aloadN X0.here hx rfl (oG hby d10 1 rfl) rfl rfl ?_
   refine st1 _ ?_
   refine XS.ishl X1.here hx rfl (oG hby d10 3 rfl) rfl ?_
   show oZ p e below T1 (mkF m 6 #[oA a0_, oI 0, oI 2, .unset, .unset, .unset, .unset, .unset, .unset] [(.int ((1 : Int32) <<< ((2 : Int32) &&& 31)))]) _
   rw [(by decide +kernel : ((1 : Int32) <<< ((2 : Int32) &&& 31)) = (4 : Int32))]
   refine XS.istoreN X1.here hx rfl (oG hby d10 4 rfl) rfl (l' := #[oA a0_, oI 0, oI 2, oI 4, .unset, .unset, .unset, .unset, .unset]) rfl ?_
   refine XS.aloadN X1.here hx rfl (oG hby d10 5 rfl) rfl rfl ?_
   refine XS.iloadN X1.here hx rfl (oG hby d10 6 rfl) rfl ?_
   refine st2.trans ?_
   show oZ p e below T2 (mkF m 12 #[oA a0_, oI 0, oI 2, oI 4, .unset, .unset, .unset, .unset, .unset] [(.int (dI (0 : Int32) (2 : Int32)))]) _
   rw [(by decide +kernel : (dI (0 : Int32) (2 : Int32)) = (0 : Int32))]
   refine XS.istore X2.here hx rfl (oG hby d10 8 rfl) rfl (l' := #[oA a0_, oI 0, oI 2, oI 4, oI 0, .unset, .unset, .unset, .unset]) rfl ?_
   refine XS.iloadN X2.here hx rfl (oG hby d10 9 rfl) rfl ?_
   refine st3 _ ?_
   refine XS.astore X3.here hx rfl (oG hby d10 11 rfl) rfl rfl (l' := #[oA a0_, oI 0, oI 2, oI 4, oI 0, oA b3, .unset, .unset, .unset]) rfl ?_
   refine XS.iconst X3.here hx rfl (oG hby d10 12 rfl) ?_
   refine XS.istore X3.here hx rfl (oG hby d10 13 rfl) rfl (l' := #[oA a0_, oI 0, oI 2, oI 4, oI 0, oA b3, oI 0, .unset, .unset]) rfl ?_
   refine XS.iconst X3.here hx rfl (oG hby d10 14 rfl) ?_
   refine XS.istore X3.here hx rfl (oG hby d10 15 rfl) rfl (l' := #[oA a0_, oI 0, oI 2, oI 4, oI 0, oA b3, oI 0, oI 0, .unset]) rfl ?_
   refine st4 _ ?_
   refine st8 _ ?_
   show oZ p e below T8 (mkF m 25 #[oA a0_, oI 0, oI 2, oI 4, oI 0, oA b3, oI 2, oI 2, oI (aL (aJ (((0 : Int32) + (1 : Int32)) &&& ((4 : Int32) - (1 : Int32)))) ((32 : Int32) - (2 : Int32)))] []) _
   refine XS.iload X8.here hx rfl (oG hby d10 16 rfl) rfl ?_
   refine XS.iloadN X8.here hx rfl (oG hby d10 17 rfl) rfl ?_
   refine XS.icmpYes X8.here hx rfl (pc0 := 28) (pc' := 71) rfl (oG hby d10 18 rfl) rfl (flt (by decide +kernel : ¬ ((2 : Int32) < (2 : Int32)))).2.1 (by decide) (by decide) ?_
   refine XS.aload X8.here hx rfl (oG hby d10 40 rfl) rfl rfl ?_
   show oZ p e below T8 (mkF m 73 #[oA a0_, oI 0, oI 2, oI 4, oI 0, oA b3, oI 2, oI 2, oI (aL (aJ (((0 : Int32) + (1 : Int32)) &&& ((4 : Int32) - (1 : Int32)))) ((32 : Int32) - (2 : Int32)))] [(.ref b3)]) _
   jvm_step X8.here [X8.here.top, hx, (oG hby d10 41 rfl), X8.method', Bd.returns, Value.isRef, FieldType.isReference]
   first | (intro acts; rw [hr _ acts rfl rfl rfl]) | rw [hr _ _ rfl rfl rfl]
   exact Steps.refl _
 · show jI Z a0_ h0 n0 _ T8.heap _
   exact ⟨b3, rfl, N8, K8, bX, oK, Q8_0'⟩
def jJ (Z : State) (a0_ : Addr) (h0 : Heap) (n0 : Nat) (v : Option Value) (h : Heap) (L : List Loc) : Prop := ∃ b3 : Addr, v = some (.ref b3) ∧ Fr n0 L ∧ Keep h0 h [] ∧ h0.size ≤ b3 ∧ Exa Z h b3 "[I" ∧ bB Z h b3 (3 : Int32) ([0, 2, 1] : List Int32)
theorem oM (l : Launch) (Z : State) (a0 : Array Value) (hw : oH a0 Z) (ws : List Jvm.Cond) (a0_ : Addr) (h0 : Heap) (n0 : Nat) (Z0 : n0 ≤ h0.size) (aQ : Fld Z h0 a0_ oC0 "ringBits" "I" (.int 2)) (bR : Exa Z h0 a0_ oC0) (bU : Fld Z h0 a0_ oC0 "lots" "I" (.int 3)) :
   oMet l oM1 prog_29_method_13_code 9 (some (.array .int)) ws (oR 5 1 4 100) Z h0 #[(.ref a0_), (.int 0), (.int 3)] (jJ Z a0_ h0 n0) := by
 refine oBd n0 (plainFor_of_name eC) ?_
 intro p e s m below meth c s₁ Bd hx hZ hby hml hown hnm X0 e0 N0
 obtain ⟨T1, X1, e1, st1⟩ := getF X0 hx hZ hown (host := "") (Or.inl (oW hw 34 rfl)) Via.refl e0 aQ (g := (mkF m 2 #[oA a0_, oI 0, oI 3, .unset, .unset, .unset, .unset, .unset, .unset] [(.ref a0_), (.int 1)])) rfl rfl (oG hby d10 2 rfl)
 obtain ⟨cq2, q2, q2'⟩ := bR.cell
 obtain ⟨_, _, ⟨T2, L2, k2, n2⟩, -, X2, ⟨Lc2, hQ2, l2, y2, z2⟩, st2⟩ := X1.privateBack hx (y := oM2) hown (mvT hZ (oW hw 66 rfl)) (mvT hZ (oW hw 67 rfl)) (cG (mvT hZ (oW hw 15 rfl)) (mvP hZ (oW hw 68 rfl) (args := #[])) (mvT hZ (oW hw 67 rfl)) (by decide)) (Cond.privateMethod_at (mvP hZ (oW hw 68 rfl) (args := #[]))) (mvT hZ (oW hw 69 rfl)) (by decide) (backOf (W := 0) (gW l Z a0 hw [] a0_ (0 : Int32) (2 : Int32) h0 n0 Z0 aQ) hZ (oW hw 69 rfl) (oW hw 12 rfl) (by decide) (by decide)) (g := (mkF m 9 #[oA a0_, oI 0, oI 3, oI 4, .unset, .unset, .unset, .unset, .unset] [(.int 0), (.ref a0_)])) rfl (by rw [hml]; rfl) (Steps.refl _) (a := a0_) (by rw [e1]; exact q2) q2' (argsL := [(.int 0)]) (rest := []) (lenOf fL rfl) rfl (by show 2 * 0 + _ ≤ _; exact Nat.le_of_eq rfl) (oG hby d10 7 rfl) (fun _ _ => ⟨rfl, e1, (by decide : 0 + 0 ≤ _), (by decide : 0 + 0 ≤ _)⟩)
 dsimp only [Pt.U, Pt.locs, Pt.cells, Pt.slots] at X2 l2 y2 z2 st2 hQ2
 subst l2 y2 z2
 obtain ⟨rfl, N2q, e2⟩ := hQ2
 have N2 := Fr.app N0 N2q
 obtain ⟨T3, h3, k3, X3, e3, E3, A3, B3, st3⟩ := newPE X2 hx hZ (oW hw 84 rfl) e2 (g := (mkF m 15 #[oA a0_, oI 0, oI 3, oI 4, oI 0, .unset, .unset, .unset, .unset] [(.int 3)])) rfl (oG hby d10 10 rfl) rfl (by decide) (cap := 3) (by decide) (by decide) (by decide) (by decide) (ad := "[I") rfl
 obtain ⟨b3, g3⟩ : ∃ z, z = h0.size := ⟨_, rfl⟩
 rw [← g3] at A3 B3 st3
 have gZ : h0.size ≤ b3 := Nat.le_of_eq g3.symm
 have cH : a0_ ≠ b3 := oV aQ.lt gZ
 have bX : h0.size ≤ b3 := Nat.le_trans (Keep.refl h0 []).1 gZ
 have g_b3 : n0 ≤ b3 := Nat.le_trans Z0 bX
 have K3 : Keep h0 h3 [] := (Keep.refl h0 []).ext E3
 have V3 : bB Z h3 b3 (3 : Int32) ([0, 0, 0] : List Int32) := dY (m := 3) A3 (by decide)
 have bT := (aQ.ext E3)
 have eW := (bR.ext E3)
 have bZ := (bU.ext E3)
 obtain ⟨T4, L4, X4, N4, Kq4, Q4_0, st4⟩ := fE 1 4 a0_ (0 : Int32) (3 : Int32) (4 : Int32) (0 : Int32) b3 (0 : Int32) (0 : Int32) (2 : Int32) (3 : Int32) (3 : Int32) ([0, 0, 0] : List Int32) (1 : Int32) (1 : Int32) X3 hx hZ hw hby hml hown e3 N2 (Nat.le_trans Z0 K3.1) bT eW bZ V3 g_b3 (by decide +kernel) (by decide +kernel) (by decide +kernel) (by decide +kernel) (by decide +kernel) (by decide +kernel) (by decide +kernel) (by decide : 1 + (0) ≤ _) (by decide : 3 + (0) ≤ _)
 have K4 : Keep h0 T4.heap [] := K3.trans Kq4 (bJ (Or.inr bX))
 have Q4_0' := aK Q4_0 (vs' := ([0, 0, 0] : List Int32)) (by decide +kernel)
 have cR := (bT.keep Kq4 (bH cH))
 have gE := (eW.keep Kq4)
 have dW := (bZ.keep Kq4 (bH cH))
 have lG := (B3.keep Kq4)
 obtain ⟨T8, L8, X8, N8, Kq8, Q8_0, st8⟩ := dS 1 4 a0_ (0 : Int32) (3 : Int32) (4 : Int32) (0 : Int32) b3 (1 : Int32) (1 : Int32) (aL (aJ (((0 : Int32) + (0 : Int32)) &&& ((4 : Int32) - (1 : Int32)))) ((32 : Int32) - (2 : Int32))) (2 : Int32) (3 : Int32) (3 : Int32) ([0, 0, 0] : List Int32) (2 : Int32) (2 : Int32) X4 hx hZ hw hby hml hown rfl N4 (Nat.le_trans Z0 K4.1) cR gE dW Q4_0' g_b3 (by decide +kernel) (by decide +kernel) (by decide +kernel) (by decide +kernel) (by decide +kernel) (by decide +kernel) (by decide +kernel) (by decide : 1 + (0) ≤ _) (by decide : 3 + (0) ≤ _)
 have K8 : Keep h0 T8.heap [] := K4.trans Kq8 (bJ (Or.inr bX))
 have Q8_0' := aK Q8_0 (vs' := ([0, 2, 0] : List Int32)) (by decide +kernel)
 have fU := (cR.keep Kq8 (bH cH))
 have iQ := (gE.keep Kq8)
 have iH := (dW.keep Kq8 (bH cH))
 have vY := (lG.keep Kq8)
 obtain ⟨T13, L13, X13, N13, Kq13, Q13_0, st13⟩ := dS 1 4 a0_ (0 : Int32) (3 : Int32) (4 : Int32) (0 : Int32) b3 (2 : Int32) (2 : Int32) (aL (aJ (((0 : Int32) + (1 : Int32)) &&& ((4 : Int32) - (1 : Int32)))) ((32 : Int32) - (2 : Int32))) (2 : Int32) (3 : Int32) (3 : Int32) ([0, 2, 0] : List Int32) (3 : Int32) (3 : Int32) X8 hx hZ hw hby hml hown rfl N8 (Nat.le_trans Z0 K8.1) fU iQ iH Q8_0' g_b3 (by decide +kernel) (by decide +kernel) (by decide +kernel) (by decide +kernel) (by decide +kernel) (by decide +kernel) (by decide +kernel) (by decide : 1 + (0) ≤ _) (by decide : 3 + (0) ≤ _)
 have K13 : Keep h0 T13.heap [] := K8.trans Kq13 (bJ (Or.inr bX))
 have Q13_0' := aK Q13_0 (vs' := ([0, 2, 1] : List Int32)) (by decide +kernel)
 have aC8 := (vY.keep Kq13)
 obtain ⟨fs, hr, hrun, hended, hW, hsame⟩ := X13.leave (v := some (.ref b3)) (fun h => by rw [Bd.returns] at h; cases h)
 refine ⟨_, _, castTop (kW m a0_ (0 : Int32) (3 : Int32)) ?_, hrun, hended, _, _, rfl, ?_, ⟨_, rfl⟩, hW, (hsame.mono (by decide) (by decide))⟩
 · show oZ p e below s₁ (mkF m 0 #[oA a0_, oI 0, oI 3, .unset, .unset, .unset, .unset, .unset, .unset] []) _
   refine XS.iconst X0.here hx rfl (oG hby d10 0 rfl) ?_
   refine XS.aloadN X0.here hx rfl (oG hby d10 1 rfl) rfl rfl ?_
   refine st1 _ ?_
   refine XS.ishl X1.here hx rfl (oG hby d10 3 rfl) rfl ?_
   show oZ p e below T1 (mkF m 6 #[oA a0_, oI 0, oI 3, .unset, .unset, .unset, .unset, .unset, .unset] [(.int ((1 : Int32) <<< ((2 : Int32) &&& 31)))]) _
   rw [(by decide +kernel : ((1 : Int32) <<< ((2 : Int32) &&& 31)) = (4 : Int32))]
   refine XS.istoreN X1.here hx rfl (oG hby d10 4 rfl) rfl (l' := #[oA a0_, oI 0, oI 3, oI 4, .unset, .unset, .unset, .unset, .unset]) rfl ?_
   refine XS.aloadN X1.here hx rfl (oG hby d10 5 rfl) rfl rfl ?_
   refine XS.iloadN X1.here hx rfl (oG hby d10 6 rfl) rfl ?_
   refine st2.trans ?_
   show oZ p e below T2 (mkF m 12 #[oA a0_, oI 0, oI 3, oI 4, .unset, .unset, .unset, .unset, .unset] [(.int (dI (0 : Int32) (2 : Int32)))]) _
   rw [(by decide +kernel : (dI (0 : Int32) (2 : Int32)) = (0 : Int32))]
   refine XS.istore X2.here hx rfl (oG hby d10 8 rfl) rfl (l' := #[oA a0_, oI 0, oI 3, oI 4, oI 0, .unset, .unset, .unset, .unset]) rfl ?_
   refine XS.iloadN X2.here hx rfl (oG hby d10 9 rfl) rfl ?_
   refine st3 _ ?_
   refine XS.astore X3.here hx rfl (oG hby d10 11 rfl) rfl rfl (l' := #[oA a0_, oI 0, oI 3, oI 4, oI 0, oA b3, .unset, .unset, .unset]) rfl ?_
   refine XS.iconst X3.here hx rfl (oG hby d10 12 rfl) ?_
   refine XS.istore X3.here hx rfl (oG hby d10 13 rfl) rfl (l' := #[oA a0_, oI 0, oI 3, oI 4, oI 0, oA b3, oI 0, .unset, .unset]) rfl ?_
   refine XS.iconst X3.here hx rfl (oG hby d10 14 rfl) ?_
   refine XS.istore X3.here hx rfl (oG hby d10 15 rfl) rfl (l' := #[oA a0_, oI 0, oI 3, oI 4, oI 0, oA b3, oI 0, oI 0, .unset]) rfl ?_
   refine st4 _ ?_
   refine st8 _ ?_
   show oZ p e below T8 (mkF m 25 #[oA a0_, oI 0, oI 3, oI 4, oI 0, oA b3, oI 2, oI 2, oI (aL (aJ (((0 : Int32) + (1 : Int32)) &&& ((4 : Int32) - (1 : Int32)))) ((32 : Int32) - (2 : Int32)))] []) _
   refine st13 _ ?_
   refine XS.iload X13.here hx rfl (oG hby d10 16 rfl) rfl ?_
   refine XS.iloadN X13.here hx rfl (oG hby d10 17 rfl) rfl ?_
   refine XS.icmpYes X13.here hx rfl (pc0 := 28) (pc' := 71) rfl (oG hby d10 18 rfl) rfl (flt (by decide +kernel : ¬ ((3 : Int32) < (3 : Int32)))).2.1 (by decide) (by decide) ?_
   refine XS.aload X13.here hx rfl (oG hby d10 40 rfl) rfl rfl ?_
   show oZ p e below T13 (mkF m 73 #[oA a0_, oI 0, oI 3, oI 4, oI 0, oA b3, oI 3, oI 3, oI (aL (aJ (((0 : Int32) + (2 : Int32)) &&& ((4 : Int32) - (1 : Int32)))) ((32 : Int32) - (2 : Int32)))] [(.ref b3)]) _
   jvm_step X13.here [X13.here.top, hx, (oG hby d10 41 rfl), X13.method', Bd.returns, Value.isRef, FieldType.isReference]
   first | (intro acts; rw [hr _ acts rfl rfl rfl]) | rw [hr _ _ rfl rfl rfl]
   exact Steps.refl _
 · show jJ Z a0_ h0 n0 _ T13.heap _
   exact ⟨b3, rfl, N13, K13, bX, aC8, Q13_0'⟩
def jK (Z : State) (a0_ : Addr) (h0 : Heap) (n0 : Nat) (v : Option Value) (h : Heap) (L : List Loc) : Prop := ∃ b3 : Addr, v = some (.ref b3) ∧ Fr n0 L ∧ Keep h0 h [] ∧ h0.size ≤ b3 ∧ Exa Z h b3 "[I" ∧ bB Z h b3 (2 : Int32) ([0, 2] : List Int32)
theorem oO (l : Launch) (Z : State) (a0 : Array Value) (hw : oH a0 Z) (ws : List Jvm.Cond) (a0_ : Addr) (h0 : Heap) (n0 : Nat) (Z0 : n0 ≤ h0.size) (aQ : Fld Z h0 a0_ oC0 "ringBits" "I" (.int 2)) (bR : Exa Z h0 a0_ oC0) (bU : Fld Z h0 a0_ oC0 "lots" "I" (.int 4)) :
   oMet l oM1 prog_29_method_13_code 9 (some (.array .int)) ws (oR 5 1 4 100) Z h0 #[(.ref a0_), (.int 0), (.int 2)] (jK Z a0_ h0 n0) := by
 refine oBd n0 (plainFor_of_name eC) ?_
 intro p e s m below meth c s₁ Bd hx hZ hby hml hown hnm X0 e0 N0
 obtain ⟨T1, X1, e1, st1⟩ := getF X0 hx hZ hown (host := "") (Or.inl (oW hw 34 rfl)) Via.refl e0 aQ (g := (mkF m 2 #[oA a0_, oI 0, oI 2, .unset, .unset, .unset, .unset, .unset, .unset] [(.ref a0_), (.int 1)])) rfl rfl (oG hby d10 2 rfl)
 obtain ⟨cq2, q2, q2'⟩ := bR.cell
 obtain ⟨_, _, ⟨T2, L2, k2, n2⟩, -, X2, ⟨Lc2, hQ2, l2, y2, z2⟩, st2⟩ := X1.privateBack hx (y := oM2) hown (mvT hZ (oW hw 66 rfl)) (mvT hZ (oW hw 67 rfl)) (cG (mvT hZ (oW hw 15 rfl)) (mvP hZ (oW hw 68 rfl) (args := #[])) (mvT hZ (oW hw 67 rfl)) (by decide)) (Cond.privateMethod_at (mvP hZ (oW hw 68 rfl) (args := #[]))) (mvT hZ (oW hw 69 rfl)) (by decide) (backOf (W := 0) (gW l Z a0 hw [] a0_ (0 : Int32) (2 : Int32) h0 n0 Z0 aQ) hZ (oW hw 69 rfl) (oW hw 12 rfl) (by decide) (by decide)) (g := (mkF m 9 #[oA a0_, oI 0, oI 2, oI 4, .unset, .unset, .unset, .unset, .unset] [(.int 0), (.ref a0_)])) rfl (by rw [hml]; rfl) (Steps.refl _) (a := a0_) (by rw [e1]; exact q2) q2' (argsL := [(.int 0)]) (rest := []) (lenOf fL rfl) rfl (by show 2 * 0 + _ ≤ _; exact Nat.le_of_eq rfl) (oG hby d10 7 rfl) (fun _ _ => ⟨rfl, e1, (by decide : 0 + 0 ≤ _), (by decide : 0 + 0 ≤ _)⟩)
 dsimp only [Pt.U, Pt.locs, Pt.cells, Pt.slots] at X2 l2 y2 z2 st2 hQ2
 subst l2 y2 z2
 obtain ⟨rfl, N2q, e2⟩ := hQ2
 have N2 := Fr.app N0 N2q
 obtain ⟨T3, h3, k3, X3, e3, E3, A3, B3, st3⟩ := newPE X2 hx hZ (oW hw 84 rfl) e2 (g := (mkF m 15 #[oA a0_, oI 0, oI 2, oI 4, oI 0, .unset, .unset, .unset, .unset] [(.int 2)])) rfl (oG hby d10 10 rfl) rfl (by decide) (cap := 2) (by decide) (by decide) (by decide) (by decide) (ad := "[I") rfl
 obtain ⟨b3, g3⟩ : ∃ z, z = h0.size := ⟨_, rfl⟩
 rw [← g3] at A3 B3 st3
 have gZ : h0.size ≤ b3 := Nat.le_of_eq g3.symm
 have cH : a0_ ≠ b3 := oV aQ.lt gZ
 have bX : h0.size ≤ b3 := Nat.le_trans (Keep.refl h0 []).1 gZ
 have g_b3 : n0 ≤ b3 := Nat.le_trans Z0 bX
 have K3 : Keep h0 h3 [] := (Keep.refl h0 []).ext E3
 have V3 : bB Z h3 b3 (2 : Int32) ([0, 0] : List Int32) := dY (m := 2) A3 (by decide)
 have bT := (aQ.ext E3)
 have eW := (bR.ext E3)
 have bZ := (bU.ext E3)
 obtain ⟨T4, L4, X4, N4, Kq4, Q4_0, st4⟩ := fE 1 4 a0_ (0 : Int32) (2 : Int32) (4 : Int32) (0 : Int32) b3 (0 : Int32) (0 : Int32) (2 : Int32) (4 : Int32) (2 : Int32) ([0, 0] : List Int32) (1 : Int32) (1 : Int32) X3 hx hZ hw hby hml hown e3 N2 (Nat.le_trans Z0 K3.1) bT eW bZ V3 g_b3 (by decide +kernel) (by decide +kernel) (by decide +kernel) (by decide +kernel) (by decide +kernel) (by decide +kernel) (by decide +kernel) (by decide : 1 + (0) ≤ _) (by decide : 2 + (0) ≤ _)
 have K4 : Keep h0 T4.heap [] := K3.trans Kq4 (bJ (Or.inr bX))
 have Q4_0' := aK Q4_0 (vs' := ([0, 0] : List Int32)) (by decide +kernel)
 have cR := (bT.keep Kq4 (bH cH))
 have gE := (eW.keep Kq4)
 have dW := (bZ.keep Kq4 (bH cH))
 have lG := (B3.keep Kq4)
 obtain ⟨T8, L8, X8, N8, Kq8, Q8_0, st8⟩ := dS 1 4 a0_ (0 : Int32) (2 : Int32) (4 : Int32) (0 : Int32) b3 (1 : Int32) (1 : Int32) (aL (aJ (((0 : Int32) + (0 : Int32)) &&& ((4 : Int32) - (1 : Int32)))) ((32 : Int32) - (2 : Int32))) (2 : Int32) (4 : Int32) (2 : Int32) ([0, 0] : List Int32) (2 : Int32) (2 : Int32) X4 hx hZ hw hby hml hown rfl N4 (Nat.le_trans Z0 K4.1) cR gE dW Q4_0' g_b3 (by decide +kernel) (by decide +kernel) (by decide +kernel) (by decide +kernel) (by decide +kernel) (by decide +kernel) (by decide +kernel) (by decide : 1 + (0) ≤ _) (by decide : 2 + (0) ≤ _)
 have K8 : Keep h0 T8.heap [] := K4.trans Kq8 (bJ (Or.inr bX))
 have Q8_0' := aK Q8_0 (vs' := ([0, 2] : List Int32)) (by decide +kernel)
 have oK := (lG.keep Kq8)
 obtain ⟨fs, hr, hrun, hended, hW, hsame⟩ := X8.leave (v := some (.ref b3)) (fun h => by rw [Bd.returns] at h; cases h)
 refine ⟨_, _, castTop (kW m a0_ (0 : Int32) (2 : Int32)) ?_, hrun, hended, _, _, rfl, ?_, ⟨_, rfl⟩, hW, (hsame.mono (by decide) (by decide))⟩
 · show oZ p e below s₁ (mkF m 0 #[oA a0_, oI 0, oI 2, .unset, .unset, .unset, .unset, .unset, .unset] []) _
   refine XS.iconst X0.here hx rfl (oG hby d10 0 rfl) ?_
   refine XS.aloadN X0.here hx rfl (oG hby d10 1 rfl) rfl rfl ?_
   refine st1 _ ?_
   refine XS.ishl X1.here hx rfl (oG hby d10 3 rfl) rfl ?_
   show oZ p e below T1 (mkF m 6 #[oA a0_, oI 0, oI 2, .unset, .unset, .unset, .unset, .unset, .unset] [(.int ((1 : Int32) <<< ((2 : Int32) &&& 31)))]) _
   rw [(by decide +kernel : ((1 : Int32) <<< ((2 : Int32) &&& 31)) = (4 : Int32))]
   refine XS.istoreN X1.here hx rfl (oG hby d10 4 rfl) rfl (l' := #[oA a0_, oI 0, oI 2, oI 4, .unset, .unset, .unset, .unset, .unset]) rfl ?_
   refine XS.aloadN X1.here hx rfl (oG hby d10 5 rfl) rfl rfl ?_
   refine XS.iloadN X1.here hx rfl (oG hby d10 6 rfl) rfl ?_
   refine st2.trans ?_
   show oZ p e below T2 (mkF m 12 #[oA a0_, oI 0, oI 2, oI 4, .unset, .unset, .unset, .unset, .unset] [(.int (dI (0 : Int32) (2 : Int32)))]) _
   rw [(by decide +kernel : (dI (0 : Int32) (2 : Int32)) = (0 : Int32))]
   refine XS.istore X2.here hx rfl (oG hby d10 8 rfl) rfl (l' := #[oA a0_, oI 0, oI 2, oI 4, oI 0, .unset, .unset, .unset, .unset]) rfl ?_
   refine XS.iloadN X2.here hx rfl (oG hby d10 9 rfl) rfl ?_
   refine st3 _ ?_
   refine XS.astore X3.here hx rfl (oG hby d10 11 rfl) rfl rfl (l' := #[oA a0_, oI 0, oI 2, oI 4, oI 0, oA b3, .unset, .unset, .unset]) rfl ?_
   refine XS.iconst X3.here hx rfl (oG hby d10 12 rfl) ?_
   refine XS.istore X3.here hx rfl (oG hby d10 13 rfl) rfl (l' := #[oA a0_, oI 0, oI 2, oI 4, oI 0, oA b3, oI 0, .unset, .unset]) rfl ?_
   refine XS.iconst X3.here hx rfl (oG hby d10 14 rfl) ?_
   refine XS.istore X3.here hx rfl (oG hby d10 15 rfl) rfl (l' := #[oA a0_, oI 0, oI 2, oI 4, oI 0, oA b3, oI 0, oI 0, .unset]) rfl ?_
   refine st4 _ ?_
   refine st8 _ ?_
   show oZ p e below T8 (mkF m 25 #[oA a0_, oI 0, oI 2, oI 4, oI 0, oA b3, oI 2, oI 2, oI (aL (aJ (((0 : Int32) + (1 : Int32)) &&& ((4 : Int32) - (1 : Int32)))) ((32 : Int32) - (2 : Int32)))] []) _
   refine XS.iload X8.here hx rfl (oG hby d10 16 rfl) rfl ?_
   refine XS.iloadN X8.here hx rfl (oG hby d10 17 rfl) rfl ?_
   refine XS.icmpYes X8.here hx rfl (pc0 := 28) (pc' := 71) rfl (oG hby d10 18 rfl) rfl (flt (by decide +kernel : ¬ ((2 : Int32) < (2 : Int32)))).2.1 (by decide) (by decide) ?_
   refine XS.aload X8.here hx rfl (oG hby d10 40 rfl) rfl rfl ?_
   show oZ p e below T8 (mkF m 73 #[oA a0_, oI 0, oI 2, oI 4, oI 0, oA b3, oI 2, oI 2, oI (aL (aJ (((0 : Int32) + (1 : Int32)) &&& ((4 : Int32) - (1 : Int32)))) ((32 : Int32) - (2 : Int32)))] [(.ref b3)]) _
   jvm_step X8.here [X8.here.top, hx, (oG hby d10 41 rfl), X8.method', Bd.returns, Value.isRef, FieldType.isReference]
   first | (intro acts; rw [hr _ acts rfl rfl rfl]) | rw [hr _ _ rfl rfl rfl]
   exact Steps.refl _
 · show jK Z a0_ h0 n0 _ T8.heap _
   exact ⟨b3, rfl, N8, K8, bX, oK, Q8_0'⟩
def jL (Z : State) (a0_ : Addr) (h0 : Heap) (n0 : Nat) (v : Option Value) (h : Heap) (L : List Loc) : Prop := ∃ b3 : Addr, v = some (.ref b3) ∧ Fr n0 L ∧ Keep h0 h [] ∧ h0.size ≤ b3 ∧ Exa Z h b3 "[I" ∧ bB Z h b3 (3 : Int32) ([0, 2, 1] : List Int32)
theorem oP (l : Launch) (Z : State) (a0 : Array Value) (hw : oH a0 Z) (ws : List Jvm.Cond) (a0_ : Addr) (h0 : Heap) (n0 : Nat) (Z0 : n0 ≤ h0.size) (aQ : Fld Z h0 a0_ oC0 "ringBits" "I" (.int 2)) (bR : Exa Z h0 a0_ oC0) (bU : Fld Z h0 a0_ oC0 "lots" "I" (.int 4)) :
   oMet l oM1 prog_29_method_13_code 9 (some (.array .int)) ws (oR 5 1 4 100) Z h0 #[(.ref a0_), (.int 0), (.int 3)] (jL Z a0_ h0 n0) := by
 refine oBd n0 (plainFor_of_name eC) ?_
 intro p e s m below meth c s₁ Bd hx hZ hby hml hown hnm X0 e0 N0
 obtain ⟨T1, X1, e1, st1⟩ := getF X0 hx hZ hown (host := "") (Or.inl (oW hw 34 rfl)) Via.refl e0 aQ (g := (mkF m 2 #[oA a0_, oI 0, oI 3, .unset, .unset, .unset, .unset, .unset, .unset] [(.ref a0_), (.int 1)])) rfl rfl (oG hby d10 2 rfl)
 obtain ⟨cq2, q2, q2'⟩ := bR.cell
 obtain ⟨_, _, ⟨T2, L2, k2, n2⟩, -, X2, ⟨Lc2, hQ2, l2, y2, z2⟩, st2⟩ := X1.privateBack hx (y := oM2) hown (mvT hZ (oW hw 66 rfl)) (mvT hZ (oW hw 67 rfl)) (cG (mvT hZ (oW hw 15 rfl)) (mvP hZ (oW hw 68 rfl) (args := #[])) (mvT hZ (oW hw 67 rfl)) (by decide)) (Cond.privateMethod_at (mvP hZ (oW hw 68 rfl) (args := #[]))) (mvT hZ (oW hw 69 rfl)) (by decide) (backOf (W := 0) (gW l Z a0 hw [] a0_ (0 : Int32) (2 : Int32) h0 n0 Z0 aQ) hZ (oW hw 69 rfl) (oW hw 12 rfl) (by decide) (by decide)) (g := (mkF m 9 #[oA a0_, oI 0, oI 3, oI 4, .unset, .unset, .unset, .unset, .unset] [(.int 0), (.ref a0_)])) rfl (by rw [hml]; rfl) (Steps.refl _) (a := a0_) (by rw [e1]; exact q2) q2' (argsL := [(.int 0)]) (rest := []) (lenOf fL rfl) rfl (by show 2 * 0 + _ ≤ _; exact Nat.le_of_eq rfl) (oG hby d10 7 rfl) (fun _ _ => ⟨rfl, e1, (by decide : 0 + 0 ≤ _), (by decide : 0 + 0 ≤ _)⟩)
 dsimp only [Pt.U, Pt.locs, Pt.cells, Pt.slots] at X2 l2 y2 z2 st2 hQ2
 subst l2 y2 z2
 obtain ⟨rfl, N2q, e2⟩ := hQ2
 have N2 := Fr.app N0 N2q
 obtain ⟨T3, h3, k3, X3, e3, E3, A3, B3, st3⟩ := newPE X2 hx hZ (oW hw 84 rfl) e2 (g := (mkF m 15 #[oA a0_, oI 0, oI 3, oI 4, oI 0, .unset, .unset, .unset, .unset] [(.int 3)])) rfl (oG hby d10 10 rfl) rfl (by decide) (cap := 3) (by decide) (by decide) (by decide) (by decide) (ad := "[I") rfl
 obtain ⟨b3, g3⟩ : ∃ z, z = h0.size := ⟨_, rfl⟩
 rw [← g3] at A3 B3 st3
 have gZ : h0.size ≤ b3 := Nat.le_of_eq g3.symm
 have cH : a0_ ≠ b3 := oV aQ.lt gZ
 have bX : h0.size ≤ b3 := Nat.le_trans (Keep.refl h0 []).1 gZ
 have g_b3 : n0 ≤ b3 := Nat.le_trans Z0 bX
 have K3 : Keep h0 h3 [] := (Keep.refl h0 []).ext E3
 have V3 : bB Z h3 b3 (3 : Int32) ([0, 0, 0] : List Int32) := dY (m := 3) A3 (by decide)
 have bT := (aQ.ext E3)
 have eW := (bR.ext E3)
 have bZ := (bU.ext E3)
 obtain ⟨T4, L4, X4, N4, Kq4, Q4_0, st4⟩ := fE 1 4 a0_ (0 : Int32) (3 : Int32) (4 : Int32) (0 : Int32) b3 (0 : Int32) (0 : Int32) (2 : Int32) (4 : Int32) (3 : Int32) ([0, 0, 0] : List Int32) (1 : Int32) (1 : Int32) X3 hx hZ hw hby hml hown e3 N2 (Nat.le_trans Z0 K3.1) bT eW bZ V3 g_b3 (by decide +kernel) (by decide +kernel) (by decide +kernel) (by decide +kernel) (by decide +kernel) (by decide +kernel) (by decide +kernel) (by decide : 1 + (0) ≤ _) (by decide : 3 + (0) ≤ _)
 have K4 : Keep h0 T4.heap [] := K3.trans Kq4 (bJ (Or.inr bX))
 have Q4_0' := aK Q4_0 (vs' := ([0, 0, 0] : List Int32)) (by decide +kernel)
 have cR := (bT.keep Kq4 (bH cH))
 have gE := (eW.keep Kq4)
 have dW := (bZ.keep Kq4 (bH cH))
 have lG := (B3.keep Kq4)
 obtain ⟨T8, L8, X8, N8, Kq8, Q8_0, st8⟩ := dS 1 4 a0_ (0 : Int32) (3 : Int32) (4 : Int32) (0 : Int32) b3 (1 : Int32) (1 : Int32) (aL (aJ (((0 : Int32) + (0 : Int32)) &&& ((4 : Int32) - (1 : Int32)))) ((32 : Int32) - (2 : Int32))) (2 : Int32) (4 : Int32) (3 : Int32) ([0, 0, 0] : List Int32) (2 : Int32) (2 : Int32) X4 hx hZ hw hby hml hown rfl N4 (Nat.le_trans Z0 K4.1) cR gE dW Q4_0' g_b3 (by decide +kernel) (by decide +kernel) (by decide +kernel) (by decide +kernel) (by decide +kernel) (by decide +kernel) (by decide +kernel) (by decide : 1 + (0) ≤ _) (by decide : 3 + (0) ≤ _)
 have K8 : Keep h0 T8.heap [] := K4.trans Kq8 (bJ (Or.inr bX))
 have Q8_0' := aK Q8_0 (vs' := ([0, 2, 0] : List Int32)) (by decide +kernel)
 have fU := (cR.keep Kq8 (bH cH))
 have iQ := (gE.keep Kq8)
 have iH := (dW.keep Kq8 (bH cH))
 have vY := (lG.keep Kq8)
 obtain ⟨T13, L13, X13, N13, Kq13, Q13_0, st13⟩ := dS 1 4 a0_ (0 : Int32) (3 : Int32) (4 : Int32) (0 : Int32) b3 (2 : Int32) (2 : Int32) (aL (aJ (((0 : Int32) + (1 : Int32)) &&& ((4 : Int32) - (1 : Int32)))) ((32 : Int32) - (2 : Int32))) (2 : Int32) (4 : Int32) (3 : Int32) ([0, 2, 0] : List Int32) (3 : Int32) (3 : Int32) X8 hx hZ hw hby hml hown rfl N8 (Nat.le_trans Z0 K8.1) fU iQ iH Q8_0' g_b3 (by decide +kernel) (by decide +kernel) (by decide +kernel) (by decide +kernel) (by decide +kernel) (by decide +kernel) (by decide +kernel) (by decide : 1 + (0) ≤ _) (by decide : 3 + (0) ≤ _)
 have K13 : Keep h0 T13.heap [] := K8.trans Kq13 (bJ (Or.inr bX))
 have Q13_0' := aK Q13_0 (vs' := ([0, 2, 1] : List Int32)) (by decide +kernel)
 have aC8 := (vY.keep Kq13)
 obtain ⟨fs, hr, hrun, hended, hW, hsame⟩ := X13.leave (v := some (.ref b3)) (fun h => by rw [Bd.returns] at h; cases h)
 refine ⟨_, _, castTop (kW m a0_ (0 : Int32) (3 : Int32)) ?_, hrun, hended, _, _, rfl, ?_, ⟨_, rfl⟩, hW, (hsame.mono (by decide) (by decide))⟩
 · show oZ p e below s₁ (mkF m 0 #[oA a0_, oI 0, oI 3, .unset, .unset, .unset, .unset, .unset, .unset] []) _
   refine XS.iconst X0.here hx rfl (oG hby d10 0 rfl) ?_
   refine XS.aloadN X0.here hx rfl (oG hby d10 1 rfl) rfl rfl ?_
   refine st1 _ ?_
   refine XS.ishl X1.here hx rfl (oG hby d10 3 rfl) rfl ?_
   show oZ p e below T1 (mkF m 6 #[oA a0_, oI 0, oI 3, .unset, .unset, .unset, .unset, .unset, .unset] [(.int ((1 : Int32) <<< ((2 : Int32) &&& 31)))]) _
   rw [(by decide +kernel : ((1 : Int32) <<< ((2 : Int32) &&& 31)) = (4 : Int32))]
   refine XS.istoreN X1.here hx rfl (oG hby d10 4 rfl) rfl (l' := #[oA a0_, oI 0, oI 3, oI 4, .unset, .unset, .unset, .unset, .unset]) rfl ?_
   refine XS.aloadN X1.here hx rfl (oG hby d10 5 rfl) rfl rfl ?_
   refine XS.iloadN X1.here hx rfl (oG hby d10 6 rfl) rfl ?_
   refine st2.trans ?_
   show oZ p e below T2 (mkF m 12 #[oA a0_, oI 0, oI 3, oI 4, .unset, .unset, .unset, .unset, .unset] [(.int (dI (0 : Int32) (2 : Int32)))]) _
   rw [(by decide +kernel : (dI (0 : Int32) (2 : Int32)) = (0 : Int32))]
   refine XS.istore X2.here hx rfl (oG hby d10 8 rfl) rfl (l' := #[oA a0_, oI 0, oI 3, oI 4, oI 0, .unset, .unset, .unset, .unset]) rfl ?_
   refine XS.iloadN X2.here hx rfl (oG hby d10 9 rfl) rfl ?_
   refine st3 _ ?_
   refine XS.astore X3.here hx rfl (oG hby d10 11 rfl) rfl rfl (l' := #[oA a0_, oI 0, oI 3, oI 4, oI 0, oA b3, .unset, .unset, .unset]) rfl ?_
   refine XS.iconst X3.here hx rfl (oG hby d10 12 rfl) ?_
   refine XS.istore X3.here hx rfl (oG hby d10 13 rfl) rfl (l' := #[oA a0_, oI 0, oI 3, oI 4, oI 0, oA b3, oI 0, .unset, .unset]) rfl ?_
   refine XS.iconst X3.here hx rfl (oG hby d10 14 rfl) ?_
   refine XS.istore X3.here hx rfl (oG hby d10 15 rfl) rfl (l' := #[oA a0_, oI 0, oI 3, oI 4, oI 0, oA b3, oI 0, oI 0, .unset]) rfl ?_
   refine st4 _ ?_
   refine st8 _ ?_
   show oZ p e below T8 (mkF m 25 #[oA a0_, oI 0, oI 3, oI 4, oI 0, oA b3, oI 2, oI 2, oI (aL (aJ (((0 : Int32) + (1 : Int32)) &&& ((4 : Int32) - (1 : Int32)))) ((32 : Int32) - (2 : Int32)))] []) _
   refine st13 _ ?_
   refine XS.iload X13.here hx rfl (oG hby d10 16 rfl) rfl ?_
   refine XS.iloadN X13.here hx rfl (oG hby d10 17 rfl) rfl ?_
   refine XS.icmpYes X13.here hx rfl (pc0 := 28) (pc' := 71) rfl (oG hby d10 18 rfl) rfl (flt (by decide +kernel : ¬ ((3 : Int32) < (3 : Int32)))).2.1 (by decide) (by decide) ?_
   refine XS.aload X13.here hx rfl (oG hby d10 40 rfl) rfl rfl ?_
   show oZ p e below T13 (mkF m 73 #[oA a0_, oI 0, oI 3, oI 4, oI 0, oA b3, oI 3, oI 3, oI (aL (aJ (((0 : Int32) + (2 : Int32)) &&& ((4 : Int32) - (1 : Int32)))) ((32 : Int32) - (2 : Int32)))] [(.ref b3)]) _
   jvm_step X13.here [X13.here.top, hx, (oG hby d10 41 rfl), X13.method', Bd.returns, Value.isRef, FieldType.isReference]
   first | (intro acts; rw [hr _ acts rfl rfl rfl]) | rw [hr _ _ rfl rfl rfl]
   exact Steps.refl _
 · show jL Z a0_ h0 n0 _ T13.heap _
   exact ⟨b3, rfl, N13, K13, bX, aC8, Q13_0'⟩
def jM (Z : State) (a0_ : Addr) (h0 : Heap) (n0 : Nat) (v : Option Value) (h : Heap) (L : List Loc) : Prop := ∃ b3 : Addr, v = some (.ref b3) ∧ Fr n0 L ∧ Keep h0 h [] ∧ h0.size ≤ b3 ∧ Exa Z h b3 "[I" ∧ bB Z h b3 (4 : Int32) ([0, 2, 1, 3] : List Int32)
theorem oQ (l : Launch) (Z : State) (a0 : Array Value) (hw : oH a0 Z) (ws : List Jvm.Cond) (a0_ : Addr) (h0 : Heap) (n0 : Nat) (Z0 : n0 ≤ h0.size) (aQ : Fld Z h0 a0_ oC0 "ringBits" "I" (.int 2)) (bR : Exa Z h0 a0_ oC0) (bU : Fld Z h0 a0_ oC0 "lots" "I" (.int 4)) :
   oMet l oM1 prog_29_method_13_code 9 (some (.array .int)) ws (oR 5 1 4 100) Z h0 #[(.ref a0_), (.int 0), (.int 4)] (jM Z a0_ h0 n0) := by
 refine oBd n0 (plainFor_of_name eC) ?_
 intro p e s m below meth c s₁ Bd hx hZ hby hml hown hnm X0 e0 N0
 obtain ⟨T1, X1, e1, st1⟩ := getF X0 hx hZ hown (host := "") (Or.inl (oW hw 34 rfl)) Via.refl e0 aQ (g := (mkF m 2 #[oA a0_, oI 0, oI 4, .unset, .unset, .unset, .unset, .unset, .unset] [(.ref a0_), (.int 1)])) rfl rfl (oG hby d10 2 rfl)
 obtain ⟨cq2, q2, q2'⟩ := bR.cell
 obtain ⟨_, _, ⟨T2, L2, k2, n2⟩, -, X2, ⟨Lc2, hQ2, l2, y2, z2⟩, st2⟩ := X1.privateBack hx (y := oM2) hown (mvT hZ (oW hw 66 rfl)) (mvT hZ (oW hw 67 rfl)) (cG (mvT hZ (oW hw 15 rfl)) (mvP hZ (oW hw 68 rfl) (args := #[])) (mvT hZ (oW hw 67 rfl)) (by decide)) (Cond.privateMethod_at (mvP hZ (oW hw 68 rfl) (args := #[]))) (mvT hZ (oW hw 69 rfl)) (by decide) (backOf (W := 0) (gW l Z a0 hw [] a0_ (0 : Int32) (2 : Int32) h0 n0 Z0 aQ) hZ (oW hw 69 rfl) (oW hw 12 rfl) (by decide) (by decide)) (g := (mkF m 9 #[oA a0_, oI 0, oI 4, oI 4, .unset, .unset, .unset, .unset, .unset] [(.int 0), (.ref a0_)])) rfl (by rw [hml]; rfl) (Steps.refl _) (a := a0_) (by rw [e1]; exact q2) q2' (argsL := [(.int 0)]) (rest := []) (lenOf fL rfl) rfl (by show 2 * 0 + _ ≤ _; exact Nat.le_of_eq rfl) (oG hby d10 7 rfl) (fun _ _ => ⟨rfl, e1, (by decide : 0 + 0 ≤ _), (by decide : 0 + 0 ≤ _)⟩)
 dsimp only [Pt.U, Pt.locs, Pt.cells, Pt.slots] at X2 l2 y2 z2 st2 hQ2
 subst l2 y2 z2
 obtain ⟨rfl, N2q, e2⟩ := hQ2
 have N2 := Fr.app N0 N2q
 obtain ⟨T3, h3, k3, X3, e3, E3, A3, B3, st3⟩ := newPE X2 hx hZ (oW hw 84 rfl) e2 (g := (mkF m 15 #[oA a0_, oI 0, oI 4, oI 4, oI 0, .unset, .unset, .unset, .unset] [(.int 4)])) rfl (oG hby d10 10 rfl) rfl (by decide) (cap := 4) (by decide) (by decide) (by decide) (by decide) (ad := "[I") rfl
 obtain ⟨b3, g3⟩ : ∃ z, z = h0.size := ⟨_, rfl⟩
 rw [← g3] at A3 B3 st3
 have gZ : h0.size ≤ b3 := Nat.le_of_eq g3.symm
 have cH : a0_ ≠ b3 := oV aQ.lt gZ
 have bX : h0.size ≤ b3 := Nat.le_trans (Keep.refl h0 []).1 gZ
 have g_b3 : n0 ≤ b3 := Nat.le_trans Z0 bX
 have K3 : Keep h0 h3 [] := (Keep.refl h0 []).ext E3
 have V3 : bB Z h3 b3 (4 : Int32) ([0, 0, 0, 0] : List Int32) := dY (m := 4) A3 (by decide)
 have bT := (aQ.ext E3)
 have eW := (bR.ext E3)
 have bZ := (bU.ext E3)
 obtain ⟨T4, L4, X4, N4, Kq4, Q4_0, st4⟩ := fE 1 4 a0_ (0 : Int32) (4 : Int32) (4 : Int32) (0 : Int32) b3 (0 : Int32) (0 : Int32) (2 : Int32) (4 : Int32) (4 : Int32) ([0, 0, 0, 0] : List Int32) (1 : Int32) (1 : Int32) X3 hx hZ hw hby hml hown e3 N2 (Nat.le_trans Z0 K3.1) bT eW bZ V3 g_b3 (by decide +kernel) (by decide +kernel) (by decide +kernel) (by decide +kernel) (by decide +kernel) (by decide +kernel) (by decide +kernel) (by decide : 1 + (0) ≤ _) (by decide : 4 + (0) ≤ _)
 have K4 : Keep h0 T4.heap [] := K3.trans Kq4 (bJ (Or.inr bX))
 have Q4_0' := aK Q4_0 (vs' := ([0, 0, 0, 0] : List Int32)) (by decide +kernel)
 have cR := (bT.keep Kq4 (bH cH))
 have gE := (eW.keep Kq4)
 have dW := (bZ.keep Kq4 (bH cH))
 have lG := (B3.keep Kq4)
 obtain ⟨T8, L8, X8, N8, Kq8, Q8_0, st8⟩ := dS 1 4 a0_ (0 : Int32) (4 : Int32) (4 : Int32) (0 : Int32) b3 (1 : Int32) (1 : Int32) (aL (aJ (((0 : Int32) + (0 : Int32)) &&& ((4 : Int32) - (1 : Int32)))) ((32 : Int32) - (2 : Int32))) (2 : Int32) (4 : Int32) (4 : Int32) ([0, 0, 0, 0] : List Int32) (2 : Int32) (2 : Int32) X4 hx hZ hw hby hml hown rfl N4 (Nat.le_trans Z0 K4.1) cR gE dW Q4_0' g_b3 (by decide +kernel) (by decide +kernel) (by decide +kernel) (by decide +kernel) (by decide +kernel) (by decide +kernel) (by decide +kernel) (by decide : 1 + (0) ≤ _) (by decide : 4 + (0) ≤ _)
 have K8 : Keep h0 T8.heap [] := K4.trans Kq8 (bJ (Or.inr bX))
 have Q8_0' := aK Q8_0 (vs' := ([0, 2, 0, 0] : List Int32)) (by decide +kernel)
 have fU := (cR.keep Kq8 (bH cH))
 have iQ := (gE.keep Kq8)
 have iH := (dW.keep Kq8 (bH cH))
 have vY := (lG.keep Kq8)
 obtain ⟨T13, L13, X13, N13, Kq13, Q13_0, st13⟩ := dS 1 4 a0_ (0 : Int32) (4 : Int32) (4 : Int32) (0 : Int32) b3 (2 : Int32) (2 : Int32) (aL (aJ (((0 : Int32) + (1 : Int32)) &&& ((4 : Int32) - (1 : Int32)))) ((32 : Int32) - (2 : Int32))) (2 : Int32) (4 : Int32) (4 : Int32) ([0, 2, 0, 0] : List Int32) (3 : Int32) (3 : Int32) X8 hx hZ hw hby hml hown rfl N8 (Nat.le_trans Z0 K8.1) fU iQ iH Q8_0' g_b3 (by decide +kernel) (by decide +kernel) (by decide +kernel) (by decide +kernel) (by decide +kernel) (by decide +kernel) (by decide +kernel) (by decide : 1 + (0) ≤ _) (by decide : 4 + (0) ≤ _)
 have K13 : Keep h0 T13.heap [] := K8.trans Kq13 (bJ (Or.inr bX))
 have Q13_0' := aK Q13_0 (vs' := ([0, 2, 1, 0] : List Int32)) (by decide +kernel)
 have sY := (fU.keep Kq13 (bH cH))
 have aV7 := (iQ.keep Kq13)
 have iZ := (iH.keep Kq13 (bH cH))
 have aC9 := (vY.keep Kq13)
 obtain ⟨T18, L18, X18, N18, Kq18, Q18_0, st18⟩ := dS 1 4 a0_ (0 : Int32) (4 : Int32) (4 : Int32) (0 : Int32) b3 (3 : Int32) (3 : Int32) (aL (aJ (((0 : Int32) + (2 : Int32)) &&& ((4 : Int32) - (1 : Int32)))) ((32 : Int32) - (2 : Int32))) (2 : Int32) (4 : Int32) (4 : Int32) ([0, 2, 1, 0] : List Int32) (4 : Int32) (4 : Int32) X13 hx hZ hw hby hml hown rfl N13 (Nat.le_trans Z0 K13.1) sY aV7 iZ Q13_0' g_b3 (by decide +kernel) (by decide +kernel) (by decide +kernel) (by decide +kernel) (by decide +kernel) (by decide +kernel) (by decide +kernel) (by decide : 1 + (0) ≤ _) (by decide : 4 + (0) ≤ _)
 have K18 : Keep h0 T18.heap [] := K13.trans Kq18 (bJ (Or.inr bX))
 have Q18_0' := aK Q18_0 (vs' := ([0, 2, 1, 3] : List Int32)) (by decide +kernel)
 have aZ8 := (aC9.keep Kq18)
 obtain ⟨fs, hr, hrun, hended, hW, hsame⟩ := X18.leave (v := some (.ref b3)) (fun h => by rw [Bd.returns] at h; cases h)
 refine ⟨_, _, castTop (kW m a0_ (0 : Int32) (4 : Int32)) ?_, hrun, hended, _, _, rfl, ?_, ⟨_, rfl⟩, hW, (hsame.mono (by decide) (by decide))⟩
 · show oZ p e below s₁ (mkF m 0 #[oA a0_, oI 0, oI 4, .unset, .unset, .unset, .unset, .unset, .unset] []) _
   refine XS.iconst X0.here hx rfl (oG hby d10 0 rfl) ?_
   refine XS.aloadN X0.here hx rfl (oG hby d10 1 rfl) rfl rfl ?_
   refine st1 _ ?_
   refine XS.ishl X1.here hx rfl (oG hby d10 3 rfl) rfl ?_
   show oZ p e below T1 (mkF m 6 #[oA a0_, oI 0, oI 4, .unset, .unset, .unset, .unset, .unset, .unset] [(.int ((1 : Int32) <<< ((2 : Int32) &&& 31)))]) _
   rw [(by decide +kernel : ((1 : Int32) <<< ((2 : Int32) &&& 31)) = (4 : Int32))]
   refine XS.istoreN X1.here hx rfl (oG hby d10 4 rfl) rfl (l' := #[oA a0_, oI 0, oI 4, oI 4, .unset, .unset, .unset, .unset, .unset]) rfl ?_
   refine XS.aloadN X1.here hx rfl (oG hby d10 5 rfl) rfl rfl ?_
   refine XS.iloadN X1.here hx rfl (oG hby d10 6 rfl) rfl ?_
   refine st2.trans ?_
   show oZ p e below T2 (mkF m 12 #[oA a0_, oI 0, oI 4, oI 4, .unset, .unset, .unset, .unset, .unset] [(.int (dI (0 : Int32) (2 : Int32)))]) _
   rw [(by decide +kernel : (dI (0 : Int32) (2 : Int32)) = (0 : Int32))]
   refine XS.istore X2.here hx rfl (oG hby d10 8 rfl) rfl (l' := #[oA a0_, oI 0, oI 4, oI 4, oI 0, .unset, .unset, .unset, .unset]) rfl ?_
   refine XS.iloadN X2.here hx rfl (oG hby d10 9 rfl) rfl ?_
   refine st3 _ ?_
   refine XS.astore X3.here hx rfl (oG hby d10 11 rfl) rfl rfl (l' := #[oA a0_, oI 0, oI 4, oI 4, oI 0, oA b3, .unset, .unset, .unset]) rfl ?_
   refine XS.iconst X3.here hx rfl (oG hby d10 12 rfl) ?_
   refine XS.istore X3.here hx rfl (oG hby d10 13 rfl) rfl (l' := #[oA a0_, oI 0, oI 4, oI 4, oI 0, oA b3, oI 0, .unset, .unset]) rfl ?_
   refine XS.iconst X3.here hx rfl (oG hby d10 14 rfl) ?_
   refine XS.istore X3.here hx rfl (oG hby d10 15 rfl) rfl (l' := #[oA a0_, oI 0, oI 4, oI 4, oI 0, oA b3, oI 0, oI 0, .unset]) rfl ?_
   refine st4 _ ?_
   refine st8 _ ?_
   show oZ p e below T8 (mkF m 25 #[oA a0_, oI 0, oI 4, oI 4, oI 0, oA b3, oI 2, oI 2, oI (aL (aJ (((0 : Int32) + (1 : Int32)) &&& ((4 : Int32) - (1 : Int32)))) ((32 : Int32) - (2 : Int32)))] []) _
   refine st13 _ ?_
   refine st18 _ ?_
   refine XS.iload X18.here hx rfl (oG hby d10 16 rfl) rfl ?_
   refine XS.iloadN X18.here hx rfl (oG hby d10 17 rfl) rfl ?_
   refine XS.icmpYes X18.here hx rfl (pc0 := 28) (pc' := 71) rfl (oG hby d10 18 rfl) rfl (flt (by decide +kernel : ¬ ((4 : Int32) < (4 : Int32)))).2.1 (by decide) (by decide) ?_
   refine XS.aload X18.here hx rfl (oG hby d10 40 rfl) rfl rfl ?_
   show oZ p e below T18 (mkF m 73 #[oA a0_, oI 0, oI 4, oI 4, oI 0, oA b3, oI 4, oI 4, oI (aL (aJ (((0 : Int32) + (3 : Int32)) &&& ((4 : Int32) - (1 : Int32)))) ((32 : Int32) - (2 : Int32)))] [(.ref b3)]) _
   jvm_step X18.here [X18.here.top, hx, (oG hby d10 41 rfl), X18.method', Bd.returns, Value.isRef, FieldType.isReference]
   first | (intro acts; rw [hr _ acts rfl rfl rfl]) | rw [hr _ _ rfl rfl rfl]
   exact Steps.refl _
 · show jM Z a0_ h0 n0 _ T18.heap _
   exact ⟨b3, rfl, N18, K18, bX, aZ8, Q18_0'⟩
def gQ (L : Nat) : Int32 := if L ≤ 2 then 1 else 2
def eA (L c : Nat) : List Int32 := (if L ≤ 2 then ([0, 1] : List Int32) else if L = 3 then [0, 2, 1] else [0, 2, 1, 3]).take c
def gR (L c : Nat) : Prop := (L = 1 ∧ c = 1) ∨ (L = 2 ∧ c = 2) ∨ (L = 3 ∧ c = 2) ∨ (L = 3 ∧ c = 3) ∨ (L = 4 ∧ c = 2) ∨ (L = 4 ∧ c = 3) ∨ (L = 4 ∧ c = 4)
def aZ9 (Z : State) (L c : Nat) (h0 : Heap) (n0 : Nat) (v : Option Value) (h : Heap) (Lc : List Loc) : Prop := ∃ r : Addr, v = some (.ref r) ∧ Fr n0 Lc ∧ Keep h0 h [] ∧ h0.size ≤ r ∧ bB Z h r (Int32.ofNat c) (eA L c)
theorem yJ (l : Launch) (Z : State) (a0 : Array Value) (hw : oH a0 Z) (ws : List Jvm.Cond) (o0 : Addr) (p2 : Int32) (L c : Nat) (f1 f2 : Int32) (h0 : Heap) (n0 : Nat) (Z0 : n0 ≤ h0.size) (F1 : Fld Z h0 o0 oC0 "lots" "I" (.int f1)) (F2 : Fld Z h0 o0 oC0 "ringBits" "I" (.int f2)) (EX : Exa Z h0 o0 oC0) (e1 : f1 = Int32.ofNat L) (e2 : f2 = gQ L) (e3 : p2 = Int32.ofNat c) (hp : gR L c) :
   oMet l oM1 prog_29_method_13_code 9 (some (.array .int)) ws (oR 5 1 4 100) Z h0 #[(.ref o0), (.int 0), (.int p2)] (aZ9 Z L c h0 n0) := by
 subst e1 e2 e3
 rcases hp with ⟨rfl, rfl⟩ | ⟨rfl, rfl⟩ | ⟨rfl, rfl⟩ | ⟨rfl, rfl⟩ | ⟨rfl, rfl⟩ | ⟨rfl, rfl⟩ | ⟨rfl, rfl⟩
 · exact dJ (oE l Z a0 hw ws o0  h0 n0 Z0 F2 EX F1) fun v h Lc ⟨r, a1, a2, a3, a4, b0, b1⟩ => ⟨r, a1, a2, a3, a4, aK (n := Int32.ofNat 1) b1 (by decide +kernel)⟩
 · exact dJ (oF l Z a0 hw ws o0  h0 n0 Z0 F2 EX F1) fun v h Lc ⟨r, a1, a2, a3, a4, b0, b1⟩ => ⟨r, a1, a2, a3, a4, aK (n := Int32.ofNat 2) b1 (by decide +kernel)⟩
 · exact dJ (oL l Z a0 hw ws o0  h0 n0 Z0 F2 EX F1) fun v h Lc ⟨r, a1, a2, a3, a4, b0, b1⟩ => ⟨r, a1, a2, a3, a4, aK (n := Int32.ofNat 2) b1 (by decide +kernel)⟩
 · exact dJ (oM l Z a0 hw ws o0  h0 n0 Z0 F2 EX F1) fun v h Lc ⟨r, a1, a2, a3, a4, b0, b1⟩ => ⟨r, a1, a2, a3, a4, aK (n := Int32.ofNat 3) b1 (by decide +kernel)⟩
 · exact dJ (oO l Z a0 hw ws o0  h0 n0 Z0 F2 EX F1) fun v h Lc ⟨r, a1, a2, a3, a4, b0, b1⟩ => ⟨r, a1, a2, a3, a4, aK (n := Int32.ofNat 2) b1 (by decide +kernel)⟩
 · exact dJ (oP l Z a0 hw ws o0  h0 n0 Z0 F2 EX F1) fun v h Lc ⟨r, a1, a2, a3, a4, b0, b1⟩ => ⟨r, a1, a2, a3, a4, aK (n := Int32.ofNat 3) b1 (by decide +kernel)⟩
 · exact dJ (oQ l Z a0 hw ws o0  h0 n0 Z0 F2 EX F1) fun v h Lc ⟨r, a1, a2, a3, a4, b0, b1⟩ => ⟨r, a1, a2, a3, a4, aK (n := Int32.ofNat 4) b1 (by decide +kernel)⟩
def pX (Z : State) (a0_ : Addr) (p1_ : Int32) (fT : Value) (dT : Value) (bE : Value) (h0 : Heap) (n0 : Nat) (v : Option Value) (h : Heap) (L : List Loc) : Prop := ∃ b2 : Addr, v = none ∧ Fr n0 L ∧ Keep h0 h [a0_] ∧ h0.size ≤ b2 ∧ Exa Z h a0_ oC3 ∧ Fld Z h a0_ oC3 "words" "[J" (.ref b2) ∧ Fld Z h a0_ oC3 "wordsInUse" "I" dT ∧ Fld Z h a0_ oC3 "sizeIsSticky" "Z" bE ∧ Exa Z h b2 "[J" ∧ cY Z h b2 (1 : Int32) ([0] : List Int64)
theorem yK (l : Launch) (Z : State) (a0 : Array Value) (hw : oH a0 Z) (ws : List Jvm.Cond) (a0_ : Addr) (p1_ : Int32) (fT : Value) (dT : Value) (bE : Value) (h0 : Heap) (n0 : Nat) (Z0 : n0 ≤ h0.size) (bR : Exa Z h0 a0_ oC3) (dU : Fld Z h0 a0_ oC3 "words" "[J" fT) (eM : n0 ≤ a0_) (bP : Fld Z h0 a0_ oC3 "wordsInUse" "I" dT) (eR : Fld Z h0 a0_ oC3 "sizeIsSticky" "Z" bE) (hf0 : (((p1_ - (1 : Int32)) >>> ((6 : Int32) &&& 31)) + (1 : Int32)) = (1 : Int32)) :
   oMet l oM39 jdk_92_method_6_code 2 none ws (oR 1 1 1 13) Z h0 #[(.ref a0_), (.int p1_)] (pX Z a0_ p1_ fT dT bE h0 n0) := by
 refine oBd n0 (plainFor_of_name iO) ?_
 intro p e s m below meth c s₁ Bd hx hZ hby hml hown hnm X0 e0 N0
 obtain ⟨_, _, ⟨T1, L1, k1, n1⟩, -, X1, ⟨Lc1, hQ1, l1, y1, z1⟩, st1⟩ := Jvm.LawKit.callS X0 hx (y := oM12) hown (mvT hZ (oW hw 121 rfl)) (mvT hZ (oW hw 122 rfl)) (mvT hZ (oW hw 107 rfl)) (mvT hZ (oW hw 123 rfl)) (by decide) (backOf (W := 1) (kS l Z a0 hw [] (p1_ - (1 : Int32)) h0 n0 Z0 ) hZ (oW hw 123 rfl) (oW hw 107 rfl) (by decide) (by decide)) (g := (mkF m 4 #[oA a0_, oI p1_] [(.int (p1_ - (1 : Int32))), (.ref a0_)])) rfl (by rw [hml]; rfl) (argsL := [(.int (p1_ - (1 : Int32)))]) (rest := [(.ref a0_)]) (lenOf fL rfl) rfl (by show 2 * 0 + _ ≤ _; exact Nat.le_of_eq rfl) (oG hby d19 4 rfl) (fun _ _ => ⟨rfl, e0, (by decide : 0 + 0 ≤ _), (by decide : 0 + 0 ≤ _)⟩)
 dsimp only [Pt.U, Pt.locs, Pt.cells, Pt.slots] at X1 l1 y1 z1 st1 hQ1
 subst l1 y1 z1
 obtain ⟨rfl, N1q, e1⟩ := hQ1
 have N1 := Fr.app N0 N1q
 obtain ⟨T2, h2, k2, X2, e2, E2, A2, B2, st2⟩ := newPE X1 hx hZ (oW hw 124 rfl) e1 (g := (mkF m 9 #[oA a0_, oI p1_] [(.int 1), (.ref a0_)])) rfl (oG hby d19 7 rfl) rfl (by decide) (cap := 1) (by decide) (by decide) (by decide) (by decide) (ad := "[J") rfl
 obtain ⟨b2, g2⟩ : ∃ z, z = h0.size := ⟨_, rfl⟩
 rw [← g2] at A2 B2 st2
 have pY : h0.size ≤ b2 := Nat.le_of_eq g2.symm
 have mJ : h0.size ≤ b2 := Nat.le_trans (Keep.refl h0 [a0_]).1 pY
 have g_b2 : n0 ≤ b2 := Nat.le_trans Z0 mJ
 have K2 : Keep h0 h2 [a0_] := (Keep.refl h0 [a0_]).ext E2
 have V2 : cY Z h2 b2 (1 : Int32) ([0] : List Int64) := aC3 (m := 1) A2 (by decide)
 have gV := (bR.ext E2)
 have sD := (dU.ext E2)
 obtain ⟨T5, h5, X5, e5, W5, st5⟩ := putF X2 hx hZ hown (host := "") (Or.inl (oW hw 125 rfl)) Via.refl e2 sD gV (Or.inl (oW hw 126 rfl)) (oW hw 106 rfl) (ty := (.array .long)) (by decide) rfl rfl (g := (mkF m 11 #[oA a0_, oI p1_] [(.ref b2), (.ref a0_)])) rfl rfl (oG hby d19 8 rfl)
 have Fw5 := sD.same W5
 have K5 : Keep h0 h5 [a0_] := K2.wr W5 (Or.inl (oX 0 rfl))
 have N5 := Fr.snoc X5 N1 eM
 have sE := ((bP.ext E2).other W5 (oN (Or.inl (oW hw 113 rfl)) (Or.inl (oW hw 126 rfl)) (t := .int) (t' := (.array .long))))
 have pS := ((eR.ext E2).other W5 (oN (Or.inl (oW hw 115 rfl)) (Or.inl (oW hw 126 rfl)) (t := .boolean) (t' := (.array .long))))
 have bA0 := (gV.wr W5)
 have bE0 := (B2.wr W5)
 have bA1 := (V2.other W5 (Ne.symm (oV bR.lt mJ)))
 obtain ⟨fs, hr, hrun, hended, hW, hsame⟩ := X5.leave (v := none) (fun _ => rfl)
 refine ⟨_, _, castTop (aL2 m a0_ p1_) ?_, hrun, hended, _, _, rfl, ?_, ⟨_, rfl⟩, hW, (hsame.mono (by decide) (by decide))⟩
 · show oZ p e below s₁ (mkF m 0 #[oA a0_, oI p1_] []) _
   refine XS.aloadN X0.here hx rfl (oG hby d19 0 rfl) rfl rfl ?_
   refine XS.iloadN X0.here hx rfl (oG hby d19 1 rfl) rfl ?_
   refine XS.iconst X0.here hx rfl (oG hby d19 2 rfl) ?_
   refine XS.isub X0.here hx rfl (oG hby d19 3 rfl) rfl ?_
   refine st1 _ ?_
   refine XS.iconst X1.here hx rfl (oG hby d19 5 rfl) ?_
   refine XS.iadd X1.here hx rfl (oG hby d19 6 rfl) rfl ?_
   show oZ p e below T1 (mkF m 9 #[oA a0_, oI p1_] [(.int (((p1_ - (1 : Int32)) >>> ((6 : Int32) &&& 31)) + (1 : Int32))), (.ref a0_)]) _
   rw [hf0]
   refine st2 _ ?_
   refine st5 _ ?_
   show oZ p e below T5 (mkF m 14 #[oA a0_, oI p1_] []) _
   exact X5.returnOut hx Bd.returns (oG hby d19 9 rfl) hr
 · show pX Z a0_ p1_ fT dT bE h0 n0 _ T5.heap _
   rw [e5]
   exact ⟨b2, rfl, N5, K5, mJ, bA0, Fw5, sE, pS, bE0, bA1⟩
def pZ (Z : State) (a0_ : Addr) (p1_ : Int32) (dT : Value) (bE : Value) (fT : Value) (h0 : Heap) (n0 : Nat) (v : Option Value) (h : Heap) (L : List Loc) : Prop := ∃ r6_b2 : Addr, v = none ∧ Fr n0 L ∧ Keep h0 h [a0_] ∧ h0.size ≤ r6_b2 ∧ Exa Z h a0_ oC3 ∧ Fld Z h a0_ oC3 "words" "[J" (.ref r6_b2) ∧ Fld Z h a0_ oC3 "wordsInUse" "I" (.int 0) ∧ Fld Z h a0_ oC3 "sizeIsSticky" "Z" (.int 1) ∧ Exa Z h r6_b2 "[J" ∧ cY Z h r6_b2 (1 : Int32) ([0] : List Int64)
theorem yL (l : Launch) (Z : State) (a0 : Array Value) (hw : oH a0 Z) (ws : List Jvm.Cond) (a0_ : Addr) (p1_ : Int32) (dT : Value) (bE : Value) (fT : Value) (h0 : Heap) (n0 : Nat) (Z0 : n0 ≤ h0.size) (bR : Exa Z h0 a0_ oC3) (bP : Fld Z h0 a0_ oC3 "wordsInUse" "I" dT) (eM : n0 ≤ a0_) (eR : Fld Z h0 a0_ oC3 "sizeIsSticky" "Z" bE) (dU : Fld Z h0 a0_ oC3 "words" "[J" fT) (hf0 : ¬ (p1_ < (0 : Int32))) (hf1 : (((p1_ - (1 : Int32)) >>> ((6 : Int32) &&& 31)) + (1 : Int32)) = (1 : Int32)) :
   oMet l oM40 jdk_92_method_5_code 2 none ws (oR 2 1 1 26) Z h0 #[(.ref a0_), (.int p1_)] (pZ Z a0_ p1_ dT bE fT h0 n0) := by
 refine oBd n0 (plainFor_of_name iO) ?_
 intro p e s m below meth c s₁ Bd hx hZ hby hml hown hnm X0 e0 N0
 obtain ⟨T1, X1, e1, st1⟩ := initO X0 hx hZ hown (oW hw 111 rfl) (oW hw 8 rfl) (oW hw 9 rfl) e0 (g := (mkF m 1 #[oA a0_, oI p1_] [(.ref a0_)])) rfl (by rw [hml]; rfl) rfl (oG hby d18 1 rfl) (by decide) (W := 0) (by show 2 * 0 + _ ≤ _; exact Nat.le_of_eq rfl) (by decide)
 obtain ⟨T2, h2, X2, e2, W2, st2⟩ := putF X1 hx hZ hown (host := "") (Or.inl (oW hw 112 rfl)) Via.refl e1 bP bR (Or.inl (oW hw 113 rfl)) (oW hw 106 rfl) (ty := .int) (by decide) rfl rfl (g := (mkF m 6 #[oA a0_, oI p1_] [(.int 0), (.ref a0_)])) rfl rfl (oG hby d18 4 rfl)
 have Fw2 := bP.same W2
 have K2 : Keep h0 h2 [a0_] := (Keep.refl h0 [a0_]).wr W2 (Or.inl (oX 0 rfl))
 have N2 := Fr.snoc X2 N0 eM
 have gV := (bR.wr W2)
 have gM := (eR.other W2 (oN (Or.inl (oW hw 115 rfl)) (Or.inl (oW hw 113 rfl)) (t := .boolean) (t' := .int)))
 obtain ⟨T5, h5, X5, e5, W5, st5⟩ := putFN X2 hx hZ hown (oW hw 114 rfl) Via.refl e2 gM gV (Or.inl (oW hw 115 rfl)) (oW hw 106 rfl) (ty := .boolean) (v' := (.int 0)) (by decide) rfl rfl (g := (mkF m 11 #[oA a0_, oI p1_] [(.int 0), (.ref a0_)])) rfl rfl (oG hby d18 7 rfl)
 have Fw5 := gM.same W5
 have K5 : Keep h0 h5 [a0_] := K2.wr W5 (Or.inl (oX 0 rfl))
 have N5 := Fr.snoc X5 N2 eM
 have uR := (gV.wr W5)
 have yM := ((dU.other W2 (oN (Or.inl (oW hw 126 rfl)) (Or.inl (oW hw 113 rfl)) (t := (.array .long)) (t' := .int))).other W5 (oN (Or.inl (oW hw 126 rfl)) (Or.inl (oW hw 115 rfl)) (t := (.array .long)) (t' := .boolean)))
 have sF := (Fw2.other W5 (oN (Or.inl (oW hw 113 rfl)) (Or.inl (oW hw 115 rfl)) (t := .int) (t' := .boolean)))
 obtain ⟨cq6, q6, q6'⟩ := uR.cell
 obtain ⟨_, _, ⟨T6, L6, k6, n6⟩, -, X6, ⟨Lc6, hQ6, l6, y6, z6⟩, st6⟩ := X5.privateBack hx (y := oM39) hown (mvT hZ (oW hw 116 rfl)) (mvT hZ (oW hw 117 rfl)) (cG (mvT hZ (oW hw 106 rfl)) (mvP hZ (oW hw 118 rfl) (args := #[])) (mvT hZ (oW hw 117 rfl)) (by decide)) (Cond.privateMethod_at (mvP hZ (oW hw 118 rfl) (args := #[]))) (mvT hZ (oW hw 120 rfl)) (by decide) (backOf (W := 0) (yK l Z a0 hw [] a0_ p1_ fT (.int 0) (.int 0) h5 n0 (Nat.le_trans Z0 K5.1) uR yM eM sF Fw5 hf1) hZ (oW hw 120 rfl) (oW hw 107 rfl) (by decide) (by decide)) (g := (mkF m 47 #[oA a0_, oI p1_] [(.int p1_), (.ref a0_)])) rfl (by rw [hml]; rfl) (Steps.refl _) (a := a0_) (by rw [e5]; exact q6) q6' (argsL := [(.int p1_)]) (rest := []) (lenOf jT rfl) rfl (by show 2 * 0 + _ ≤ _; exact Nat.le_of_eq rfl) (oG hby d18 12 rfl) (fun _ _ => ⟨rfl, e5, (by decide : 0 + 1 ≤ _), (by decide : 0 + 1 ≤ _)⟩)
 dsimp only [Pt.U, Pt.locs, Pt.cells, Pt.slots] at X6 l6 y6 z6 st6 hQ6
 subst l6 y6 z6
 obtain ⟨r6_b2, rfl, N6q, Kq6, aA2, aV8, bA2, bA3, aV9, bA4, bA5⟩ := hQ6
 have N6 := Fr.app N5 N6q
 have yN : a0_ ≠ r6_b2 := oV uR.lt aA2
 have aA3 : h0.size ≤ r6_b2 := Nat.le_trans K5.1 aA2
 have g_r6_b2 : n0 ≤ r6_b2 := Nat.le_trans Z0 aA3
 have K6 : Keep h0 T6.heap [a0_] := K5.trans Kq6 (bJ (Or.inl (oX 0 rfl)))
 obtain ⟨T10, h10, X10, e10, W10, st10⟩ := putFN X6 hx hZ hown (oW hw 114 rfl) Via.refl rfl aV9 aV8 (Or.inl (oW hw 115 rfl)) (oW hw 106 rfl) (ty := .boolean) (v' := (.int 1)) (by decide) rfl rfl (g := (mkF m 52 #[oA a0_, oI p1_] [(.int 1), (.ref a0_)])) rfl rfl (oG hby d18 15 rfl)
 have Fw10 := aV9.same W10
 have K10 : Keep h0 h10 [a0_] := K6.wr W10 (Or.inl (oX 0 rfl))
 have N10 := Fr.snoc X10 N6 eM
 have aW0 := (aV8.wr W10)
 have lV := (bA2.other W10 (oN (Or.inl (oW hw 126 rfl)) (Or.inl (oW hw 115 rfl)) (t := (.array .long)) (t' := .boolean)))
 have rB := (bA3.other W10 (oN (Or.inl (oW hw 113 rfl)) (Or.inl (oW hw 115 rfl)) (t := .int) (t' := .boolean)))
 have aH8 := (bA4.wr W10)
 have aH9 := (bA5.other W10 (Ne.symm yN))
 obtain ⟨fs, hr, hrun, hended, hW, hsame⟩ := X10.leave (v := none) (fun _ => rfl)
 refine ⟨_, _, castTop (aL3 m a0_ p1_) ?_, hrun, hended, _, _, rfl, ?_, ⟨_, rfl⟩, hW, (hsame.mono (by decide) (by decide))⟩
 · show oZ p e below s₁ (mkF m 0 #[oA a0_, oI p1_] []) _
   refine XS.aloadN X0.here hx rfl (oG hby d18 0 rfl) rfl rfl ?_
   refine st1 _ ?_
   refine XS.aloadN X1.here hx rfl (oG hby d18 2 rfl) rfl rfl ?_
   refine XS.iconst X1.here hx rfl (oG hby d18 3 rfl) ?_
   refine st2 _ ?_
   refine XS.aloadN X2.here hx rfl (oG hby d18 5 rfl) rfl rfl ?_
   refine XS.iconst X2.here hx rfl (oG hby d18 6 rfl) ?_
   refine st5 _ ?_
   refine XS.iloadN X5.here hx rfl (oG hby d18 8 rfl) rfl ?_
   refine XS.ifYes X5.here hx rfl (pc0 := 15) (pc' := 45) rfl (oG hby d18 9 rfl) rfl ((if0 _ _).trans (flt hf0).2.1) (by decide) (by decide) ?_
   refine XS.aloadN X5.here hx rfl (oG hby d18 10 rfl) rfl rfl ?_
   show oZ p e below T5 (mkF m 46 #[oA a0_, oI p1_] [(.ref a0_)]) _
   refine XS.iloadN X5.here hx rfl (oG hby d18 11 rfl) rfl ?_
   refine st6.trans ?_
   refine XS.aloadN X6.here hx rfl (oG hby d18 13 rfl) rfl rfl ?_
   refine XS.iconst X6.here hx rfl (oG hby d18 14 rfl) ?_
   refine st10 _ ?_
   show oZ p e below T10 (mkF m 55 #[oA a0_, oI p1_] []) _
   exact X10.returnOut hx Bd.returns (oG hby d18 16 rfl) hr
 · show pZ Z a0_ p1_ dT bE fT h0 n0 _ T10.heap _
   rw [e10]
   exact ⟨r6_b2, rfl, N10, K10, aA3, aW0, lV, rB, Fw10, aH8, aH9⟩
def qA (Z : State) (a0_ : Addr) (q1_ : Int64) (p2_ : Int32) (p3_ : Int32) (kL : Value) (fI : Value) (hJ : Value) (fJ : Value) (h0 : Heap) (n0 : Nat) (v : Option Value) (h : Heap) (L : List Loc) : Prop := ∃ b3 : Addr, ∃ b8 : Addr, ∃ r11_r6_b2 : Addr, v = none ∧ Fr n0 L ∧ Keep h0 h [a0_] ∧ h0.size ≤ b3 ∧ h0.size ≤ b8 ∧ h0.size ≤ r11_r6_b2 ∧ b3 ≠ b8 ∧ b3 ≠ r11_r6_b2 ∧ b8 ≠ r11_r6_b2 ∧ Exa Z h a0_ oC1 ∧ Fld Z h a0_ oC1 "toSkip" "J" (.long q1_) ∧ Fld Z h a0_ oC1 "chosen" "[I" (.ref b3) ∧ Fld Z h a0_ oC1 "has" "Ljava/util/BitSet;" (.ref b8) ∧ Fld Z h a0_ oC1 "taken" "I" fJ ∧ Exa Z h b3 "[I" ∧ bC Z h b3 p2_ ∧ Exa Z h b8 oC3 ∧ Fld Z h b8 oC3 "words" "[J" (.ref r11_r6_b2) ∧ Fld Z h b8 oC3 "wordsInUse" "I" (.int 0) ∧ Fld Z h b8 oC3 "sizeIsSticky" "Z" (.int 1) ∧ Exa Z h r11_r6_b2 "[J" ∧ cY Z h r11_r6_b2 (1 : Int32) ([0] : List Int64)
theorem yO (l : Launch) (Z : State) (a0 : Array Value) (hw : oH a0 Z) (ws : List Jvm.Cond) (a0_ : Addr) (q1_ : Int64) (p2_ : Int32) (p3_ : Int32) (kL : Value) (fI : Value) (hJ : Value) (fJ : Value) (h0 : Heap) (n0 : Nat) (Z0 : n0 ≤ h0.size) (bR : Exa Z h0 a0_ oC1) (cE : Fld Z h0 a0_ oC1 "toSkip" "J" kL) (eM : n0 ≤ a0_) (cV : Fld Z h0 a0_ oC1 "chosen" "[I" fI) (dR : Fld Z h0 a0_ oC1 "has" "Ljava/util/BitSet;" hJ) (dF : Fld Z h0 a0_ oC1 "taken" "I" fJ) (hf0 : ¬ (p2_ < 0)) (hf1 : p2_.toNatClampNeg ≤ 32) (hf2 : ¬ (p3_ < (0 : Int32))) (hf3 : (((p3_ - (1 : Int32)) >>> ((6 : Int32) &&& 31)) + (1 : Int32)) = (1 : Int32)) :
   oMet l oM29 prog_30_method_1_code 5 none ws (oR 3 3 36 41) Z h0 #[(.ref a0_), (.long q1_), (.int p2_), (.int p3_)] (qA Z a0_ q1_ p2_ p3_ kL fI hJ fJ h0 n0) := by
 refine oBd n0 (plainFor_of_name mV) ?_
 intro p e s m below meth c s₁ Bd hx hZ hby hml hown hnm X0 e0 N0
 obtain ⟨T1, X1, e1, st1⟩ := initO X0 hx hZ hown (oW hw 100 rfl) (oW hw 8 rfl) (oW hw 9 rfl) e0 (g := (mkF m 1 #[oA a0_, oJ q1_, .second, oI p2_, oI p3_] [(.ref a0_)])) rfl (by rw [hml]; rfl) rfl (oG hby d17 1 rfl) (by decide) (W := 0) (by show 2 * 0 + _ ≤ _; exact Nat.le_of_eq rfl) (by decide)
 obtain ⟨T2, h2, X2, e2, W2, st2⟩ := putF X1 hx hZ hown (host := "") (Or.inl (oW hw 101 rfl)) Via.refl e1 cE bR (Or.inl (oW hw 102 rfl)) (oW hw 95 rfl) (ty := .long) (by decide) rfl rfl (g := (mkF m 6 #[oA a0_, oJ q1_, .second, oI p2_, oI p3_] [(.long q1_), (.ref a0_)])) rfl rfl (oG hby d17 4 rfl)
 have Fw2 := cE.same W2
 have K2 : Keep h0 h2 [a0_] := (Keep.refl h0 [a0_]).wr W2 (Or.inl (oX 0 rfl))
 have N2 := Fr.snoc X2 N0 eM
 obtain ⟨T3, h3, k3, X3, e3, E3, A3, B3, st3⟩ := newPE X2 hx hZ (oW hw 84 rfl) e2 (g := (mkF m 11 #[oA a0_, oJ q1_, .second, oI p2_, oI p3_] [(.int p2_), (.ref a0_)])) rfl (oG hby d17 7 rfl) rfl hf0 (cap := 32) hf1 (by decide) (by decide) (by decide) (ad := "[I") rfl
 obtain ⟨b3, g3⟩ : ∃ z, z = h2.size := ⟨_, rfl⟩
 rw [← g3] at A3 B3 st3
 have gZ : h2.size ≤ b3 := Nat.le_of_eq g3.symm
 have yI := (bR.wr W2)
 have cH : a0_ ≠ b3 := oV yI.lt gZ
 have bX : h0.size ≤ b3 := Nat.le_trans K2.1 gZ
 have g_b3 : n0 ≤ b3 := Nat.le_trans Z0 bX
 have K3 : Keep h0 h3 [a0_] := K2.ext E3
 have V3 := (dY (m := 0) A3 hf0).ia
 have aO1 := (yI.ext E3)
 have qB := ((cV.other W2 (oN (Or.inr (oW hw 104 rfl)) (Or.inl (oW hw 102 rfl)) (t := (.array .int)) (t' := .long))).ext E3)
 obtain ⟨T7, h7, X7, e7, W7, st7⟩ := putF X3 hx hZ hown (host := "") (Or.inl (oW hw 103 rfl)) Via.refl e3 qB aO1 (Or.inr ⟨(oW hw 104 rfl), rfl, hnm⟩) (oW hw 95 rfl) (ty := (.array .int)) (by decide) rfl rfl (g := (mkF m 13 #[oA a0_, oJ q1_, .second, oI p2_, oI p3_] [(.ref b3), (.ref a0_)])) rfl rfl (oG hby d17 8 rfl)
 have Fw7 := qB.same W7
 have K7 : Keep h0 h7 [a0_] := K3.wr W7 (Or.inl (oX 0 rfl))
 have N7 := Fr.snoc X7 N2 eM
 obtain ⟨T8, h8, X8, e8, E8, A8, D8, -, st8⟩ := newO X7 hx hZ hown (oW hw 105 rfl) (oW hw 106 rfl) (oW hw 107 rfl) e7 (g := (mkF m 17 #[oA a0_, oJ q1_, .second, oI p2_, oI p3_] [(.ref a0_)])) rfl (oG hby d17 10 rfl) (by decide) (by decide)
 obtain ⟨b8, g8⟩ : ∃ z, z = h7.size := ⟨_, rfl⟩
 rw [← g8] at A8 D8 st8
 have aO2 : h7.size ≤ b8 := Nat.le_of_eq g8.symm
 have yG := (aO1.wr W7)
 have jO : a0_ ≠ b8 := oV yG.lt aO2
 have aO3 := (B3.wr W7)
 have aA4 : b3 ≠ b8 := oV aO3.lt aO2
 have aO4 : h0.size ≤ b8 := Nat.le_trans K7.1 aO2
 have g_b8 : n0 ≤ b8 := Nat.le_trans Z0 aO4
 have K8 : Keep h0 h8 [a0_] := K7.ext E8
 have xC : Fld Z h8 b8 oC3 "wordsInUse" "I" (.int 0) := D8 (Or.inl (oW hw 113 rfl)) (ty := .int) (by decide)
 have tU : Fld Z h8 b8 oC3 "sizeIsSticky" "Z" (.int 0) := D8 (Or.inl (oW hw 115 rfl)) (ty := .boolean) (by decide)
 have aO5 : Fld Z h8 b8 oC3 "words" "[J" .null := D8 (Or.inl (oW hw 126 rfl)) (ty := (.array .long)) (by decide)
 obtain ⟨_, _, ⟨T11, L11, k11, n11⟩, -, X11, ⟨Lc11, hQ11, l11, y11, z11⟩, st11⟩ := X8.specialBack hx (y := oM40) rfl hown (mvT hZ (oW hw 108 rfl)) (mvT hZ (oW hw 109 rfl)) (mvT hZ (oW hw 110 rfl)) (by decide) (backOf (W := 2) (yL l Z a0 hw [] b8 p3_ (.int 0) (.int 0) .null h8 n0 (Nat.le_trans Z0 K8.1) A8 xC g_b8 tU aO5 hf2 hf3) hZ (oW hw 110 rfl) (oW hw 107 rfl) (by decide) (by decide)) (g := (mkF m 23 #[oA a0_, oJ q1_, .second, oI p2_, oI p3_] [(.int p3_), (.ref b8), (.ref b8), (.ref a0_)])) rfl (by rw [hml]; rfl) (Steps.refl _) (a := b8) (argsL := [(.int p3_)]) (rest := [(.ref b8), (.ref a0_)]) (lenOf jT rfl) rfl (by show 2 * 0 + _ ≤ _; exact Nat.le_of_eq rfl) (oG hby d17 13 rfl) (fun _ _ => ⟨rfl, e8, (by decide : 2 + 1 ≤ _), (by decide : 35 + 1 ≤ _)⟩)
 dsimp only [Pt.U, Pt.locs, Pt.cells, Pt.slots] at X11 l11 y11 z11 st11 hQ11
 subst l11 y11 z11
 obtain ⟨r11_r6_b2, rfl, N11q, Kq11, kM, Q11_0, bE1, bE2, bE3, bE4, bE5⟩ := hQ11
 have N11 := Fr.app N7 N11q
 have hV := (yG.ext E8)
 have sZ : a0_ ≠ r11_r6_b2 := oV hV.lt kM
 have oK := (aO3.ext E8)
 have tV : b3 ≠ r11_r6_b2 := oV oK.lt kM
 have tW : b8 ≠ r11_r6_b2 := oV A8.lt kM
 have sG : h0.size ≤ r11_r6_b2 := Nat.le_trans K8.1 kM
 have g_r11_r6_b2 : n0 ≤ r11_r6_b2 := Nat.le_trans Z0 sG
 have K11 : Keep h0 T11.heap [a0_] := K8.trans Kq11 (bJ (Or.inr aO4))
 have aF0 := (hV.keep Kq11)
 have tN := (((((dR.other W2 (oN (Or.inr (oW hw 128 rfl)) (Or.inl (oW hw 102 rfl)) (t := (.object oC3)) (t' := .long))).ext E3).other W7 (oN (Or.inr (oW hw 128 rfl)) (Or.inr (oW hw 104 rfl)) (t := (.object oC3)) (t' := (.array .int)))).ext E8).keep Kq11 (bH jO))
 obtain ⟨T16, h16, X16, e16, W16, st16⟩ := putF X11 hx hZ hown (host := "") (Or.inl (oW hw 127 rfl)) Via.refl rfl tN aF0 (Or.inr ⟨(oW hw 128 rfl), rfl, hnm⟩) (oW hw 95 rfl) (ty := (.object oC3)) (by decide) rfl rfl (g := (mkF m 26 #[oA a0_, oJ q1_, .second, oI p2_, oI p3_] [(.ref b8), (.ref a0_)])) rfl rfl (oG hby d17 14 rfl)
 have Fw16 := tN.same W16
 have K16 : Keep h0 h16 [a0_] := K11.wr W16 (Or.inl (oX 0 rfl))
 have N16 := Fr.snoc X16 N11 eM
 have xD := ((((((dF.other W2 (oN (Or.inl (oW hw 174 rfl)) (Or.inl (oW hw 102 rfl)) (t := .int) (t' := .long))).ext E3).other W7 (oN (Or.inl (oW hw 174 rfl)) (Or.inr (oW hw 104 rfl)) (t := .int) (t' := (.array .int)))).ext E8).keep Kq11 (bH jO)).other W16 (oN (Or.inl (oW hw 174 rfl)) (Or.inr (oW hw 128 rfl)) (t := .int) (t' := (.object oC3))))
 have gF := (aF0.wr W16)
 have vZ := (((((Fw2.ext E3).other W7 (oN (Or.inl (oW hw 102 rfl)) (Or.inr (oW hw 104 rfl)) (t := .long) (t' := (.array .int)))).ext E8).keep Kq11 (bH jO)).other W16 (oN (Or.inl (oW hw 102 rfl)) (Or.inr (oW hw 128 rfl)) (t := .long) (t' := (.object oC3))))
 have wA := (((Fw7.ext E8).keep Kq11 (bH jO)).other W16 (oN (Or.inr (oW hw 104 rfl)) (Or.inr (oW hw 128 rfl)) (t := (.array .int)) (t' := (.object oC3))))
 have bA6 := ((oK.keep Kq11).wr W16)
 have aC9 := ((((V3.other W7 (Ne.symm cH)).ext E8).keep Kq11 (bH aA4)).other W16 (Ne.symm cH))
 have bA7 := (Q11_0.wr W16)
 have yP := (bE1.other W16 (Or.inl (Ne.symm jO)))
 have sH := (bE2.other W16 (Or.inl (Ne.symm jO)))
 have pT := (bE3.other W16 (Or.inl (Ne.symm jO)))
 have xE := (bE4.wr W16)
 have xF := (bE5.other W16 (Ne.symm sZ))
 obtain ⟨fs, hr, hrun, hended, hW, hsame⟩ := X16.leave (v := none) (fun _ => rfl)
 refine ⟨_, _, castTop (aL4 m a0_ q1_ p2_ p3_) ?_, hrun, hended, _, _, rfl, ?_, ⟨_, rfl⟩, hW, (hsame.mono (by decide) (by decide))⟩
 · show oZ p e below s₁ (mkF m 0 #[oA a0_, oJ q1_, .second, oI p2_, oI p3_] []) _
   refine XS.aloadN X0.here hx rfl (oG hby d17 0 rfl) rfl rfl ?_
   refine st1 _ ?_
   refine XS.aloadN X1.here hx rfl (oG hby d17 2 rfl) rfl rfl ?_
   refine XS.lloadN X1.here hx rfl (oG hby d17 3 rfl) rfl ?_
   refine st2 _ ?_
   refine XS.aloadN X2.here hx rfl (oG hby d17 5 rfl) rfl rfl ?_
   refine XS.iloadN X2.here hx rfl (oG hby d17 6 rfl) rfl ?_
   refine st3 _ ?_
   refine st7 _ ?_
   refine XS.aloadN X7.here hx rfl (oG hby d17 9 rfl) rfl rfl ?_
   refine st8 _ ?_
   show oZ p e below T8 (mkF m 20 #[oA a0_, oJ q1_, .second, oI p2_, oI p3_] [(.ref b8), (.ref a0_)]) _
   refine XS.dup X8.here hx rfl (oG hby d17 11 rfl) rfl rfl ?_
   refine XS.iload X8.here hx rfl (oG hby d17 12 rfl) rfl ?_
   refine st11.trans ?_
   refine st16 _ ?_
   show oZ p e below T16 (mkF m 29 #[oA a0_, oJ q1_, .second, oI p2_, oI p3_] []) _
   exact X16.returnOut hx Bd.returns (oG hby d17 15 rfl) hr
 · show qA Z a0_ q1_ p2_ p3_ kL fI hJ fJ h0 n0 _ T16.heap _
   rw [e16]
   exact ⟨b3, b8, r11_r6_b2, rfl, N16, K16, bX, aO4, sG, aA4, tV, tW, gF, vZ, wA, Fw16, xD, bA6, aC9, bA7, yP, sH, pT, xE, xF⟩
theorem bA8 (rc : Nat) (rs : Nat) (o0_ : Addr) (i1_ : Int32) (cM : Int32) (lx_ : Nat) (cx_ : Nat) (aY : Int32) (aD : Int32) (aE : Int32)
   (X0 : Stand p l e (oR 7 rc rs 200) s m args below meth c T0 locs cells slots) (hx : p.tables.exec = Jvm.exec) (hZ : Z.Warmed39 s.vm) (hw : oH a0 Z) (hby : c.code = prog_29_method_5_code) (hml : c.maxLocals = 11) (hown : s.vm.findClass oC0 = some m.cls) (e0 : T0.heap = h0) (N0 : Fr n0 locs) (Z0 : n0 ≤ h0.size) (fN : Fld Z h0 o0_ oC0 "lots" "I" (.int cM)) (iA : Fld Z h0 o0_ oC0 "ringBits" "I" (.int aY)) (bL : Exa Z h0 o0_ oC0) (eD : Fld Z h0 o0_ oC0 "subsetSize" "I" (.int aD)) (cU : Fld Z h0 o0_ oC0 "backends" "I" (.int aE)) (hf0 : cM = Int32.ofNat lx_) (hf1 : aY = gQ lx_) (hf2 : cM = Int32.ofNat cx_) (hf3 : gR lx_ cx_) (hf4 : ¬ ((aE.toInt64) = (0 : Int64))) (hf5 : (Int32.ofNat cx_) = Int32.ofNat cx_) (hf6 : cx_ < 1000) (hf7 : rA aE cM (eA lx_ cx_) (((10 : Int64) * (aD.toInt64)) - ((((10 : Int64) * (aD.toInt64)) / (aE.toInt64)) * (aE.toInt64))) cx_ 0 0 = true) (hf8 : ¬ (aD < 0)) (hf9 : aD.toNatClampNeg ≤ 32) (hf10 : ¬ (aE < (0 : Int32))) (hf11 : (((aE - (1 : Int32)) >>> ((6 : Int32) &&& 31)) + (1 : Int32)) = (1 : Int32)) (hc : cells + (1 + 1 + 3) ≤ rc) (hs : slots + (4 + 4 + 36) ≤ rs) :
   ∃ (r2_r : Addr) (b11 : Addr) (r19_b3 : Addr) (r19_b8 : Addr) (r19_r11_r6_b2 : Addr) (v8_z : Int32) (T' : State) (locs' : List Loc), Stand p l e (oR 7 rc rs 200) s m args below meth c T' locs' (cells + 1 + 1 + 3) (slots + 4 + 4 + 36) ∧ Fr n0 locs' ∧ Keep h0 T'.heap [] ∧ h0.size ≤ r2_r ∧ h0.size ≤ b11 ∧ h0.size ≤ r19_b3 ∧ h0.size ≤ r19_b8 ∧ h0.size ≤ r19_r11_r6_b2 ∧ r2_r ≠ b11 ∧ r2_r ≠ r19_b3 ∧ b11 ≠ r19_b3 ∧ r2_r ≠ r19_b8 ∧ b11 ≠ r19_b8 ∧ r19_b3 ≠ r19_b8 ∧ r2_r ≠ r19_r11_r6_b2 ∧ b11 ≠ r19_r11_r6_b2 ∧ r19_b3 ≠ r19_r11_r6_b2 ∧ r19_b8 ≠ r19_r11_r6_b2 ∧ bB Z T'.heap r2_r (Int32.ofNat cx_) (eA lx_ cx_) ∧ Exa Z T'.heap b11 oC1 ∧ Fld Z T'.heap b11 oC1 "toSkip" "J" (.long ((i1_.toInt64) * (aD.toInt64))) ∧ Fld Z T'.heap b11 oC1 "chosen" "[I" (.ref r19_b3) ∧ Fld Z T'.heap b11 oC1 "has" "Ljava/util/BitSet;" (.ref r19_b8) ∧ Fld Z T'.heap b11 oC1 "taken" "I" (.int 0) ∧ Exa Z T'.heap r19_b3 "[I" ∧ bC Z T'.heap r19_b3 aD ∧ Exa Z T'.heap r19_b8 oC3 ∧ Fld Z T'.heap r19_b8 oC3 "words" "[J" (.ref r19_r11_r6_b2) ∧ Fld Z T'.heap r19_b8 oC3 "wordsInUse" "I" (.int 0) ∧ Fld Z T'.heap r19_b8 oC3 "sizeIsSticky" "Z" (.int 1) ∧ Exa Z T'.heap r19_r11_r6_b2 "[J" ∧ cY Z T'.heap r19_r11_r6_b2 (1 : Int32) ([0] : List Int64) ∧
     ∀ target, Steps p.tables e below (T'.setTop (mkF m 74 #[oA o0_, oI i1_, oA r2_r, oJ ((10 : Int64) * (aD.toInt64)), .second, oJ (((10 : Int64) * (aD.toInt64)) / (aE.toInt64)), .second, oI v8_z, oA b11, oJ 0, .second] [])) target → Steps p.tables e below (T0.setTop (mkF m 0 #[oA o0_, oI i1_, .unset, .unset, .unset, .unset, .unset, .unset, .unset, .unset, .unset] [])) target := by
 obtain ⟨T1, X1, e1, st1⟩ := getF X0 hx hZ hown (host := "") (Or.inl (oW hw 24 rfl)) Via.refl e0 fN (g := (mkF m 3 #[oA o0_, oI i1_, .unset, .unset, .unset, .unset, .unset, .unset, .unset, .unset, .unset] [(.ref o0_), (.int 0), (.ref o0_)])) rfl rfl (oG hby d9 3 rfl)
 obtain ⟨cq2, q2, q2'⟩ := bL.cell
 obtain ⟨_, _, ⟨T2, L2, k2, n2⟩, -, X2, ⟨Lc2, hQ2, l2, y2, z2⟩, st2⟩ := X1.privateBack hx (y := oM1) hown (mvT hZ (oW hw 62 rfl)) (mvT hZ (oW hw 63 rfl)) (cG (mvT hZ (oW hw 15 rfl)) (mvP hZ (oW hw 64 rfl) (args := #[])) (mvT hZ (oW hw 63 rfl)) (by decide)) (Cond.privateMethod_at (mvP hZ (oW hw 64 rfl) (args := #[]))) (mvT hZ (oW hw 65 rfl)) (by decide) (backOf (W := 0) (yJ l Z a0 hw [] o0_ cM lx_ cx_ cM aY h0 n0 Z0 fN iA bL hf0 hf1 hf2 hf3) hZ (oW hw 65 rfl) (oW hw 12 rfl) (Nat.le_of_ble_eq_true rfl) (Nat.le_of_ble_eq_true rfl)) (g := (mkF m 6 #[oA o0_, oI i1_, .unset, .unset, .unset, .unset, .unset, .unset, .unset, .unset, .unset] [(.int cM), (.int 0), (.ref o0_)])) rfl (by rw [hml]; rfl) (Steps.refl _) (a := o0_) (by rw [e1]; exact q2) q2' (argsL := [(.int 0), (.int cM)]) (rest := []) (lenOf mX rfl) rfl (by show 2 * 0 + _ ≤ _; exact Nat.le_of_eq rfl) (oG hby d9 4 rfl) (fun _ _ => ⟨rfl, e1, (show cells + 1 ≤ rc from by omega), (show slots + 4 ≤ rs from by omega)⟩)
 dsimp only [Pt.U, Pt.locs, Pt.cells, Pt.slots] at X2 l2 y2 z2 st2 hQ2
 subst l2; rw [y2, z2] at X2
 obtain ⟨r2_r, rfl, N2q, Kq2, jA, Q2_0⟩ := hQ2
 have N2 := Fr.app N0 N2q
 have aY5 : o0_ ≠ r2_r := oV fN.lt jA
 have lN : h0.size ≤ r2_r := Nat.le_trans (Keep.refl h0 []).1 jA
 have g_r2_r : n0 ≤ r2_r := Nat.le_trans Z0 lN
 have K2 : Keep h0 T2.heap [] := (Keep.refl h0 []).trans Kq2 dX
 have lO := (eD.keep Kq2 (dP _))
 obtain ⟨T4, X4, e4, st4⟩ := getF X2 hx hZ hown (host := "") (Or.inl (oW hw 22 rfl)) Via.refl rfl lO (g := (mkF m 14 #[oA o0_, oI i1_, oA r2_r, .unset, .unset, .unset, .unset, .unset, .unset, .unset, .unset] [(.ref o0_), (.long 10)])) rfl rfl (oG hby d9 8 rfl)
 have iR := (cU.keep Kq2 (dP _))
 obtain ⟨T6, X6, e6, st6⟩ := getF X4 hx hZ hown (host := "") (Or.inl (oW hw 20 rfl)) Via.refl e4 iR (g := (mkF m 22 #[oA o0_, oI i1_, oA r2_r, oJ ((10 : Int64) * (aD.toInt64)), .second, .unset, .unset, .unset, .unset, .unset, .unset] [(.ref o0_), (.long ((10 : Int64) * (aD.toInt64)))])) rfl rfl (oG hby d9 14 rfl)
 obtain ⟨T7, X7, e7, st7⟩ := getF X6 hx hZ hown (host := "") (Or.inl (oW hw 20 rfl)) Via.refl e6 iR (g := (mkF m 35 #[oA o0_, oI i1_, oA r2_r, oJ ((10 : Int64) * (aD.toInt64)), .second, oJ (((10 : Int64) * (aD.toInt64)) / (aE.toInt64)), .second, .unset, .unset, .unset, .unset] [(.ref o0_), (.long (((10 : Int64) * (aD.toInt64)) / (aE.toInt64))), (.long ((10 : Int64) * (aD.toInt64))), (.ref r2_r), (.ref o0_)])) rfl rfl (oG hby d9 23 rfl)
 have tO := (fN.keep Kq2 (dP _))
 have pO := (bL.keep Kq2)
 obtain ⟨cq8, q8, q8'⟩ := pO.cell
 obtain ⟨_, _, ⟨T8, L8, k8, n8⟩, -, X8, ⟨Lc8, hQ8, l8, y8, z8⟩, st8⟩ := X7.privateBack hx (y := oM31) hown (mvT hZ (oW hw 90 rfl)) (mvT hZ (oW hw 91 rfl)) (cG (mvT hZ (oW hw 15 rfl)) (mvP hZ (oW hw 92 rfl) (args := #[])) (mvT hZ (oW hw 91 rfl)) (by decide)) (Cond.privateMethod_at (mvP hZ (oW hw 92 rfl) (args := #[]))) (mvT hZ (oW hw 93 rfl)) (by decide) (backOf (W := 0) (aV6 l Z a0 hw [] o0_ r2_r (((10 : Int64) * (aD.toInt64)) - ((((10 : Int64) * (aD.toInt64)) / (aE.toInt64)) * (aE.toInt64))) aE cM (eA lx_ cx_) (Int32.ofNat cx_) cx_ T2.heap n0 (Nat.le_trans Z0 K2.1) Q2_0 tO iR hf5 hf6 hf7) hZ (oW hw 93 rfl) (oW hw 12 rfl) (Nat.le_of_ble_eq_true rfl) (Nat.le_of_ble_eq_true rfl)) (g := (mkF m 41 #[oA o0_, oI i1_, oA r2_r, oJ ((10 : Int64) * (aD.toInt64)), .second, oJ (((10 : Int64) * (aD.toInt64)) / (aE.toInt64)), .second, .unset, .unset, .unset, .unset] [(.long (((10 : Int64) * (aD.toInt64)) - ((((10 : Int64) * (aD.toInt64)) / (aE.toInt64)) * (aE.toInt64)))), (.ref r2_r), (.ref o0_)])) rfl (by rw [hml]; rfl) (Steps.refl _) (a := o0_) (by rw [e7]; exact q8) q8' (argsL := [(.ref r2_r), (.long (((10 : Int64) * (aD.toInt64)) - ((((10 : Int64) * (aD.toInt64)) / (aE.toInt64)) * (aE.toInt64))))]) (rest := []) (lenOf aJ8 rfl) rfl (by show 2 * 0 + _ ≤ _; exact Nat.le_of_eq rfl) (oG hby d9 27 rfl) (fun _ _ => ⟨rfl, e7, (show cells + 1 + 0 ≤ rc from by omega), (show slots + 4 + 0 ≤ rs from by omega)⟩)
 dsimp only [Pt.U, Pt.locs, Pt.cells, Pt.slots] at X8 l8 y8 z8 st8 hQ8
 subst l8; rw [y8, z8] at X8
 obtain ⟨v8_z, rfl, N8q, Kq8⟩ := hQ8
 have N8 := Fr.app N2 N8q
 have K8 : Keep h0 T8.heap [] := K2.trans Kq8 dX
 obtain ⟨T11, h11, X11, e11, E11, A11, D11, -, st11⟩ := newO X8 hx hZ hown (oW hw 94 rfl) (oW hw 95 rfl) (oW hw 96 rfl) rfl (g := (mkF m 46 #[oA o0_, oI i1_, oA r2_r, oJ ((10 : Int64) * (aD.toInt64)), .second, oJ (((10 : Int64) * (aD.toInt64)) / (aE.toInt64)), .second, oI v8_z, .unset, .unset, .unset] [])) rfl (oG hby d9 29 rfl) (show cells + 1 + 1 ≤ rc from by omega) (show slots + 4 + 4 ≤ rs from by omega)
 obtain ⟨b11, g11⟩ : ∃ z, z = T8.heap.size := ⟨_, rfl⟩
 rw [← g11] at A11 D11 st11
 have aD0 : T8.heap.size ≤ b11 := Nat.le_of_eq g11.symm
 have sI := (tO.keep Kq8 (dP _))
 have bA9 : o0_ ≠ b11 := oV sI.lt aD0
 have aA5 := (Q2_0.keep Kq8 (dP _))
 have tP : r2_r ≠ b11 := oV aA5.lt aD0
 have aD1 : h0.size ≤ b11 := Nat.le_trans K8.1 aD0
 have g_b11 : n0 ≤ b11 := Nat.le_trans Z0 aD1
 have K11 : Keep h0 h11 [] := K8.ext E11
 have aD2 : Fld Z h11 b11 oC1 "toSkip" "J" (.long 0) := D11 (Or.inl (oW hw 102 rfl)) (ty := .long) (by decide)
 have aD3 : Fld Z h11 b11 oC1 "chosen" "[I" .null := D11 (Or.inr (oW hw 104 rfl)) (ty := (.array .int)) (by decide)
 have aW1 : Fld Z h11 b11 oC1 "has" "Ljava/util/BitSet;" .null := D11 (Or.inr (oW hw 128 rfl)) (ty := (.object oC3)) (by decide)
 have aI0 : Fld Z h11 b11 oC1 "taken" "I" (.int 0) := D11 (Or.inl (oW hw 174 rfl)) (ty := .int) (by decide)
 have fY := ((lO.keep Kq8 (dP _)).ext E11)
 obtain ⟨T15, X15, e15, st15⟩ := getF X11 hx hZ hown (host := "") (Or.inl (oW hw 22 rfl)) Via.refl e11 fY (g := (mkF m 53 #[oA o0_, oI i1_, oA r2_r, oJ ((10 : Int64) * (aD.toInt64)), .second, oJ (((10 : Int64) * (aD.toInt64)) / (aE.toInt64)), .second, oI v8_z, .unset, .unset, .unset] [(.ref o0_), (.long (i1_.toInt64)), (.ref b11), (.ref b11)])) rfl rfl (oG hby d9 34 rfl)
 obtain ⟨T16, X16, e16, st16⟩ := getF X15 hx hZ hown (host := "") (Or.inl (oW hw 22 rfl)) Via.refl e15 fY (g := (mkF m 59 #[oA o0_, oI i1_, oA r2_r, oJ ((10 : Int64) * (aD.toInt64)), .second, oJ (((10 : Int64) * (aD.toInt64)) / (aE.toInt64)), .second, oI v8_z, .unset, .unset, .unset] [(.ref o0_), (.long ((i1_.toInt64) * (aD.toInt64))), (.ref b11), (.ref b11)])) rfl rfl (oG hby d9 38 rfl)
 have tA := ((iR.keep Kq8 (dP _)).ext E11)
 obtain ⟨T18, X18, e18, st18⟩ := getF X16 hx hZ hown (host := "") (Or.inl (oW hw 20 rfl)) Via.refl e16 tA (g := (mkF m 63 #[oA o0_, oI i1_, oA r2_r, oJ ((10 : Int64) * (aD.toInt64)), .second, oJ (((10 : Int64) * (aD.toInt64)) / (aE.toInt64)), .second, oI v8_z, .unset, .unset, .unset] [(.ref o0_), (.int aD), (.long ((i1_.toInt64) * (aD.toInt64))), (.ref b11), (.ref b11)])) rfl rfl (oG hby d9 40 rfl)
 obtain ⟨_, _, ⟨T19, L19, k19, n19⟩, -, X19, ⟨Lc19, hQ19, l19, y19, z19⟩, st19⟩ := X18.specialBack hx (y := oM29) rfl hown (mvT hZ (oW hw 97 rfl)) (mvT hZ (oW hw 98 rfl)) (mvT hZ (oW hw 99 rfl)) (by decide) (backOf (W := 1) (yO l Z a0 hw [] b11 ((i1_.toInt64) * (aD.toInt64)) aD aE (.long 0) .null .null (.int 0) h11 n0 (Nat.le_trans Z0 K11.1) A11 aD2 g_b11 aD3 aW1 aI0 hf8 hf9 hf10 hf11) hZ (oW hw 99 rfl) (oW hw 96 rfl) (Nat.le_of_ble_eq_true rfl) (Nat.le_of_ble_eq_true rfl)) (g := (mkF m 66 #[oA o0_, oI i1_, oA r2_r, oJ ((10 : Int64) * (aD.toInt64)), .second, oJ (((10 : Int64) * (aD.toInt64)) / (aE.toInt64)), .second, oI v8_z, .unset, .unset, .unset] [(.int aE), (.int aD), (.long ((i1_.toInt64) * (aD.toInt64))), (.ref b11), (.ref b11)])) rfl (by rw [hml]; rfl) (Steps.refl _) (a := b11) (argsL := [(.long ((i1_.toInt64) * (aD.toInt64))), (.int aD), (.int aE)]) (rest := [(.ref b11)]) (lenOf aJ9 rfl) rfl (by show 2 * 0 + _ ≤ _; exact Nat.le_of_eq rfl) (oG hby d9 41 rfl) (fun _ _ => ⟨rfl, e18, (show cells + 1 + 1 + 3 ≤ rc from by omega), (show slots + 4 + 4 + 36 ≤ rs from by omega)⟩)
 dsimp only [Pt.U, Pt.locs, Pt.cells, Pt.slots] at X19 l19 y19 z19 st19 hQ19
 subst l19; rw [y19, z19] at X19
 obtain ⟨r19_b3, r19_b8, r19_r11_r6_b2, rfl, N19q, Kq19, pP, pQ, iI, Q19_0, bE6, bE7, bE8, bE9, bF0, bF1, bF2, bF3, bF4, bB0, bB1, bB2, bB3, bB4, bB5⟩ := hQ19
 have N19 := Fr.app N8 N19q
 have nD := (sI.ext E11)
 have aT8 : o0_ ≠ r19_b3 := oV nD.lt pP
 have sJ := (aA5.ext E11)
 have wB : r2_r ≠ r19_b3 := oV sJ.lt pP
 have xG : b11 ≠ r19_b3 := oV A11.lt pP
 have xT : h0.size ≤ r19_b3 := Nat.le_trans K11.1 pP
 have g_r19_b3 : n0 ≤ r19_b3 := Nat.le_trans Z0 xT
 have aT9 : o0_ ≠ r19_b8 := oV nD.lt pQ
 have wC : r2_r ≠ r19_b8 := oV sJ.lt pQ
 have xH : b11 ≠ r19_b8 := oV A11.lt pQ
 have xU : h0.size ≤ r19_b8 := Nat.le_trans K11.1 pQ
 have g_r19_b8 : n0 ≤ r19_b8 := Nat.le_trans Z0 xU
 have aA6 : o0_ ≠ r19_r11_r6_b2 := oV nD.lt iI
 have nR : r2_r ≠ r19_r11_r6_b2 := oV sJ.lt iI
 have oT : b11 ≠ r19_r11_r6_b2 := oV A11.lt iI
 have mK : h0.size ≤ r19_r11_r6_b2 := Nat.le_trans K11.1 iI
 have g_r19_r11_r6_b2 : n0 ≤ r19_r11_r6_b2 := Nat.le_trans Z0 mK
 have K19 : Keep h0 T19.heap [] := K11.trans Kq19 (bJ (Or.inr aD1))
 have aO6 := (sJ.keep Kq19 (bH tP))
 refine ⟨r2_r, b11, r19_b3, r19_b8, r19_r11_r6_b2, v8_z, T19, _, eS X19 (by omega) (by omega), N19, K19, lN, aD1, xT, xU, mK, tP, wB, xG, wC, xH, Q19_0, nR, oT, bE6, bE7, aO6, bE8, bE9, bF0, bF1, bF2, bF3, bF4, bB0, bB1, bB2, bB3, bB4, bB5, fun target kt => ?_⟩
 show oZ p e below T0 (mkF m 0 #[oA o0_, oI i1_, .unset, .unset, .unset, .unset, .unset, .unset, .unset, .unset, .unset] []) _
 refine XS.aloadN X0.here hx rfl (oG hby d9 0 rfl) rfl rfl ?_
 refine XS.iconst X0.here hx rfl (oG hby d9 1 rfl) ?_
 refine XS.aloadN X0.here hx rfl (oG hby d9 2 rfl) rfl rfl ?_
 refine st1 _ ?_
 refine st2.trans ?_
 refine XS.astoreN X2.here hx rfl (oG hby d9 5 rfl) rfl rfl (l' := #[oA o0_, oI i1_, oA r2_r, .unset, .unset, .unset, .unset, .unset, .unset, .unset, .unset]) rfl ?_
 refine X2.ldc2Long hx hown (mvT hZ (oW hw 89 rfl)) (g := (mkF m 10 #[oA o0_, oI i1_, oA r2_r, .unset, .unset, .unset, .unset, .unset, .unset, .unset, .unset] [])) rfl (oG hby d9 6 rfl) _ ?_
 refine XS.aloadN X2.here hx rfl (oG hby d9 7 rfl) rfl rfl ?_
 refine st4 _ ?_
 refine XS.i2l X4.here hx rfl (oG hby d9 9 rfl) rfl ?_
 refine XS.lmul X4.here hx rfl (oG hby d9 10 rfl) rfl ?_
 show oZ p e below T4 (mkF m 19 #[oA o0_, oI i1_, oA r2_r, .unset, .unset, .unset, .unset, .unset, .unset, .unset, .unset] [(.long ((10 : Int64) * (aD.toInt64)))]) _
 refine XS.lstoreN X4.here hx rfl (oG hby d9 11 rfl) rfl (l' := #[oA o0_, oI i1_, oA r2_r, oJ ((10 : Int64) * (aD.toInt64)), .second, .unset, .unset, .unset, .unset, .unset, .unset]) rfl ?_
 refine XS.lloadN X4.here hx rfl (oG hby d9 12 rfl) rfl ?_
 refine XS.aloadN X4.here hx rfl (oG hby d9 13 rfl) rfl rfl ?_
 refine st6 _ ?_
 refine XS.i2l X6.here hx rfl (oG hby d9 15 rfl) rfl ?_
 refine XS.ldiv X6.here hx rfl (oG hby d9 16 rfl) rfl hf4 ?_
 refine XS.lstore X6.here hx rfl (oG hby d9 17 rfl) rfl (l' := #[oA o0_, oI i1_, oA r2_r, oJ ((10 : Int64) * (aD.toInt64)), .second, oJ (((10 : Int64) * (aD.toInt64)) / (aE.toInt64)), .second, .unset, .unset, .unset, .unset]) rfl ?_
 refine XS.aloadN X6.here hx rfl (oG hby d9 18 rfl) rfl rfl ?_
 refine XS.aloadN X6.here hx rfl (oG hby d9 19 rfl) rfl rfl ?_
 refine XS.lloadN X6.here hx rfl (oG hby d9 20 rfl) rfl ?_
 refine XS.lload X6.here hx rfl (oG hby d9 21 rfl) rfl ?_
 show oZ p e below T6 (mkF m 34 #[oA o0_, oI i1_, oA r2_r, oJ ((10 : Int64) * (aD.toInt64)), .second, oJ (((10 : Int64) * (aD.toInt64)) / (aE.toInt64)), .second, .unset, .unset, .unset, .unset] [(.long (((10 : Int64) * (aD.toInt64)) / (aE.toInt64))), (.long ((10 : Int64) * (aD.toInt64))), (.ref r2_r), (.ref o0_)]) _
 refine XS.aloadN X6.here hx rfl (oG hby d9 22 rfl) rfl rfl ?_
 refine st7 _ ?_
 refine XS.i2l X7.here hx rfl (oG hby d9 24 rfl) rfl ?_
 refine XS.lmul X7.here hx rfl (oG hby d9 25 rfl) rfl ?_
 refine XS.lsub X7.here hx rfl (oG hby d9 26 rfl) rfl ?_
 refine st8.trans ?_
 refine XS.istore X8.here hx rfl (oG hby d9 28 rfl) rfl (l' := #[oA o0_, oI i1_, oA r2_r, oJ ((10 : Int64) * (aD.toInt64)), .second, oJ (((10 : Int64) * (aD.toInt64)) / (aE.toInt64)), .second, oI v8_z, .unset, .unset, .unset]) rfl ?_
 refine st11 _ ?_
 refine XS.dup X11.here hx rfl (oG hby d9 30 rfl) rfl rfl ?_
 refine XS.iloadN X11.here hx rfl (oG hby d9 31 rfl) rfl ?_
 refine XS.i2l X11.here hx rfl (oG hby d9 32 rfl) rfl ?_
 show oZ p e below T11 (mkF m 52 #[oA o0_, oI i1_, oA r2_r, oJ ((10 : Int64) * (aD.toInt64)), .second, oJ (((10 : Int64) * (aD.toInt64)) / (aE.toInt64)), .second, oI v8_z, .unset, .unset, .unset] [(.long (i1_.toInt64)), (.ref b11), (.ref b11)]) _
 refine XS.aloadN X11.here hx rfl (oG hby d9 33 rfl) rfl rfl ?_
 refine st15 _ ?_
 refine XS.i2l X15.here hx rfl (oG hby d9 35 rfl) rfl ?_
 refine XS.lmul X15.here hx rfl (oG hby d9 36 rfl) rfl ?_
 refine XS.aloadN X15.here hx rfl (oG hby d9 37 rfl) rfl rfl ?_
 refine st16 _ ?_
 refine XS.aloadN X16.here hx rfl (oG hby d9 39 rfl) rfl rfl ?_
 refine st18 _ ?_
 refine st19.trans ?_
 refine XS.astore X19.here hx rfl (oG hby d9 42 rfl) rfl rfl (l' := #[oA o0_, oI i1_, oA r2_r, oJ ((10 : Int64) * (aD.toInt64)), .second, oJ (((10 : Int64) * (aD.toInt64)) / (aE.toInt64)), .second, oI v8_z, oA b11, .unset, .unset]) rfl ?_
 refine XS.lconst X19.here hx rfl (oG hby d9 43 rfl) ?_
 show oZ p e below T19 (mkF m 72 #[oA o0_, oI i1_, oA r2_r, oJ ((10 : Int64) * (aD.toInt64)), .second, oJ (((10 : Int64) * (aD.toInt64)) / (aE.toInt64)), .second, oI v8_z, oA b11, .unset, .unset] [(.long 0)]) _
 refine XS.lstore X19.here hx rfl (oG hby d9 44 rfl) rfl (l' := #[oA o0_, oI i1_, oA r2_r, oJ ((10 : Int64) * (aD.toInt64)), .second, oJ (((10 : Int64) * (aD.toInt64)) / (aE.toInt64)), .second, oI v8_z, oA b11, oJ 0, .second]) rfl ?_
 exact kt
theorem aO7 (rc : Nat) (rs : Nat) (o0_ : Addr) (i1_ : Int32) (o2_ : Addr) (j3_ : Int64) (j5_ : Int64) (i7_ : Int32) (o8_ : Addr) (j9_ : Int64) (nE : Addr)
   (X0 : Stand p l e (oR 7 rc rs 200) s m args below meth c T0 locs cells slots) (hx : p.tables.exec = Jvm.exec) (hZ : Z.Warmed39 s.vm) (hw : oH a0 Z) (hby : c.code = prog_29_method_5_code) (hml : c.maxLocals = 11) (hown : s.vm.findClass oC0 = some m.cls) (e0 : T0.heap = h0) (N0 : Fr n0 locs) (Z0 : n0 ≤ h0.size) (yQ : Fld Z h0 o8_ oC1 "chosen" "[I" (.ref nE)) (hc : cells + (0) ≤ rc) (hs : slots + (0) ≤ rs) :
   ∃ (T' : State) (locs' : List Loc), Stand p l e (oR 7 rc rs 200) s m args below meth c T' locs' cells slots ∧ Fr n0 locs' ∧ T'.heap = h0 ∧
     ∀ target, Steps p.tables e below (T'.setTop (mkF m 99 #[oA o0_, oI i1_, oA o2_, oJ j3_, .second, oJ j5_, .second, oI i7_, oA o8_, oJ j9_, .second] [(.ref nE)])) target → Steps p.tables e below (T0.setTop (mkF m 94 #[oA o0_, oI i1_, oA o2_, oJ j3_, .second, oJ j5_, .second, oI i7_, oA o8_, oJ j9_, .second] [])) target := by
 obtain ⟨T1, X1, e1, st1⟩ := aG8 X0 hx hZ hown (oW hw 201 rfl) e0 yQ (g := (mkF m 96 #[oA o0_, oI i1_, oA o2_, oJ j3_, .second, oJ j5_, .second, oI i7_, oA o8_, oJ j9_, .second] [(.ref o8_)])) rfl rfl (oG hby d9 57 rfl)
 refine ⟨T1, _, X1, N0, e1, fun target kt => ?_⟩
 show oZ p e below T0 (mkF m 94 #[oA o0_, oI i1_, oA o2_, oJ j3_, .second, oJ j5_, .second, oI i7_, oA o8_, oJ j9_, .second] []) _
 refine XS.aload X0.here hx rfl (oG hby d9 56 rfl) rfl rfl ?_
 refine st1 _ ?_
 exact kt
theorem aO8 (rc : Nat) (rs : Nat) (o0_ : Addr) (i1_ : Int32) (o2_ : Addr) (j3_ : Int64) (j5_ : Int64) (i7_ : Int32) (o8_ : Addr) (j9_ : Int64) (cT : Int32) (bD : List Int32) (o4_ : Addr) (b_ : Int32) (vs_ : List Int32) (kA : Nat) (ch_ : Addr) (bs_ : Addr) (wd_ : Addr) (n_ : Int32) (us_ : Value) (st_ : fC) (jj_ : Int64)
   (X0 : Stand p l e (oR 7 rc rs 200) s m args below meth c T0 locs cells slots) (hx : p.tables.exec = Jvm.exec) (hZ : Z.Warmed39 s.vm) (hw : oH a0 Z) (hby : c.code = prog_29_method_5_code) (hml : c.maxLocals = 11) (hown : s.vm.findClass oC0 = some m.cls) (e0 : T0.heap = h0) (N0 : Fr n0 locs) (Z0 : n0 ≤ h0.size) (gL : bB Z h0 o2_ cT bD) (P_str : dQ Z h0 o8_ ch_ bs_ wd_ n_ us_ st_) (RW_ : oD Z h0 n0 o0_ o2_ o4_ o8_ ch_ bs_ wd_ b_ vs_ kA) (OK_ : hQ n_ st_) (bL : Exa Z h0 o0_ oC0) (bF5 : n0 ≤ o8_) (aN0 : n0 ≤ ch_) (aN1 : n0 ≤ bs_) (aN2 : n0 ≤ wd_) (hf0 : (lcmpW j9_ j5_) < (0 : Int32)) (hf1 : cT = Int32.ofNat kA) (hf2 : (bI b_ n_ vs_ kA 10 0 st_).2.1 = (0 : Int32)) (hf3 : (j9_ + (1 : Int64)) = jj_) (hc : cells + ((2 * (bI b_ n_ vs_ kA 10 0 st_).2.2)) ≤ rc) (hs : slots + ((11 * (bI b_ n_ vs_ kA 10 0 st_).2.2)) ≤ rs) :
   ∃ (T' : State) (locs' : List Loc), Stand p l e (oR 7 rc rs 200) s m args below meth c T' locs' (cells + (2 * (bI b_ n_ vs_ kA 10 0 st_).2.2)) (slots + (11 * (bI b_ n_ vs_ kA 10 0 st_).2.2)) ∧ Fr n0 locs' ∧ Keep h0 T'.heap [o8_, ch_, bs_, wd_] ∧ dQ Z T'.heap o8_ ch_ bs_ wd_ n_ us_ (bI b_ n_ vs_ kA 10 0 st_).1 ∧
     ∀ target, Steps p.tables e below (T'.setTop (mkF m 74 #[oA o0_, oI i1_, oA o2_, oJ j3_, .second, oJ j5_, .second, oI i7_, oA o8_, oJ jj_, .second] [])) target → Steps p.tables e below (T0.setTop (mkF m 74 #[oA o0_, oI i1_, oA o2_, oJ j3_, .second, oJ j5_, .second, oI i7_, oA o8_, oJ j9_, .second] [])) target := by
 obtain ⟨c1, A1, S1, M1⟩ := bV gL
 obtain ⟨cq2, q2, q2'⟩ := bL.cell
 obtain ⟨_, _, ⟨T2, L2, k2, n2⟩, -, X2, ⟨Lc2, hQ2, l2, y2, z2⟩, st2⟩ := X0.privateBack hx (y := oM8) hown (mvT hZ (oW hw 129 rfl)) (mvT hZ (oW hw 130 rfl)) (cG (mvT hZ (oW hw 15 rfl)) (mvP hZ (oW hw 131 rfl) (args := #[])) (mvT hZ (oW hw 130 rfl)) (by decide)) (Cond.privateMethod_at (mvP hZ (oW hw 131 rfl) (args := #[]))) (mvT hZ (oW hw 132 rfl)) (by decide) (backOf (W := 0) (xS l Z a0 hw [] o0_ o2_ cT o8_ ch_ bs_ wd_ n_ us_ st_ o4_ b_ vs_ kA h0 n0 Z0 P_str RW_ OK_ hf1) hZ (oW hw 132 rfl) (oW hw 12 rfl) (Nat.le_of_ble_eq_true rfl) (Nat.le_of_ble_eq_true rfl)) (g := (mkF m 88 #[oA o0_, oI i1_, oA o2_, oJ j3_, .second, oJ j5_, .second, oI i7_, oA o8_, oJ j9_, .second] [(.ref o8_), (.int cT), (.ref o2_), (.ref o0_)])) rfl (by rw [hml]; rfl) (Steps.refl _) (a := o0_) (by rw [e0]; exact q2) q2' (argsL := [(.ref o2_), (.int cT), (.ref o8_)]) (rest := []) (lenOf zF rfl) rfl (by show 2 * 0 + _ ≤ _; exact Nat.le_of_eq rfl) (oG hby d9 54 rfl) (fun _ _ => ⟨rfl, e0, (show cells + (2 * (bI b_ n_ vs_ kA 10 0 st_).2.2) ≤ rc from by omega), (show slots + (11 * (bI b_ n_ vs_ kA 10 0 st_).2.2) ≤ rs from by omega)⟩)
 dsimp only [Pt.U, Pt.locs, Pt.cells, Pt.slots] at X2 l2 y2 z2 st2 hQ2
 subst l2; rw [y2, z2] at X2
 obtain ⟨rfl, N2q, Kq2, Q2_0⟩ := hQ2
 have N2 := Fr.app N0 N2q
 have K2 : Keep h0 T2.heap [o8_, ch_, bs_, wd_] := (Keep.refl h0 [o8_, ch_, bs_, wd_]).trans Kq2 (nT (Or.inl (oX 0 rfl)) (Or.inl (oX 1 rfl)) (Or.inl (oX 2 rfl)) (Or.inl (oX 3 rfl)))
 refine ⟨T2, _, eS X2 (by omega) (by omega), N2, K2, Q2_0, fun target kt => ?_⟩
 show oZ p e below T0 (mkF m 74 #[oA o0_, oI i1_, oA o2_, oJ j3_, .second, oJ j5_, .second, oI i7_, oA o8_, oJ j9_, .second] []) _
 refine XS.lload X0.here hx rfl (oG hby d9 45 rfl) rfl ?_
 refine XS.lload X0.here hx rfl (oG hby d9 46 rfl) rfl ?_
 refine XS.lcmp X0.here hx rfl (oG hby d9 47 rfl) rfl ?_
 refine XS.ifNo X0.here hx rfl (oG hby d9 48 rfl) rfl ((if0 _ _).trans (tlt hf0).2.1) ?_
 refine XS.aloadN X0.here hx rfl (oG hby d9 49 rfl) rfl rfl ?_
 refine XS.aloadN X0.here hx rfl (oG hby d9 50 rfl) rfl rfl ?_
 refine XS.aloadN X0.here hx rfl (oG hby d9 51 rfl) rfl rfl ?_
 refine X0.arraylength hx (by rw [e0]; exact A1.1) (State.isArrayOf_alike hZ.alike A1.2.1) (g := (mkF m 85 #[oA o0_, oI i1_, oA o2_, oJ j3_, .second, oJ j5_, .second, oI i7_, oA o8_, oJ j9_, .second] [(.ref o2_), (.ref o2_), (.ref o0_)])) rfl rfl (oG hby d9 52 rfl) _ ?_
 rw [len_of S1 M1]
 refine XS.aload X0.here hx rfl (oG hby d9 53 rfl) rfl rfl ?_
 refine st2.trans ?_
 refine XS.ifYes X2.here hx rfl (pc0 := 91) (pc' := 100) rfl (oG hby d9 55 rfl) rfl ((if0 _ _).trans (teq hf2).1) (by decide) (by decide) ?_
 show oZ p e below T2 (mkF m 100 #[oA o0_, oI i1_, oA o2_, oJ j3_, .second, oJ j5_, .second, oI i7_, oA o8_, oJ j9_, .second] []) _
 refine XS.lload X2.here hx rfl (oG hby d9 59 rfl) rfl ?_
 refine XS.lconst X2.here hx rfl (oG hby d9 60 rfl) ?_
 show oZ p e below T2 (mkF m 103 #[oA o0_, oI i1_, oA o2_, oJ j3_, .second, oJ j5_, .second, oI i7_, oA o8_, oJ j9_, .second] [(.long 1), (.long j9_)]) _
 refine XS.ladd X2.here hx rfl (oG hby d9 61 rfl) rfl ?_
 show oZ p e below T2 (mkF m 104 #[oA o0_, oI i1_, oA o2_, oJ j3_, .second, oJ j5_, .second, oI i7_, oA o8_, oJ j9_, .second] [(.long (j9_ + (1 : Int64)))]) _
 rw [hf3]
 refine XS.lstore X2.here hx rfl (oG hby d9 62 rfl) rfl (l' := #[oA o0_, oI i1_, oA o2_, oJ j3_, .second, oJ j5_, .second, oI i7_, oA o8_, oJ jj_, .second]) rfl ?_
 refine XS.goto X2.here hx rfl (pc0 := 106) (pc' := 74) rfl (oG hby d9 63 rfl) (by decide) (by decide) ?_
 exact kt
theorem aO9 (rc : Nat) (rs : Nat) (o0_ : Addr) (i1_ : Int32) (o2_ : Addr) (j3_ : Int64) (j5_ : Int64) (i7_ : Int32) (o8_ : Addr) (j9_ : Int64) (cT : Int32) (bD : List Int32) (o4_ : Addr) (b_ : Int32) (vs_ : List Int32) (kA : Nat) (ch_ : Addr) (bs_ : Addr) (wd_ : Addr) (n_ : Int32) (us_ : Value) (st_ : fC)
   (X0 : Stand p l e (oR 7 rc rs 200) s m args below meth c T0 locs cells slots) (hx : p.tables.exec = Jvm.exec) (hZ : Z.Warmed39 s.vm) (hw : oH a0 Z) (hby : c.code = prog_29_method_5_code) (hml : c.maxLocals = 11) (hown : s.vm.findClass oC0 = some m.cls) (e0 : T0.heap = h0) (N0 : Fr n0 locs) (Z0 : n0 ≤ h0.size) (gL : bB Z h0 o2_ cT bD) (P_str : dQ Z h0 o8_ ch_ bs_ wd_ n_ us_ st_) (RW_ : oD Z h0 n0 o0_ o2_ o4_ o8_ ch_ bs_ wd_ b_ vs_ kA) (OK_ : hQ n_ st_) (bL : Exa Z h0 o0_ oC0) (bF5 : n0 ≤ o8_) (aN0 : n0 ≤ ch_) (aN1 : n0 ≤ bs_) (aN2 : n0 ≤ wd_) (hf0 : (lcmpW j9_ j5_) < (0 : Int32)) (hf1 : cT = Int32.ofNat kA) (hf2 : ¬ ((bI b_ n_ vs_ kA 10 0 st_).2.1 = (0 : Int32))) (hc : cells + ((2 * (bI b_ n_ vs_ kA 10 0 st_).2.2)) ≤ rc) (hs : slots + ((11 * (bI b_ n_ vs_ kA 10 0 st_).2.2)) ≤ rs) :
   ∃ (T' : State) (locs' : List Loc), Stand p l e (oR 7 rc rs 200) s m args below meth c T' locs' (cells + (2 * (bI b_ n_ vs_ kA 10 0 st_).2.2)) (slots + (11 * (bI b_ n_ vs_ kA 10 0 st_).2.2)) ∧ Fr n0 locs' ∧ Keep h0 T'.heap [o8_, ch_, bs_, wd_] ∧ dQ Z T'.heap o8_ ch_ bs_ wd_ n_ us_ (bI b_ n_ vs_ kA 10 0 st_).1 ∧
     ∀ target, Steps p.tables e below (T'.setTop (mkF m 94 #[oA o0_, oI i1_, oA o2_, oJ j3_, .second, oJ j5_, .second, oI i7_, oA o8_, oJ j9_, .second] [])) target → Steps p.tables e below (T0.setTop (mkF m 74 #[oA o0_, oI i1_, oA o2_, oJ j3_, .second, oJ j5_, .second, oI i7_, oA o8_, oJ j9_, .second] [])) target := by
 obtain ⟨c1, A1, S1, M1⟩ := bV gL
 obtain ⟨cq2, q2, q2'⟩ := bL.cell
 obtain ⟨_, _, ⟨T2, L2, k2, n2⟩, -, X2, ⟨Lc2, hQ2, l2, y2, z2⟩, st2⟩ := X0.privateBack hx (y := oM8) hown (mvT hZ (oW hw 129 rfl)) (mvT hZ (oW hw 130 rfl)) (cG (mvT hZ (oW hw 15 rfl)) (mvP hZ (oW hw 131 rfl) (args := #[])) (mvT hZ (oW hw 130 rfl)) (by decide)) (Cond.privateMethod_at (mvP hZ (oW hw 131 rfl) (args := #[]))) (mvT hZ (oW hw 132 rfl)) (by decide) (backOf (W := 0) (xS l Z a0 hw [] o0_ o2_ cT o8_ ch_ bs_ wd_ n_ us_ st_ o4_ b_ vs_ kA h0 n0 Z0 P_str RW_ OK_ hf1) hZ (oW hw 132 rfl) (oW hw 12 rfl) (Nat.le_of_ble_eq_true rfl) (Nat.le_of_ble_eq_true rfl)) (g := (mkF m 88 #[oA o0_, oI i1_, oA o2_, oJ j3_, .second, oJ j5_, .second, oI i7_, oA o8_, oJ j9_, .second] [(.ref o8_), (.int cT), (.ref o2_), (.ref o0_)])) rfl (by rw [hml]; rfl) (Steps.refl _) (a := o0_) (by rw [e0]; exact q2) q2' (argsL := [(.ref o2_), (.int cT), (.ref o8_)]) (rest := []) (lenOf zF rfl) rfl (by show 2 * 0 + _ ≤ _; exact Nat.le_of_eq rfl) (oG hby d9 54 rfl) (fun _ _ => ⟨rfl, e0, (show cells + (2 * (bI b_ n_ vs_ kA 10 0 st_).2.2) ≤ rc from by omega), (show slots + (11 * (bI b_ n_ vs_ kA 10 0 st_).2.2) ≤ rs from by omega)⟩)
 dsimp only [Pt.U, Pt.locs, Pt.cells, Pt.slots] at X2 l2 y2 z2 st2 hQ2
 subst l2; rw [y2, z2] at X2
 obtain ⟨rfl, N2q, Kq2, Q2_0⟩ := hQ2
 have N2 := Fr.app N0 N2q
 have K2 : Keep h0 T2.heap [o8_, ch_, bs_, wd_] := (Keep.refl h0 [o8_, ch_, bs_, wd_]).trans Kq2 (nT (Or.inl (oX 0 rfl)) (Or.inl (oX 1 rfl)) (Or.inl (oX 2 rfl)) (Or.inl (oX 3 rfl)))
 refine ⟨T2, _, eS X2 (by omega) (by omega), N2, K2, Q2_0, fun target kt => ?_⟩
 show oZ p e below T0 (mkF m 74 #[oA o0_, oI i1_, oA o2_, oJ j3_, .second, oJ j5_, .second, oI i7_, oA o8_, oJ j9_, .second] []) _
 refine XS.lload X0.here hx rfl (oG hby d9 45 rfl) rfl ?_
 refine XS.lload X0.here hx rfl (oG hby d9 46 rfl) rfl ?_
 refine XS.lcmp X0.here hx rfl (oG hby d9 47 rfl) rfl ?_
 refine XS.ifNo X0.here hx rfl (oG hby d9 48 rfl) rfl ((if0 _ _).trans (tlt hf0).2.1) ?_
 refine XS.aloadN X0.here hx rfl (oG hby d9 49 rfl) rfl rfl ?_
 refine XS.aloadN X0.here hx rfl (oG hby d9 50 rfl) rfl rfl ?_
 refine XS.aloadN X0.here hx rfl (oG hby d9 51 rfl) rfl rfl ?_
 refine X0.arraylength hx (by rw [e0]; exact A1.1) (State.isArrayOf_alike hZ.alike A1.2.1) (g := (mkF m 85 #[oA o0_, oI i1_, oA o2_, oJ j3_, .second, oJ j5_, .second, oI i7_, oA o8_, oJ j9_, .second] [(.ref o2_), (.ref o2_), (.ref o0_)])) rfl rfl (oG hby d9 52 rfl) _ ?_
 rw [len_of S1 M1]
 refine XS.aload X0.here hx rfl (oG hby d9 53 rfl) rfl rfl ?_
 refine st2.trans ?_
 refine XS.ifNo X2.here hx rfl (oG hby d9 55 rfl) rfl ((if0 _ _).trans (feq hf2).1) ?_
 exact kt
section OwnShared
theorem oU {i : Nat} (h : i < 2 ^ 31) : (Int64.ofNat i).toInt = i := Int64.toInt_ofNat_of_lt (by omega)
theorem aA7 {i c : Nat} (h : i < c) (hc : c < 2 ^ 31) : Int64.ofNat i < Int64.ofNat c := by
 rw [Int64.lt_iff_toInt_lt, oU (by omega), oU hc]; omega
theorem xI (i : Nat) : (Int64.ofNat i + (1 : Int64)) = Int64.ofNat (i + 1) := by
 rw [Int64.ofNat_add]; rfl
def iB (b n : Int32) (vs : List Int32) (cnt : Nat) : Nat → fC → Int32 × Nat
 | 0, _ => (0, 0)
 | k + 1, st => if (bI b n vs cnt 10 0 st).2.1 = 0 then ((iB b n vs cnt k (bI b n vs cnt 10 0 st).1).1, (bI b n vs cnt 10 0 st).2.2 + (iB b n vs cnt k (bI b n vs cnt 10 0 st).1).2) else (1, (bI b n vs cnt 10 0 st).2.2)
theorem aD4 {b n : Int32} {vs : List Int32} {cnt : Nat} (hin : ∀ (k i : Nat) (row : Int32) (st : fC), hQ n st → (cB b n row vs k i st).2.1 = 0 → hQ n (cB b n row vs k i st).1) : ∀ (k i : Nat) (st : fC), hQ n st → (bI b n vs cnt k i st).2.1 = 0 → hQ n (bI b n vs cnt k i st).1 := by
 intro k
 induction k with
 | zero => intro i st h _; exact h
 | succ k ih =>
   intro i st h h0
   by_cases q : (cB b n (cP.getD i 0) vs cnt 0 st).2.1 = 0
   · rw [bI, if_pos q] at h0 ⊢
     exact ih _ _ (hin _ _ _ _ h q) h0
   · rw [bI, if_neg q] at h0; exact absurd (show (1 : Int32) = 0 from h0) (by decide)
theorem aI1 {b n : Int32} {vs : List Int32} : ∀ (k i : Nat) (row : Int32) (st : fC), hQ n st → (cB b n row vs k i st).2.1 = 0 → hQ n (cB b n row vs k i st).1 := by
 intro k
 induction k with
 | zero => intro i row st h _; exact h
 | succ k ih =>
   intro i row st h h0
   by_cases q1 : cO b (vs.getD i 0) row < (0 : Int32)
   · rw [cB, if_pos q1] at h0 ⊢
     exact ih _ _ _ h h0
   · by_cases q2 : (dH n (cO b (vs.getD i 0) row) st).2 = (0 : Int32)
     · rw [cB, if_neg q1, if_pos q2] at h0 ⊢
       exact ih _ _ _ (vX h q2) h0
     · rw [cB, if_neg q1, if_neg q2] at h0; exact absurd (show (1 : Int32) = 0 from h0) (by decide)
theorem aD5 {p : Program} {l : Launch} {e : Env} {s : State} {m : MethodId} {args : Array Value} {below : List Frame} {meth : Method} {c : Code} {Z : State} {a0 : Array Value} {n0 : Nat} {rc rs : Nat} {o0 o2 o8 o4 ch bs wd : Addr} {i1 i7 b n : Int32} {j3 : Int64} {us : Value} {vs : List Int32} {cnt R : Nat}
   (hx : p.tables.exec = Jvm.exec) (hZ : Z.Warmed39 s.vm) (hw : oH a0 Z) (hby : c.code = prog_29_method_5_code) (hml : c.maxLocals = 11) (hown : s.vm.findClass oC0 = some m.cls) (hR : R < 1000) :
   ∀ (k i : Nat) (st : fC) (T0 : State) (locs : List Loc) (cells slots : Nat), i + k = R → hQ n st → (iB b n vs cnt k st).1 = 1 →
     Stand p l e (oR 7 rc rs 200) s m args below meth c T0 locs cells slots → Fr n0 locs → n0 ≤ T0.heap.size → oD Z T0.heap n0 o0 o2 o4 o8 ch bs wd b vs cnt → dQ Z T0.heap o8 ch bs wd n us st →
     cells + 2 * (iB b n vs cnt k st).2 ≤ rc → slots + 11 * (iB b n vs cnt k st).2 ≤ rs →
     ∃ (T' : State) (locs' : List Loc) (r' : Int64) (st' : fC), Stand p l e (oR 7 rc rs 200) s m args below meth c T' locs' (cells + 2 * (iB b n vs cnt k st).2) (slots + 11 * (iB b n vs cnt k st).2) ∧ Fr n0 locs' ∧ Keep T0.heap T'.heap [o8, ch, bs, wd] ∧ dQ Z T'.heap o8 ch bs wd n us st' ∧
     ∀ target, Steps p.tables e below (T'.setTop (mkF m 94 #[oA o0, oI i1, oA o2, oJ j3, .second, oJ (Int64.ofNat R), .second, oI i7, oA o8, oJ r', .second] [])) target →
       Steps p.tables e below (T0.setTop (mkF m 74 #[oA o0, oI i1, oA o2, oJ j3, .second, oJ (Int64.ofNat R), .second, oI i7, oA o8, oJ (Int64.ofNat i), .second] [])) target := by
 intro k
 induction k with
 | zero => intro i st T0 locs cells slots hik hok h1; exact absurd (show (0 : Int32) = 1 from h1) (by decide)
 | succ k ih =>
   intro i st T0 locs cells slots hik hok h1 X N Z0 Y S hc hs
   have hlt := (pN _ _).mpr (aA7 (i := i) (c := R) (by omega) (by omega))
   have G := Y.2.2.1.1
   by_cases q : (bI b n vs cnt 10 0 st).2.1 = 0
   · have eqk : iB b n vs cnt (k + 1) st = ((iB b n vs cnt k (bI b n vs cnt 10 0 st).1).1, (bI b n vs cnt 10 0 st).2.2 + (iB b n vs cnt k (bI b n vs cnt 10 0 st).1).2) := by rw [iB, if_pos q]
     rw [eqk] at hc hs h1 ⊢
     dsimp only at hc hs h1 ⊢
     obtain ⟨T1, L1, X1, N1, K1, S1, st1⟩ := aO8 (o0_ := o0) (i1_ := i1) (o2_ := o2) (j3_ := j3) (j5_ := Int64.ofNat R) (i7_ := i7) (o8_ := o8) (j9_ := Int64.ofNat i) (cT := Int32.ofNat cnt) (bD := vs) (o4_ := o4) (b_ := b) (vs_ := vs) (kA := cnt) (ch_ := ch) (bs_ := bs) (wd_ := wd) (n_ := n) (us_ := us) (st_ := st) (jj_ := Int64.ofNat (i + 1)) rc rs X hx hZ hw hby hml hown rfl N Z0 Y.2.1.2.2.1 S Y hok Y.2.1.1 G.1 G.2.1 G.2.2.1 G.2.2.2 hlt rfl q (xI i) (by omega) (by omega)
     obtain ⟨T', L', r', st', X', N', K', S', stp'⟩ := ih (i + 1) _ T1 L1 _ _ (by omega) (aD4 aI1 10 0 st hok q) h1 X1 N1 (Nat.le_trans Z0 K1.1) (Y.keep K1 S) S1 (by omega) (by omega)
     exact ⟨T', L', r', st', eS X' (by omega) (by omega), N', eV K1 K' (fun x hx => hx), S', fun target kt => st1 _ (stp' _ kt)⟩
   · have eqk : iB b n vs cnt (k + 1) st = (1, (bI b n vs cnt 10 0 st).2.2) := by rw [iB, if_neg q]
     rw [eqk] at hc hs ⊢
     dsimp only at hc hs ⊢
     obtain ⟨T1, L1, X1, N1, K1, S1, st1⟩ := aO9 (o0_ := o0) (i1_ := i1) (o2_ := o2) (j3_ := j3) (j5_ := Int64.ofNat R) (i7_ := i7) (o8_ := o8) (j9_ := Int64.ofNat i) (cT := Int32.ofNat cnt) (bD := vs) (o4_ := o4) (b_ := b) (vs_ := vs) (kA := cnt) (ch_ := ch) (bs_ := bs) (wd_ := wd) (n_ := n) (us_ := us) (st_ := st) rc rs X hx hZ hw hby hml hown rfl N Z0 Y.2.1.2.2.1 S Y hok Y.2.1.1 G.1 G.2.1 G.2.2.1 G.2.2.2 hlt rfl q (by omega) (by omega)
     exact ⟨T1, L1, _, _, X1, N1, K1, S1, st1⟩
def oY (b n pl : Int32) (L R calls : Nat) : Prop :=
 gR L L ∧ ¬ (b.toInt64 = (0 : Int64)) ∧ rA b (Int32.ofNat L) (eA L L) (((10 : Int64) * (n.toInt64)) - ((((10 : Int64) * (n.toInt64)) / (b.toInt64)) * (b.toInt64))) L 0 0 = true ∧ ¬ (n < 0) ∧ n.toNatClampNeg ≤ 32 ∧ ¬ (b < (0 : Int32)) ∧ (((b - (1 : Int32)) >>> ((6 : Int32) &&& 31)) + (1 : Int32)) = (1 : Int32) ∧
 (((10 : Int64) * (n.toInt64)) / (b.toInt64)) = Int64.ofNat R ∧ R < 1000 ∧ (iB b n (eA L L) L R (((pl.toInt64) * (n.toInt64)), 0, 0, 0)).1 = 1 ∧ (iB b n (eA L L) L R (((pl.toInt64) * (n.toInt64)), 0, 0, 0)).2 ≤ calls ∧ (0 : Int32) < n
def kN (Z : State) (h : Heap) (o : Addr) (b n : Int32) (L : Nat) (ft : Int32) : Prop :=
 Exa Z h o oC0 ∧ Fld Z h o oC0 "backends" "I" (.int b) ∧ Fld Z h o oC0 "subsetSize" "I" (.int n) ∧ Fld Z h o oC0 "lots" "I" (.int (Int32.ofNat L)) ∧ Fld Z h o oC0 "ringBits" "I" (.int (gQ L)) ∧ Fld Z h o oC0 "fitsInARow" "Z" (.int ft)
def rC (Z : State) (h : Heap) (o4 : Addr) : Prop :=
 Sta Z h oC0 "START_ROWS" "[I" (.ref o4) ∧ bB Z h o4 10 [0, 8, 2, 4, 6, 1, 9, 5, 3, 7] ∧ Sta Z h oC3 "$assertionsDisabled" "Z" (.int 1)
def aD6 (Z : State) (n : Int32) (h0 : Heap) (n0 : Nat) (v : Option Value) (h : Heap) (L : List Loc) : Prop := ∃ r : Addr, v = some (.ref r) ∧ Fr n0 L ∧ Keep h0 h [] ∧ h0.size ≤ r ∧ bC Z h r n
theorem pA (L c : Nat) : hY (eA L c) := by
 intro i
 have key : ∀ (l : List Int32), (∀ x ∈ l, x = 0 ∨ x = 1 ∨ x = 2 ∨ x = 3) → (l.getD i 0 = 0 ∨ l.getD i 0 = 1 ∨ l.getD i 0 = 2 ∨ l.getD i 0 = 3) := by
   intro l hl
   rw [List.getD_eq_getElem?_getD]
   cases q : l[i]? with
   | none => exact Or.inl rfl
   | some v => exact hl v (List.mem_of_getElem? q)
 refine key _ fun x hx => ?_
 have hx' := List.mem_of_mem_take hx
 split at hx'
 · simp at hx'; rcases hx' with rfl | rfl <;> decide
 · split at hx'
   · simp at hx'; rcases hx' with rfl | rfl | rfl <;> decide
   · simp at hx'; rcases hx' with rfl | rfl | rfl | rfl <;> decide
theorem aW2 (l : Launch) (Z : State) (a0 : Array Value) (hw : oH a0 Z) (ws : List Jvm.Cond) (o0 : Addr) (pl : Int32) (o4 : Addr) (b n ft : Int32) (L R calls : Nat) (h0 : Heap) (n0 : Nat) (Z0 : n0 ≤ h0.size)
   (U : kN Z h0 o0 b n L ft) (Y : rC Z h0 o4) (ok : oY b n pl L R calls) :
   oMet l oM34 prog_29_method_5_code 11 (some (.array .int)) ws (oR 7 (5 + 2 * calls) (44 + 11 * calls) 200) Z h0 #[(.ref o0), (.int pl)] (aD6 Z n h0 n0) := by
 obtain ⟨k1, k2, k3, k4, k5, k6, k7, k8, k9, k10, k11, k12⟩ := ok
 obtain ⟨u1, u2, u3, u4, u5, u6⟩ := U
 refine oBd n0 (plainFor_of_name eC) ?_
 intro p e s m below meth c s₁ Bd hx hZ hby hml hown hnm X0 e0 N0
 have hL : L < 1000 := by rcases k1 with ⟨rfl, _⟩ | ⟨rfl, _⟩ | ⟨rfl, _⟩ | ⟨rfl, _⟩ | ⟨rfl, _⟩ | ⟨rfl, _⟩ | ⟨rfl, _⟩ <;> decide
 obtain ⟨od, sp, ch, bs, wd, z, T1, L1, X1, N1, K1, g1, g2, g3, g4, g5, m1, m2, m3, m4, m5, m6, m7, m8, m9, m10, A1, E1, F1, F2, F3, F4, -, A2, E2, F5, F6, F7, -, A3, st1⟩ := bA8 (o0_ := o0) (i1_ := pl) (cM := Int32.ofNat L) (lx_ := L) (cx_ := L) (aY := gQ L) (aD := n) (aE := b) (5 + 2 * calls) (44 + 11 * calls) X0 hx hZ hw hby hml hown e0 N0 Z0 u4 u5 u1 u3 u2 rfl rfl rfl k1 k2 rfl hL k3 k4 k5 k6 k7 (by omega) (by omega)
 rw [k8] at st1
 have S : dQ Z T1.heap sp ch bs wd n _ (((pl.toInt64) * (n.toInt64)), (0 : Int32), (0 : Int32), (0 : Int64)) := ⟨E1, F1, F2, F4, F3, A2, E2, F6, F7, F5, A3⟩
 have fr : ∀ x, x < h0.size → x ∉ [sp, ch, bs, wd] := fun x hx => aK3 (Nat.ne_of_lt (Nat.lt_of_lt_of_le hx g2)) (Nat.ne_of_lt (Nat.lt_of_lt_of_le hx g3)) (Nat.ne_of_lt (Nat.lt_of_lt_of_le hx g4)) (Nat.ne_of_lt (Nat.lt_of_lt_of_le hx g5))
 have W : oD Z T1.heap n0 o0 od o4 sp ch bs wd b (eA L L) L := ⟨Y.1.ext (iD K1), ⟨u1.ext (iD K1), u2.ext (iD K1), A1, Y.2.1.ext (iD K1), Y.2.2.ext (iD K1)⟩, ⟨⟨Nat.le_trans Z0 g2, Nat.le_trans Z0 g3, Nat.le_trans Z0 g4, Nat.le_trans Z0 g5⟩, m3, m5, m8, m6, m9, m10⟩, ⟨fr _ u1.lt, aK3 m1 m2 m4 m7, fr _ Y.2.1.lt⟩, pA L L, hL⟩
 have ok0 : hQ n (((pl.toInt64) * (n.toInt64)), (0 : Int32), (0 : Int32), (0 : Int64)) := ⟨(by decide : ¬ ((0 : Int32) < 0)), k12, Or.inl rfl⟩
 obtain ⟨T2, L2, r2, st2, X2, N2, K2, S2, stp2⟩ := aD5 (i1 := pl) (i7 := z) (j3 := ((10 : Int64) * (n.toInt64))) hx hZ hw hby hml hown k9 R 0 _ T1 L1 _ _ (by omega) ok0 k10 X1 N1 (Nat.le_trans Z0 K1.1) W S (by omega) (by omega)
 obtain ⟨T3, L3, X3, N3, e3, st3⟩ := aO7 (o0_ := o0) (i1_ := pl) (o2_ := od) (j3_ := ((10 : Int64) * (n.toInt64))) (j5_ := Int64.ofNat R) (i7_ := z) (o8_ := sp) (j9_ := r2) (nE := ch) (5 + 2 * calls) (44 + 11 * calls) X2 hx hZ hw hby hml hown rfl N2 (Nat.le_trans (Nat.le_trans Z0 K1.1) K2.1) S2.2.2.1 (by omega) (by omega)
 obtain ⟨fs, hr, hrun, hended, hW, hsame⟩ := X3.leave (v := some (.ref ch)) (fun h => by rw [Bd.returns] at h; cases h)
 refine ⟨_, _, castTop (aL5 m o0 pl) (st1 _ (stp2 _ (st3 _ ?_))), hrun, hended, _, _, rfl, ⟨ch, rfl, N3, ?_, g3, ?_⟩, ⟨_, rfl⟩, hW, hsame.mono (show 0 + (1 + 1 + 3) + 2 * (iB b n (eA L L) L R (((pl.toInt64) * (n.toInt64)), 0, 0, 0)).2 ≤ 5 + 2 * calls by omega) (show 0 + (4 + 4 + 36) + 11 * (iB b n (eA L L) L R (((pl.toInt64) * (n.toInt64)), 0, 0, 0)).2 ≤ 44 + 11 * calls by omega)⟩
 · jvm_step X3.here [X3.here.top, hx, (oG hby d9 58 rfl), X3.method', Bd.returns, Value.isRef, FieldType.isReference]
   first | (intro acts; rw [hr _ acts rfl rfl rfl]) | rw [hr _ _ rfl rfl rfl]
   exact Steps.refl _
 · show Keep h0 T3.heap []
   rw [e3]; exact K1.trans K2 (nT (Or.inr g2) (Or.inr g3) (Or.inr g4) (Or.inr g5))
 · show bC Z T3.heap ch n
   rw [e3]; exact S2.2.2.2.2.2.1
end OwnShared

theorem aP0 (rc : Nat) (rs : Nat) (o0_ : Addr) (o2_ : Addr) (i3_ : Int32) (o4_ : Addr) (i5_ : Int32) 
   (X0 : Stand p l e (oR 5 rc rs 130) s m args below meth c T0 locs cells slots) (hx : p.tables.exec = Jvm.exec) (hZ : Z.Warmed39 s.vm) (hw : oH a0 Z) (hby : c.code = prog_29_method_9_code) (hml : c.maxLocals = 9) (hown : s.vm.findClass oC0 = some m.cls) (e0 : T0.heap = h0) (N0 : Fr n0 locs) (Z0 : n0 ≤ h0.size) (hc : cells + (0) ≤ rc) (hs : slots + (0) ≤ rs) :
   ∃ (T' : State) (locs' : List Loc), Stand p l e (oR 5 rc rs 130) s m args below meth c T' locs' cells slots ∧ Fr n0 locs' ∧ T'.heap = h0 ∧
     ∀ target, Steps p.tables e below (T'.setTop (mkF m 7 #[oA o0_, oI 0, oA o2_, oI i3_, oA o4_, oI i5_, oI i5_, oI 0, .unset] [])) target → Steps p.tables e below (T0.setTop (mkF m 0 #[oA o0_, oI 0, oA o2_, oI i3_, oA o4_, oI i5_, .unset, .unset, .unset] [])) target := by
 refine ⟨T0, _, X0, N0, e0, fun target kt => ?_⟩
 show oZ p e below T0 (mkF m 0 #[oA o0_, oI 0, oA o2_, oI i3_, oA o4_, oI i5_, .unset, .unset, .unset] []) _
 refine XS.iload X0.here hx rfl (oG hby d46 0 rfl) rfl ?_
 refine XS.istore X0.here hx rfl (oG hby d46 1 rfl) rfl (l' := #[oA o0_, oI 0, oA o2_, oI i3_, oA o4_, oI i5_, oI i5_, .unset, .unset]) rfl ?_
 refine XS.iconst X0.here hx rfl (oG hby d46 2 rfl) ?_
 refine XS.istore X0.here hx rfl (oG hby d46 3 rfl) rfl (l' := #[oA o0_, oI 0, oA o2_, oI i3_, oA o4_, oI i5_, oI i5_, oI 0, .unset]) rfl ?_
 exact kt
theorem aP1 (rc : Nat) (rs : Nat) (o0_ : Addr) (o2_ : Addr) (i3_ : Int32) (o4_ : Addr) (i5_ : Int32) (i6_ : Int32) (i7_ : Int32) (s8_ : Slot) (cT : Int32) (bD : List Int32) (aD : Int32) (aE : Int32) (x_ : Int32) (j_ : Int32)
   (X0 : Stand p l e (oR 5 rc rs 130) s m args below meth c T0 locs cells slots) (hx : p.tables.exec = Jvm.exec) (hZ : Z.Warmed39 s.vm) (hw : oH a0 Z) (hby : c.code = prog_29_method_9_code) (hml : c.maxLocals = 9) (hown : s.vm.findClass oC0 = some m.cls) (e0 : T0.heap = h0) (N0 : Fr n0 locs) (Z0 : n0 ≤ h0.size) (gL : bB Z h0 o2_ cT bD) (eD : Fld Z h0 o0_ oC0 "subsetSize" "I" (.int aD)) (cU : Fld Z h0 o0_ oC0 "backends" "I" (.int aE)) (bL : Exa Z h0 o0_ oC0) (zZ : (s8_ = .unset ∨ ∃ z : Int32, s8_ = oI z)) (hf0 : i7_ < cT) (hf1 : i6_ < aD) (hf2 : ¬ (i7_ < 0)) (hf3 : (bD.getD (i7_).toNatClampNeg 0) = 0 ∨ (bD.getD (i7_).toNatClampNeg 0) = 1 ∨ (bD.getD (i7_).toNatClampNeg 0) = 2 ∨ (bD.getD (i7_).toNatClampNeg 0) = 3) (hf4 : ¬ (i3_ < 0)) (hf5 : i3_ < (10 : Int32)) (hf6 : (cO aE (bD.getD (i7_).toNatClampNeg 0) i3_) = x_) (hf7 : x_ < (0 : Int32)) (hf8 : (i7_ + (1 : Int32)) = j_) (hc : cells + (2) ≤ rc) (hs : slots + (11) ≤ rs) :
   ∃ (T' : State) (locs' : List Loc), Stand p l e (oR 5 rc rs 130) s m args below meth c T' locs' (cells + 2) (slots + 11) ∧ Fr n0 locs' ∧ Keep h0 T'.heap [] ∧
     ∀ target, Steps p.tables e below (T'.setTop (mkF m 7 #[oA o0_, oI 0, oA o2_, oI i3_, oA o4_, oI i5_, oI i6_, oI j_, oI x_] [])) target → Steps p.tables e below (T0.setTop (mkF m 7 #[oA o0_, oI 0, oA o2_, oI i3_, oA o4_, oI i5_, oI i6_, oI i7_, s8_] [])) target := by
 obtain ⟨c1, A1, S1, M1⟩ := bV gL
 obtain ⟨T2, X2, e2, st2⟩ := getF X0 hx hZ hown (host := "") (Or.inl (oW hw 22 rfl)) Via.refl e0 eD (g := (mkF m 17 #[oA o0_, oI 0, oA o2_, oI i3_, oA o4_, oI i5_, oI i6_, oI i7_, s8_] [(.ref o0_), (.int i6_)])) rfl rfl (oG hby d46 10 rfl)
 obtain ⟨c3, A3, hin3, hat3⟩ := bS (j := i7_) gL hf2 hf0
 have hat3' : c3.slots[(i7_).toNatClampNeg]? = some (.int (bD.getD (i7_).toNatClampNeg 0)) := hat3
 obtain ⟨cq4, q4, q4'⟩ := bL.cell
 obtain ⟨_, _, ⟨T4, L4, k4, n4⟩, -, X4, ⟨Lc4, hQ4, l4, y4, z4⟩, st4⟩ := X2.privateBack hx (y := oM5) hown (mvT hZ (oW hw 135 rfl)) (mvT hZ (oW hw 136 rfl)) (cG (mvT hZ (oW hw 15 rfl)) (mvP hZ (oW hw 137 rfl) (args := #[])) (mvT hZ (oW hw 136 rfl)) (by decide)) (Cond.privateMethod_at (mvP hZ (oW hw 137 rfl) (args := #[]))) (mvT hZ (oW hw 138 rfl)) (by decide) (backOf (W := 0) (oC l Z a0 hw [] o0_ (bD.getD (i7_).toNatClampNeg 0) i3_ aE h0 n0 Z0 cU hf3 hf4 hf5) hZ (oW hw 138 rfl) (oW hw 12 rfl) (Nat.le_of_ble_eq_true rfl) (Nat.le_of_ble_eq_true rfl)) (g := (mkF m 30 #[oA o0_, oI 0, oA o2_, oI i3_, oA o4_, oI i5_, oI i6_, oI i7_, s8_] [(.int i3_), (.int (bD.getD (i7_).toNatClampNeg 0)), (.int 0), (.ref o0_)])) rfl (by rw [hml]; rfl) (Steps.refl _) (a := o0_) (by rw [e2]; exact q4) q4' (argsL := [(.int 0), (.int (bD.getD (i7_).toNatClampNeg 0)), (.int i3_)]) (rest := []) (lenOf rJ rfl) rfl (by show 2 * 0 + _ ≤ _; exact Nat.le_of_eq rfl) (oG hby d46 18 rfl) (fun _ _ => ⟨rfl, e2, (show cells + 2 ≤ rc from by omega), (show slots + 11 ≤ rs from by omega)⟩)
 dsimp only [Pt.U, Pt.locs, Pt.cells, Pt.slots] at X4 l4 y4 z4 st4 hQ4
 subst l4; rw [y4, z4] at X4
 obtain ⟨rfl, N4q, Kq4⟩ := hQ4
 have N4 := Fr.app N0 N4q
 have K4 : Keep h0 T4.heap [] := (Keep.refl h0 []).trans Kq4 dX
 refine ⟨T4, _, eS X4 (by omega) (by omega), N4, K4, fun target kt => ?_⟩
 show oZ p e below T0 (mkF m 7 #[oA o0_, oI 0, oA o2_, oI i3_, oA o4_, oI i5_, oI i6_, oI i7_, s8_] []) _
 refine XS.iload X0.here hx rfl (oG hby d46 4 rfl) rfl ?_
 refine XS.aloadN X0.here hx rfl (oG hby d46 5 rfl) rfl rfl ?_
 refine X0.arraylength hx (by rw [e0]; exact A1.1) (State.isArrayOf_alike hZ.alike A1.2.1) (g := (mkF m 10 #[oA o0_, oI 0, oA o2_, oI i3_, oA o4_, oI i5_, oI i6_, oI i7_, s8_] [(.ref o2_), (.int i7_)])) rfl rfl (oG hby d46 6 rfl) _ ?_
 rw [len_of S1 M1]
 refine XS.icmpNo X0.here hx rfl (oG hby d46 7 rfl) rfl (tlt hf0).2.1 ?_
 refine XS.iload X0.here hx rfl (oG hby d46 8 rfl) rfl ?_
 refine XS.aloadN X0.here hx rfl (oG hby d46 9 rfl) rfl rfl ?_
 refine st2 _ ?_
 refine XS.icmpNo X2.here hx rfl (oG hby d46 11 rfl) rfl (tlt hf1).2.1 ?_
 refine XS.aloadN X2.here hx rfl (oG hby d46 12 rfl) rfl rfl ?_
 refine XS.iloadN X2.here hx rfl (oG hby d46 13 rfl) rfl ?_
 refine XS.aloadN X2.here hx rfl (oG hby d46 14 rfl) rfl rfl ?_
 show oZ p e below T2 (mkF m 26 #[oA o0_, oI 0, oA o2_, oI i3_, oA o4_, oI i5_, oI i6_, oI i7_, s8_] [(.ref o2_), (.int 0), (.ref o0_)]) _
 refine XS.iload X2.here hx rfl (oG hby d46 15 rfl) rfl ?_
 refine X2.iaload hx (j := i7_) (v := (.int (bD.getD (i7_).toNatClampNeg 0))) (by rw [e2]; exact A3.1) (State.isArrayOf_alike hZ.alike A3.2.1) A3.2.2 hin3 hat3' (g := (mkF m 28 #[oA o0_, oI 0, oA o2_, oI i3_, oA o4_, oI i5_, oI i6_, oI i7_, s8_] [(.int i7_), (.ref o2_), (.int 0), (.ref o0_)])) rfl rfl (oG hby d46 16 rfl) _ ?_
 refine XS.iloadN X2.here hx rfl (oG hby d46 17 rfl) rfl ?_
 refine st4.trans ?_
 show oZ p e below T4 (mkF m 33 #[oA o0_, oI 0, oA o2_, oI i3_, oA o4_, oI i5_, oI i6_, oI i7_, s8_] [(.int (cO aE (bD.getD (i7_).toNatClampNeg 0) i3_))]) _
 rw [hf6]
 refine XS.istore X4.here hx rfl (oG hby d46 19 rfl) rfl (l' := #[oA o0_, oI 0, oA o2_, oI i3_, oA o4_, oI i5_, oI i6_, oI i7_, oI x_]) (by rcases zZ with rfl | ⟨_, rfl⟩ <;> rfl) ?_
 refine XS.iload X4.here hx rfl (oG hby d46 20 rfl) rfl ?_
 refine XS.ifYes X4.here hx rfl (pc0 := 37) (pc' := 50) rfl (oG hby d46 21 rfl) rfl ((if0 _ _).trans (tlt hf7).1) (by decide) (by decide) ?_
 refine XS.iinc X4.here hx rfl (oG hby d46 27 rfl) rfl (l' := #[oA o0_, oI 0, oA o2_, oI i3_, oA o4_, oI i5_, oI i6_, oI (i7_ + (1 : Int32)), oI x_]) rfl ?_
 show oZ p e below T4 (mkF m 53 #[oA o0_, oI 0, oA o2_, oI i3_, oA o4_, oI i5_, oI i6_, oI (i7_ + (1 : Int32)), oI x_] []) _
 rw [hf8]
 refine XS.goto X4.here hx rfl (pc0 := 53) (pc' := 7) rfl (oG hby d46 28 rfl) (by decide) (by decide) ?_
 exact kt
theorem aP2 (rc : Nat) (rs : Nat) (o0_ : Addr) (o2_ : Addr) (i3_ : Int32) (o4_ : Addr) (i5_ : Int32) (i6_ : Int32) (i7_ : Int32) (s8_ : Slot) (cT : Int32) (bD : List Int32) (aD : Int32) (aE : Int32) (x_ : Int32) (tM : Int32) (k_ : Int32) (j_ : Int32)
   (X0 : Stand p l e (oR 5 rc rs 130) s m args below meth c T0 locs cells slots) (hx : p.tables.exec = Jvm.exec) (hZ : Z.Warmed39 s.vm) (hw : oH a0 Z) (hby : c.code = prog_29_method_9_code) (hml : c.maxLocals = 9) (hown : s.vm.findClass oC0 = some m.cls) (e0 : T0.heap = h0) (N0 : Fr n0 locs) (Z0 : n0 ≤ h0.size) (gL : bB Z h0 o2_ cT bD) (eD : Fld Z h0 o0_ oC0 "subsetSize" "I" (.int aD)) (cU : Fld Z h0 o0_ oC0 "backends" "I" (.int aE)) (bL : Exa Z h0 o0_ oC0) (zZ : (s8_ = .unset ∨ ∃ z : Int32, s8_ = oI z)) (aM7 : bC Z h0 o4_ tM) (bF6 : n0 ≤ o4_) (hf0 : i7_ < cT) (hf1 : i6_ < aD) (hf2 : ¬ (i7_ < 0)) (hf3 : (bD.getD (i7_).toNatClampNeg 0) = 0 ∨ (bD.getD (i7_).toNatClampNeg 0) = 1 ∨ (bD.getD (i7_).toNatClampNeg 0) = 2 ∨ (bD.getD (i7_).toNatClampNeg 0) = 3) (hf4 : ¬ (i3_ < 0)) (hf5 : i3_ < (10 : Int32)) (hf6 : (cO aE (bD.getD (i7_).toNatClampNeg 0) i3_) = x_) (hf7 : ¬ (x_ < (0 : Int32))) (hf8 : ¬ (i6_ < 0)) (hf9 : i6_ < tM) (hf10 : (i6_ + (1 : Int32)) = k_) (hf11 : (i7_ + (1 : Int32)) = j_) (hc : cells + (2) ≤ rc) (hs : slots + (11) ≤ rs) :
   ∃ (T' : State) (locs' : List Loc), Stand p l e (oR 5 rc rs 130) s m args below meth c T' locs' (cells + 2) (slots + 11) ∧ Fr n0 locs' ∧ Keep h0 T'.heap [o4_] ∧ bC Z T'.heap o4_ tM ∧
     ∀ target, Steps p.tables e below (T'.setTop (mkF m 7 #[oA o0_, oI 0, oA o2_, oI i3_, oA o4_, oI i5_, oI k_, oI j_, oI x_] [])) target → Steps p.tables e below (T0.setTop (mkF m 7 #[oA o0_, oI 0, oA o2_, oI i3_, oA o4_, oI i5_, oI i6_, oI i7_, s8_] [])) target := by
 obtain ⟨c1, A1, S1, M1⟩ := bV gL
 obtain ⟨T2, X2, e2, st2⟩ := getF X0 hx hZ hown (host := "") (Or.inl (oW hw 22 rfl)) Via.refl e0 eD (g := (mkF m 17 #[oA o0_, oI 0, oA o2_, oI i3_, oA o4_, oI i5_, oI i6_, oI i7_, s8_] [(.ref o0_), (.int i6_)])) rfl rfl (oG hby d46 10 rfl)
 obtain ⟨c3, A3, hin3, hat3⟩ := bS (j := i7_) gL hf2 hf0
 have hat3' : c3.slots[(i7_).toNatClampNeg]? = some (.int (bD.getD (i7_).toNatClampNeg 0)) := hat3
 obtain ⟨cq4, q4, q4'⟩ := bL.cell
 obtain ⟨_, _, ⟨T4, L4, k4, n4⟩, -, X4, ⟨Lc4, hQ4, l4, y4, z4⟩, st4⟩ := X2.privateBack hx (y := oM5) hown (mvT hZ (oW hw 135 rfl)) (mvT hZ (oW hw 136 rfl)) (cG (mvT hZ (oW hw 15 rfl)) (mvP hZ (oW hw 137 rfl) (args := #[])) (mvT hZ (oW hw 136 rfl)) (by decide)) (Cond.privateMethod_at (mvP hZ (oW hw 137 rfl) (args := #[]))) (mvT hZ (oW hw 138 rfl)) (by decide) (backOf (W := 0) (oC l Z a0 hw [] o0_ (bD.getD (i7_).toNatClampNeg 0) i3_ aE h0 n0 Z0 cU hf3 hf4 hf5) hZ (oW hw 138 rfl) (oW hw 12 rfl) (Nat.le_of_ble_eq_true rfl) (Nat.le_of_ble_eq_true rfl)) (g := (mkF m 30 #[oA o0_, oI 0, oA o2_, oI i3_, oA o4_, oI i5_, oI i6_, oI i7_, s8_] [(.int i3_), (.int (bD.getD (i7_).toNatClampNeg 0)), (.int 0), (.ref o0_)])) rfl (by rw [hml]; rfl) (Steps.refl _) (a := o0_) (by rw [e2]; exact q4) q4' (argsL := [(.int 0), (.int (bD.getD (i7_).toNatClampNeg 0)), (.int i3_)]) (rest := []) (lenOf rJ rfl) rfl (by show 2 * 0 + _ ≤ _; exact Nat.le_of_eq rfl) (oG hby d46 18 rfl) (fun _ _ => ⟨rfl, e2, (show cells + 2 ≤ rc from by omega), (show slots + 11 ≤ rs from by omega)⟩)
 dsimp only [Pt.U, Pt.locs, Pt.cells, Pt.slots] at X4 l4 y4 z4 st4 hQ4
 subst l4; rw [y4, z4] at X4
 obtain ⟨rfl, N4q, Kq4⟩ := hQ4
 have N4 := Fr.app N0 N4q
 have K4 : Keep h0 T4.heap [o4_] := (Keep.refl h0 [o4_]).trans Kq4 dX
 have aP3 := (aM7.keep Kq4 (dP _))
 obtain ⟨c6, z6, A6, hin6, -⟩ := iF (j := i6_) aP3 hf8 hf9
 obtain ⟨T7, h7, X7, e7, W7, st7⟩ := stI X4 hx hZ rfl A6 (j := i6_) hin6 (g := (mkF m 46 #[oA o0_, oI 0, oA o2_, oI i3_, oA o4_, oI i5_, oI i6_, oI i7_, oI x_] [(.int x_), (.int i6_), (.ref o4_)])) rfl rfl (oG hby d46 25 rfl)
 have V7 := iG aP3 hf8 hf9 W7
 have K7 : Keep h0 h7 [o4_] := K4.wr W7 (Or.inl (oX 0 rfl))
 have N7 := Fr.snoc X7 N4 bF6
 subst e7
 refine ⟨T7, _, eS X7 (by omega) (by omega), N7, K7, V7, fun target kt => ?_⟩
 show oZ p e below T0 (mkF m 7 #[oA o0_, oI 0, oA o2_, oI i3_, oA o4_, oI i5_, oI i6_, oI i7_, s8_] []) _
 refine XS.iload X0.here hx rfl (oG hby d46 4 rfl) rfl ?_
 refine XS.aloadN X0.here hx rfl (oG hby d46 5 rfl) rfl rfl ?_
 refine X0.arraylength hx (by rw [e0]; exact A1.1) (State.isArrayOf_alike hZ.alike A1.2.1) (g := (mkF m 10 #[oA o0_, oI 0, oA o2_, oI i3_, oA o4_, oI i5_, oI i6_, oI i7_, s8_] [(.ref o2_), (.int i7_)])) rfl rfl (oG hby d46 6 rfl) _ ?_
 rw [len_of S1 M1]
 refine XS.icmpNo X0.here hx rfl (oG hby d46 7 rfl) rfl (tlt hf0).2.1 ?_
 refine XS.iload X0.here hx rfl (oG hby d46 8 rfl) rfl ?_
 refine XS.aloadN X0.here hx rfl (oG hby d46 9 rfl) rfl rfl ?_
 refine st2 _ ?_
 refine XS.icmpNo X2.here hx rfl (oG hby d46 11 rfl) rfl (tlt hf1).2.1 ?_
 refine XS.aloadN X2.here hx rfl (oG hby d46 12 rfl) rfl rfl ?_
 refine XS.iloadN X2.here hx rfl (oG hby d46 13 rfl) rfl ?_
 refine XS.aloadN X2.here hx rfl (oG hby d46 14 rfl) rfl rfl ?_
 show oZ p e below T2 (mkF m 26 #[oA o0_, oI 0, oA o2_, oI i3_, oA o4_, oI i5_, oI i6_, oI i7_, s8_] [(.ref o2_), (.int 0), (.ref o0_)]) _
 refine XS.iload X2.here hx rfl (oG hby d46 15 rfl) rfl ?_
 refine X2.iaload hx (j := i7_) (v := (.int (bD.getD (i7_).toNatClampNeg 0))) (by rw [e2]; exact A3.1) (State.isArrayOf_alike hZ.alike A3.2.1) A3.2.2 hin3 hat3' (g := (mkF m 28 #[oA o0_, oI 0, oA o2_, oI i3_, oA o4_, oI i5_, oI i6_, oI i7_, s8_] [(.int i7_), (.ref o2_), (.int 0), (.ref o0_)])) rfl rfl (oG hby d46 16 rfl) _ ?_
 refine XS.iloadN X2.here hx rfl (oG hby d46 17 rfl) rfl ?_
 refine st4.trans ?_
 show oZ p e below T4 (mkF m 33 #[oA o0_, oI 0, oA o2_, oI i3_, oA o4_, oI i5_, oI i6_, oI i7_, s8_] [(.int (cO aE (bD.getD (i7_).toNatClampNeg 0) i3_))]) _
 rw [hf6]
 refine XS.istore X4.here hx rfl (oG hby d46 19 rfl) rfl (l' := #[oA o0_, oI 0, oA o2_, oI i3_, oA o4_, oI i5_, oI i6_, oI i7_, oI x_]) (by rcases zZ with rfl | ⟨_, rfl⟩ <;> rfl) ?_
 refine XS.iload X4.here hx rfl (oG hby d46 20 rfl) rfl ?_
 refine XS.ifNo X4.here hx rfl (oG hby d46 21 rfl) rfl ((if0 _ _).trans (flt hf7).1) ?_
 refine XS.aload X4.here hx rfl (oG hby d46 22 rfl) rfl rfl ?_
 refine XS.iload X4.here hx rfl (oG hby d46 23 rfl) rfl ?_
 refine XS.iload X4.here hx rfl (oG hby d46 24 rfl) rfl ?_
 refine st7 _ ?_
 refine XS.iinc X7.here hx rfl (oG hby d46 26 rfl) rfl (l' := #[oA o0_, oI 0, oA o2_, oI i3_, oA o4_, oI i5_, oI (i6_ + (1 : Int32)), oI i7_, oI x_]) rfl ?_
 show oZ p e below T7 (mkF m 50 #[oA o0_, oI 0, oA o2_, oI i3_, oA o4_, oI i5_, oI (i6_ + (1 : Int32)), oI i7_, oI x_] []) _
 rw [hf10]
 refine XS.iinc X7.here hx rfl (oG hby d46 27 rfl) rfl (l' := #[oA o0_, oI 0, oA o2_, oI i3_, oA o4_, oI i5_, oI k_, oI (i7_ + (1 : Int32)), oI x_]) rfl ?_
 show oZ p e below T7 (mkF m 53 #[oA o0_, oI 0, oA o2_, oI i3_, oA o4_, oI i5_, oI k_, oI (i7_ + (1 : Int32)), oI x_] []) _
 rw [hf11]
 refine XS.goto X7.here hx rfl (pc0 := 53) (pc' := 7) rfl (oG hby d46 28 rfl) (by decide) (by decide) ?_
 exact kt
theorem aP4 (rc : Nat) (rs : Nat) (o0_ : Addr) (o2_ : Addr) (i3_ : Int32) (o4_ : Addr) (i5_ : Int32) (i6_ : Int32) (i7_ : Int32) (s8_ : Slot) (cT : Int32) (bD : List Int32)
   (X0 : Stand p l e (oR 5 rc rs 130) s m args below meth c T0 locs cells slots) (hx : p.tables.exec = Jvm.exec) (hZ : Z.Warmed39 s.vm) (hw : oH a0 Z) (hby : c.code = prog_29_method_9_code) (hml : c.maxLocals = 9) (hown : s.vm.findClass oC0 = some m.cls) (e0 : T0.heap = h0) (N0 : Fr n0 locs) (Z0 : n0 ≤ h0.size) (gL : bB Z h0 o2_ cT bD) (hf0 : ¬ (i7_ < cT)) (hc : cells + (0) ≤ rc) (hs : slots + (0) ≤ rs) :
   ∃ (T' : State) (locs' : List Loc), Stand p l e (oR 5 rc rs 130) s m args below meth c T' locs' cells slots ∧ Fr n0 locs' ∧ T'.heap = h0 ∧
     ∀ target, Steps p.tables e below (T'.setTop (mkF m 56 #[oA o0_, oI 0, oA o2_, oI i3_, oA o4_, oI i5_, oI i6_, oI i7_, s8_] [])) target → Steps p.tables e below (T0.setTop (mkF m 7 #[oA o0_, oI 0, oA o2_, oI i3_, oA o4_, oI i5_, oI i6_, oI i7_, s8_] [])) target := by
 obtain ⟨c1, A1, S1, M1⟩ := bV gL
 refine ⟨T0, _, X0, N0, e0, fun target kt => ?_⟩
 show oZ p e below T0 (mkF m 7 #[oA o0_, oI 0, oA o2_, oI i3_, oA o4_, oI i5_, oI i6_, oI i7_, s8_] []) _
 refine XS.iload X0.here hx rfl (oG hby d46 4 rfl) rfl ?_
 refine XS.aloadN X0.here hx rfl (oG hby d46 5 rfl) rfl rfl ?_
 refine X0.arraylength hx (by rw [e0]; exact A1.1) (State.isArrayOf_alike hZ.alike A1.2.1) (g := (mkF m 10 #[oA o0_, oI 0, oA o2_, oI i3_, oA o4_, oI i5_, oI i6_, oI i7_, s8_] [(.ref o2_), (.int i7_)])) rfl rfl (oG hby d46 6 rfl) _ ?_
 rw [len_of S1 M1]
 refine XS.icmpYes X0.here hx rfl (pc0 := 11) (pc' := 56) rfl (oG hby d46 7 rfl) rfl (flt hf0).2.1 (by decide) (by decide) ?_
 exact kt
theorem aP5 (rc : Nat) (rs : Nat) (o0_ : Addr) (o2_ : Addr) (i3_ : Int32) (o4_ : Addr) (i5_ : Int32) (i6_ : Int32) (i7_ : Int32) (s8_ : Slot) (cT : Int32) (bD : List Int32) (aD : Int32)
   (X0 : Stand p l e (oR 5 rc rs 130) s m args below meth c T0 locs cells slots) (hx : p.tables.exec = Jvm.exec) (hZ : Z.Warmed39 s.vm) (hw : oH a0 Z) (hby : c.code = prog_29_method_9_code) (hml : c.maxLocals = 9) (hown : s.vm.findClass oC0 = some m.cls) (e0 : T0.heap = h0) (N0 : Fr n0 locs) (Z0 : n0 ≤ h0.size) (gL : bB Z h0 o2_ cT bD) (eD : Fld Z h0 o0_ oC0 "subsetSize" "I" (.int aD)) (hf0 : i7_ < cT) (hf1 : ¬ (i6_ < aD)) (hc : cells + (0) ≤ rc) (hs : slots + (0) ≤ rs) :
   ∃ (T' : State) (locs' : List Loc), Stand p l e (oR 5 rc rs 130) s m args below meth c T' locs' cells slots ∧ Fr n0 locs' ∧ T'.heap = h0 ∧
     ∀ target, Steps p.tables e below (T'.setTop (mkF m 56 #[oA o0_, oI 0, oA o2_, oI i3_, oA o4_, oI i5_, oI i6_, oI i7_, s8_] [])) target → Steps p.tables e below (T0.setTop (mkF m 7 #[oA o0_, oI 0, oA o2_, oI i3_, oA o4_, oI i5_, oI i6_, oI i7_, s8_] [])) target := by
 obtain ⟨c1, A1, S1, M1⟩ := bV gL
 obtain ⟨T2, X2, e2, st2⟩ := getF X0 hx hZ hown (host := "") (Or.inl (oW hw 22 rfl)) Via.refl e0 eD (g := (mkF m 17 #[oA o0_, oI 0, oA o2_, oI i3_, oA o4_, oI i5_, oI i6_, oI i7_, s8_] [(.ref o0_), (.int i6_)])) rfl rfl (oG hby d46 10 rfl)
 refine ⟨T2, _, X2, N0, e2, fun target kt => ?_⟩
 show oZ p e below T0 (mkF m 7 #[oA o0_, oI 0, oA o2_, oI i3_, oA o4_, oI i5_, oI i6_, oI i7_, s8_] []) _
 refine XS.iload X0.here hx rfl (oG hby d46 4 rfl) rfl ?_
 refine XS.aloadN X0.here hx rfl (oG hby d46 5 rfl) rfl rfl ?_
 refine X0.arraylength hx (by rw [e0]; exact A1.1) (State.isArrayOf_alike hZ.alike A1.2.1) (g := (mkF m 10 #[oA o0_, oI 0, oA o2_, oI i3_, oA o4_, oI i5_, oI i6_, oI i7_, s8_] [(.ref o2_), (.int i7_)])) rfl rfl (oG hby d46 6 rfl) _ ?_
 rw [len_of S1 M1]
 refine XS.icmpNo X0.here hx rfl (oG hby d46 7 rfl) rfl (tlt hf0).2.1 ?_
 refine XS.iload X0.here hx rfl (oG hby d46 8 rfl) rfl ?_
 refine XS.aloadN X0.here hx rfl (oG hby d46 9 rfl) rfl rfl ?_
 refine st2 _ ?_
 refine XS.icmpYes X2.here hx rfl (pc0 := 20) (pc' := 56) rfl (oG hby d46 11 rfl) rfl (flt hf1).2.1 (by decide) (by decide) ?_
 exact kt
section OwnTake
def eJ (b n row : Int32) (vs : List Int32) : Nat → Nat → Nat → Nat
 | 0, _, f => f
 | k + 1, i, f => if Int32.ofNat f < n then (if cO b (vs.getD i 0) row < (0 : Int32) then eJ b n row vs k (i + 1) f else eJ b n row vs k (i + 1) (f + 1)) else f
def bB6 (Z : State) (o4 : Addr) (n r : Int32) (h0 : Heap) (n0 : Nat) (v : Option Value) (h : Heap) (L : List Loc) : Prop := v = some (.int r) ∧ Fr n0 L ∧ Keep h0 h [o4] ∧ bC Z h o4 n
theorem aP6 {p : Program} {l : Launch} {e : Env} {s : State} {m : MethodId} {args : Array Value} {below : List Frame} {meth : Method} {c : Code} {Z : State} {a0 : Array Value} {n0 : Nat} {o0 o2 o4 : Addr} {i5 row b n : Int32} {vs : List Int32} {cnt : Nat}
   (hx : p.tables.exec = Jvm.exec) (hZ : Z.Warmed39 s.vm) (hw : oH a0 Z) (hby : c.code = prog_29_method_9_code) (hml : c.maxLocals = 9) (hown : s.vm.findClass oC0 = some m.cls)
   (hvs : hY vs) (hr0 : ¬ (row < 0)) (hr1 : row < (10 : Int32)) (hcn : cnt ≤ 4) (hg : n0 ≤ o4) (hd1 : o0 ≠ o4) (hd2 : o2 ≠ o4) :
   ∀ (k i f : Nat) (s8 : Slot) (T0 : State) (locs : List Loc) (cells slots : Nat), i + k = cnt → f ≤ i → (s8 = .unset ∨ ∃ z : Int32, s8 = oI z) →
     Stand p l e (oR 5 8 44 130) s m args below meth c T0 locs cells slots → Fr n0 locs → n0 ≤ T0.heap.size →
     Exa Z T0.heap o0 oC0 → Fld Z T0.heap o0 oC0 "backends" "I" (.int b) → Fld Z T0.heap o0 oC0 "subsetSize" "I" (.int n) → bB Z T0.heap o2 (Int32.ofNat cnt) vs → bC Z T0.heap o4 n →
     cells + 2 * k ≤ 8 → slots + 11 * k ≤ 44 →
     ∃ (T' : State) (locs' : List Loc) (cells' slots' : Nat) (Ls : Array Slot) (i' : Int32) (s8' : Slot), Stand p l e (oR 5 8 44 130) s m args below meth c T' locs' cells' slots' ∧ cells' ≤ 8 ∧ slots' ≤ 44 ∧ Fr n0 locs' ∧ Keep T0.heap T'.heap [o4] ∧ bC Z T'.heap o4 n ∧
     ∀ target, Steps p.tables e below (T'.setTop (mkF m 56 #[oA o0, oI 0, oA o2, oI row, oA o4, oI i5, oI (Int32.ofNat (eJ b n row vs k i f)), oI i', s8'] [])) target →
       Steps p.tables e below (T0.setTop (mkF m 7 #[oA o0, oI 0, oA o2, oI row, oA o4, oI i5, oI (Int32.ofNat f), oI (Int32.ofNat i), s8] [])) target := by
 intro k
 induction k with
 | zero =>
   intro i f s8 T0 locs cells slots hik hf h8 X N Z0 E1 F1 F2 A1 A2 hc hs
   obtain ⟨T', L', X', N', e', st'⟩ := aP4 (o0_ := o0) (o2_ := o2) (i3_ := row) (o4_ := o4) (i5_ := i5) (i6_ := Int32.ofNat f) (i7_ := Int32.ofNat i) (s8_ := s8) (cT := Int32.ofNat cnt) (bD := vs) 8 44 X hx hZ hw hby hml hown rfl N Z0 A1 (eU (i := i) (c := cnt) (by omega) (by omega)) (by omega) (by omega)
   exact ⟨T', L', _, _, #[], _, _, X', by omega, by omega, N', by rw [e']; exact Keep.refl _ _, by rw [e']; exact A2, st'⟩
 | succ k ih =>
   intro i f s8 T0 locs cells slots hik hf h8 X N Z0 E1 F1 F2 A1 A2 hc hs
   have hi : i < 2 ^ 31 := by omega
   have hf1 := dV (i := i) (c := cnt) (by omega) (by omega)
   have hf2 := eP hi
   have hf3 := eP (i := f) (by omega)
   have hv : vs.getD (Int32.ofNat i).toNatClampNeg 0 = vs.getD i 0 := by rw [eQ hi]
   have hlot : vs.getD (Int32.ofNat i).toNatClampNeg 0 = 0 ∨ vs.getD (Int32.ofNat i).toNatClampNeg 0 = 1 ∨ vs.getD (Int32.ofNat i).toNatClampNeg 0 = 2 ∨ vs.getD (Int32.ofNat i).toNatClampNeg 0 = 3 := by rw [hv]; exact hvs i
   have hxx : cO b (vs.getD (Int32.ofNat i).toNatClampNeg 0) row = cO b (vs.getD i 0) row := by rw [hv]
   by_cases q : Int32.ofNat f < n
   · by_cases q1 : cO b (vs.getD i 0) row < (0 : Int32)
     · have eqk : eJ b n row vs (k + 1) i f = eJ b n row vs k (i + 1) f := by rw [eJ, if_pos q, if_pos q1]
       rw [eqk]
       obtain ⟨T1, L1, X1, N1, K1, st1⟩ := aP1 (o0_ := o0) (o2_ := o2) (i3_ := row) (o4_ := o4) (i5_ := i5) (i6_ := Int32.ofNat f) (i7_ := Int32.ofNat i) (s8_ := s8) (cT := Int32.ofNat cnt) (bD := vs) (aD := n) (aE := b) (x_ := cO b (vs.getD i 0) row) (j_ := Int32.ofNat (i + 1)) 8 44 X hx hZ hw hby hml hown rfl N Z0 A1 F2 F1 E1 h8 hf1 q hf2 hlot hr0 hr1 hxx q1 (bW i) (by omega) (by omega)
       have x := iD K1
       obtain ⟨T', L', c', t', Ls, i', s8', X', b1, b2, N', K', A', st'⟩ := ih (i + 1) f (oI (cO b (vs.getD i 0) row)) T1 L1 _ _ (by omega) (by omega) (Or.inr ⟨_, rfl⟩) X1 N1 (Nat.le_trans Z0 K1.1) (E1.ext x) (F1.ext x) (F2.ext x) (A1.ext x) (A2.ext x) (by omega) (by omega)
       exact ⟨T', L', c', t', Ls, i', s8', X', b1, b2, N', eV K1 K' (by simp), A', fun target kt => st1 _ (st' _ kt)⟩
     · have eqk : eJ b n row vs (k + 1) i f = eJ b n row vs k (i + 1) (f + 1) := by rw [eJ, if_pos q, if_neg q1]
       rw [eqk]
       obtain ⟨T1, L1, X1, N1, K1, A2', st1⟩ := aP2 (o0_ := o0) (o2_ := o2) (i3_ := row) (o4_ := o4) (i5_ := i5) (i6_ := Int32.ofNat f) (i7_ := Int32.ofNat i) (s8_ := s8) (cT := Int32.ofNat cnt) (bD := vs) (aD := n) (aE := b) (x_ := cO b (vs.getD i 0) row) (tM := n) (k_ := Int32.ofNat (f + 1)) (j_ := Int32.ofNat (i + 1)) 8 44 X hx hZ hw hby hml hown rfl N Z0 A1 F2 F1 E1 h8 A2 hg hf1 q hf2 hlot hr0 hr1 hxx q1 hf3 q (bW f) (bW i) (by omega) (by omega)
       obtain ⟨T', L', c', t', Ls, i', s8', X', b1, b2, N', K', A', st'⟩ := ih (i + 1) (f + 1) (oI (cO b (vs.getD i 0) row)) T1 L1 _ _ (by omega) (by omega) (Or.inr ⟨_, rfl⟩) X1 N1 (Nat.le_trans Z0 K1.1) (E1.keep K1) (F1.keep K1 (bH hd1)) (F2.keep K1 (bH hd1)) (A1.keep K1 (bH hd2)) A2' (by omega) (by omega)
       exact ⟨T', L', c', t', Ls, i', s8', X', b1, b2, N', eV K1 K' (fun x hx => hx), A', fun target kt => st1 _ (st' _ kt)⟩
   · have eqk : eJ b n row vs (k + 1) i f = f := by rw [eJ, if_neg q]
     rw [eqk]
     obtain ⟨T', L', X', N', e', st'⟩ := aP5 (o0_ := o0) (o2_ := o2) (i3_ := row) (o4_ := o4) (i5_ := i5) (i6_ := Int32.ofNat f) (i7_ := Int32.ofNat i) (s8_ := s8) (cT := Int32.ofNat cnt) (bD := vs) (aD := n) 8 44 X hx hZ hw hby hml hown rfl N Z0 A1 F2 hf1 q (by omega) (by omega)
     exact ⟨T', L', _, _, #[], _, _, X', by omega, by omega, N', by rw [e']; exact Keep.refl _ _, by rw [e']; exact A2, st'⟩
theorem aF1 (l : Launch) (Z : State) (a0 : Array Value) (hw : oH a0 Z) (ws : List Jvm.Cond) (o0 o2 : Addr) (row : Int32) (o4 : Addr) (b n : Int32) (vs : List Int32) (n1 n2 : Int32) (cnt : Nat) (h0 : Heap) (n0 : Nat) (Z0 : n0 ≤ h0.size)
   (E1 : Exa Z h0 o0 oC0) (F1 : Fld Z h0 o0 oC0 "backends" "I" (.int b)) (F2 : Fld Z h0 o0 oC0 "subsetSize" "I" (.int n)) (A1 : bB Z h0 o2 n1 vs) (A2 : bC Z h0 o4 n2) (hg : n0 ≤ o4)
   (hn : n1 = Int32.ofNat cnt) (hn2 : n2 = n) (hcn : cnt ≤ 4) (hvs : hY vs) (hr0 : ¬ (row < 0)) (hr1 : row < (10 : Int32)) (hd1 : ¬ (o0 = o4)) (hd2 : ¬ (o2 = o4)) :
   oMet l oM22 prog_29_method_9_code 9 (some .int) ws (oR 5 8 44 130) Z h0 #[(.ref o0), (.int 0), (.ref o2), (.int row), (.ref o4), (.int 0)] (bB6 Z o4 n2 (Int32.ofNat (eJ b n row vs cnt 0 0)) h0 n0) := by
 subst hn hn2
 refine oBd n0 (plainFor_of_name eC) ?_
 intro p e s m below meth c s₁ Bd hx hZ hby hml hown hnm X0 e0 N0
 obtain ⟨T1, L1, X1, N1, e1, st1⟩ := aP0 (o0_ := o0) (o2_ := o2) (i3_ := row) (o4_ := o4) (i5_ := 0) 8 44 X0 hx hZ hw hby hml hown e0 N0 Z0 (by omega) (by omega)
 subst e1
 obtain ⟨T2, L2, c2, t2, Ls, i2, s2, X2, b1, b2, N2, K2, A2', st2⟩ := aP6 (i5 := 0) hx hZ hw hby hml hown hvs hr0 hr1 hcn hg hd1 hd2 cnt 0 0 .unset T1 L1 0 0 (by omega) (by omega) (Or.inl rfl) X1 N1 Z0 E1 F1 F2 A1 A2 (by omega) (by omega)
 obtain ⟨fs, hr, hrun, hended, hW, hsame⟩ := X2.leave (v := some (.int (Int32.ofNat (eJ b n2 row vs cnt 0 0)))) (fun h => by rw [Bd.returns] at h; cases h)
 refine ⟨_, _, castTop (aL6 m o0 (0 : Int32) o2 row o4 (0 : Int32)) (st1 _ (st2 _ ?_)), hrun, hended, _, _, rfl, ⟨rfl, N2, K2, A2'⟩, ⟨_, rfl⟩, hW, hsame.mono b1 b2⟩
 refine XS.iload X2.here hx rfl (oG hby d46 29 rfl) rfl ?_
 show oZ p e below T2 (mkF m 58 #[oA o0, oI 0, oA o2, oI row, oA o4, oI 0, oI (Int32.ofNat (eJ b n2 row vs cnt 0 0)), oI i2, s2] [(.int (Int32.ofNat (eJ b n2 row vs cnt 0 0)))]) _
 exact retI X2 hx Bd.returns (oG hby d46 30 rfl) hr
end OwnTake

section OwnSort
theorem gN {a b : Jvm.Cond} {args : Array Value} {s : State} (h1 : a.before args s = true) (h2 : b.before args s = true) : (Jvm.Cond.and a b).before args s = true := by
 rw [Jvm.Cond.before_and, h1, h2]; rfl
set_option maxRecDepth 100000 in
theorem aI2 {Z s : State} {args a0 : Array Value} (hZ : Z.Warmed39 s.vm) (hw : oH a0 Z) : Jvm.Free.Str.AS1.tab.before args s = true := by
 have k : ∀ (i : Nat) {d : Jvm.Cond}, tables_1[i]? = some d → (d.onTables && d.keepsFace) = true → d.before args s = true := fun i d h q => mvT hZ (hw _ (List.mem_of_getElem? h)) q
 have ins : Jvm.Free.Str.INS.tab.before args s = true := gN (k 215 rfl rfl) (k 208 rfl rfl)
 have ds5 : Jvm.Free.Str.DS5.tab.before args s = true := gN (k 212 rfl rfl) (gN (k 213 rfl rfl) (gN (k 214 rfl rfl) (gN ins (gN (k 208 rfl rfl) rfl))))
 have ds4 : Jvm.Free.Str.DS4.tab.before args s = true := gN (k 209 rfl rfl) (gN (k 210 rfl rfl) (gN (k 211 rfl rfl) (gN ds5 (gN (k 208 rfl rfl) rfl))))
 exact gN (k 205 rfl rfl) (gN (k 206 rfl rfl) (gN (k 207 rfl rfl) (gN ds4 (gN (k 204 rfl rfl) rfl))))
theorem aI3 {n : Int32} (h : n.toNatClampNeg ≤ 32) : n.toNatClampNeg - 0 < 44 := by omega
set_option maxRecDepth 100000 in
set_option maxHeartbeats 4000000 in
theorem wD {p : Program} {l : Launch} {e : Env} {R : Room} {s : State} {m : MethodId} {args : Array Value} {below : List Frame} {meth : Method} {c : Code} {T : State} {locs : List Loc} {cells slots : Nat} {Z : State} {a0 : Array Value} {h : Heap} {a : Addr} {n : Int32} {n0 : Nat}
   (X : Stand p l e R s m args below meth c T locs cells slots) (hx : p.tables.exec = Jvm.exec) (hZ : Z.Warmed39 s.vm) (hw : oH a0 Z) {own : String} {index : Nat} (hown : s.vm.findClass own = some m.cls) (wl : (Jvm.Cond.methodLink own index Jvm.Free.Str.as1N).before a0 Z = true)
   (eT : T.heap = h) (A : bC Z h a n) (hn : n.toNatClampNeg ≤ 32) (hg0 : n0 ≤ a) (N : Fr n0 locs) (hc : cells ≤ R.cells) (hs : slots ≤ R.slots) {W : Nat} (hf : 4 + 1 ≤ R.frames) (hlo : W + (1 + 11) + 150 ≤ R.locals)
   {g : JFrame} (hg : g.method = m) (hsize : g.locals.size = c.maxLocals) {rest : List Value} (hst : g.stack = .ref a :: rest) (hW : 2 * g.monitorRoom + (rest.map fun v => v.category).sum ≤ W) (hd : decode c.code g.pc = .ok (.invokestatic index, 3)) :
   ∃ (T' : State) (locs' : List Loc), Stand p l e R s m args below meth c T' locs' cells slots ∧ Fr n0 locs' ∧ Keep h T'.heap [a] ∧ bC Z T'.heap a n ∧ ∀ target, Steps p.tables e below (T'.setTop { g with pc := g.pc + 3, stack := rest }) target → Steps p.tables e below (T.setTop g) target := by
 obtain ⟨C, hA, hS, hM, hI⟩ := A
 have k : ∀ (i : Nat) {d : Jvm.Cond}, tables_1[i]? = some d → (d.onTables && d.keepsFace) = true → d.before args s = true := fun i d h q => mvT hZ (hw _ (List.mem_of_getElem? h)) q
 have hints : Jvm.Free.Str.Ints C := by
   intro i hi
   obtain ⟨z, hz⟩ := hI i hi
   rw [hz]; simp [Jvm.Lib.StringLatin1.equals.intAt, hz]
 have hlt : C.slots.size + 1 < 2 ^ 31 := by rw [hS]; omega
 obtain ⟨v, vm₁, ⟨T', L0, cc, sl⟩, hW', X', ⟨rfl, ⟨C', hC', hSo⟩, hoth, hsz, L, hL, eL, ec, es⟩, st1⟩ := Jvm.LawKit.callS X hx (own := own) (y := Jvm.Free.Str.as1N) (bytes := Jvm.Free.Str.as1B) (maxL := 1) (ret := none) hown (mvT hZ wl) (k 203 rfl rfl) (k 204 rfl rfl) (k 205 rfl rfl) (by decide)
   (Jvm.Free.Str.AS1.pays (W := W) a C (aI2 hZ hw) hf hlo) (g := g) hg hsize (argsL := [.ref a]) (rest := rest)
   (fun sig h => by cases (by decide +kernel : parseMethodDescriptor Jvm.Free.Str.as1N.desc = some ⟨[.array .int], none⟩).symm.trans h; rfl) hst hW hd
   (fun vm₁ hWx => ⟨hc, hs, rfl, ⟨(show T.heap[a]? = some C by rw [eT]; exact hA.1), State.isArrayOf_alike (hZ.alike.trans hWx.alike) hA.2.1, hA.2.2, hlt, hints, Nat.zero_le _, Nat.le_refl _⟩, by rw [hS]; exact aI3 hn⟩)
 dsimp only [Pt.U, Pt.locs, Pt.cells, Pt.slots] at X' eL ec es hC' hoth hsz st1
 subst eL ec es
 obtain ⟨-, -, -, c1, c2, c3, c4⟩ := hSo
 refine ⟨T', locs ++ L, X', N.app (fun y hy => by rw [hL y hy]; exact hg0), ⟨?_, ?_, ?_⟩, ⟨C', ⟨hC', ?_, by rw [c2]; exact hA.2.2⟩, by rw [c3]; exact hS, hM, fun i hi => ⟨_, c4 i hi⟩⟩, st1⟩
 · rw [← eT]; exact Nat.le_of_eq hsz.symm
 · intro x q hq hn'
   refine (hoth x (by simpa using hn')).trans ?_
   show T.heap[x]? = some q
   rw [eT]; exact hq
 · intro x q hq
   by_cases r : x = a
   · subst r
     cases hA.1.symm.trans hq
     exact ⟨C', hC', c1, c2, c3⟩
   · refine ⟨q, (hoth x r).trans ?_, rfl, rfl, rfl⟩
     show T.heap[x]? = some q
     rw [eT]; exact hq
 · have q := hA.2.1
   unfold State.isArrayOf at q ⊢
   rw [c1, c2]; exact q
end OwnSort

theorem aI4 (l : Launch) (Z : State) (a0 : Array Value) (hw : oH a0 Z) (ws : List Jvm.Cond) (q0_ : Int64) (q1_ : Int64) (h0 : Heap) (n0 : Nat) (Z0 : n0 ≤ h0.size) (hf0 : ¬ ((0 : Int32) < (lcmpW q0_ q1_))) :
   oMet l oM27 jdk_29_method_70_code 4 (some .long) ws (oR 0 0 0 0) Z h0 #[(.long q0_), (.long q1_)] (cD (some (.long q0_)) h0 n0) := by
 refine oBd n0 (Jvm.Free.JP.mathPlain rfl (by decide +kernel)) ?_
 intro p e s m below meth c s₁ Bd hx hZ hby hml hown hnm X0 e0 N0
 obtain ⟨fs, hr, hrun, hended, hW, hsame⟩ := X0.leave (v := some (.long q0_)) (fun h => by rw [Bd.returns] at h; cases h)
 refine ⟨_, _, castTop (zM m q0_ q1_) ?_, hrun, hended, _, _, rfl, ?_, ⟨_, rfl⟩, hW, (hsame.mono (by decide) (by decide))⟩
 · show oZ p e below s₁ (mkF m 0 #[oJ q0_, .second, oJ q1_, .second] []) _
   refine XS.lloadN X0.here hx rfl (oG hby d45 0 rfl) rfl ?_
   refine XS.lloadN X0.here hx rfl (oG hby d45 1 rfl) rfl ?_
   refine XS.lcmp X0.here hx rfl (oG hby d45 2 rfl) rfl ?_
   refine XS.ifNo X0.here hx rfl (oG hby d45 3 rfl) rfl ((if0 _ _).trans (flt hf0).2.2.1) ?_
   refine XS.lloadN X0.here hx rfl (oG hby d45 4 rfl) rfl ?_
   refine XS.goto X0.here hx rfl (pc0 := 7) (pc' := 11) rfl (oG hby d45 5 rfl) (by decide) (by decide) ?_
   show oZ p e below s₁ (mkF m 11 #[oJ q0_, .second, oJ q1_, .second] [(.long q0_)]) _
   exact X0.lreturnOut hx Bd.returns (oG hby d45 7 rfl) hr
 · show cD (some (.long q0_)) h0 n0 _ s₁.heap _
   exact ⟨rfl, N0, e0⟩
def mL (Z : State) (a0_ : Addr) (p2_ : Int32) (bF : Int32) (aB : Int32) (lx_ : Nat) (cx_ : Nat) (aR : Int32) (aO : Int32) (h0 : Heap) (n0 : Nat) (v : Option Value) (h : Heap) (L : List Loc) : Prop := ∃ b7 : Addr, v = some (.ref b7) ∧ Fr n0 L ∧ Keep h0 h [] ∧ h0.size ≤ b7 ∧ Exa Z h b7 "[I" ∧ bC Z h b7 aB
theorem tX (l : Launch) (Z : State) (a0 : Array Value) (hw : oH a0 Z) (ws : List Jvm.Cond) (a0_ : Addr) (p2_ : Int32) (bF : Int32) (aB : Int32) (lx_ : Nat) (cx_ : Nat) (aR : Int32) (aO : Int32) (h0 : Heap) (n0 : Nat) (Z0 : n0 ≤ h0.size) (bU : Fld Z h0 a0_ oC0 "lots" "I" (.int bF)) (cQ : Fld Z h0 a0_ oC0 "subsetSize" "I" (.int aB)) (aQ : Fld Z h0 a0_ oC0 "ringBits" "I" (.int aR)) (bR : Exa Z h0 a0_ oC0) (cF : Fld Z h0 a0_ oC0 "backends" "I" (.int aO)) (hf0 : ¬ ((0 : Int32) < (lcmpW (bF.toInt64) ((aB.toInt64) + (1 : Int64))))) (hf1 : bF = Int32.ofNat lx_) (hf2 : aR = gQ lx_) (hf3 : ((bF.toInt64).toInt32) = Int32.ofNat cx_) (hf4 : gR lx_ cx_) (hf5 : ¬ (aB < 0)) (hf6 : aB.toNatClampNeg ≤ 32) (hf7 : (0 : Int32) < aB) (hf8 : (Int32.ofNat cx_) = Int32.ofNat cx_) (hf9 : cx_ ≤ 4) (hf10 : hY (eA lx_ cx_)) (hf11 : ¬ (((p2_ + (0 : Int32)) % (10 : Int32)) < 0)) (hf12 : ((p2_ + (0 : Int32)) % (10 : Int32)) < (10 : Int32)) (hf13 : ¬ ((Int32.ofNat (eJ aO aB ((p2_ + (0 : Int32)) % (10 : Int32)) (eA lx_ cx_) cx_ 0 0)) < aB)) :
   oMet l oM18 prog_29_method_12_code 7 (some (.array .int)) ws (oR 6 10 80 150) Z h0 #[(.ref a0_), (.int 0), (.int p2_)] (mL Z a0_ p2_ bF aB lx_ cx_ aR aO h0 n0) := by
 refine oBd n0 (plainFor_of_name eC) ?_
 intro p e s m below meth c s₁ Bd hx hZ hby hml hown hnm X0 e0 N0
 obtain ⟨T1, X1, e1, st1⟩ := getF X0 hx hZ hown (host := "") (Or.inl (oW hw 24 rfl)) Via.refl e0 bU (g := (mkF m 3 #[oA a0_, oI 0, oI p2_, .unset, .unset, .unset, .unset] [(.ref a0_), (.int 0), (.ref a0_)])) rfl rfl (oG hby d44 3 rfl)
 obtain ⟨T2, X2, e2, st2⟩ := getF X1 hx hZ hown (host := "") (Or.inl (oW hw 22 rfl)) Via.refl e1 cQ (g := (mkF m 8 #[oA a0_, oI 0, oI p2_, .unset, .unset, .unset, .unset] [(.ref a0_), (.long (bF.toInt64)), (.int 0), (.ref a0_)])) rfl rfl (oG hby d44 6 rfl)
 obtain ⟨_, _, ⟨T3, L3, k3, n3⟩, -, X3, ⟨Lc3, hQ3, l3, y3, z3⟩, st3⟩ := Jvm.LawKit.callS X2 hx (y := oM27) hown (mvT hZ (oW hw 265 rfl)) (mvT hZ (oW hw 266 rfl)) (mvT hZ (oW hw 32 rfl)) (mvT hZ (oW hw 267 rfl)) (by decide) (backOf (W := 2) (aI4 l Z a0 hw [] (bF.toInt64) ((aB.toInt64) + (1 : Int64)) h0 n0 Z0 hf0) hZ (oW hw 267 rfl) (oW hw 32 rfl) (by decide) (by decide)) (g := (mkF m 14 #[oA a0_, oI 0, oI p2_, .unset, .unset, .unset, .unset] [(.long ((aB.toInt64) + (1 : Int64))), (.long (bF.toInt64)), (.int 0), (.ref a0_)])) rfl (by rw [hml]; rfl) (argsL := [(.long (bF.toInt64)), (.long ((aB.toInt64) + (1 : Int64)))]) (rest := [(.int 0), (.ref a0_)]) (lenOf uJ rfl) rfl (by show 2 * 0 + _ ≤ _; exact Nat.le_of_eq rfl) (oG hby d44 10 rfl) (fun _ _ => ⟨rfl, e2, (by decide : 0 + 0 ≤ _), (by decide : 0 + 0 ≤ _)⟩)
 dsimp only [Pt.U, Pt.locs, Pt.cells, Pt.slots] at X3 l3 y3 z3 st3 hQ3
 subst l3 y3 z3
 obtain ⟨rfl, N3q, e3⟩ := hQ3
 have N3 := Fr.app N0 N3q
 obtain ⟨cq4, q4, q4'⟩ := bR.cell
 obtain ⟨_, _, ⟨T4, L4, k4, n4⟩, -, X4, ⟨Lc4, hQ4, l4, y4, z4⟩, st4⟩ := X3.privateBack hx (y := oM1) hown (mvT hZ (oW hw 62 rfl)) (mvT hZ (oW hw 63 rfl)) (cG (mvT hZ (oW hw 15 rfl)) (mvP hZ (oW hw 64 rfl) (args := #[])) (mvT hZ (oW hw 63 rfl)) (by decide)) (Cond.privateMethod_at (mvP hZ (oW hw 64 rfl) (args := #[]))) (mvT hZ (oW hw 65 rfl)) (by decide) (backOf (W := 0) (yJ l Z a0 hw [] a0_ ((bF.toInt64).toInt32) lx_ cx_ bF aR h0 n0 Z0 bU aQ bR hf1 hf2 hf3 hf4) hZ (oW hw 65 rfl) (oW hw 12 rfl) (by decide) (by decide)) (g := (mkF m 18 #[oA a0_, oI 0, oI p2_, .unset, .unset, .unset, .unset] [(.int ((bF.toInt64).toInt32)), (.int 0), (.ref a0_)])) rfl (by rw [hml]; rfl) (Steps.refl _) (a := a0_) (by rw [e3]; exact q4) q4' (argsL := [(.int 0), (.int ((bF.toInt64).toInt32))]) (rest := []) (lenOf mX rfl) rfl (by show 2 * 0 + _ ≤ _; exact Nat.le_of_eq rfl) (oG hby d44 12 rfl) (fun _ _ => ⟨rfl, e3, (by decide : 0 + 1 ≤ _), (by decide : 0 + 4 ≤ _)⟩)
 dsimp only [Pt.U, Pt.locs, Pt.cells, Pt.slots] at X4 l4 y4 z4 st4 hQ4
 subst l4 y4 z4
 obtain ⟨r4_r, rfl, N4q, Kq4, sK, Q4_0⟩ := hQ4
 have N4 := Fr.app N3 N4q
 have aA8 : a0_ ≠ r4_r := oV bU.lt sK
 have yR : h0.size ≤ r4_r := Nat.le_trans (Keep.refl h0 []).1 sK
 have g_r4_r : n0 ≤ r4_r := Nat.le_trans Z0 yR
 have K4 : Keep h0 T4.heap [] := (Keep.refl h0 []).trans Kq4 dX
 have gG := (cQ.keep Kq4 (dP _))
 obtain ⟨T6, X6, e6, st6⟩ := getF X4 hx hZ hown (host := "") (Or.inl (oW hw 22 rfl)) Via.refl rfl gG (g := (mkF m 23 #[oA a0_, oI 0, oI p2_, oA r4_r, .unset, .unset, .unset] [(.ref a0_)])) rfl rfl (oG hby d44 15 rfl)
 obtain ⟨T7, h7, k7, X7, e7, E7, A7, B7, st7⟩ := newPE X6 hx hZ (oW hw 84 rfl) e6 (g := (mkF m 26 #[oA a0_, oI 0, oI p2_, oA r4_r, .unset, .unset, .unset] [(.int aB)])) rfl (oG hby d44 16 rfl) rfl hf5 (cap := 32) hf6 (by decide) (by decide) (by decide) (ad := "[I") rfl
 obtain ⟨b7, g7⟩ : ∃ z, z = T4.heap.size := ⟨_, rfl⟩
 rw [← g7] at A7 B7 st7
 have wE : T4.heap.size ≤ b7 := Nat.le_of_eq g7.symm
 have pB := (bU.keep Kq4 (dP _))
 have mM : a0_ ≠ b7 := oV pB.lt wE
 have rD : r4_r ≠ b7 := oV Q4_0.lt wE
 have wF : h0.size ≤ b7 := Nat.le_trans K4.1 wE
 have g_b7 : n0 ≤ b7 := Nat.le_trans Z0 wF
 have K7 : Keep h0 h7 [] := K4.ext E7
 have V7 := (dY (m := 0) A7 hf5).ia
 have eX := (gG.ext E7)
 obtain ⟨T10, X10, e10, st10⟩ := getF X7 hx hZ hown (host := "") (Or.inl (oW hw 22 rfl)) Via.refl e7 eX (g := (mkF m 39 #[oA a0_, oI 0, oI p2_, oA r4_r, oA b7, oI 0, oI 0] [(.ref a0_), (.int 0)])) rfl rfl (oG hby d44 24 rfl)
 have hV := ((bR.keep Kq4).ext E7)
 have jP := ((cF.keep Kq4 (dP _)).ext E7)
 have wG := (Q4_0.ext E7)
 obtain ⟨cq11, q11, q11'⟩ := hV.cell
 obtain ⟨_, _, ⟨T11, L11, k11, n11⟩, -, X11, ⟨Lc11, hQ11, l11, y11, z11⟩, st11⟩ := X10.privateBack hx (y := oM22) hown (mvT hZ (oW hw 268 rfl)) (mvT hZ (oW hw 269 rfl)) (cG (mvT hZ (oW hw 15 rfl)) (mvP hZ (oW hw 270 rfl) (args := #[])) (mvT hZ (oW hw 269 rfl)) (by decide)) (Cond.privateMethod_at (mvP hZ (oW hw 270 rfl) (args := #[]))) (mvT hZ (oW hw 271 rfl)) (by decide) (backOf (W := 0) (aF1 l Z a0 hw [] a0_ r4_r ((p2_ + (0 : Int32)) % (10 : Int32)) b7 aO aB (eA lx_ cx_) (Int32.ofNat cx_) aB cx_ h7 n0 (Nat.le_trans Z0 K7.1) hV jP eX wG V7 g_b7 hf8 rfl hf9 hf10 hf11 hf12 mM rD) hZ (oW hw 271 rfl) (oW hw 12 rfl) (by decide) (by decide)) (g := (mkF m 59 #[oA a0_, oI 0, oI p2_, oA r4_r, oA b7, oI 0, oI 0] [(.int 0), (.ref b7), (.int ((p2_ + (0 : Int32)) % (10 : Int32))), (.ref r4_r), (.int 0), (.ref a0_)])) rfl (by rw [hml]; rfl) (Steps.refl _) (a := a0_) (by rw [e10]; exact q11) q11' (argsL := [(.int 0), (.ref r4_r), (.int ((p2_ + (0 : Int32)) % (10 : Int32))), (.ref b7), (.int 0)]) (rest := []) (lenOf zG rfl) rfl (by show 2 * 0 + _ ≤ _; exact Nat.le_of_eq rfl) (oG hby d44 36 rfl) (fun _ _ => ⟨rfl, e10, (by decide : 2 + 8 ≤ _), (by decide : 36 + 44 ≤ _)⟩)
 dsimp only [Pt.U, Pt.locs, Pt.cells, Pt.slots] at X11 l11 y11 z11 st11 hQ11
 subst l11 y11 z11
 obtain ⟨rfl, N11q, Kq11, Q11_0⟩ := hQ11
 have N11 := Fr.app N4 N11q
 have K11 : Keep h0 T11.heap [] := K7.trans Kq11 (bJ (Or.inr wF))
 have iS := (eX.keep Kq11 (bH mM))
 obtain ⟨T16, X16, e16, st16⟩ := getF X11 hx hZ hown (host := "") (Or.inl (oW hw 22 rfl)) Via.refl rfl iS (g := (mkF m 39 #[oA a0_, oI 0, oI p2_, oA r4_r, oA b7, oI (Int32.ofNat (eJ aO aB ((p2_ + (0 : Int32)) % (10 : Int32)) (eA lx_ cx_) cx_ 0 0)), oI 1] [(.ref a0_), (.int (Int32.ofNat (eJ aO aB ((p2_ + (0 : Int32)) % (10 : Int32)) (eA lx_ cx_) cx_ 0 0)))])) rfl rfl (oG hby d44 24 rfl)
 have aD7 := (B7.keep Kq11)
 obtain ⟨fs, hr, hrun, hended, hW, hsame⟩ := X16.leave (v := some (.ref b7)) (fun h => by rw [Bd.returns] at h; cases h)
 refine ⟨_, _, castTop (zO m a0_ (0 : Int32) p2_) ?_, hrun, hended, _, _, rfl, ?_, ⟨_, rfl⟩, hW, (hsame.mono (by decide) (by decide))⟩
 · show oZ p e below s₁ (mkF m 0 #[oA a0_, oI 0, oI p2_, .unset, .unset, .unset, .unset] []) _
   refine XS.aloadN X0.here hx rfl (oG hby d44 0 rfl) rfl rfl ?_
   refine XS.iloadN X0.here hx rfl (oG hby d44 1 rfl) rfl ?_
   refine XS.aloadN X0.here hx rfl (oG hby d44 2 rfl) rfl rfl ?_
   refine st1 _ ?_
   refine XS.i2l X1.here hx rfl (oG hby d44 4 rfl) rfl ?_
   refine XS.aloadN X1.here hx rfl (oG hby d44 5 rfl) rfl rfl ?_
   refine st2 _ ?_
   refine XS.i2l X2.here hx rfl (oG hby d44 7 rfl) rfl ?_
   refine XS.lconst X2.here hx rfl (oG hby d44 8 rfl) ?_
   show oZ p e below T2 (mkF m 13 #[oA a0_, oI 0, oI p2_, .unset, .unset, .unset, .unset] [(.long 1), (.long (aB.toInt64)), (.long (bF.toInt64)), (.int 0), (.ref a0_)]) _
   refine XS.ladd X2.here hx rfl (oG hby d44 9 rfl) rfl ?_
   refine st3 _ ?_
   refine XS.l2i X3.here hx rfl (oG hby d44 11 rfl) rfl ?_
   refine st4.trans ?_
   refine XS.astoreN X4.here hx rfl (oG hby d44 13 rfl) rfl rfl (l' := #[oA a0_, oI 0, oI p2_, oA r4_r, .unset, .unset, .unset]) rfl ?_
   refine XS.aloadN X4.here hx rfl (oG hby d44 14 rfl) rfl rfl ?_
   refine st6 _ ?_
   refine st7 _ ?_
   refine XS.astore X7.here hx rfl (oG hby d44 17 rfl) rfl rfl (l' := #[oA a0_, oI 0, oI p2_, oA r4_r, oA b7, .unset, .unset]) rfl ?_
   refine XS.iconst X7.here hx rfl (oG hby d44 18 rfl) ?_
   refine XS.istore X7.here hx rfl (oG hby d44 19 rfl) rfl (l' := #[oA a0_, oI 0, oI p2_, oA r4_r, oA b7, oI 0, .unset]) rfl ?_
   show oZ p e below T7 (mkF m 33 #[oA a0_, oI 0, oI p2_, oA r4_r, oA b7, oI 0, .unset] []) _
   refine XS.iconst X7.here hx rfl (oG hby d44 20 rfl) ?_
   refine XS.istore X7.here hx rfl (oG hby d44 21 rfl) rfl (l' := #[oA a0_, oI 0, oI p2_, oA r4_r, oA b7, oI 0, oI 0]) rfl ?_
   refine XS.iload X7.here hx rfl (oG hby d44 22 rfl) rfl ?_
   refine XS.aloadN X7.here hx rfl (oG hby d44 23 rfl) rfl rfl ?_
   refine st10 _ ?_
   refine XS.icmpNo X10.here hx rfl (oG hby d44 25 rfl) rfl (tlt hf7).2.1 ?_
   refine XS.aloadN X10.here hx rfl (oG hby d44 26 rfl) rfl rfl ?_
   refine XS.iloadN X10.here hx rfl (oG hby d44 27 rfl) rfl ?_
   refine XS.aloadN X10.here hx rfl (oG hby d44 28 rfl) rfl rfl ?_
   refine XS.iloadN X10.here hx rfl (oG hby d44 29 rfl) rfl ?_
   refine XS.iload X10.here hx rfl (oG hby d44 30 rfl) rfl ?_
   show oZ p e below T10 (mkF m 51 #[oA a0_, oI 0, oI p2_, oA r4_r, oA b7, oI 0, oI 0] [(.int 0), (.int p2_), (.ref r4_r), (.int 0), (.ref a0_)]) _
   refine XS.iadd X10.here hx rfl (oG hby d44 31 rfl) rfl ?_
   refine XS.bipush X10.here hx rfl (oG hby d44 32 rfl) ?_
   refine iremM X10 hx rfl (oG hby d44 33 rfl) rfl (by decide +kernel) ?_
   refine XS.aload X10.here hx rfl (oG hby d44 34 rfl) rfl rfl ?_
   refine XS.iload X10.here hx rfl (oG hby d44 35 rfl) rfl ?_
   refine st11.trans ?_
   refine XS.istore X11.here hx rfl (oG hby d44 37 rfl) rfl (l' := #[oA a0_, oI 0, oI p2_, oA r4_r, oA b7, oI (Int32.ofNat (eJ aO aB ((p2_ + (0 : Int32)) % (10 : Int32)) (eA lx_ cx_) cx_ 0 0)), oI 0]) rfl ?_
   refine XS.iinc X11.here hx rfl (oG hby d44 38 rfl) rfl (l' := #[oA a0_, oI 0, oI p2_, oA r4_r, oA b7, oI (Int32.ofNat (eJ aO aB ((p2_ + (0 : Int32)) % (10 : Int32)) (eA lx_ cx_) cx_ 0 0)), oI ((0 : Int32) + (1 : Int32))]) rfl ?_
   show oZ p e below T11 (mkF m 67 #[oA a0_, oI 0, oI p2_, oA r4_r, oA b7, oI (Int32.ofNat (eJ aO aB ((p2_ + (0 : Int32)) % (10 : Int32)) (eA lx_ cx_) cx_ 0 0)), oI ((0 : Int32) + (1 : Int32))] []) _
   rw [(by decide +kernel : ((0 : Int32) + (1 : Int32)) = (1 : Int32))]
   refine XS.goto X11.here hx rfl (pc0 := 67) (pc' := 36) rfl (oG hby d44 39 rfl) (by decide) (by decide) ?_
   refine XS.iload X11.here hx rfl (oG hby d44 22 rfl) rfl ?_
   refine XS.aloadN X11.here hx rfl (oG hby d44 23 rfl) rfl rfl ?_
   refine st16 _ ?_
   refine XS.icmpYes X16.here hx rfl (pc0 := 42) (pc' := 70) rfl (oG hby d44 25 rfl) rfl (flt hf13).2.1 (by decide) (by decide) ?_
   refine XS.aload X16.here hx rfl (oG hby d44 40 rfl) rfl rfl ?_
   show oZ p e below T16 (mkF m 72 #[oA a0_, oI 0, oI p2_, oA r4_r, oA b7, oI (Int32.ofNat (eJ aO aB ((p2_ + (0 : Int32)) % (10 : Int32)) (eA lx_ cx_) cx_ 0 0)), oI 1] [(.ref b7)]) _
   jvm_step X16.here [X16.here.top, hx, (oG hby d44 41 rfl), X16.method', Bd.returns, Value.isRef, FieldType.isReference]
   first | (intro acts; rw [hr _ acts rfl rfl rfl]) | rw [hr _ _ rfl rfl rfl]
   exact Steps.refl _
 · show mL Z a0_ p2_ bF aB lx_ cx_ aR aO h0 n0 _ T16.heap _
   rw [e16]
   exact ⟨b7, rfl, N11, K11, wF, aD7, Q11_0⟩
def xV (Z : State) (a0_ : Addr) (p1_ : Int32) (cl_ : Nat) (bY : Int32) (o4_ : Addr) (b_ : Int32) (n_ : Int32) (ft_ : Int32) (lx_ : Nat) (rd_ : Nat) (h0 : Heap) (n0 : Nat) (v : Option Value) (h : Heap) (L : List Loc) : Prop := ∃ r2_r : Addr, v = some (.ref r2_r) ∧ Fr n0 L ∧ Keep h0 h [] ∧ h0.size ≤ r2_r ∧ bC Z h r2_r n_
theorem aP7 (l : Launch) (Z : State) (a0 : Array Value) (hw : oH a0 Z) (ws : List Jvm.Cond) (a0_ : Addr) (p1_ : Int32) (cl_ : Nat) (bY : Int32) (o4_ : Addr) (b_ : Int32) (n_ : Int32) (ft_ : Int32) (lx_ : Nat) (rd_ : Nat) (h0 : Heap) (n0 : Nat) (Z0 : n0 ≤ h0.size) (cX : Fld Z h0 a0_ oC0 "fitsInARow" "Z" (.int bY)) (U_ : kN Z h0 a0_ b_ n_ lx_ ft_) (Y_ : rC Z h0 o4_) (bR : Exa Z h0 a0_ oC0) (hf0 : ¬ (p1_ < (0 : Int32))) (hf1 : (p1_ / (10 : Int32)) = (0 : Int32)) (hf2 : bY = (0 : Int32)) (hf3 : oY b_ n_ (p1_ % (10 : Int32)) lx_ rd_ cl_) (hf4 : n_.toNatClampNeg ≤ 32) :
   oMet l oM3 prog_29_method_2_code 5 (some (.array .int)) ws (oR 8 (10 + 2 * cl_) (80 + 11 * cl_) 230) Z h0 #[(.ref a0_), (.int p1_)] (xV Z a0_ p1_ cl_ bY o4_ b_ n_ ft_ lx_ rd_ h0 n0) := by
 refine oBd n0 (plainFor_of_name eC) ?_
 intro p e s m below meth c s₁ Bd hx hZ hby hml hown hnm X0 e0 N0
 obtain ⟨T1, X1, e1, st1⟩ := getF X0 hx hZ hown (host := "") (Or.inl (oW hw 36 rfl)) Via.refl e0 cX (g := (mkF m 33 #[oA a0_, oI p1_, oI 0, oI (p1_ % (10 : Int32)), .unset] [(.ref a0_)])) rfl rfl (oG hby d8 13 rfl)
 obtain ⟨cq2, q2, q2'⟩ := bR.cell
 obtain ⟨_, _, ⟨T2, L2, k2, n2⟩, -, X2, ⟨Lc2, hQ2, l2, y2, z2⟩, st2⟩ := X1.privateBack hx (y := oM34) hown (mvT hZ (oW hw 58 rfl)) (mvT hZ (oW hw 59 rfl)) (cG (mvT hZ (oW hw 15 rfl)) (mvP hZ (oW hw 60 rfl) (args := #[])) (mvT hZ (oW hw 59 rfl)) (by decide)) (Cond.privateMethod_at (mvP hZ (oW hw 60 rfl) (args := #[]))) (mvT hZ (oW hw 61 rfl)) (by decide) (backOf (W := 0) (aW2 l Z a0 hw [] a0_ (p1_ % (10 : Int32)) o4_ b_ n_ ft_ lx_ rd_ cl_ h0 n0 Z0 U_ Y_ hf3) hZ (oW hw 61 rfl) (oW hw 12 rfl) (Nat.le_of_ble_eq_true rfl) (Nat.le_of_ble_eq_true rfl)) (g := (mkF m 41 #[oA a0_, oI p1_, oI 0, oI (p1_ % (10 : Int32)), .unset] [(.int (p1_ % (10 : Int32))), (.ref a0_)])) rfl (by rw [hml]; rfl) (Steps.refl _) (a := a0_) (by rw [e1]; exact q2) q2' (argsL := [(.int (p1_ % (10 : Int32)))]) (rest := []) (lenOf uL rfl) rfl (by show 2 * 0 + _ ≤ _; exact Nat.le_of_eq rfl) (oG hby d8 17 rfl) (fun _ _ => ⟨rfl, e1, (show 0 + (5 + 2 * cl_) ≤ (10 + 2 * cl_) from by omega), (show 0 + (44 + 11 * cl_) ≤ (80 + 11 * cl_) from by omega)⟩)
 dsimp only [Pt.U, Pt.locs, Pt.cells, Pt.slots] at X2 l2 y2 z2 st2 hQ2
 subst l2; rw [y2, z2] at X2
 obtain ⟨r2_r, rfl, N2q, Kq2, jA, Q2_0⟩ := hQ2
 have N2 := Fr.app N0 N2q
 have aY6 : a0_ ≠ r2_r := oV cX.lt jA
 have lN : h0.size ≤ r2_r := Nat.le_trans (Keep.refl h0 []).1 jA
 have g_r2_r : n0 ≤ r2_r := Nat.le_trans Z0 lN
 have K2 : Keep h0 T2.heap [] := (Keep.refl h0 []).trans Kq2 dX
 obtain ⟨T3, L3, X3, N3, Kq3, V3, st3⟩ := wD X2 hx hZ hw hown (oW hw 202 rfl) rfl Q2_0 hf4 g_r2_r N2 (show 0 + (5 + 2 * cl_) + 0 ≤ (10 + 2 * cl_) from by omega) (show 0 + (44 + 11 * cl_) + 0 ≤ (80 + 11 * cl_) from by omega) (W := 0) (Nat.le_of_ble_eq_true rfl) (Nat.le_of_ble_eq_true rfl) (g := (mkF m 98 #[oA a0_, oI p1_, oI 0, oI (p1_ % (10 : Int32)), oA r2_r] [(.ref r2_r)])) rfl (by rw [hml]; rfl) rfl (by show 2 * 0 + _ ≤ _; exact Nat.le_of_eq rfl) (oG hby d8 31 rfl)
 have K3 : Keep h0 T3.heap [] := K2.trans Kq3 (bJ (Or.inr lN))
 obtain ⟨fs, hr, hrun, hended, hW, hsame⟩ := X3.leave (v := some (.ref r2_r)) (fun h => by rw [Bd.returns] at h; cases h)
 refine ⟨_, _, castTop (uO m a0_ p1_) ?_, hrun, hended, _, _, rfl, ?_, ⟨_, rfl⟩, hW, (hsame.mono (show 0 + (5 + 2 * cl_) + 0 ≤ (10 + 2 * cl_) from by omega) (show 0 + (44 + 11 * cl_) + 0 ≤ (80 + 11 * cl_) from by omega))⟩
 · show oZ p e below s₁ (mkF m 0 #[oA a0_, oI p1_, .unset, .unset, .unset] []) _
   refine XS.iloadN X0.here hx rfl (oG hby d8 0 rfl) rfl ?_
   refine XS.ifYes X0.here hx rfl (pc0 := 1) (pc' := 18) rfl (oG hby d8 1 rfl) rfl ((if0 _ _).trans (flt hf0).2.1) (by decide) (by decide) ?_
   refine XS.iloadN X0.here hx rfl (oG hby d8 2 rfl) rfl ?_
   refine XS.bipush X0.here hx rfl (oG hby d8 3 rfl) ?_
   refine XS.idiv X0.here hx rfl (oG hby d8 4 rfl) rfl (by decide +kernel) ?_
   show oZ p e below s₁ (mkF m 22 #[oA a0_, oI p1_, .unset, .unset, .unset] [(.int (p1_ / (10 : Int32)))]) _
   rw [hf1]
   refine XS.istoreN X0.here hx rfl (oG hby d8 5 rfl) rfl (l' := #[oA a0_, oI p1_, oI 0, .unset, .unset]) rfl ?_
   refine XS.iloadN X0.here hx rfl (oG hby d8 6 rfl) rfl ?_
   refine XS.bipush X0.here hx rfl (oG hby d8 7 rfl) ?_
   refine iremM X0 hx rfl (oG hby d8 8 rfl) rfl (by decide +kernel) ?_
   refine XS.istoreN X0.here hx rfl (oG hby d8 9 rfl) rfl (l' := #[oA a0_, oI p1_, oI 0, oI (p1_ % (10 : Int32)), .unset]) rfl ?_
   refine XS.iloadN X0.here hx rfl (oG hby d8 10 rfl) rfl ?_
   refine XS.ifNo X0.here hx rfl (oG hby d8 11 rfl) rfl ((if0 _ _).trans (teq (rfl : (0 : Int32) = (0 : Int32))).2) ?_
   refine XS.aloadN X0.here hx rfl (oG hby d8 12 rfl) rfl rfl ?_
   refine st1 _ ?_
   refine XS.ifNo X1.here hx rfl (oG hby d8 14 rfl) rfl ((if0 _ _).trans (teq hf2).2) ?_
   show oZ p e below T1 (mkF m 39 #[oA a0_, oI p1_, oI 0, oI (p1_ % (10 : Int32)), .unset] []) _
   refine XS.aloadN X1.here hx rfl (oG hby d8 15 rfl) rfl rfl ?_
   refine XS.iloadN X1.here hx rfl (oG hby d8 16 rfl) rfl ?_
   refine st2.trans ?_
   refine XS.astore X2.here hx rfl (oG hby d8 18 rfl) rfl rfl (l' := #[oA a0_, oI p1_, oI 0, oI (p1_ % (10 : Int32)), oA r2_r]) rfl ?_
   refine XS.goto X2.here hx rfl (pc0 := 46) (pc' := 96) rfl (oG hby d8 19 rfl) (by decide) (by decide) ?_
   refine XS.aload X2.here hx rfl (oG hby d8 30 rfl) rfl rfl ?_
   refine st3 _ ?_
   refine XS.aload X3.here hx rfl (oG hby d8 32 rfl) rfl rfl ?_
   show oZ p e below T3 (mkF m 103 #[oA a0_, oI p1_, oI 0, oI (p1_ % (10 : Int32)), oA r2_r] [(.ref r2_r)]) _
   jvm_step X3.here [X3.here.top, hx, (oG hby d8 33 rfl), X3.method', Bd.returns, Value.isRef, FieldType.isReference]
   first | (intro acts; rw [hr _ acts rfl rfl rfl]) | rw [hr _ _ rfl rfl rfl]
   exact Steps.refl _
 · show xV Z a0_ p1_ cl_ bY o4_ b_ n_ ft_ lx_ rd_ h0 n0 _ T3.heap _
   exact ⟨r2_r, rfl, N3, K3, lN, V3⟩
def xW (Z : State) (a0_ : Addr) (p1_ : Int32) (cl_ : Nat) (bY : Int32) (w_START_ROWS : Addr) (n_w_START_ROWS : Int32) (vs_w_START_ROWS : List Int32) (bF : Int32) (aB : Int32) (aR : Int32) (aO : Int32) (lx_ : Nat) (cx_ : Nat) (h0 : Heap) (n0 : Nat) (v : Option Value) (h : Heap) (L : List Loc) : Prop := ∃ r4_b7 : Addr, v = some (.ref r4_b7) ∧ Fr n0 L ∧ Keep h0 h [] ∧ h0.size ≤ r4_b7 ∧ Exa Z h r4_b7 "[I" ∧ bC Z h r4_b7 aB
theorem aP8 (l : Launch) (Z : State) (a0 : Array Value) (hw : oH a0 Z) (ws : List Jvm.Cond) (a0_ : Addr) (p1_ : Int32) (cl_ : Nat) (bY : Int32) (w_START_ROWS : Addr) (n_w_START_ROWS : Int32) (vs_w_START_ROWS : List Int32) (bF : Int32) (aB : Int32) (aR : Int32) (aO : Int32) (lx_ : Nat) (cx_ : Nat) (h0 : Heap) (n0 : Nat) (Z0 : n0 ≤ h0.size) (cX : Fld Z h0 a0_ oC0 "fitsInARow" "Z" (.int bY)) (S_START_ROWS : Sta Z h0 oC0 "START_ROWS" "[I" (.ref w_START_ROWS)) (A_w_START_ROWS : bB Z h0 w_START_ROWS n_w_START_ROWS vs_w_START_ROWS) (bU : Fld Z h0 a0_ oC0 "lots" "I" (.int bF)) (cQ : Fld Z h0 a0_ oC0 "subsetSize" "I" (.int aB)) (aQ : Fld Z h0 a0_ oC0 "ringBits" "I" (.int aR)) (bR : Exa Z h0 a0_ oC0) (cF : Fld Z h0 a0_ oC0 "backends" "I" (.int aO)) (hf0 : ¬ (p1_ < (0 : Int32))) (hf1 : (p1_ / (10 : Int32)) = (0 : Int32)) (hf2 : ¬ (bY = (0 : Int32))) (hf3 : ¬ ((p1_ % (10 : Int32)) < 0)) (hf4 : (p1_ % (10 : Int32)) < n_w_START_ROWS) (hf5 : ¬ ((0 : Int32) < (lcmpW (bF.toInt64) ((aB.toInt64) + (1 : Int64))))) (hf6 : bF = Int32.ofNat lx_) (hf7 : aR = gQ lx_) (hf8 : ((bF.toInt64).toInt32) = Int32.ofNat cx_) (hf9 : gR lx_ cx_) (hf10 : ¬ (aB < 0)) (hf11 : aB.toNatClampNeg ≤ 32) (hf12 : (0 : Int32) < aB) (hf13 : (Int32.ofNat cx_) = Int32.ofNat cx_) (hf14 : cx_ ≤ 4) (hf15 : hY (eA lx_ cx_)) (hf16 : ¬ ((((vs_w_START_ROWS.getD ((p1_ % (10 : Int32))).toNatClampNeg 0) + (0 : Int32)) % (10 : Int32)) < 0)) (hf17 : (((vs_w_START_ROWS.getD ((p1_ % (10 : Int32))).toNatClampNeg 0) + (0 : Int32)) % (10 : Int32)) < (10 : Int32)) (hf18 : ¬ ((Int32.ofNat (eJ aO aB (((vs_w_START_ROWS.getD ((p1_ % (10 : Int32))).toNatClampNeg 0) + (0 : Int32)) % (10 : Int32)) (eA lx_ cx_) cx_ 0 0)) < aB)) :
   oMet l oM3 prog_29_method_2_code 5 (some (.array .int)) ws (oR 8 (10 + 2 * cl_) (80 + 11 * cl_) 230) Z h0 #[(.ref a0_), (.int p1_)] (xW Z a0_ p1_ cl_ bY w_START_ROWS n_w_START_ROWS vs_w_START_ROWS bF aB aR aO lx_ cx_ h0 n0) := by
 refine oBd n0 (plainFor_of_name eC) ?_
 intro p e s m below meth c s₁ Bd hx hZ hby hml hown hnm X0 e0 N0
 obtain ⟨T1, X1, e1, st1⟩ := getF X0 hx hZ hown (host := "") (Or.inl (oW hw 36 rfl)) Via.refl e0 cX (g := (mkF m 33 #[oA a0_, oI p1_, oI 0, oI (p1_ % (10 : Int32)), .unset] [(.ref a0_)])) rfl rfl (oG hby d8 13 rfl)
 obtain ⟨T2, X2, e2, st2⟩ := getS2 X1 hx hZ hown (host := "") (Or.inl (oW hw 133 rfl)) Via.refl e1 S_START_ROWS (g := (mkF m 86 #[oA a0_, oI p1_, oI 0, oI (p1_ % (10 : Int32)), .unset] [(.int 0), (.ref a0_)])) rfl (oG hby d8 25 rfl)
 obtain ⟨c3, A3, hin3, hat3⟩ := bS (j := (p1_ % (10 : Int32))) A_w_START_ROWS hf3 hf4
 have hat3' : c3.slots[((p1_ % (10 : Int32))).toNatClampNeg]? = some (.int (vs_w_START_ROWS.getD ((p1_ % (10 : Int32))).toNatClampNeg 0)) := hat3
 obtain ⟨cq4, q4, q4'⟩ := bR.cell
 obtain ⟨_, _, ⟨T4, L4, k4, n4⟩, -, X4, ⟨Lc4, hQ4, l4, y4, z4⟩, st4⟩ := X2.privateBack hx (y := oM18) hown (mvT hZ (oW hw 261 rfl)) (mvT hZ (oW hw 262 rfl)) (cG (mvT hZ (oW hw 15 rfl)) (mvP hZ (oW hw 263 rfl) (args := #[])) (mvT hZ (oW hw 262 rfl)) (by decide)) (Cond.privateMethod_at (mvP hZ (oW hw 263 rfl) (args := #[]))) (mvT hZ (oW hw 264 rfl)) (by decide) (backOf (W := 0) (tX l Z a0 hw [] a0_ (vs_w_START_ROWS.getD ((p1_ % (10 : Int32))).toNatClampNeg 0) bF aB lx_ cx_ aR aO h0 n0 Z0 bU cQ aQ bR cF hf5 hf6 hf7 hf8 hf9 hf10 hf11 hf12 hf13 hf14 hf15 hf16 hf17 hf18) hZ (oW hw 264 rfl) (oW hw 12 rfl) (Nat.le_of_ble_eq_true rfl) (Nat.le_of_ble_eq_true rfl)) (g := (mkF m 91 #[oA a0_, oI p1_, oI 0, oI (p1_ % (10 : Int32)), .unset] [(.int (vs_w_START_ROWS.getD ((p1_ % (10 : Int32))).toNatClampNeg 0)), (.int 0), (.ref a0_)])) rfl (by rw [hml]; rfl) (Steps.refl _) (a := a0_) (by rw [e2]; exact q4) q4' (argsL := [(.int 0), (.int (vs_w_START_ROWS.getD ((p1_ % (10 : Int32))).toNatClampNeg 0))]) (rest := []) (lenOf mX rfl) rfl (by show 2 * 0 + _ ≤ _; exact Nat.le_of_eq rfl) (oG hby d8 28 rfl) (fun _ _ => ⟨rfl, e2, (show 0 + 10 ≤ (10 + 2 * cl_) from by omega), (show 0 + 80 ≤ (80 + 11 * cl_) from by omega)⟩)
 dsimp only [Pt.U, Pt.locs, Pt.cells, Pt.slots] at X4 l4 y4 z4 st4 hQ4
 subst l4; rw [y4, z4] at X4
 obtain ⟨r4_b7, rfl, N4q, Kq4, lH, Q4_0, aP9⟩ := hQ4
 have N4 := Fr.app N0 N4q
 have yS : a0_ ≠ r4_b7 := oV cX.lt lH
 have nS : w_START_ROWS ≠ r4_b7 := oV A_w_START_ROWS.lt lH
 have lI : h0.size ≤ r4_b7 := Nat.le_trans (Keep.refl h0 []).1 lH
 have g_r4_b7 : n0 ≤ r4_b7 := Nat.le_trans Z0 lI
 have K4 : Keep h0 T4.heap [] := (Keep.refl h0 []).trans Kq4 dX
 obtain ⟨T5, L5, X5, N5, Kq5, V5, st5⟩ := wD X4 hx hZ hw hown (oW hw 202 rfl) rfl aP9 hf11 g_r4_b7 N4 (show 0 + 10 + 0 ≤ (10 + 2 * cl_) from by omega) (show 0 + 80 + 0 ≤ (80 + 11 * cl_) from by omega) (W := 0) (Nat.le_of_ble_eq_true rfl) (Nat.le_of_ble_eq_true rfl) (g := (mkF m 98 #[oA a0_, oI p1_, oI 0, oI (p1_ % (10 : Int32)), oA r4_b7] [(.ref r4_b7)])) rfl (by rw [hml]; rfl) rfl (by show 2 * 0 + _ ≤ _; exact Nat.le_of_eq rfl) (oG hby d8 31 rfl)
 have K5 : Keep h0 T5.heap [] := K4.trans Kq5 (bJ (Or.inr lI))
 have wH := (Q4_0.keep Kq5)
 obtain ⟨fs, hr, hrun, hended, hW, hsame⟩ := X5.leave (v := some (.ref r4_b7)) (fun h => by rw [Bd.returns] at h; cases h)
 refine ⟨_, _, castTop (uO m a0_ p1_) ?_, hrun, hended, _, _, rfl, ?_, ⟨_, rfl⟩, hW, (hsame.mono (show 0 + 10 + 0 ≤ (10 + 2 * cl_) from by omega) (show 0 + 80 + 0 ≤ (80 + 11 * cl_) from by omega))⟩
 · show oZ p e below s₁ (mkF m 0 #[oA a0_, oI p1_, .unset, .unset, .unset] []) _
   refine XS.iloadN X0.here hx rfl (oG hby d8 0 rfl) rfl ?_
   refine XS.ifYes X0.here hx rfl (pc0 := 1) (pc' := 18) rfl (oG hby d8 1 rfl) rfl ((if0 _ _).trans (flt hf0).2.1) (by decide) (by decide) ?_
   refine XS.iloadN X0.here hx rfl (oG hby d8 2 rfl) rfl ?_
   refine XS.bipush X0.here hx rfl (oG hby d8 3 rfl) ?_
   refine XS.idiv X0.here hx rfl (oG hby d8 4 rfl) rfl (by decide +kernel) ?_
   show oZ p e below s₁ (mkF m 22 #[oA a0_, oI p1_, .unset, .unset, .unset] [(.int (p1_ / (10 : Int32)))]) _
   rw [hf1]
   refine XS.istoreN X0.here hx rfl (oG hby d8 5 rfl) rfl (l' := #[oA a0_, oI p1_, oI 0, .unset, .unset]) rfl ?_
   refine XS.iloadN X0.here hx rfl (oG hby d8 6 rfl) rfl ?_
   refine XS.bipush X0.here hx rfl (oG hby d8 7 rfl) ?_
   refine iremM X0 hx rfl (oG hby d8 8 rfl) rfl (by decide +kernel) ?_
   refine XS.istoreN X0.here hx rfl (oG hby d8 9 rfl) rfl (l' := #[oA a0_, oI p1_, oI 0, oI (p1_ % (10 : Int32)), .unset]) rfl ?_
   refine XS.iloadN X0.here hx rfl (oG hby d8 10 rfl) rfl ?_
   refine XS.ifNo X0.here hx rfl (oG hby d8 11 rfl) rfl ((if0 _ _).trans (teq (rfl : (0 : Int32) = (0 : Int32))).2) ?_
   refine XS.aloadN X0.here hx rfl (oG hby d8 12 rfl) rfl rfl ?_
   refine st1 _ ?_
   refine XS.ifYes X1.here hx rfl (pc0 := 36) (pc' := 49) rfl (oG hby d8 14 rfl) rfl ((if0 _ _).trans (feq hf2).2) (by decide) (by decide) ?_
   show oZ p e below T1 (mkF m 49 #[oA a0_, oI p1_, oI 0, oI (p1_ % (10 : Int32)), .unset] []) _
   refine XS.iloadN X1.here hx rfl (oG hby d8 20 rfl) rfl ?_
   refine XS.iconst X1.here hx rfl (oG hby d8 21 rfl) ?_
   refine XS.icmpYes X1.here hx rfl (pc0 := 51) (pc' := 84) rfl (oG hby d8 22 rfl) rfl (feq (by decide +kernel : ¬ ((0 : Int32) = (1 : Int32)))).2 (by decide) (by decide) ?_
   refine XS.aloadN X1.here hx rfl (oG hby d8 23 rfl) rfl rfl ?_
   refine XS.iloadN X1.here hx rfl (oG hby d8 24 rfl) rfl ?_
   refine st2 _ ?_
   refine XS.iloadN X2.here hx rfl (oG hby d8 26 rfl) rfl ?_
   refine X2.iaload hx (j := (p1_ % (10 : Int32))) (v := (.int (vs_w_START_ROWS.getD ((p1_ % (10 : Int32))).toNatClampNeg 0))) (by rw [e2]; exact A3.1) (State.isArrayOf_alike hZ.alike A3.2.1) A3.2.2 hin3 hat3' (g := (mkF m 90 #[oA a0_, oI p1_, oI 0, oI (p1_ % (10 : Int32)), .unset] [(.int (p1_ % (10 : Int32))), (.ref w_START_ROWS), (.int 0), (.ref a0_)])) rfl rfl (oG hby d8 27 rfl) _ ?_
   refine st4.trans ?_
   refine XS.astore X4.here hx rfl (oG hby d8 29 rfl) rfl rfl (l' := #[oA a0_, oI p1_, oI 0, oI (p1_ % (10 : Int32)), oA r4_b7]) rfl ?_
   refine XS.aload X4.here hx rfl (oG hby d8 30 rfl) rfl rfl ?_
   show oZ p e below T4 (mkF m 98 #[oA a0_, oI p1_, oI 0, oI (p1_ % (10 : Int32)), oA r4_b7] [(.ref r4_b7)]) _
   refine st5 _ ?_
   refine XS.aload X5.here hx rfl (oG hby d8 32 rfl) rfl rfl ?_
   show oZ p e below T5 (mkF m 103 #[oA a0_, oI p1_, oI 0, oI (p1_ % (10 : Int32)), oA r4_b7] [(.ref r4_b7)]) _
   jvm_step X5.here [X5.here.top, hx, (oG hby d8 33 rfl), X5.method', Bd.returns, Value.isRef, FieldType.isReference]
   first | (intro acts; rw [hr _ acts rfl rfl rfl]) | rw [hr _ _ rfl rfl rfl]
   exact Steps.refl _
 · show xW Z a0_ p1_ cl_ bY w_START_ROWS n_w_START_ROWS vs_w_START_ROWS bF aB aR aO lx_ cx_ h0 n0 _ T5.heap _
   exact ⟨r4_b7, rfl, N5, K5, lI, wH, V5⟩
theorem aI5 (l : Launch) (Z : State) (a0 : Array Value) (hw : oH a0 Z) (ws : List Jvm.Cond) (q0_ : Int64) (q1_ : Int64) (h0 : Heap) (n0 : Nat) (Z0 : n0 ≤ h0.size) (hf0 : (0 : Int32) < (lcmpW q0_ q1_)) :
   oMet l oM27 jdk_29_method_70_code 4 (some .long) ws (oR 0 0 0 0) Z h0 #[(.long q0_), (.long q1_)] (cD (some (.long q1_)) h0 n0) := by
 refine oBd n0 (Jvm.Free.JP.mathPlain rfl (by decide +kernel)) ?_
 intro p e s m below meth c s₁ Bd hx hZ hby hml hown hnm X0 e0 N0
 obtain ⟨fs, hr, hrun, hended, hW, hsame⟩ := X0.leave (v := some (.long q1_)) (fun h => by rw [Bd.returns] at h; cases h)
 refine ⟨_, _, castTop (zM m q0_ q1_) ?_, hrun, hended, _, _, rfl, ?_, ⟨_, rfl⟩, hW, (hsame.mono (by decide) (by decide))⟩
 · show oZ p e below s₁ (mkF m 0 #[oJ q0_, .second, oJ q1_, .second] []) _
   refine XS.lloadN X0.here hx rfl (oG hby d45 0 rfl) rfl ?_
   refine XS.lloadN X0.here hx rfl (oG hby d45 1 rfl) rfl ?_
   refine XS.lcmp X0.here hx rfl (oG hby d45 2 rfl) rfl ?_
   refine XS.ifYes X0.here hx rfl (pc0 := 3) (pc' := 10) rfl (oG hby d45 3 rfl) rfl ((if0 _ _).trans (tlt hf0).2.2.1) (by decide) (by decide) ?_
   refine XS.lloadN X0.here hx rfl (oG hby d45 6 rfl) rfl ?_
   show oZ p e below s₁ (mkF m 11 #[oJ q0_, .second, oJ q1_, .second] [(.long q1_)]) _
   exact X0.lreturnOut hx Bd.returns (oG hby d45 7 rfl) hr
 · show cD (some (.long q1_)) h0 n0 _ s₁.heap _
   exact ⟨rfl, N0, e0⟩
def mO (Z : State) (a0_ : Addr) (p2_ : Int32) (bF : Int32) (aB : Int32) (lx_ : Nat) (cx_ : Nat) (aR : Int32) (aO : Int32) (h0 : Heap) (n0 : Nat) (v : Option Value) (h : Heap) (L : List Loc) : Prop := ∃ b7 : Addr, v = some (.ref b7) ∧ Fr n0 L ∧ Keep h0 h [] ∧ h0.size ≤ b7 ∧ Exa Z h b7 "[I" ∧ bC Z h b7 aB
theorem tY (l : Launch) (Z : State) (a0 : Array Value) (hw : oH a0 Z) (ws : List Jvm.Cond) (a0_ : Addr) (p2_ : Int32) (bF : Int32) (aB : Int32) (lx_ : Nat) (cx_ : Nat) (aR : Int32) (aO : Int32) (h0 : Heap) (n0 : Nat) (Z0 : n0 ≤ h0.size) (bU : Fld Z h0 a0_ oC0 "lots" "I" (.int bF)) (cQ : Fld Z h0 a0_ oC0 "subsetSize" "I" (.int aB)) (aQ : Fld Z h0 a0_ oC0 "ringBits" "I" (.int aR)) (bR : Exa Z h0 a0_ oC0) (cF : Fld Z h0 a0_ oC0 "backends" "I" (.int aO)) (hf0 : (0 : Int32) < (lcmpW (bF.toInt64) ((aB.toInt64) + (1 : Int64)))) (hf1 : bF = Int32.ofNat lx_) (hf2 : aR = gQ lx_) (hf3 : (((aB.toInt64) + (1 : Int64)).toInt32) = Int32.ofNat cx_) (hf4 : gR lx_ cx_) (hf5 : ¬ (aB < 0)) (hf6 : aB.toNatClampNeg ≤ 32) (hf7 : (0 : Int32) < aB) (hf8 : (Int32.ofNat cx_) = Int32.ofNat cx_) (hf9 : cx_ ≤ 4) (hf10 : hY (eA lx_ cx_)) (hf11 : ¬ (((p2_ + (0 : Int32)) % (10 : Int32)) < 0)) (hf12 : ((p2_ + (0 : Int32)) % (10 : Int32)) < (10 : Int32)) (hf13 : ¬ ((Int32.ofNat (eJ aO aB ((p2_ + (0 : Int32)) % (10 : Int32)) (eA lx_ cx_) cx_ 0 0)) < aB)) :
   oMet l oM18 prog_29_method_12_code 7 (some (.array .int)) ws (oR 6 10 80 150) Z h0 #[(.ref a0_), (.int 0), (.int p2_)] (mO Z a0_ p2_ bF aB lx_ cx_ aR aO h0 n0) := by
 refine oBd n0 (plainFor_of_name eC) ?_
 intro p e s m below meth c s₁ Bd hx hZ hby hml hown hnm X0 e0 N0
 obtain ⟨T1, X1, e1, st1⟩ := getF X0 hx hZ hown (host := "") (Or.inl (oW hw 24 rfl)) Via.refl e0 bU (g := (mkF m 3 #[oA a0_, oI 0, oI p2_, .unset, .unset, .unset, .unset] [(.ref a0_), (.int 0), (.ref a0_)])) rfl rfl (oG hby d44 3 rfl)
 obtain ⟨T2, X2, e2, st2⟩ := getF X1 hx hZ hown (host := "") (Or.inl (oW hw 22 rfl)) Via.refl e1 cQ (g := (mkF m 8 #[oA a0_, oI 0, oI p2_, .unset, .unset, .unset, .unset] [(.ref a0_), (.long (bF.toInt64)), (.int 0), (.ref a0_)])) rfl rfl (oG hby d44 6 rfl)
 obtain ⟨_, _, ⟨T3, L3, k3, n3⟩, -, X3, ⟨Lc3, hQ3, l3, y3, z3⟩, st3⟩ := Jvm.LawKit.callS X2 hx (y := oM27) hown (mvT hZ (oW hw 265 rfl)) (mvT hZ (oW hw 266 rfl)) (mvT hZ (oW hw 32 rfl)) (mvT hZ (oW hw 267 rfl)) (by decide) (backOf (W := 2) (aI5 l Z a0 hw [] (bF.toInt64) ((aB.toInt64) + (1 : Int64)) h0 n0 Z0 hf0) hZ (oW hw 267 rfl) (oW hw 32 rfl) (by decide) (by decide)) (g := (mkF m 14 #[oA a0_, oI 0, oI p2_, .unset, .unset, .unset, .unset] [(.long ((aB.toInt64) + (1 : Int64))), (.long (bF.toInt64)), (.int 0), (.ref a0_)])) rfl (by rw [hml]; rfl) (argsL := [(.long (bF.toInt64)), (.long ((aB.toInt64) + (1 : Int64)))]) (rest := [(.int 0), (.ref a0_)]) (lenOf uJ rfl) rfl (by show 2 * 0 + _ ≤ _; exact Nat.le_of_eq rfl) (oG hby d44 10 rfl) (fun _ _ => ⟨rfl, e2, (by decide : 0 + 0 ≤ _), (by decide : 0 + 0 ≤ _)⟩)
 dsimp only [Pt.U, Pt.locs, Pt.cells, Pt.slots] at X3 l3 y3 z3 st3 hQ3
 subst l3 y3 z3
 obtain ⟨rfl, N3q, e3⟩ := hQ3
 have N3 := Fr.app N0 N3q
 obtain ⟨cq4, q4, q4'⟩ := bR.cell
 obtain ⟨_, _, ⟨T4, L4, k4, n4⟩, -, X4, ⟨Lc4, hQ4, l4, y4, z4⟩, st4⟩ := X3.privateBack hx (y := oM1) hown (mvT hZ (oW hw 62 rfl)) (mvT hZ (oW hw 63 rfl)) (cG (mvT hZ (oW hw 15 rfl)) (mvP hZ (oW hw 64 rfl) (args := #[])) (mvT hZ (oW hw 63 rfl)) (by decide)) (Cond.privateMethod_at (mvP hZ (oW hw 64 rfl) (args := #[]))) (mvT hZ (oW hw 65 rfl)) (by decide) (backOf (W := 0) (yJ l Z a0 hw [] a0_ (((aB.toInt64) + (1 : Int64)).toInt32) lx_ cx_ bF aR h0 n0 Z0 bU aQ bR hf1 hf2 hf3 hf4) hZ (oW hw 65 rfl) (oW hw 12 rfl) (by decide) (by decide)) (g := (mkF m 18 #[oA a0_, oI 0, oI p2_, .unset, .unset, .unset, .unset] [(.int (((aB.toInt64) + (1 : Int64)).toInt32)), (.int 0), (.ref a0_)])) rfl (by rw [hml]; rfl) (Steps.refl _) (a := a0_) (by rw [e3]; exact q4) q4' (argsL := [(.int 0), (.int (((aB.toInt64) + (1 : Int64)).toInt32))]) (rest := []) (lenOf mX rfl) rfl (by show 2 * 0 + _ ≤ _; exact Nat.le_of_eq rfl) (oG hby d44 12 rfl) (fun _ _ => ⟨rfl, e3, (by decide : 0 + 1 ≤ _), (by decide : 0 + 4 ≤ _)⟩)
 dsimp only [Pt.U, Pt.locs, Pt.cells, Pt.slots] at X4 l4 y4 z4 st4 hQ4
 subst l4 y4 z4
 obtain ⟨r4_r, rfl, N4q, Kq4, sK, Q4_0⟩ := hQ4
 have N4 := Fr.app N3 N4q
 have aA8 : a0_ ≠ r4_r := oV bU.lt sK
 have yR : h0.size ≤ r4_r := Nat.le_trans (Keep.refl h0 []).1 sK
 have g_r4_r : n0 ≤ r4_r := Nat.le_trans Z0 yR
 have K4 : Keep h0 T4.heap [] := (Keep.refl h0 []).trans Kq4 dX
 have gG := (cQ.keep Kq4 (dP _))
 obtain ⟨T6, X6, e6, st6⟩ := getF X4 hx hZ hown (host := "") (Or.inl (oW hw 22 rfl)) Via.refl rfl gG (g := (mkF m 23 #[oA a0_, oI 0, oI p2_, oA r4_r, .unset, .unset, .unset] [(.ref a0_)])) rfl rfl (oG hby d44 15 rfl)
 obtain ⟨T7, h7, k7, X7, e7, E7, A7, B7, st7⟩ := newPE X6 hx hZ (oW hw 84 rfl) e6 (g := (mkF m 26 #[oA a0_, oI 0, oI p2_, oA r4_r, .unset, .unset, .unset] [(.int aB)])) rfl (oG hby d44 16 rfl) rfl hf5 (cap := 32) hf6 (by decide) (by decide) (by decide) (ad := "[I") rfl
 obtain ⟨b7, g7⟩ : ∃ z, z = T4.heap.size := ⟨_, rfl⟩
 rw [← g7] at A7 B7 st7
 have wE : T4.heap.size ≤ b7 := Nat.le_of_eq g7.symm
 have pB := (bU.keep Kq4 (dP _))
 have mM : a0_ ≠ b7 := oV pB.lt wE
 have rD : r4_r ≠ b7 := oV Q4_0.lt wE
 have wF : h0.size ≤ b7 := Nat.le_trans K4.1 wE
 have g_b7 : n0 ≤ b7 := Nat.le_trans Z0 wF
 have K7 : Keep h0 h7 [] := K4.ext E7
 have V7 := (dY (m := 0) A7 hf5).ia
 have eX := (gG.ext E7)
 obtain ⟨T10, X10, e10, st10⟩ := getF X7 hx hZ hown (host := "") (Or.inl (oW hw 22 rfl)) Via.refl e7 eX (g := (mkF m 39 #[oA a0_, oI 0, oI p2_, oA r4_r, oA b7, oI 0, oI 0] [(.ref a0_), (.int 0)])) rfl rfl (oG hby d44 24 rfl)
 have hV := ((bR.keep Kq4).ext E7)
 have jP := ((cF.keep Kq4 (dP _)).ext E7)
 have wG := (Q4_0.ext E7)
 obtain ⟨cq11, q11, q11'⟩ := hV.cell
 obtain ⟨_, _, ⟨T11, L11, k11, n11⟩, -, X11, ⟨Lc11, hQ11, l11, y11, z11⟩, st11⟩ := X10.privateBack hx (y := oM22) hown (mvT hZ (oW hw 268 rfl)) (mvT hZ (oW hw 269 rfl)) (cG (mvT hZ (oW hw 15 rfl)) (mvP hZ (oW hw 270 rfl) (args := #[])) (mvT hZ (oW hw 269 rfl)) (by decide)) (Cond.privateMethod_at (mvP hZ (oW hw 270 rfl) (args := #[]))) (mvT hZ (oW hw 271 rfl)) (by decide) (backOf (W := 0) (aF1 l Z a0 hw [] a0_ r4_r ((p2_ + (0 : Int32)) % (10 : Int32)) b7 aO aB (eA lx_ cx_) (Int32.ofNat cx_) aB cx_ h7 n0 (Nat.le_trans Z0 K7.1) hV jP eX wG V7 g_b7 hf8 rfl hf9 hf10 hf11 hf12 mM rD) hZ (oW hw 271 rfl) (oW hw 12 rfl) (by decide) (by decide)) (g := (mkF m 59 #[oA a0_, oI 0, oI p2_, oA r4_r, oA b7, oI 0, oI 0] [(.int 0), (.ref b7), (.int ((p2_ + (0 : Int32)) % (10 : Int32))), (.ref r4_r), (.int 0), (.ref a0_)])) rfl (by rw [hml]; rfl) (Steps.refl _) (a := a0_) (by rw [e10]; exact q11) q11' (argsL := [(.int 0), (.ref r4_r), (.int ((p2_ + (0 : Int32)) % (10 : Int32))), (.ref b7), (.int 0)]) (rest := []) (lenOf zG rfl) rfl (by show 2 * 0 + _ ≤ _; exact Nat.le_of_eq rfl) (oG hby d44 36 rfl) (fun _ _ => ⟨rfl, e10, (by decide : 2 + 8 ≤ _), (by decide : 36 + 44 ≤ _)⟩)
 dsimp only [Pt.U, Pt.locs, Pt.cells, Pt.slots] at X11 l11 y11 z11 st11 hQ11
 subst l11 y11 z11
 obtain ⟨rfl, N11q, Kq11, Q11_0⟩ := hQ11
 have N11 := Fr.app N4 N11q
 have K11 : Keep h0 T11.heap [] := K7.trans Kq11 (bJ (Or.inr wF))
 have iS := (eX.keep Kq11 (bH mM))
 obtain ⟨T16, X16, e16, st16⟩ := getF X11 hx hZ hown (host := "") (Or.inl (oW hw 22 rfl)) Via.refl rfl iS (g := (mkF m 39 #[oA a0_, oI 0, oI p2_, oA r4_r, oA b7, oI (Int32.ofNat (eJ aO aB ((p2_ + (0 : Int32)) % (10 : Int32)) (eA lx_ cx_) cx_ 0 0)), oI 1] [(.ref a0_), (.int (Int32.ofNat (eJ aO aB ((p2_ + (0 : Int32)) % (10 : Int32)) (eA lx_ cx_) cx_ 0 0)))])) rfl rfl (oG hby d44 24 rfl)
 have aD7 := (B7.keep Kq11)
 obtain ⟨fs, hr, hrun, hended, hW, hsame⟩ := X16.leave (v := some (.ref b7)) (fun h => by rw [Bd.returns] at h; cases h)
 refine ⟨_, _, castTop (zO m a0_ (0 : Int32) p2_) ?_, hrun, hended, _, _, rfl, ?_, ⟨_, rfl⟩, hW, (hsame.mono (by decide) (by decide))⟩
 · show oZ p e below s₁ (mkF m 0 #[oA a0_, oI 0, oI p2_, .unset, .unset, .unset, .unset] []) _
   refine XS.aloadN X0.here hx rfl (oG hby d44 0 rfl) rfl rfl ?_
   refine XS.iloadN X0.here hx rfl (oG hby d44 1 rfl) rfl ?_
   refine XS.aloadN X0.here hx rfl (oG hby d44 2 rfl) rfl rfl ?_
   refine st1 _ ?_
   refine XS.i2l X1.here hx rfl (oG hby d44 4 rfl) rfl ?_
   refine XS.aloadN X1.here hx rfl (oG hby d44 5 rfl) rfl rfl ?_
   refine st2 _ ?_
   refine XS.i2l X2.here hx rfl (oG hby d44 7 rfl) rfl ?_
   refine XS.lconst X2.here hx rfl (oG hby d44 8 rfl) ?_
   show oZ p e below T2 (mkF m 13 #[oA a0_, oI 0, oI p2_, .unset, .unset, .unset, .unset] [(.long 1), (.long (aB.toInt64)), (.long (bF.toInt64)), (.int 0), (.ref a0_)]) _
   refine XS.ladd X2.here hx rfl (oG hby d44 9 rfl) rfl ?_
   refine st3 _ ?_
   refine XS.l2i X3.here hx rfl (oG hby d44 11 rfl) rfl ?_
   refine st4.trans ?_
   refine XS.astoreN X4.here hx rfl (oG hby d44 13 rfl) rfl rfl (l' := #[oA a0_, oI 0, oI p2_, oA r4_r, .unset, .unset, .unset]) rfl ?_
   refine XS.aloadN X4.here hx rfl (oG hby d44 14 rfl) rfl rfl ?_
   refine st6 _ ?_
   refine st7 _ ?_
   refine XS.astore X7.here hx rfl (oG hby d44 17 rfl) rfl rfl (l' := #[oA a0_, oI 0, oI p2_, oA r4_r, oA b7, .unset, .unset]) rfl ?_
   refine XS.iconst X7.here hx rfl (oG hby d44 18 rfl) ?_
   refine XS.istore X7.here hx rfl (oG hby d44 19 rfl) rfl (l' := #[oA a0_, oI 0, oI p2_, oA r4_r, oA b7, oI 0, .unset]) rfl ?_
   show oZ p e below T7 (mkF m 33 #[oA a0_, oI 0, oI p2_, oA r4_r, oA b7, oI 0, .unset] []) _
   refine XS.iconst X7.here hx rfl (oG hby d44 20 rfl) ?_
   refine XS.istore X7.here hx rfl (oG hby d44 21 rfl) rfl (l' := #[oA a0_, oI 0, oI p2_, oA r4_r, oA b7, oI 0, oI 0]) rfl ?_
   refine XS.iload X7.here hx rfl (oG hby d44 22 rfl) rfl ?_
   refine XS.aloadN X7.here hx rfl (oG hby d44 23 rfl) rfl rfl ?_
   refine st10 _ ?_
   refine XS.icmpNo X10.here hx rfl (oG hby d44 25 rfl) rfl (tlt hf7).2.1 ?_
   refine XS.aloadN X10.here hx rfl (oG hby d44 26 rfl) rfl rfl ?_
   refine XS.iloadN X10.here hx rfl (oG hby d44 27 rfl) rfl ?_
   refine XS.aloadN X10.here hx rfl (oG hby d44 28 rfl) rfl rfl ?_
   refine XS.iloadN X10.here hx rfl (oG hby d44 29 rfl) rfl ?_
   refine XS.iload X10.here hx rfl (oG hby d44 30 rfl) rfl ?_
   show oZ p e below T10 (mkF m 51 #[oA a0_, oI 0, oI p2_, oA r4_r, oA b7, oI 0, oI 0] [(.int 0), (.int p2_), (.ref r4_r), (.int 0), (.ref a0_)]) _
   refine XS.iadd X10.here hx rfl (oG hby d44 31 rfl) rfl ?_
   refine XS.bipush X10.here hx rfl (oG hby d44 32 rfl) ?_
   refine iremM X10 hx rfl (oG hby d44 33 rfl) rfl (by decide +kernel) ?_
   refine XS.aload X10.here hx rfl (oG hby d44 34 rfl) rfl rfl ?_
   refine XS.iload X10.here hx rfl (oG hby d44 35 rfl) rfl ?_
   refine st11.trans ?_
   refine XS.istore X11.here hx rfl (oG hby d44 37 rfl) rfl (l' := #[oA a0_, oI 0, oI p2_, oA r4_r, oA b7, oI (Int32.ofNat (eJ aO aB ((p2_ + (0 : Int32)) % (10 : Int32)) (eA lx_ cx_) cx_ 0 0)), oI 0]) rfl ?_
   refine XS.iinc X11.here hx rfl (oG hby d44 38 rfl) rfl (l' := #[oA a0_, oI 0, oI p2_, oA r4_r, oA b7, oI (Int32.ofNat (eJ aO aB ((p2_ + (0 : Int32)) % (10 : Int32)) (eA lx_ cx_) cx_ 0 0)), oI ((0 : Int32) + (1 : Int32))]) rfl ?_
   show oZ p e below T11 (mkF m 67 #[oA a0_, oI 0, oI p2_, oA r4_r, oA b7, oI (Int32.ofNat (eJ aO aB ((p2_ + (0 : Int32)) % (10 : Int32)) (eA lx_ cx_) cx_ 0 0)), oI ((0 : Int32) + (1 : Int32))] []) _
   rw [(by decide +kernel : ((0 : Int32) + (1 : Int32)) = (1 : Int32))]
   refine XS.goto X11.here hx rfl (pc0 := 67) (pc' := 36) rfl (oG hby d44 39 rfl) (by decide) (by decide) ?_
   refine XS.iload X11.here hx rfl (oG hby d44 22 rfl) rfl ?_
   refine XS.aloadN X11.here hx rfl (oG hby d44 23 rfl) rfl rfl ?_
   refine st16 _ ?_
   refine XS.icmpYes X16.here hx rfl (pc0 := 42) (pc' := 70) rfl (oG hby d44 25 rfl) rfl (flt hf13).2.1 (by decide) (by decide) ?_
   refine XS.aload X16.here hx rfl (oG hby d44 40 rfl) rfl rfl ?_
   show oZ p e below T16 (mkF m 72 #[oA a0_, oI 0, oI p2_, oA r4_r, oA b7, oI (Int32.ofNat (eJ aO aB ((p2_ + (0 : Int32)) % (10 : Int32)) (eA lx_ cx_) cx_ 0 0)), oI 1] [(.ref b7)]) _
   jvm_step X16.here [X16.here.top, hx, (oG hby d44 41 rfl), X16.method', Bd.returns, Value.isRef, FieldType.isReference]
   first | (intro acts; rw [hr _ acts rfl rfl rfl]) | rw [hr _ _ rfl rfl rfl]
   exact Steps.refl _
 · show mO Z a0_ p2_ bF aB lx_ cx_ aR aO h0 n0 _ T16.heap _
   rw [e16]
   exact ⟨b7, rfl, N11, K11, wF, aD7, Q11_0⟩
def xX (Z : State) (a0_ : Addr) (p1_ : Int32) (cl_ : Nat) (bY : Int32) (w_START_ROWS : Addr) (n_w_START_ROWS : Int32) (vs_w_START_ROWS : List Int32) (bF : Int32) (aB : Int32) (aR : Int32) (aO : Int32) (lx_ : Nat) (cx_ : Nat) (h0 : Heap) (n0 : Nat) (v : Option Value) (h : Heap) (L : List Loc) : Prop := ∃ r4_b7 : Addr, v = some (.ref r4_b7) ∧ Fr n0 L ∧ Keep h0 h [] ∧ h0.size ≤ r4_b7 ∧ Exa Z h r4_b7 "[I" ∧ bC Z h r4_b7 aB
theorem aQ0 (l : Launch) (Z : State) (a0 : Array Value) (hw : oH a0 Z) (ws : List Jvm.Cond) (a0_ : Addr) (p1_ : Int32) (cl_ : Nat) (bY : Int32) (w_START_ROWS : Addr) (n_w_START_ROWS : Int32) (vs_w_START_ROWS : List Int32) (bF : Int32) (aB : Int32) (aR : Int32) (aO : Int32) (lx_ : Nat) (cx_ : Nat) (h0 : Heap) (n0 : Nat) (Z0 : n0 ≤ h0.size) (cX : Fld Z h0 a0_ oC0 "fitsInARow" "Z" (.int bY)) (S_START_ROWS : Sta Z h0 oC0 "START_ROWS" "[I" (.ref w_START_ROWS)) (A_w_START_ROWS : bB Z h0 w_START_ROWS n_w_START_ROWS vs_w_START_ROWS) (bU : Fld Z h0 a0_ oC0 "lots" "I" (.int bF)) (cQ : Fld Z h0 a0_ oC0 "subsetSize" "I" (.int aB)) (aQ : Fld Z h0 a0_ oC0 "ringBits" "I" (.int aR)) (bR : Exa Z h0 a0_ oC0) (cF : Fld Z h0 a0_ oC0 "backends" "I" (.int aO)) (hf0 : ¬ (p1_ < (0 : Int32))) (hf1 : (p1_ / (10 : Int32)) = (0 : Int32)) (hf2 : ¬ (bY = (0 : Int32))) (hf3 : ¬ ((p1_ % (10 : Int32)) < 0)) (hf4 : (p1_ % (10 : Int32)) < n_w_START_ROWS) (hf5 : (0 : Int32) < (lcmpW (bF.toInt64) ((aB.toInt64) + (1 : Int64)))) (hf6 : bF = Int32.ofNat lx_) (hf7 : aR = gQ lx_) (hf8 : (((aB.toInt64) + (1 : Int64)).toInt32) = Int32.ofNat cx_) (hf9 : gR lx_ cx_) (hf10 : ¬ (aB < 0)) (hf11 : aB.toNatClampNeg ≤ 32) (hf12 : (0 : Int32) < aB) (hf13 : (Int32.ofNat cx_) = Int32.ofNat cx_) (hf14 : cx_ ≤ 4) (hf15 : hY (eA lx_ cx_)) (hf16 : ¬ ((((vs_w_START_ROWS.getD ((p1_ % (10 : Int32))).toNatClampNeg 0) + (0 : Int32)) % (10 : Int32)) < 0)) (hf17 : (((vs_w_START_ROWS.getD ((p1_ % (10 : Int32))).toNatClampNeg 0) + (0 : Int32)) % (10 : Int32)) < (10 : Int32)) (hf18 : ¬ ((Int32.ofNat (eJ aO aB (((vs_w_START_ROWS.getD ((p1_ % (10 : Int32))).toNatClampNeg 0) + (0 : Int32)) % (10 : Int32)) (eA lx_ cx_) cx_ 0 0)) < aB)) :
   oMet l oM3 prog_29_method_2_code 5 (some (.array .int)) ws (oR 8 (10 + 2 * cl_) (80 + 11 * cl_) 230) Z h0 #[(.ref a0_), (.int p1_)] (xX Z a0_ p1_ cl_ bY w_START_ROWS n_w_START_ROWS vs_w_START_ROWS bF aB aR aO lx_ cx_ h0 n0) := by
 refine oBd n0 (plainFor_of_name eC) ?_
 intro p e s m below meth c s₁ Bd hx hZ hby hml hown hnm X0 e0 N0
 obtain ⟨T1, X1, e1, st1⟩ := getF X0 hx hZ hown (host := "") (Or.inl (oW hw 36 rfl)) Via.refl e0 cX (g := (mkF m 33 #[oA a0_, oI p1_, oI 0, oI (p1_ % (10 : Int32)), .unset] [(.ref a0_)])) rfl rfl (oG hby d8 13 rfl)
 obtain ⟨T2, X2, e2, st2⟩ := getS2 X1 hx hZ hown (host := "") (Or.inl (oW hw 133 rfl)) Via.refl e1 S_START_ROWS (g := (mkF m 86 #[oA a0_, oI p1_, oI 0, oI (p1_ % (10 : Int32)), .unset] [(.int 0), (.ref a0_)])) rfl (oG hby d8 25 rfl)
 obtain ⟨c3, A3, hin3, hat3⟩ := bS (j := (p1_ % (10 : Int32))) A_w_START_ROWS hf3 hf4
 have hat3' : c3.slots[((p1_ % (10 : Int32))).toNatClampNeg]? = some (.int (vs_w_START_ROWS.getD ((p1_ % (10 : Int32))).toNatClampNeg 0)) := hat3
 obtain ⟨cq4, q4, q4'⟩ := bR.cell
 obtain ⟨_, _, ⟨T4, L4, k4, n4⟩, -, X4, ⟨Lc4, hQ4, l4, y4, z4⟩, st4⟩ := X2.privateBack hx (y := oM18) hown (mvT hZ (oW hw 261 rfl)) (mvT hZ (oW hw 262 rfl)) (cG (mvT hZ (oW hw 15 rfl)) (mvP hZ (oW hw 263 rfl) (args := #[])) (mvT hZ (oW hw 262 rfl)) (by decide)) (Cond.privateMethod_at (mvP hZ (oW hw 263 rfl) (args := #[]))) (mvT hZ (oW hw 264 rfl)) (by decide) (backOf (W := 0) (tY l Z a0 hw [] a0_ (vs_w_START_ROWS.getD ((p1_ % (10 : Int32))).toNatClampNeg 0) bF aB lx_ cx_ aR aO h0 n0 Z0 bU cQ aQ bR cF hf5 hf6 hf7 hf8 hf9 hf10 hf11 hf12 hf13 hf14 hf15 hf16 hf17 hf18) hZ (oW hw 264 rfl) (oW hw 12 rfl) (Nat.le_of_ble_eq_true rfl) (Nat.le_of_ble_eq_true rfl)) (g := (mkF m 91 #[oA a0_, oI p1_, oI 0, oI (p1_ % (10 : Int32)), .unset] [(.int (vs_w_START_ROWS.getD ((p1_ % (10 : Int32))).toNatClampNeg 0)), (.int 0), (.ref a0_)])) rfl (by rw [hml]; rfl) (Steps.refl _) (a := a0_) (by rw [e2]; exact q4) q4' (argsL := [(.int 0), (.int (vs_w_START_ROWS.getD ((p1_ % (10 : Int32))).toNatClampNeg 0))]) (rest := []) (lenOf mX rfl) rfl (by show 2 * 0 + _ ≤ _; exact Nat.le_of_eq rfl) (oG hby d8 28 rfl) (fun _ _ => ⟨rfl, e2, (show 0 + 10 ≤ (10 + 2 * cl_) from by omega), (show 0 + 80 ≤ (80 + 11 * cl_) from by omega)⟩)
 dsimp only [Pt.U, Pt.locs, Pt.cells, Pt.slots] at X4 l4 y4 z4 st4 hQ4
 subst l4; rw [y4, z4] at X4
 obtain ⟨r4_b7, rfl, N4q, Kq4, lH, Q4_0, aP9⟩ := hQ4
 have N4 := Fr.app N0 N4q
 have yS : a0_ ≠ r4_b7 := oV cX.lt lH
 have nS : w_START_ROWS ≠ r4_b7 := oV A_w_START_ROWS.lt lH
 have lI : h0.size ≤ r4_b7 := Nat.le_trans (Keep.refl h0 []).1 lH
 have g_r4_b7 : n0 ≤ r4_b7 := Nat.le_trans Z0 lI
 have K4 : Keep h0 T4.heap [] := (Keep.refl h0 []).trans Kq4 dX
 obtain ⟨T5, L5, X5, N5, Kq5, V5, st5⟩ := wD X4 hx hZ hw hown (oW hw 202 rfl) rfl aP9 hf11 g_r4_b7 N4 (show 0 + 10 + 0 ≤ (10 + 2 * cl_) from by omega) (show 0 + 80 + 0 ≤ (80 + 11 * cl_) from by omega) (W := 0) (Nat.le_of_ble_eq_true rfl) (Nat.le_of_ble_eq_true rfl) (g := (mkF m 98 #[oA a0_, oI p1_, oI 0, oI (p1_ % (10 : Int32)), oA r4_b7] [(.ref r4_b7)])) rfl (by rw [hml]; rfl) rfl (by show 2 * 0 + _ ≤ _; exact Nat.le_of_eq rfl) (oG hby d8 31 rfl)
 have K5 : Keep h0 T5.heap [] := K4.trans Kq5 (bJ (Or.inr lI))
 have wH := (Q4_0.keep Kq5)
 obtain ⟨fs, hr, hrun, hended, hW, hsame⟩ := X5.leave (v := some (.ref r4_b7)) (fun h => by rw [Bd.returns] at h; cases h)
 refine ⟨_, _, castTop (uO m a0_ p1_) ?_, hrun, hended, _, _, rfl, ?_, ⟨_, rfl⟩, hW, (hsame.mono (show 0 + 10 + 0 ≤ (10 + 2 * cl_) from by omega) (show 0 + 80 + 0 ≤ (80 + 11 * cl_) from by omega))⟩
 · show oZ p e below s₁ (mkF m 0 #[oA a0_, oI p1_, .unset, .unset, .unset] []) _
   refine XS.iloadN X0.here hx rfl (oG hby d8 0 rfl) rfl ?_
   refine XS.ifYes X0.here hx rfl (pc0 := 1) (pc' := 18) rfl (oG hby d8 1 rfl) rfl ((if0 _ _).trans (flt hf0).2.1) (by decide) (by decide) ?_
   refine XS.iloadN X0.here hx rfl (oG hby d8 2 rfl) rfl ?_
   refine XS.bipush X0.here hx rfl (oG hby d8 3 rfl) ?_
   refine XS.idiv X0.here hx rfl (oG hby d8 4 rfl) rfl (by decide +kernel) ?_
   show oZ p e below s₁ (mkF m 22 #[oA a0_, oI p1_, .unset, .unset, .unset] [(.int (p1_ / (10 : Int32)))]) _
   rw [hf1]
   refine XS.istoreN X0.here hx rfl (oG hby d8 5 rfl) rfl (l' := #[oA a0_, oI p1_, oI 0, .unset, .unset]) rfl ?_
   refine XS.iloadN X0.here hx rfl (oG hby d8 6 rfl) rfl ?_
   refine XS.bipush X0.here hx rfl (oG hby d8 7 rfl) ?_
   refine iremM X0 hx rfl (oG hby d8 8 rfl) rfl (by decide +kernel) ?_
   refine XS.istoreN X0.here hx rfl (oG hby d8 9 rfl) rfl (l' := #[oA a0_, oI p1_, oI 0, oI (p1_ % (10 : Int32)), .unset]) rfl ?_
   refine XS.iloadN X0.here hx rfl (oG hby d8 10 rfl) rfl ?_
   refine XS.ifNo X0.here hx rfl (oG hby d8 11 rfl) rfl ((if0 _ _).trans (teq (rfl : (0 : Int32) = (0 : Int32))).2) ?_
   refine XS.aloadN X0.here hx rfl (oG hby d8 12 rfl) rfl rfl ?_
   refine st1 _ ?_
   refine XS.ifYes X1.here hx rfl (pc0 := 36) (pc' := 49) rfl (oG hby d8 14 rfl) rfl ((if0 _ _).trans (feq hf2).2) (by decide) (by decide) ?_
   show oZ p e below T1 (mkF m 49 #[oA a0_, oI p1_, oI 0, oI (p1_ % (10 : Int32)), .unset] []) _
   refine XS.iloadN X1.here hx rfl (oG hby d8 20 rfl) rfl ?_
   refine XS.iconst X1.here hx rfl (oG hby d8 21 rfl) ?_
   refine XS.icmpYes X1.here hx rfl (pc0 := 51) (pc' := 84) rfl (oG hby d8 22 rfl) rfl (feq (by decide +kernel : ¬ ((0 : Int32) = (1 : Int32)))).2 (by decide) (by decide) ?_
   refine XS.aloadN X1.here hx rfl (oG hby d8 23 rfl) rfl rfl ?_
   refine XS.iloadN X1.here hx rfl (oG hby d8 24 rfl) rfl ?_
   refine st2 _ ?_
   refine XS.iloadN X2.here hx rfl (oG hby d8 26 rfl) rfl ?_
   refine X2.iaload hx (j := (p1_ % (10 : Int32))) (v := (.int (vs_w_START_ROWS.getD ((p1_ % (10 : Int32))).toNatClampNeg 0))) (by rw [e2]; exact A3.1) (State.isArrayOf_alike hZ.alike A3.2.1) A3.2.2 hin3 hat3' (g := (mkF m 90 #[oA a0_, oI p1_, oI 0, oI (p1_ % (10 : Int32)), .unset] [(.int (p1_ % (10 : Int32))), (.ref w_START_ROWS), (.int 0), (.ref a0_)])) rfl rfl (oG hby d8 27 rfl) _ ?_
   refine st4.trans ?_
   refine XS.astore X4.here hx rfl (oG hby d8 29 rfl) rfl rfl (l' := #[oA a0_, oI p1_, oI 0, oI (p1_ % (10 : Int32)), oA r4_b7]) rfl ?_
   refine XS.aload X4.here hx rfl (oG hby d8 30 rfl) rfl rfl ?_
   show oZ p e below T4 (mkF m 98 #[oA a0_, oI p1_, oI 0, oI (p1_ % (10 : Int32)), oA r4_b7] [(.ref r4_b7)]) _
   refine st5 _ ?_
   refine XS.aload X5.here hx rfl (oG hby d8 32 rfl) rfl rfl ?_
   show oZ p e below T5 (mkF m 103 #[oA a0_, oI p1_, oI 0, oI (p1_ % (10 : Int32)), oA r4_b7] [(.ref r4_b7)]) _
   jvm_step X5.here [X5.here.top, hx, (oG hby d8 33 rfl), X5.method', Bd.returns, Value.isRef, FieldType.isReference]
   first | (intro acts; rw [hr _ acts rfl rfl rfl]) | rw [hr _ _ rfl rfl rfl]
   exact Steps.refl _
 · show xX Z a0_ p1_ cl_ bY w_START_ROWS n_w_START_ROWS vs_w_START_ROWS bF aB aR aO lx_ cx_ h0 n0 _ T5.heap _
   exact ⟨r4_b7, rfl, N5, K5, lI, wH, V5⟩
def wI (b n cli : Int32) (L cx : Nat) : Prop := ¬ ((cli % (10 : Int32)) < 0) ∧ (cli % (10 : Int32)) < (10 : Int32) ∧ ¬ ((0 : Int32) < (lcmpW ((Int32.ofNat L).toInt64) ((n.toInt64) + (1 : Int64)))) ∧ (((Int32.ofNat L).toInt64).toInt32) = Int32.ofNat cx ∧ gR L cx ∧ ¬ (n < 0) ∧ (0 : Int32) < n ∧ cx ≤ 4 ∧ ¬ ((((([0, 8, 2, 4, 6, 1, 9, 5, 3, 7] : List Int32).getD ((cli % (10 : Int32))).toNatClampNeg 0) + (0 : Int32)) % (10 : Int32)) < 0) ∧ (((([0, 8, 2, 4, 6, 1, 9, 5, 3, 7] : List Int32).getD ((cli % (10 : Int32))).toNatClampNeg 0) + (0 : Int32)) % (10 : Int32)) < (10 : Int32) ∧ ¬ ((Int32.ofNat (eJ b n (((([0, 8, 2, 4, 6, 1, 9, 5, 3, 7] : List Int32).getD ((cli % (10 : Int32))).toNatClampNeg 0) + (0 : Int32)) % (10 : Int32)) (eA L cx) cx 0 0)) < n)
def wJ (b n cli : Int32) (L cx : Nat) : Prop := ¬ ((cli % (10 : Int32)) < 0) ∧ (cli % (10 : Int32)) < (10 : Int32) ∧ (0 : Int32) < (lcmpW ((Int32.ofNat L).toInt64) ((n.toInt64) + (1 : Int64))) ∧ (((n.toInt64) + (1 : Int64)).toInt32) = Int32.ofNat cx ∧ gR L cx ∧ ¬ (n < 0) ∧ (0 : Int32) < n ∧ cx ≤ 4 ∧ ¬ ((((([0, 8, 2, 4, 6, 1, 9, 5, 3, 7] : List Int32).getD ((cli % (10 : Int32))).toNatClampNeg 0) + (0 : Int32)) % (10 : Int32)) < 0) ∧ (((([0, 8, 2, 4, 6, 1, 9, 5, 3, 7] : List Int32).getD ((cli % (10 : Int32))).toNatClampNeg 0) + (0 : Int32)) % (10 : Int32)) < (10 : Int32) ∧ ¬ ((Int32.ofNat (eJ b n (((([0, 8, 2, 4, 6, 1, 9, 5, 3, 7] : List Int32).getD ((cli % (10 : Int32))).toNatClampNeg 0) + (0 : Int32)) % (10 : Int32)) (eA L cx) cx 0 0)) < n)
def iC (b n cli ft : Int32) (L R cx cl : Nat) : Prop := ¬ (cli < (0 : Int32)) ∧ (cli / (10 : Int32)) = (0 : Int32) ∧ n.toNatClampNeg ≤ 32 ∧ ((ft = (0 : Int32) ∧ oY b n (cli % (10 : Int32)) L R cl) ∨ (ft = (1 : Int32) ∧ wI b n cli L cx) ∨ (ft = (1 : Int32) ∧ wJ b n cli L cx))
theorem aQ1 (l : Launch) (Z : State) (a0 : Array Value) (hw : oH a0 Z) (ws : List Jvm.Cond) (o0 : Addr) (cli : Int32) (o4 : Addr) (b n ft : Int32) (L R cx cl : Nat) (h0 : Heap) (n0 : Nat) (Z0 : n0 ≤ h0.size) (U : kN Z h0 o0 b n L ft) (Y : rC Z h0 o4) (ok : iC b n cli ft L R cx cl) :
   oMet l oM3 prog_29_method_2_code 5 (some (.array .int)) ws (oR 8 (10 + 2 * cl) (80 + 11 * cl) 230) Z h0 #[(.ref o0), (.int cli)] (aD6 Z n h0 n0) := by
 obtain ⟨c1, c2, c3, c4⟩ := ok
 rcases c4 with ⟨rfl, q⟩ | ⟨rfl, q⟩ | ⟨rfl, q⟩
 · exact dJ (aP7 l Z a0 hw ws o0 cli cl (0 : Int32) o4 b n (0 : Int32) L R h0 n0 Z0 U.2.2.2.2.2 U Y U.1 c1 c2 rfl q c3) fun v h Lc ⟨r, a1, a2, a3, a4, a5⟩ => ⟨r, a1, a2, a3, a4, a5⟩
 · obtain ⟨k0, k1, k2, k3, k4, k5, k6, k7, k8, k9, k10⟩ := q
   exact dJ (aP8 l Z a0 hw ws o0 cli cl (1 : Int32) o4 (10 : Int32) ([0, 8, 2, 4, 6, 1, 9, 5, 3, 7] : List Int32) (Int32.ofNat L) n (gQ L) b L cx h0 n0 Z0 U.2.2.2.2.2 Y.1 Y.2.1 U.2.2.2.1 U.2.2.1 U.2.2.2.2.1 U.1 U.2.1 c1 c2 (by decide) k0 k1 k2 rfl rfl k3 k4 k5 c3 k6 rfl k7 (pA _ _) k8 k9 k10) fun v h Lc ⟨r, a1, a2, a3, a4, a5, a6⟩ => ⟨r, a1, a2, a3, a4, a6⟩
 · obtain ⟨k0, k1, k2, k3, k4, k5, k6, k7, k8, k9, k10⟩ := q
   exact dJ (aQ0 l Z a0 hw ws o0 cli cl (1 : Int32) o4 (10 : Int32) ([0, 8, 2, 4, 6, 1, 9, 5, 3, 7] : List Int32) (Int32.ofNat L) n (gQ L) b L cx h0 n0 Z0 U.2.2.2.2.2 Y.1 Y.2.1 U.2.2.2.1 U.2.2.1 U.2.2.2.2.1 U.1 U.2.1 c1 c2 (by decide) k0 k1 k2 rfl rfl k3 k4 k5 c3 k6 rfl k7 (pA _ _) k8 k9 k10) fun v h Lc ⟨r, a1, a2, a3, a4, a5, a6⟩ => ⟨r, a1, a2, a3, a4, a6⟩
theorem aQ2 (rc : Nat) (rs : Nat) (o0_ : Addr) (o1_ : Addr) (o2_ : Addr) (o3_ : Addr) (i4_ : Int32) (i5_ : Int32) (i6_ : Int32) (i7_ : Int32) (eY : Int32) (dD : List Int32) (dG : Int32) (aU : List Int32) (lP : Int32) (k5_ : Int32) (k6_ : Int32)
   (X0 : Stand p l e (oR 4 rc rs 150) s m args below meth c T0 locs cells slots) (hx : p.tables.exec = Jvm.exec) (hZ : Z.Warmed39 s.vm) (hw : oH a0 Z) (hby : c.code = prog_28_method_2_code) (hml : c.maxLocals = 8) (hown : s.vm.findClass oC4 = some m.cls) (e0 : T0.heap = h0) (N0 : Fr n0 locs) (Z0 : n0 ≤ h0.size) (gS : bB Z h0 o0_ eY dD) (fQ : bB Z h0 o1_ dG aU) (wK : bC Z h0 o3_ lP) (rS : n0 ≤ o3_) (hf0 : i6_ < eY) (hf1 : ¬ (i7_ = dG)) (hf2 : ¬ (i6_ < 0)) (hf3 : ¬ (i7_ < 0)) (hf4 : i7_ < dG) (hf5 : (dD.getD (i6_).toNatClampNeg 0) < (aU.getD (i7_).toNatClampNeg 0)) (hf6 : ¬ (i5_ < 0)) (hf7 : i5_ < lP) (hf8 : (i5_ + (1 : Int32)) = k5_) (hf9 : (i6_ + (1 : Int32)) = k6_) (hc : cells + (0) ≤ rc) (hs : slots + (0) ≤ rs) :
   ∃ (T' : State) (locs' : List Loc), Stand p l e (oR 4 rc rs 150) s m args below meth c T' locs' cells slots ∧ Fr n0 locs' ∧ Keep h0 T'.heap [o3_] ∧ bC Z T'.heap o3_ lP ∧
     ∀ target, Steps p.tables e below (T'.setTop (mkF m 22 #[oA o0_, oA o1_, oA o2_, oA o3_, oI i4_, oI k5_, oI k6_, oI i7_] [])) target → Steps p.tables e below (T0.setTop (mkF m 22 #[oA o0_, oA o1_, oA o2_, oA o3_, oI i4_, oI i5_, oI i6_, oI i7_] [])) target := by
 obtain ⟨c1, A1, S1, M1⟩ := bV gS
 obtain ⟨c2, A2, S2, M2⟩ := bV fQ
 obtain ⟨c3, A3, S3, M3⟩ := bV gS
 obtain ⟨c4, A4, hin4, hat4⟩ := bS (j := i6_) gS hf2 hf0
 have hat4' : c4.slots[(i6_).toNatClampNeg]? = some (.int (dD.getD (i6_).toNatClampNeg 0)) := hat4
 obtain ⟨c5, A5, hin5, hat5⟩ := bS (j := i7_) fQ hf3 hf4
 have hat5' : c5.slots[(i7_).toNatClampNeg]? = some (.int (aU.getD (i7_).toNatClampNeg 0)) := hat5
 obtain ⟨c6, A6, hin6, hat6⟩ := bS (j := i6_) gS hf2 hf0
 have hat6' : c6.slots[(i6_).toNatClampNeg]? = some (.int (dD.getD (i6_).toNatClampNeg 0)) := hat6
 obtain ⟨c7, z7, A7, hin7, -⟩ := iF (j := i5_) wK hf6 hf7
 obtain ⟨T8, h8, X8, e8, W8, st8⟩ := stI X0 hx hZ e0 A7 (j := i5_) hin7 (g := (mkF m 68 #[oA o0_, oA o1_, oA o2_, oA o3_, oI i4_, oI i5_, oI i6_, oI i7_] [(.int (dD.getD (i6_).toNatClampNeg 0)), (.int i5_), (.ref o3_)])) rfl rfl (oG hby d38 44 rfl)
 have V8 := iG wK hf6 hf7 W8
 have K8 : Keep h0 h8 [o3_] := (Keep.refl h0 [o3_]).wr W8 (Or.inl (oX 0 rfl))
 have N8 := Fr.snoc X8 N0 rS
 subst e8
 refine ⟨T8, _, X8, N8, K8, V8, fun target kt => ?_⟩
 show oZ p e below T0 (mkF m 22 #[oA o0_, oA o1_, oA o2_, oA o3_, oI i4_, oI i5_, oI i6_, oI i7_] []) _
 refine XS.iload X0.here hx rfl (oG hby d38 16 rfl) rfl ?_
 refine XS.aloadN X0.here hx rfl (oG hby d38 17 rfl) rfl rfl ?_
 refine X0.arraylength hx (by rw [e0]; exact A1.1) (State.isArrayOf_alike hZ.alike A1.2.1) (g := (mkF m 25 #[oA o0_, oA o1_, oA o2_, oA o3_, oI i4_, oI i5_, oI i6_, oI i7_] [(.ref o0_), (.int i6_)])) rfl rfl (oG hby d38 18 rfl) _ ?_
 rw [len_of S1 M1]
 refine XS.icmpYes X0.here hx rfl (pc0 := 26) (pc' := 36) rfl (oG hby d38 19 rfl) rfl (tlt hf0).1 (by decide) (by decide) ?_
 refine XS.iload X0.here hx rfl (oG hby d38 24 rfl) rfl ?_
 refine XS.aloadN X0.here hx rfl (oG hby d38 25 rfl) rfl rfl ?_
 refine X0.arraylength hx (by rw [e0]; exact A2.1) (State.isArrayOf_alike hZ.alike A2.2.1) (g := (mkF m 39 #[oA o0_, oA o1_, oA o2_, oA o3_, oI i4_, oI i5_, oI i6_, oI i7_] [(.ref o1_), (.int i7_)])) rfl rfl (oG hby d38 26 rfl) _ ?_
 rw [len_of S2 M2]
 refine XS.icmpNo X0.here hx rfl (oG hby d38 27 rfl) rfl (feq hf1).1 ?_
 refine XS.iload X0.here hx rfl (oG hby d38 28 rfl) rfl ?_
 refine XS.aloadN X0.here hx rfl (oG hby d38 29 rfl) rfl rfl ?_
 refine X0.arraylength hx (by rw [e0]; exact A3.1) (State.isArrayOf_alike hZ.alike A3.2.1) (g := (mkF m 46 #[oA o0_, oA o1_, oA o2_, oA o3_, oI i4_, oI i5_, oI i6_, oI i7_] [(.ref o0_), (.int i6_)])) rfl rfl (oG hby d38 30 rfl) _ ?_
 rw [len_of S3 M3]
 show oZ p e below T0 (mkF m 47 #[oA o0_, oA o1_, oA o2_, oA o3_, oI i4_, oI i5_, oI i6_, oI i7_] [(.int eY), (.int i6_)]) _
 refine XS.icmpNo X0.here hx rfl (oG hby d38 31 rfl) rfl (tlt hf0).2.1 ?_
 refine XS.aloadN X0.here hx rfl (oG hby d38 32 rfl) rfl rfl ?_
 refine XS.iload X0.here hx rfl (oG hby d38 33 rfl) rfl ?_
 refine X0.iaload hx (j := i6_) (v := (.int (dD.getD (i6_).toNatClampNeg 0))) (by rw [e0]; exact A4.1) (State.isArrayOf_alike hZ.alike A4.2.1) A4.2.2 hin4 hat4' (g := (mkF m 53 #[oA o0_, oA o1_, oA o2_, oA o3_, oI i4_, oI i5_, oI i6_, oI i7_] [(.int i6_), (.ref o0_)])) rfl rfl (oG hby d38 34 rfl) _ ?_
 refine XS.aloadN X0.here hx rfl (oG hby d38 35 rfl) rfl rfl ?_
 refine XS.iload X0.here hx rfl (oG hby d38 36 rfl) rfl ?_
 refine X0.iaload hx (j := i7_) (v := (.int (aU.getD (i7_).toNatClampNeg 0))) (by rw [e0]; exact A5.1) (State.isArrayOf_alike hZ.alike A5.2.1) A5.2.2 hin5 hat5' (g := (mkF m 57 #[oA o0_, oA o1_, oA o2_, oA o3_, oI i4_, oI i5_, oI i6_, oI i7_] [(.int i7_), (.ref o1_), (.int (dD.getD (i6_).toNatClampNeg 0))])) rfl rfl (oG hby d38 37 rfl) _ ?_
 refine XS.icmpNo X0.here hx rfl (oG hby d38 38 rfl) rfl (tlt hf5).2.1 ?_
 refine XS.aloadN X0.here hx rfl (oG hby d38 39 rfl) rfl rfl ?_
 refine XS.iload X0.here hx rfl (oG hby d38 40 rfl) rfl ?_
 refine XS.aloadN X0.here hx rfl (oG hby d38 41 rfl) rfl rfl ?_
 show oZ p e below T0 (mkF m 65 #[oA o0_, oA o1_, oA o2_, oA o3_, oI i4_, oI i5_, oI i6_, oI i7_] [(.ref o0_), (.int i5_), (.ref o3_)]) _
 refine XS.iload X0.here hx rfl (oG hby d38 42 rfl) rfl ?_
 refine X0.iaload hx (j := i6_) (v := (.int (dD.getD (i6_).toNatClampNeg 0))) (by rw [e0]; exact A6.1) (State.isArrayOf_alike hZ.alike A6.2.1) A6.2.2 hin6 hat6' (g := (mkF m 67 #[oA o0_, oA o1_, oA o2_, oA o3_, oI i4_, oI i5_, oI i6_, oI i7_] [(.int i6_), (.ref o0_), (.int i5_), (.ref o3_)])) rfl rfl (oG hby d38 43 rfl) _ ?_
 refine st8 _ ?_
 refine XS.iinc X8.here hx rfl (oG hby d38 45 rfl) rfl (l' := #[oA o0_, oA o1_, oA o2_, oA o3_, oI i4_, oI (i5_ + (1 : Int32)), oI i6_, oI i7_]) rfl ?_
 show oZ p e below T8 (mkF m 72 #[oA o0_, oA o1_, oA o2_, oA o3_, oI i4_, oI (i5_ + (1 : Int32)), oI i6_, oI i7_] []) _
 rw [hf8]
 refine XS.iinc X8.here hx rfl (oG hby d38 46 rfl) rfl (l' := #[oA o0_, oA o1_, oA o2_, oA o3_, oI i4_, oI k5_, oI (i6_ + (1 : Int32)), oI i7_]) rfl ?_
 show oZ p e below T8 (mkF m 75 #[oA o0_, oA o1_, oA o2_, oA o3_, oI i4_, oI k5_, oI (i6_ + (1 : Int32)), oI i7_] []) _
 rw [hf9]
 refine XS.goto X8.here hx rfl (pc0 := 75) (pc' := 22) rfl (oG hby d38 47 rfl) (by decide) (by decide) ?_
 exact kt
theorem aQ3 (rc : Nat) (rs : Nat) (o0_ : Addr) (o1_ : Addr) (o2_ : Addr) (o3_ : Addr) (i4_ : Int32) (i5_ : Int32) (i6_ : Int32) (i7_ : Int32) (eY : Int32) (dD : List Int32) (dG : Int32) (aU : List Int32) (lP : Int32) (k5_ : Int32) (k6_ : Int32)
   (X0 : Stand p l e (oR 4 rc rs 150) s m args below meth c T0 locs cells slots) (hx : p.tables.exec = Jvm.exec) (hZ : Z.Warmed39 s.vm) (hw : oH a0 Z) (hby : c.code = prog_28_method_2_code) (hml : c.maxLocals = 8) (hown : s.vm.findClass oC4 = some m.cls) (e0 : T0.heap = h0) (N0 : Fr n0 locs) (Z0 : n0 ≤ h0.size) (gS : bB Z h0 o0_ eY dD) (fQ : bB Z h0 o1_ dG aU) (wK : bC Z h0 o3_ lP) (rS : n0 ≤ o3_) (hf0 : i6_ < eY) (hf1 : i7_ = dG) (hf2 : ¬ (i6_ < 0)) (hf3 : ¬ (i5_ < 0)) (hf4 : i5_ < lP) (hf5 : (i5_ + (1 : Int32)) = k5_) (hf6 : (i6_ + (1 : Int32)) = k6_) (hc : cells + (0) ≤ rc) (hs : slots + (0) ≤ rs) :
   ∃ (T' : State) (locs' : List Loc), Stand p l e (oR 4 rc rs 150) s m args below meth c T' locs' cells slots ∧ Fr n0 locs' ∧ Keep h0 T'.heap [o3_] ∧ bC Z T'.heap o3_ lP ∧
     ∀ target, Steps p.tables e below (T'.setTop (mkF m 22 #[oA o0_, oA o1_, oA o2_, oA o3_, oI i4_, oI k5_, oI k6_, oI i7_] [])) target → Steps p.tables e below (T0.setTop (mkF m 22 #[oA o0_, oA o1_, oA o2_, oA o3_, oI i4_, oI i5_, oI i6_, oI i7_] [])) target := by
 obtain ⟨c1, A1, S1, M1⟩ := bV gS
 obtain ⟨c2, A2, S2, M2⟩ := bV fQ
 obtain ⟨c3, A3, hin3, hat3⟩ := bS (j := i6_) gS hf2 hf0
 have hat3' : c3.slots[(i6_).toNatClampNeg]? = some (.int (dD.getD (i6_).toNatClampNeg 0)) := hat3
 obtain ⟨c4, z4, A4, hin4, -⟩ := iF (j := i5_) wK hf3 hf4
 obtain ⟨T5, h5, X5, e5, W5, st5⟩ := stI X0 hx hZ e0 A4 (j := i5_) hin4 (g := (mkF m 68 #[oA o0_, oA o1_, oA o2_, oA o3_, oI i4_, oI i5_, oI i6_, oI i7_] [(.int (dD.getD (i6_).toNatClampNeg 0)), (.int i5_), (.ref o3_)])) rfl rfl (oG hby d38 44 rfl)
 have V5 := iG wK hf3 hf4 W5
 have K5 : Keep h0 h5 [o3_] := (Keep.refl h0 [o3_]).wr W5 (Or.inl (oX 0 rfl))
 have N5 := Fr.snoc X5 N0 rS
 subst e5
 refine ⟨T5, _, X5, N5, K5, V5, fun target kt => ?_⟩
 show oZ p e below T0 (mkF m 22 #[oA o0_, oA o1_, oA o2_, oA o3_, oI i4_, oI i5_, oI i6_, oI i7_] []) _
 refine XS.iload X0.here hx rfl (oG hby d38 16 rfl) rfl ?_
 refine XS.aloadN X0.here hx rfl (oG hby d38 17 rfl) rfl rfl ?_
 refine X0.arraylength hx (by rw [e0]; exact A1.1) (State.isArrayOf_alike hZ.alike A1.2.1) (g := (mkF m 25 #[oA o0_, oA o1_, oA o2_, oA o3_, oI i4_, oI i5_, oI i6_, oI i7_] [(.ref o0_), (.int i6_)])) rfl rfl (oG hby d38 18 rfl) _ ?_
 rw [len_of S1 M1]
 refine XS.icmpYes X0.here hx rfl (pc0 := 26) (pc' := 36) rfl (oG hby d38 19 rfl) rfl (tlt hf0).1 (by decide) (by decide) ?_
 refine XS.iload X0.here hx rfl (oG hby d38 24 rfl) rfl ?_
 refine XS.aloadN X0.here hx rfl (oG hby d38 25 rfl) rfl rfl ?_
 refine X0.arraylength hx (by rw [e0]; exact A2.1) (State.isArrayOf_alike hZ.alike A2.2.1) (g := (mkF m 39 #[oA o0_, oA o1_, oA o2_, oA o3_, oI i4_, oI i5_, oI i6_, oI i7_] [(.ref o1_), (.int i7_)])) rfl rfl (oG hby d38 26 rfl) _ ?_
 rw [len_of S2 M2]
 refine XS.icmpYes X0.here hx rfl (pc0 := 40) (pc' := 61) rfl (oG hby d38 27 rfl) rfl (teq hf1).1 (by decide) (by decide) ?_
 refine XS.aloadN X0.here hx rfl (oG hby d38 39 rfl) rfl rfl ?_
 refine XS.iload X0.here hx rfl (oG hby d38 40 rfl) rfl ?_
 refine XS.aloadN X0.here hx rfl (oG hby d38 41 rfl) rfl rfl ?_
 show oZ p e below T0 (mkF m 65 #[oA o0_, oA o1_, oA o2_, oA o3_, oI i4_, oI i5_, oI i6_, oI i7_] [(.ref o0_), (.int i5_), (.ref o3_)]) _
 refine XS.iload X0.here hx rfl (oG hby d38 42 rfl) rfl ?_
 refine X0.iaload hx (j := i6_) (v := (.int (dD.getD (i6_).toNatClampNeg 0))) (by rw [e0]; exact A3.1) (State.isArrayOf_alike hZ.alike A3.2.1) A3.2.2 hin3 hat3' (g := (mkF m 67 #[oA o0_, oA o1_, oA o2_, oA o3_, oI i4_, oI i5_, oI i6_, oI i7_] [(.int i6_), (.ref o0_), (.int i5_), (.ref o3_)])) rfl rfl (oG hby d38 43 rfl) _ ?_
 refine st5 _ ?_
 refine XS.iinc X5.here hx rfl (oG hby d38 45 rfl) rfl (l' := #[oA o0_, oA o1_, oA o2_, oA o3_, oI i4_, oI (i5_ + (1 : Int32)), oI i6_, oI i7_]) rfl ?_
 show oZ p e below T5 (mkF m 72 #[oA o0_, oA o1_, oA o2_, oA o3_, oI i4_, oI (i5_ + (1 : Int32)), oI i6_, oI i7_] []) _
 rw [hf5]
 refine XS.iinc X5.here hx rfl (oG hby d38 46 rfl) rfl (l' := #[oA o0_, oA o1_, oA o2_, oA o3_, oI i4_, oI k5_, oI (i6_ + (1 : Int32)), oI i7_]) rfl ?_
 show oZ p e below T5 (mkF m 75 #[oA o0_, oA o1_, oA o2_, oA o3_, oI i4_, oI k5_, oI (i6_ + (1 : Int32)), oI i7_] []) _
 rw [hf6]
 refine XS.goto X5.here hx rfl (pc0 := 75) (pc' := 22) rfl (oG hby d38 47 rfl) (by decide) (by decide) ?_
 exact kt
theorem aQ4 (rc : Nat) (rs : Nat) (o0_ : Addr) (o1_ : Addr) (o2_ : Addr) (o3_ : Addr) (i4_ : Int32) (i5_ : Int32) (i6_ : Int32) (i7_ : Int32) (eY : Int32) (dD : List Int32) (dG : Int32) (aU : List Int32) (cT : Int32) (k4_ : Int32) (k7_ : Int32)
   (X0 : Stand p l e (oR 4 rc rs 150) s m args below meth c T0 locs cells slots) (hx : p.tables.exec = Jvm.exec) (hZ : Z.Warmed39 s.vm) (hw : oH a0 Z) (hby : c.code = prog_28_method_2_code) (hml : c.maxLocals = 8) (hown : s.vm.findClass oC4 = some m.cls) (e0 : T0.heap = h0) (N0 : Fr n0 locs) (Z0 : n0 ≤ h0.size) (gS : bB Z h0 o0_ eY dD) (fQ : bB Z h0 o1_ dG aU) (gL : bC Z h0 o2_ cT) (nZ : n0 ≤ o2_) (hf0 : i6_ < eY) (hf1 : ¬ (i7_ = dG)) (hf2 : ¬ (i6_ < 0)) (hf3 : ¬ (i7_ < 0)) (hf4 : i7_ < dG) (hf5 : ¬ ((dD.getD (i6_).toNatClampNeg 0) < (aU.getD (i7_).toNatClampNeg 0))) (hf6 : ¬ (i6_ = eY)) (hf7 : (aU.getD (i7_).toNatClampNeg 0) < (dD.getD (i6_).toNatClampNeg 0)) (hf8 : ¬ (i4_ < 0)) (hf9 : i4_ < cT) (hf10 : (i4_ + (1 : Int32)) = k4_) (hf11 : (i7_ + (1 : Int32)) = k7_) (hc : cells + (0) ≤ rc) (hs : slots + (0) ≤ rs) :
   ∃ (T' : State) (locs' : List Loc), Stand p l e (oR 4 rc rs 150) s m args below meth c T' locs' cells slots ∧ Fr n0 locs' ∧ Keep h0 T'.heap [o2_] ∧ bC Z T'.heap o2_ cT ∧
     ∀ target, Steps p.tables e below (T'.setTop (mkF m 22 #[oA o0_, oA o1_, oA o2_, oA o3_, oI k4_, oI i5_, oI i6_, oI k7_] [])) target → Steps p.tables e below (T0.setTop (mkF m 22 #[oA o0_, oA o1_, oA o2_, oA o3_, oI i4_, oI i5_, oI i6_, oI i7_] [])) target := by
 obtain ⟨c1, A1, S1, M1⟩ := bV gS
 obtain ⟨c2, A2, S2, M2⟩ := bV fQ
 obtain ⟨c3, A3, S3, M3⟩ := bV gS
 obtain ⟨c4, A4, hin4, hat4⟩ := bS (j := i6_) gS hf2 hf0
 have hat4' : c4.slots[(i6_).toNatClampNeg]? = some (.int (dD.getD (i6_).toNatClampNeg 0)) := hat4
 obtain ⟨c5, A5, hin5, hat5⟩ := bS (j := i7_) fQ hf3 hf4
 have hat5' : c5.slots[(i7_).toNatClampNeg]? = some (.int (aU.getD (i7_).toNatClampNeg 0)) := hat5
 obtain ⟨c6, A6, S6, M6⟩ := bV gS
 obtain ⟨c7, A7, hin7, hat7⟩ := bS (j := i7_) fQ hf3 hf4
 have hat7' : c7.slots[(i7_).toNatClampNeg]? = some (.int (aU.getD (i7_).toNatClampNeg 0)) := hat7
 obtain ⟨c8, A8, hin8, hat8⟩ := bS (j := i6_) gS hf2 hf0
 have hat8' : c8.slots[(i6_).toNatClampNeg]? = some (.int (dD.getD (i6_).toNatClampNeg 0)) := hat8
 obtain ⟨c9, A9, hin9, hat9⟩ := bS (j := i7_) fQ hf3 hf4
 have hat9' : c9.slots[(i7_).toNatClampNeg]? = some (.int (aU.getD (i7_).toNatClampNeg 0)) := hat9
 obtain ⟨c10, z10, A10, hin10, -⟩ := iF (j := i4_) gL hf8 hf9
 obtain ⟨T11, h11, X11, e11, W11, st11⟩ := stI X0 hx hZ e0 A10 (j := i4_) hin10 (g := (mkF m 103 #[oA o0_, oA o1_, oA o2_, oA o3_, oI i4_, oI i5_, oI i6_, oI i7_] [(.int (aU.getD (i7_).toNatClampNeg 0)), (.int i4_), (.ref o2_)])) rfl rfl (oG hby d38 64 rfl)
 have V11 := iG gL hf8 hf9 W11
 have K11 : Keep h0 h11 [o2_] := (Keep.refl h0 [o2_]).wr W11 (Or.inl (oX 0 rfl))
 have N11 := Fr.snoc X11 N0 nZ
 subst e11
 refine ⟨T11, _, X11, N11, K11, V11, fun target kt => ?_⟩
 show oZ p e below T0 (mkF m 22 #[oA o0_, oA o1_, oA o2_, oA o3_, oI i4_, oI i5_, oI i6_, oI i7_] []) _
 refine XS.iload X0.here hx rfl (oG hby d38 16 rfl) rfl ?_
 refine XS.aloadN X0.here hx rfl (oG hby d38 17 rfl) rfl rfl ?_
 refine X0.arraylength hx (by rw [e0]; exact A1.1) (State.isArrayOf_alike hZ.alike A1.2.1) (g := (mkF m 25 #[oA o0_, oA o1_, oA o2_, oA o3_, oI i4_, oI i5_, oI i6_, oI i7_] [(.ref o0_), (.int i6_)])) rfl rfl (oG hby d38 18 rfl) _ ?_
 rw [len_of S1 M1]
 refine XS.icmpYes X0.here hx rfl (pc0 := 26) (pc' := 36) rfl (oG hby d38 19 rfl) rfl (tlt hf0).1 (by decide) (by decide) ?_
 refine XS.iload X0.here hx rfl (oG hby d38 24 rfl) rfl ?_
 refine XS.aloadN X0.here hx rfl (oG hby d38 25 rfl) rfl rfl ?_
 refine X0.arraylength hx (by rw [e0]; exact A2.1) (State.isArrayOf_alike hZ.alike A2.2.1) (g := (mkF m 39 #[oA o0_, oA o1_, oA o2_, oA o3_, oI i4_, oI i5_, oI i6_, oI i7_] [(.ref o1_), (.int i7_)])) rfl rfl (oG hby d38 26 rfl) _ ?_
 rw [len_of S2 M2]
 refine XS.icmpNo X0.here hx rfl (oG hby d38 27 rfl) rfl (feq hf1).1 ?_
 refine XS.iload X0.here hx rfl (oG hby d38 28 rfl) rfl ?_
 refine XS.aloadN X0.here hx rfl (oG hby d38 29 rfl) rfl rfl ?_
 refine X0.arraylength hx (by rw [e0]; exact A3.1) (State.isArrayOf_alike hZ.alike A3.2.1) (g := (mkF m 46 #[oA o0_, oA o1_, oA o2_, oA o3_, oI i4_, oI i5_, oI i6_, oI i7_] [(.ref o0_), (.int i6_)])) rfl rfl (oG hby d38 30 rfl) _ ?_
 rw [len_of S3 M3]
 show oZ p e below T0 (mkF m 47 #[oA o0_, oA o1_, oA o2_, oA o3_, oI i4_, oI i5_, oI i6_, oI i7_] [(.int eY), (.int i6_)]) _
 refine XS.icmpNo X0.here hx rfl (oG hby d38 31 rfl) rfl (tlt hf0).2.1 ?_
 refine XS.aloadN X0.here hx rfl (oG hby d38 32 rfl) rfl rfl ?_
 refine XS.iload X0.here hx rfl (oG hby d38 33 rfl) rfl ?_
 refine X0.iaload hx (j := i6_) (v := (.int (dD.getD (i6_).toNatClampNeg 0))) (by rw [e0]; exact A4.1) (State.isArrayOf_alike hZ.alike A4.2.1) A4.2.2 hin4 hat4' (g := (mkF m 53 #[oA o0_, oA o1_, oA o2_, oA o3_, oI i4_, oI i5_, oI i6_, oI i7_] [(.int i6_), (.ref o0_)])) rfl rfl (oG hby d38 34 rfl) _ ?_
 refine XS.aloadN X0.here hx rfl (oG hby d38 35 rfl) rfl rfl ?_
 refine XS.iload X0.here hx rfl (oG hby d38 36 rfl) rfl ?_
 refine X0.iaload hx (j := i7_) (v := (.int (aU.getD (i7_).toNatClampNeg 0))) (by rw [e0]; exact A5.1) (State.isArrayOf_alike hZ.alike A5.2.1) A5.2.2 hin5 hat5' (g := (mkF m 57 #[oA o0_, oA o1_, oA o2_, oA o3_, oI i4_, oI i5_, oI i6_, oI i7_] [(.int i7_), (.ref o1_), (.int (dD.getD (i6_).toNatClampNeg 0))])) rfl rfl (oG hby d38 37 rfl) _ ?_
 refine XS.icmpYes X0.here hx rfl (pc0 := 58) (pc' := 78) rfl (oG hby d38 38 rfl) rfl (flt hf5).2.1 (by decide) (by decide) ?_
 refine XS.iload X0.here hx rfl (oG hby d38 48 rfl) rfl ?_
 refine XS.aloadN X0.here hx rfl (oG hby d38 49 rfl) rfl rfl ?_
 refine X0.arraylength hx (by rw [e0]; exact A6.1) (State.isArrayOf_alike hZ.alike A6.2.1) (g := (mkF m 81 #[oA o0_, oA o1_, oA o2_, oA o3_, oI i4_, oI i5_, oI i6_, oI i7_] [(.ref o0_), (.int i6_)])) rfl rfl (oG hby d38 50 rfl) _ ?_
 rw [len_of S6 M6]
 show oZ p e below T0 (mkF m 82 #[oA o0_, oA o1_, oA o2_, oA o3_, oI i4_, oI i5_, oI i6_, oI i7_] [(.int eY), (.int i6_)]) _
 refine XS.icmpNo X0.here hx rfl (oG hby d38 51 rfl) rfl (feq hf6).1 ?_
 refine XS.aloadN X0.here hx rfl (oG hby d38 52 rfl) rfl rfl ?_
 refine XS.iload X0.here hx rfl (oG hby d38 53 rfl) rfl ?_
 refine X0.iaload hx (j := i7_) (v := (.int (aU.getD (i7_).toNatClampNeg 0))) (by rw [e0]; exact A7.1) (State.isArrayOf_alike hZ.alike A7.2.1) A7.2.2 hin7 hat7' (g := (mkF m 88 #[oA o0_, oA o1_, oA o2_, oA o3_, oI i4_, oI i5_, oI i6_, oI i7_] [(.int i7_), (.ref o1_)])) rfl rfl (oG hby d38 54 rfl) _ ?_
 refine XS.aloadN X0.here hx rfl (oG hby d38 55 rfl) rfl rfl ?_
 refine XS.iload X0.here hx rfl (oG hby d38 56 rfl) rfl ?_
 refine X0.iaload hx (j := i6_) (v := (.int (dD.getD (i6_).toNatClampNeg 0))) (by rw [e0]; exact A8.1) (State.isArrayOf_alike hZ.alike A8.2.1) A8.2.2 hin8 hat8' (g := (mkF m 92 #[oA o0_, oA o1_, oA o2_, oA o3_, oI i4_, oI i5_, oI i6_, oI i7_] [(.int i6_), (.ref o0_), (.int (aU.getD (i7_).toNatClampNeg 0))])) rfl rfl (oG hby d38 57 rfl) _ ?_
 refine XS.icmpNo X0.here hx rfl (oG hby d38 58 rfl) rfl (tlt hf7).2.1 ?_
 refine XS.aloadN X0.here hx rfl (oG hby d38 59 rfl) rfl rfl ?_
 refine XS.iload X0.here hx rfl (oG hby d38 60 rfl) rfl ?_
 refine XS.aloadN X0.here hx rfl (oG hby d38 61 rfl) rfl rfl ?_
 show oZ p e below T0 (mkF m 100 #[oA o0_, oA o1_, oA o2_, oA o3_, oI i4_, oI i5_, oI i6_, oI i7_] [(.ref o1_), (.int i4_), (.ref o2_)]) _
 refine XS.iload X0.here hx rfl (oG hby d38 62 rfl) rfl ?_
 refine X0.iaload hx (j := i7_) (v := (.int (aU.getD (i7_).toNatClampNeg 0))) (by rw [e0]; exact A9.1) (State.isArrayOf_alike hZ.alike A9.2.1) A9.2.2 hin9 hat9' (g := (mkF m 102 #[oA o0_, oA o1_, oA o2_, oA o3_, oI i4_, oI i5_, oI i6_, oI i7_] [(.int i7_), (.ref o1_), (.int i4_), (.ref o2_)])) rfl rfl (oG hby d38 63 rfl) _ ?_
 refine st11 _ ?_
 refine XS.iinc X11.here hx rfl (oG hby d38 65 rfl) rfl (l' := #[oA o0_, oA o1_, oA o2_, oA o3_, oI (i4_ + (1 : Int32)), oI i5_, oI i6_, oI i7_]) rfl ?_
 show oZ p e below T11 (mkF m 107 #[oA o0_, oA o1_, oA o2_, oA o3_, oI (i4_ + (1 : Int32)), oI i5_, oI i6_, oI i7_] []) _
 rw [hf10]
 refine XS.iinc X11.here hx rfl (oG hby d38 66 rfl) rfl (l' := #[oA o0_, oA o1_, oA o2_, oA o3_, oI k4_, oI i5_, oI i6_, oI (i7_ + (1 : Int32))]) rfl ?_
 show oZ p e below T11 (mkF m 110 #[oA o0_, oA o1_, oA o2_, oA o3_, oI k4_, oI i5_, oI i6_, oI (i7_ + (1 : Int32))] []) _
 rw [hf11]
 refine XS.goto X11.here hx rfl (pc0 := 110) (pc' := 22) rfl (oG hby d38 67 rfl) (by decide) (by decide) ?_
 exact kt
theorem aQ5 (rc : Nat) (rs : Nat) (o0_ : Addr) (o1_ : Addr) (o2_ : Addr) (o3_ : Addr) (i4_ : Int32) (i5_ : Int32) (i6_ : Int32) (i7_ : Int32) (eY : Int32) (dD : List Int32) (dG : Int32) (aU : List Int32) (cT : Int32) (k4_ : Int32) (k7_ : Int32)
   (X0 : Stand p l e (oR 4 rc rs 150) s m args below meth c T0 locs cells slots) (hx : p.tables.exec = Jvm.exec) (hZ : Z.Warmed39 s.vm) (hw : oH a0 Z) (hby : c.code = prog_28_method_2_code) (hml : c.maxLocals = 8) (hown : s.vm.findClass oC4 = some m.cls) (e0 : T0.heap = h0) (N0 : Fr n0 locs) (Z0 : n0 ≤ h0.size) (gS : bB Z h0 o0_ eY dD) (fQ : bB Z h0 o1_ dG aU) (gL : bC Z h0 o2_ cT) (nZ : n0 ≤ o2_) (hf0 : ¬ (i6_ < eY)) (hf1 : i7_ < dG) (hf2 : ¬ (i7_ = dG)) (hf3 : i6_ = eY) (hf4 : ¬ (i7_ < 0)) (hf5 : ¬ (i4_ < 0)) (hf6 : i4_ < cT) (hf7 : (i4_ + (1 : Int32)) = k4_) (hf8 : (i7_ + (1 : Int32)) = k7_) (hc : cells + (0) ≤ rc) (hs : slots + (0) ≤ rs) :
   ∃ (T' : State) (locs' : List Loc), Stand p l e (oR 4 rc rs 150) s m args below meth c T' locs' cells slots ∧ Fr n0 locs' ∧ Keep h0 T'.heap [o2_] ∧ bC Z T'.heap o2_ cT ∧
     ∀ target, Steps p.tables e below (T'.setTop (mkF m 22 #[oA o0_, oA o1_, oA o2_, oA o3_, oI k4_, oI i5_, oI i6_, oI k7_] [])) target → Steps p.tables e below (T0.setTop (mkF m 22 #[oA o0_, oA o1_, oA o2_, oA o3_, oI i4_, oI i5_, oI i6_, oI i7_] [])) target := by
 obtain ⟨c1, A1, S1, M1⟩ := bV gS
 obtain ⟨c2, A2, S2, M2⟩ := bV fQ
 obtain ⟨c3, A3, S3, M3⟩ := bV fQ
 obtain ⟨c4, A4, S4, M4⟩ := bV gS
 obtain ⟨c5, A5, S5, M5⟩ := bV gS
 obtain ⟨c6, A6, hin6, hat6⟩ := bS (j := i7_) fQ hf4 hf1
 have hat6' : c6.slots[(i7_).toNatClampNeg]? = some (.int (aU.getD (i7_).toNatClampNeg 0)) := hat6
 obtain ⟨c7, z7, A7, hin7, -⟩ := iF (j := i4_) gL hf5 hf6
 obtain ⟨T8, h8, X8, e8, W8, st8⟩ := stI X0 hx hZ e0 A7 (j := i4_) hin7 (g := (mkF m 103 #[oA o0_, oA o1_, oA o2_, oA o3_, oI i4_, oI i5_, oI i6_, oI i7_] [(.int (aU.getD (i7_).toNatClampNeg 0)), (.int i4_), (.ref o2_)])) rfl rfl (oG hby d38 64 rfl)
 have V8 := iG gL hf5 hf6 W8
 have K8 : Keep h0 h8 [o2_] := (Keep.refl h0 [o2_]).wr W8 (Or.inl (oX 0 rfl))
 have N8 := Fr.snoc X8 N0 nZ
 subst e8
 refine ⟨T8, _, X8, N8, K8, V8, fun target kt => ?_⟩
 show oZ p e below T0 (mkF m 22 #[oA o0_, oA o1_, oA o2_, oA o3_, oI i4_, oI i5_, oI i6_, oI i7_] []) _
 refine XS.iload X0.here hx rfl (oG hby d38 16 rfl) rfl ?_
 refine XS.aloadN X0.here hx rfl (oG hby d38 17 rfl) rfl rfl ?_
 refine X0.arraylength hx (by rw [e0]; exact A1.1) (State.isArrayOf_alike hZ.alike A1.2.1) (g := (mkF m 25 #[oA o0_, oA o1_, oA o2_, oA o3_, oI i4_, oI i5_, oI i6_, oI i7_] [(.ref o0_), (.int i6_)])) rfl rfl (oG hby d38 18 rfl) _ ?_
 rw [len_of S1 M1]
 refine XS.icmpNo X0.here hx rfl (oG hby d38 19 rfl) rfl (flt hf0).1 ?_
 refine XS.iload X0.here hx rfl (oG hby d38 20 rfl) rfl ?_
 refine XS.aloadN X0.here hx rfl (oG hby d38 21 rfl) rfl rfl ?_
 refine X0.arraylength hx (by rw [e0]; exact A2.1) (State.isArrayOf_alike hZ.alike A2.2.1) (g := (mkF m 32 #[oA o0_, oA o1_, oA o2_, oA o3_, oI i4_, oI i5_, oI i6_, oI i7_] [(.ref o1_), (.int i7_)])) rfl rfl (oG hby d38 22 rfl) _ ?_
 rw [len_of S2 M2]
 refine XS.icmpNo X0.here hx rfl (oG hby d38 23 rfl) rfl (tlt hf1).2.1 ?_
 refine XS.iload X0.here hx rfl (oG hby d38 24 rfl) rfl ?_
 refine XS.aloadN X0.here hx rfl (oG hby d38 25 rfl) rfl rfl ?_
 refine X0.arraylength hx (by rw [e0]; exact A3.1) (State.isArrayOf_alike hZ.alike A3.2.1) (g := (mkF m 39 #[oA o0_, oA o1_, oA o2_, oA o3_, oI i4_, oI i5_, oI i6_, oI i7_] [(.ref o1_), (.int i7_)])) rfl rfl (oG hby d38 26 rfl) _ ?_
 rw [len_of S3 M3]
 show oZ p e below T0 (mkF m 40 #[oA o0_, oA o1_, oA o2_, oA o3_, oI i4_, oI i5_, oI i6_, oI i7_] [(.int dG), (.int i7_)]) _
 refine XS.icmpNo X0.here hx rfl (oG hby d38 27 rfl) rfl (feq hf2).1 ?_
 refine XS.iload X0.here hx rfl (oG hby d38 28 rfl) rfl ?_
 refine XS.aloadN X0.here hx rfl (oG hby d38 29 rfl) rfl rfl ?_
 refine X0.arraylength hx (by rw [e0]; exact A4.1) (State.isArrayOf_alike hZ.alike A4.2.1) (g := (mkF m 46 #[oA o0_, oA o1_, oA o2_, oA o3_, oI i4_, oI i5_, oI i6_, oI i7_] [(.ref o0_), (.int i6_)])) rfl rfl (oG hby d38 30 rfl) _ ?_
 rw [len_of S4 M4]
 refine XS.icmpYes X0.here hx rfl (pc0 := 47) (pc' := 78) rfl (oG hby d38 31 rfl) rfl (flt hf0).2.1 (by decide) (by decide) ?_
 refine XS.iload X0.here hx rfl (oG hby d38 48 rfl) rfl ?_
 refine XS.aloadN X0.here hx rfl (oG hby d38 49 rfl) rfl rfl ?_
 refine X0.arraylength hx (by rw [e0]; exact A5.1) (State.isArrayOf_alike hZ.alike A5.2.1) (g := (mkF m 81 #[oA o0_, oA o1_, oA o2_, oA o3_, oI i4_, oI i5_, oI i6_, oI i7_] [(.ref o0_), (.int i6_)])) rfl rfl (oG hby d38 50 rfl) _ ?_
 rw [len_of S5 M5]
 refine XS.icmpYes X0.here hx rfl (pc0 := 82) (pc' := 96) rfl (oG hby d38 51 rfl) rfl (teq hf3).1 (by decide) (by decide) ?_
 refine XS.aloadN X0.here hx rfl (oG hby d38 59 rfl) rfl rfl ?_
 refine XS.iload X0.here hx rfl (oG hby d38 60 rfl) rfl ?_
 show oZ p e below T0 (mkF m 99 #[oA o0_, oA o1_, oA o2_, oA o3_, oI i4_, oI i5_, oI i6_, oI i7_] [(.int i4_), (.ref o2_)]) _
 refine XS.aloadN X0.here hx rfl (oG hby d38 61 rfl) rfl rfl ?_
 refine XS.iload X0.here hx rfl (oG hby d38 62 rfl) rfl ?_
 refine X0.iaload hx (j := i7_) (v := (.int (aU.getD (i7_).toNatClampNeg 0))) (by rw [e0]; exact A6.1) (State.isArrayOf_alike hZ.alike A6.2.1) A6.2.2 hin6 hat6' (g := (mkF m 102 #[oA o0_, oA o1_, oA o2_, oA o3_, oI i4_, oI i5_, oI i6_, oI i7_] [(.int i7_), (.ref o1_), (.int i4_), (.ref o2_)])) rfl rfl (oG hby d38 63 rfl) _ ?_
 refine st8 _ ?_
 refine XS.iinc X8.here hx rfl (oG hby d38 65 rfl) rfl (l' := #[oA o0_, oA o1_, oA o2_, oA o3_, oI (i4_ + (1 : Int32)), oI i5_, oI i6_, oI i7_]) rfl ?_
 show oZ p e below T8 (mkF m 107 #[oA o0_, oA o1_, oA o2_, oA o3_, oI (i4_ + (1 : Int32)), oI i5_, oI i6_, oI i7_] []) _
 rw [hf7]
 refine XS.iinc X8.here hx rfl (oG hby d38 66 rfl) rfl (l' := #[oA o0_, oA o1_, oA o2_, oA o3_, oI k4_, oI i5_, oI i6_, oI (i7_ + (1 : Int32))]) rfl ?_
 show oZ p e below T8 (mkF m 110 #[oA o0_, oA o1_, oA o2_, oA o3_, oI k4_, oI i5_, oI i6_, oI (i7_ + (1 : Int32))] []) _
 rw [hf8]
 refine XS.goto X8.here hx rfl (pc0 := 110) (pc' := 22) rfl (oG hby d38 67 rfl) (by decide) (by decide) ?_
 exact kt
theorem aQ6 (rc : Nat) (rs : Nat) (o0_ : Addr) (o1_ : Addr) (o2_ : Addr) (o3_ : Addr) (i4_ : Int32) (i5_ : Int32) (i6_ : Int32) (i7_ : Int32) (eY : Int32) (dD : List Int32) (dG : Int32) (aU : List Int32) (k6_ : Int32) (k7_ : Int32)
   (X0 : Stand p l e (oR 4 rc rs 150) s m args below meth c T0 locs cells slots) (hx : p.tables.exec = Jvm.exec) (hZ : Z.Warmed39 s.vm) (hw : oH a0 Z) (hby : c.code = prog_28_method_2_code) (hml : c.maxLocals = 8) (hown : s.vm.findClass oC4 = some m.cls) (e0 : T0.heap = h0) (N0 : Fr n0 locs) (Z0 : n0 ≤ h0.size) (gS : bB Z h0 o0_ eY dD) (fQ : bB Z h0 o1_ dG aU) (hf0 : i6_ < eY) (hf1 : ¬ (i7_ = dG)) (hf2 : ¬ (i6_ < 0)) (hf3 : ¬ (i7_ < 0)) (hf4 : i7_ < dG) (hf5 : ¬ ((dD.getD (i6_).toNatClampNeg 0) < (aU.getD (i7_).toNatClampNeg 0))) (hf6 : ¬ (i6_ = eY)) (hf7 : ¬ ((aU.getD (i7_).toNatClampNeg 0) < (dD.getD (i6_).toNatClampNeg 0))) (hf8 : (i6_ + (1 : Int32)) = k6_) (hf9 : (i7_ + (1 : Int32)) = k7_) (hc : cells + (0) ≤ rc) (hs : slots + (0) ≤ rs) :
   ∃ (T' : State) (locs' : List Loc), Stand p l e (oR 4 rc rs 150) s m args below meth c T' locs' cells slots ∧ Fr n0 locs' ∧ T'.heap = h0 ∧
     ∀ target, Steps p.tables e below (T'.setTop (mkF m 22 #[oA o0_, oA o1_, oA o2_, oA o3_, oI i4_, oI i5_, oI k6_, oI k7_] [])) target → Steps p.tables e below (T0.setTop (mkF m 22 #[oA o0_, oA o1_, oA o2_, oA o3_, oI i4_, oI i5_, oI i6_, oI i7_] [])) target := by
 obtain ⟨c1, A1, S1, M1⟩ := bV gS
 obtain ⟨c2, A2, S2, M2⟩ := bV fQ
 obtain ⟨c3, A3, S3, M3⟩ := bV gS
 obtain ⟨c4, A4, hin4, hat4⟩ := bS (j := i6_) gS hf2 hf0
 have hat4' : c4.slots[(i6_).toNatClampNeg]? = some (.int (dD.getD (i6_).toNatClampNeg 0)) := hat4
 obtain ⟨c5, A5, hin5, hat5⟩ := bS (j := i7_) fQ hf3 hf4
 have hat5' : c5.slots[(i7_).toNatClampNeg]? = some (.int (aU.getD (i7_).toNatClampNeg 0)) := hat5
 obtain ⟨c6, A6, S6, M6⟩ := bV gS
 obtain ⟨c7, A7, hin7, hat7⟩ := bS (j := i7_) fQ hf3 hf4
 have hat7' : c7.slots[(i7_).toNatClampNeg]? = some (.int (aU.getD (i7_).toNatClampNeg 0)) := hat7
 obtain ⟨c8, A8, hin8, hat8⟩ := bS (j := i6_) gS hf2 hf0
 have hat8' : c8.slots[(i6_).toNatClampNeg]? = some (.int (dD.getD (i6_).toNatClampNeg 0)) := hat8
 refine ⟨T0, _, X0, N0, e0, fun target kt => ?_⟩
 show oZ p e below T0 (mkF m 22 #[oA o0_, oA o1_, oA o2_, oA o3_, oI i4_, oI i5_, oI i6_, oI i7_] []) _
 refine XS.iload X0.here hx rfl (oG hby d38 16 rfl) rfl ?_
 refine XS.aloadN X0.here hx rfl (oG hby d38 17 rfl) rfl rfl ?_
 refine X0.arraylength hx (by rw [e0]; exact A1.1) (State.isArrayOf_alike hZ.alike A1.2.1) (g := (mkF m 25 #[oA o0_, oA o1_, oA o2_, oA o3_, oI i4_, oI i5_, oI i6_, oI i7_] [(.ref o0_), (.int i6_)])) rfl rfl (oG hby d38 18 rfl) _ ?_
 rw [len_of S1 M1]
 refine XS.icmpYes X0.here hx rfl (pc0 := 26) (pc' := 36) rfl (oG hby d38 19 rfl) rfl (tlt hf0).1 (by decide) (by decide) ?_
 refine XS.iload X0.here hx rfl (oG hby d38 24 rfl) rfl ?_
 refine XS.aloadN X0.here hx rfl (oG hby d38 25 rfl) rfl rfl ?_
 refine X0.arraylength hx (by rw [e0]; exact A2.1) (State.isArrayOf_alike hZ.alike A2.2.1) (g := (mkF m 39 #[oA o0_, oA o1_, oA o2_, oA o3_, oI i4_, oI i5_, oI i6_, oI i7_] [(.ref o1_), (.int i7_)])) rfl rfl (oG hby d38 26 rfl) _ ?_
 rw [len_of S2 M2]
 refine XS.icmpNo X0.here hx rfl (oG hby d38 27 rfl) rfl (feq hf1).1 ?_
 refine XS.iload X0.here hx rfl (oG hby d38 28 rfl) rfl ?_
 refine XS.aloadN X0.here hx rfl (oG hby d38 29 rfl) rfl rfl ?_
 refine X0.arraylength hx (by rw [e0]; exact A3.1) (State.isArrayOf_alike hZ.alike A3.2.1) (g := (mkF m 46 #[oA o0_, oA o1_, oA o2_, oA o3_, oI i4_, oI i5_, oI i6_, oI i7_] [(.ref o0_), (.int i6_)])) rfl rfl (oG hby d38 30 rfl) _ ?_
 rw [len_of S3 M3]
 show oZ p e below T0 (mkF m 47 #[oA o0_, oA o1_, oA o2_, oA o3_, oI i4_, oI i5_, oI i6_, oI i7_] [(.int eY), (.int i6_)]) _
 refine XS.icmpNo X0.here hx rfl (oG hby d38 31 rfl) rfl (tlt hf0).2.1 ?_
 refine XS.aloadN X0.here hx rfl (oG hby d38 32 rfl) rfl rfl ?_
 refine XS.iload X0.here hx rfl (oG hby d38 33 rfl) rfl ?_
 refine X0.iaload hx (j := i6_) (v := (.int (dD.getD (i6_).toNatClampNeg 0))) (by rw [e0]; exact A4.1) (State.isArrayOf_alike hZ.alike A4.2.1) A4.2.2 hin4 hat4' (g := (mkF m 53 #[oA o0_, oA o1_, oA o2_, oA o3_, oI i4_, oI i5_, oI i6_, oI i7_] [(.int i6_), (.ref o0_)])) rfl rfl (oG hby d38 34 rfl) _ ?_
 refine XS.aloadN X0.here hx rfl (oG hby d38 35 rfl) rfl rfl ?_
 refine XS.iload X0.here hx rfl (oG hby d38 36 rfl) rfl ?_
 refine X0.iaload hx (j := i7_) (v := (.int (aU.getD (i7_).toNatClampNeg 0))) (by rw [e0]; exact A5.1) (State.isArrayOf_alike hZ.alike A5.2.1) A5.2.2 hin5 hat5' (g := (mkF m 57 #[oA o0_, oA o1_, oA o2_, oA o3_, oI i4_, oI i5_, oI i6_, oI i7_] [(.int i7_), (.ref o1_), (.int (dD.getD (i6_).toNatClampNeg 0))])) rfl rfl (oG hby d38 37 rfl) _ ?_
 refine XS.icmpYes X0.here hx rfl (pc0 := 58) (pc' := 78) rfl (oG hby d38 38 rfl) rfl (flt hf5).2.1 (by decide) (by decide) ?_
 refine XS.iload X0.here hx rfl (oG hby d38 48 rfl) rfl ?_
 refine XS.aloadN X0.here hx rfl (oG hby d38 49 rfl) rfl rfl ?_
 refine X0.arraylength hx (by rw [e0]; exact A6.1) (State.isArrayOf_alike hZ.alike A6.2.1) (g := (mkF m 81 #[oA o0_, oA o1_, oA o2_, oA o3_, oI i4_, oI i5_, oI i6_, oI i7_] [(.ref o0_), (.int i6_)])) rfl rfl (oG hby d38 50 rfl) _ ?_
 rw [len_of S6 M6]
 show oZ p e below T0 (mkF m 82 #[oA o0_, oA o1_, oA o2_, oA o3_, oI i4_, oI i5_, oI i6_, oI i7_] [(.int eY), (.int i6_)]) _
 refine XS.icmpNo X0.here hx rfl (oG hby d38 51 rfl) rfl (feq hf6).1 ?_
 refine XS.aloadN X0.here hx rfl (oG hby d38 52 rfl) rfl rfl ?_
 refine XS.iload X0.here hx rfl (oG hby d38 53 rfl) rfl ?_
 refine X0.iaload hx (j := i7_) (v := (.int (aU.getD (i7_).toNatClampNeg 0))) (by rw [e0]; exact A7.1) (State.isArrayOf_alike hZ.alike A7.2.1) A7.2.2 hin7 hat7' (g := (mkF m 88 #[oA o0_, oA o1_, oA o2_, oA o3_, oI i4_, oI i5_, oI i6_, oI i7_] [(.int i7_), (.ref o1_)])) rfl rfl (oG hby d38 54 rfl) _ ?_
 refine XS.aloadN X0.here hx rfl (oG hby d38 55 rfl) rfl rfl ?_
 refine XS.iload X0.here hx rfl (oG hby d38 56 rfl) rfl ?_
 refine X0.iaload hx (j := i6_) (v := (.int (dD.getD (i6_).toNatClampNeg 0))) (by rw [e0]; exact A8.1) (State.isArrayOf_alike hZ.alike A8.2.1) A8.2.2 hin8 hat8' (g := (mkF m 92 #[oA o0_, oA o1_, oA o2_, oA o3_, oI i4_, oI i5_, oI i6_, oI i7_] [(.int i6_), (.ref o0_), (.int (aU.getD (i7_).toNatClampNeg 0))])) rfl rfl (oG hby d38 57 rfl) _ ?_
 refine XS.icmpYes X0.here hx rfl (pc0 := 93) (pc' := 113) rfl (oG hby d38 58 rfl) rfl (flt hf7).2.1 (by decide) (by decide) ?_
 refine XS.iinc X0.here hx rfl (oG hby d38 68 rfl) rfl (l' := #[oA o0_, oA o1_, oA o2_, oA o3_, oI i4_, oI i5_, oI (i6_ + (1 : Int32)), oI i7_]) rfl ?_
 show oZ p e below T0 (mkF m 116 #[oA o0_, oA o1_, oA o2_, oA o3_, oI i4_, oI i5_, oI (i6_ + (1 : Int32)), oI i7_] []) _
 rw [hf8]
 refine XS.iinc X0.here hx rfl (oG hby d38 69 rfl) rfl (l' := #[oA o0_, oA o1_, oA o2_, oA o3_, oI i4_, oI i5_, oI k6_, oI (i7_ + (1 : Int32))]) rfl ?_
 show oZ p e below T0 (mkF m 119 #[oA o0_, oA o1_, oA o2_, oA o3_, oI i4_, oI i5_, oI k6_, oI (i7_ + (1 : Int32))] []) _
 rw [hf9]
 refine XS.goto X0.here hx rfl (pc0 := 119) (pc' := 22) rfl (oG hby d38 70 rfl) (by decide) (by decide) ?_
 exact kt
theorem aA9 (rc : Nat) (rs : Nat) (o0_ : Addr) (o1_ : Addr) (o2_ : Addr) (o3_ : Addr) (i4_ : Int32) (i5_ : Int32) (i6_ : Int32) (i7_ : Int32) (eY : Int32) (dD : List Int32) (dG : Int32) (aU : List Int32)
   (X0 : Stand p l e (oR 4 rc rs 150) s m args below meth c T0 locs cells slots) (hx : p.tables.exec = Jvm.exec) (hZ : Z.Warmed39 s.vm) (hw : oH a0 Z) (hby : c.code = prog_28_method_2_code) (hml : c.maxLocals = 8) (hown : s.vm.findClass oC4 = some m.cls) (e0 : T0.heap = h0) (N0 : Fr n0 locs) (Z0 : n0 ≤ h0.size) (gS : bB Z h0 o0_ eY dD) (fQ : bB Z h0 o1_ dG aU) (hf0 : ¬ (i6_ < eY)) (hf1 : ¬ (i7_ < dG)) (hc : cells + (0) ≤ rc) (hs : slots + (0) ≤ rs) :
   ∃ (T' : State) (locs' : List Loc), Stand p l e (oR 4 rc rs 150) s m args below meth c T' locs' cells slots ∧ Fr n0 locs' ∧ T'.heap = h0 ∧
     ∀ target, Steps p.tables e below (T'.setTop (mkF m 122 #[oA o0_, oA o1_, oA o2_, oA o3_, oI i4_, oI i5_, oI i6_, oI i7_] [])) target → Steps p.tables e below (T0.setTop (mkF m 22 #[oA o0_, oA o1_, oA o2_, oA o3_, oI i4_, oI i5_, oI i6_, oI i7_] [])) target := by
 obtain ⟨c1, A1, S1, M1⟩ := bV gS
 obtain ⟨c2, A2, S2, M2⟩ := bV fQ
 refine ⟨T0, _, X0, N0, e0, fun target kt => ?_⟩
 show oZ p e below T0 (mkF m 22 #[oA o0_, oA o1_, oA o2_, oA o3_, oI i4_, oI i5_, oI i6_, oI i7_] []) _
 refine XS.iload X0.here hx rfl (oG hby d38 16 rfl) rfl ?_
 refine XS.aloadN X0.here hx rfl (oG hby d38 17 rfl) rfl rfl ?_
 refine X0.arraylength hx (by rw [e0]; exact A1.1) (State.isArrayOf_alike hZ.alike A1.2.1) (g := (mkF m 25 #[oA o0_, oA o1_, oA o2_, oA o3_, oI i4_, oI i5_, oI i6_, oI i7_] [(.ref o0_), (.int i6_)])) rfl rfl (oG hby d38 18 rfl) _ ?_
 rw [len_of S1 M1]
 refine XS.icmpNo X0.here hx rfl (oG hby d38 19 rfl) rfl (flt hf0).1 ?_
 refine XS.iload X0.here hx rfl (oG hby d38 20 rfl) rfl ?_
 refine XS.aloadN X0.here hx rfl (oG hby d38 21 rfl) rfl rfl ?_
 refine X0.arraylength hx (by rw [e0]; exact A2.1) (State.isArrayOf_alike hZ.alike A2.2.1) (g := (mkF m 32 #[oA o0_, oA o1_, oA o2_, oA o3_, oI i4_, oI i5_, oI i6_, oI i7_] [(.ref o1_), (.int i7_)])) rfl rfl (oG hby d38 22 rfl) _ ?_
 rw [len_of S2 M2]
 refine XS.icmpYes X0.here hx rfl (pc0 := 33) (pc' := 122) rfl (oG hby d38 23 rfl) rfl (flt hf1).2.1 (by decide) (by decide) ?_
 exact kt
section OwnMerge
theorem bC.il {Z : State} {h : Heap} {a : Addr} {n : Int32} (V : bC Z h a n) : ∃ vs, bB Z h a n vs := by
 obtain ⟨c, A, S, M, H⟩ := V
 refine ⟨(List.range c.slots.size).map fun k => Jvm.Lib.StringLatin1.equals.intAt c k, c, A, S, M, fun k hk => ?_⟩
 obtain ⟨z, hz⟩ := H k hk
 rw [hz, List.getD_eq_getElem?_getD, List.getElem?_map, List.getElem?_range hk]
 simp [Jvm.Lib.StringLatin1.equals.intAt, hz]
theorem lJ {n : Int32} (h : ¬ n < 0) : n = Int32.ofNat n.toNatClampNeg := by
 refine Int32.toInt_inj.mp ?_
 rw [Int32.lt_iff_toInt_lt, Int32.toInt_zero] at h
 have b := n.toInt_lt
 rw [eB (by show n.toInt.toNat < 2 ^ 31; omega)]
 show n.toInt = ((n.toInt.toNat : Nat) : Int)
 omega
theorem iJ {i c : Nat} (h : i < c) (hc : c < 2 ^ 31) : ¬ (Int32.ofNat i = Int32.ofNat c) := fun q => by
 have := dV h hc; rw [q] at this; exact Int32.lt_irrefl this
theorem aI6 {p : Program} {l : Launch} {e : Env} {s : State} {m : MethodId} {args : Array Value} {below : List Frame} {meth : Method} {c : Code} {Z : State} {a0 : Array Value} {n0 : Nat} {rc rs : Nat} {o0 o1 o2 o3 : Addr} {vs0 vs1 : List Int32} {nb na : Nat} {cells slots : Nat}
   (hx : p.tables.exec = Jvm.exec) (hZ : Z.Warmed39 s.vm) (hw : oH a0 Z) (hby : c.code = prog_28_method_2_code) (hml : c.maxLocals = 8) (hown : s.vm.findClass oC4 = some m.cls)
   (hnb : nb < 1000) (hna : na < 1000) (g2 : n0 ≤ o2) (g3 : n0 ≤ o3) (d02 : o0 ≠ o2) (d03 : o0 ≠ o3) (d12 : o1 ≠ o2) (d13 : o1 ≠ o3) (d23 : o2 ≠ o3) (hc : cells ≤ rc) (hs : slots ≤ rs) :
   ∀ (k i j u v : Nat) (T0 : State) (locs : List Loc), (nb - i) + (na - j) ≤ k → i ≤ nb → j ≤ na → u ≤ j → v ≤ i →
     Stand p l e (oR 4 rc rs 150) s m args below meth c T0 locs cells slots → Fr n0 locs → n0 ≤ T0.heap.size → bB Z T0.heap o0 (Int32.ofNat nb) vs0 → bB Z T0.heap o1 (Int32.ofNat na) vs1 → bC Z T0.heap o2 (Int32.ofNat na) → bC Z T0.heap o3 (Int32.ofNat nb) →
     ∃ (T' : State) (locs' : List Loc) (u' v' : Nat), Stand p l e (oR 4 rc rs 150) s m args below meth c T' locs' cells slots ∧ Fr n0 locs' ∧ Keep T0.heap T'.heap [o2, o3] ∧ bC Z T'.heap o2 (Int32.ofNat na) ∧ bC Z T'.heap o3 (Int32.ofNat nb) ∧ u' ≤ na ∧ v' ≤ nb ∧
     ∀ target, Steps p.tables e below (T'.setTop (mkF m 122 #[oA o0, oA o1, oA o2, oA o3, oI (Int32.ofNat u'), oI (Int32.ofNat v'), oI (Int32.ofNat nb), oI (Int32.ofNat na)] [])) target →
       Steps p.tables e below (T0.setTop (mkF m 22 #[oA o0, oA o1, oA o2, oA o3, oI (Int32.ofNat u), oI (Int32.ofNat v), oI (Int32.ofNat i), oI (Int32.ofNat j)] [])) target := by
 intro k
 induction k with
 | zero =>
   intro i j u v T0 locs hk hi hj hu hv X N Z0 A0 A1 A2 A3
   have e1 : i = nb := by omega
   have e2 : j = na := by omega
   subst e1 e2
   obtain ⟨T', L', X', N', e', st'⟩ := aA9 (o0_ := o0) (o1_ := o1) (o2_ := o2) (o3_ := o3) (i4_ := Int32.ofNat u) (i5_ := Int32.ofNat v) (i6_ := Int32.ofNat i) (i7_ := Int32.ofNat j) (eY := Int32.ofNat i) (dD := vs0) (dG := Int32.ofNat j) (aU := vs1) rc rs X hx hZ hw hby hml hown rfl N Z0 A0 A1 (eU (Nat.le_refl _) (by omega)) (eU (Nat.le_refl _) (by omega)) (by omega) (by omega)
   exact ⟨T', L', u, v, X', N', by rw [e']; exact Keep.refl _ _, by rw [e']; exact A2, by rw [e']; exact A3, hu, hv, st'⟩
 | succ k ih =>
   intro i j u v T0 locs hk hi hj hu hv X N Z0 A0 A1 A2 A3
   have ni := eP (i := i) (by omega)
   have nj := eP (i := j) (by omega)
   have nu := eP (i := u) (by omega)
   have nv := eP (i := v) (by omega)
   by_cases q1 : i < nb
   · have li := dV q1 (by omega)
     have lv := dV (i := v) (c := nb) (by omega) (by omega)
     by_cases q2 : j < na
     · have lj := dV q2 (by omega)
       have lu := dV (i := u) (c := na) (by omega) (by omega)
       by_cases q3 : (vs0.getD (Int32.ofNat i).toNatClampNeg 0) < (vs1.getD (Int32.ofNat j).toNatClampNeg 0)
       · obtain ⟨T1, L1, X1, N1, K1, B3, st1⟩ := aQ2 (o0_ := o0) (o1_ := o1) (o2_ := o2) (o3_ := o3) (i4_ := Int32.ofNat u) (i5_ := Int32.ofNat v) (i6_ := Int32.ofNat i) (i7_ := Int32.ofNat j) (eY := Int32.ofNat nb) (dD := vs0) (dG := Int32.ofNat na) (aU := vs1) (lP := Int32.ofNat nb) (k5_ := Int32.ofNat (v + 1)) (k6_ := Int32.ofNat (i + 1)) rc rs X hx hZ hw hby hml hown rfl N Z0 A0 A1 A3 g3 li (iJ q2 (by omega)) ni nj lj q3 nv lv (bW v) (bW i) (by omega) (by omega)
         obtain ⟨T', L', u', v', X', N', K', C2, C3, r1, r2, st'⟩ := ih (i + 1) j u (v + 1) T1 L1 (by omega) (by omega) (by omega) (by omega) (by omega) X1 N1 (Nat.le_trans Z0 K1.1) (A0.keep K1 (bH d03)) (A1.keep K1 (bH d13)) (A2.keep K1 (bH d23)) B3
         exact ⟨T', L', u', v', X', N', eV K1 K' (by simp), C2, C3, r1, r2, fun target kt => st1 _ (st' _ kt)⟩
       · by_cases q4 : (vs1.getD (Int32.ofNat j).toNatClampNeg 0) < (vs0.getD (Int32.ofNat i).toNatClampNeg 0)
         · obtain ⟨T1, L1, X1, N1, K1, B2, st1⟩ := aQ4 (o0_ := o0) (o1_ := o1) (o2_ := o2) (o3_ := o3) (i4_ := Int32.ofNat u) (i5_ := Int32.ofNat v) (i6_ := Int32.ofNat i) (i7_ := Int32.ofNat j) (eY := Int32.ofNat nb) (dD := vs0) (dG := Int32.ofNat na) (aU := vs1) (cT := Int32.ofNat na) (k4_ := Int32.ofNat (u + 1)) (k7_ := Int32.ofNat (j + 1)) rc rs X hx hZ hw hby hml hown rfl N Z0 A0 A1 A2 g2 li (iJ q2 (by omega)) ni nj lj q3 (iJ q1 (by omega)) q4 nu lu (bW u) (bW j) (by omega) (by omega)
           obtain ⟨T', L', u', v', X', N', K', C2, C3, r1, r2, st'⟩ := ih i (j + 1) (u + 1) v T1 L1 (by omega) (by omega) (by omega) (by omega) (by omega) X1 N1 (Nat.le_trans Z0 K1.1) (A0.keep K1 (bH d02)) (A1.keep K1 (bH d12)) B2 (A3.keep K1 (bH (Ne.symm d23)))
           exact ⟨T', L', u', v', X', N', eV K1 K' (by simp), C2, C3, r1, r2, fun target kt => st1 _ (st' _ kt)⟩
         · obtain ⟨T1, L1, X1, N1, e1, st1⟩ := aQ6 (o0_ := o0) (o1_ := o1) (o2_ := o2) (o3_ := o3) (i4_ := Int32.ofNat u) (i5_ := Int32.ofNat v) (i6_ := Int32.ofNat i) (i7_ := Int32.ofNat j) (eY := Int32.ofNat nb) (dD := vs0) (dG := Int32.ofNat na) (aU := vs1) (k6_ := Int32.ofNat (i + 1)) (k7_ := Int32.ofNat (j + 1)) rc rs X hx hZ hw hby hml hown rfl N Z0 A0 A1 li (iJ q2 (by omega)) ni nj lj q3 (iJ q1 (by omega)) q4 (bW i) (bW j) (by omega) (by omega)
           obtain ⟨T', L', u', v', X', N', K', C2, C3, r1, r2, st'⟩ := ih (i + 1) (j + 1) u v T1 L1 (by omega) (by omega) (by omega) (by omega) (by omega) X1 N1 (by rw [e1]; exact Z0) (by rw [e1]; exact A0) (by rw [e1]; exact A1) (by rw [e1]; exact A2) (by rw [e1]; exact A3)
           rw [e1] at K'
           exact ⟨T', L', u', v', X', N', K', C2, C3, r1, r2, fun target kt => st1 _ (st' _ kt)⟩
     · have e2 : j = na := by omega
       subst e2
       obtain ⟨T1, L1, X1, N1, K1, B3, st1⟩ := aQ3 (o0_ := o0) (o1_ := o1) (o2_ := o2) (o3_ := o3) (i4_ := Int32.ofNat u) (i5_ := Int32.ofNat v) (i6_ := Int32.ofNat i) (i7_ := Int32.ofNat j) (eY := Int32.ofNat nb) (dD := vs0) (dG := Int32.ofNat j) (aU := vs1) (lP := Int32.ofNat nb) (k5_ := Int32.ofNat (v + 1)) (k6_ := Int32.ofNat (i + 1)) rc rs X hx hZ hw hby hml hown rfl N Z0 A0 A1 A3 g3 li rfl ni nv lv (bW v) (bW i) (by omega) (by omega)
       obtain ⟨T', L', u', v', X', N', K', C2, C3, r1, r2, st'⟩ := ih (i + 1) j u (v + 1) T1 L1 (by omega) (by omega) (by omega) (by omega) (by omega) X1 N1 (Nat.le_trans Z0 K1.1) (A0.keep K1 (bH d03)) (A1.keep K1 (bH d13)) (A2.keep K1 (bH d23)) B3
       exact ⟨T', L', u', v', X', N', eV K1 K' (by simp), C2, C3, r1, r2, fun target kt => st1 _ (st' _ kt)⟩
   · have e1 : i = nb := by omega
     subst e1
     by_cases q2 : j < na
     · have lj := dV q2 (by omega)
       have lu := dV (i := u) (c := na) (by omega) (by omega)
       obtain ⟨T1, L1, X1, N1, K1, B2, st1⟩ := aQ5 (o0_ := o0) (o1_ := o1) (o2_ := o2) (o3_ := o3) (i4_ := Int32.ofNat u) (i5_ := Int32.ofNat v) (i6_ := Int32.ofNat i) (i7_ := Int32.ofNat j) (eY := Int32.ofNat i) (dD := vs0) (dG := Int32.ofNat na) (aU := vs1) (cT := Int32.ofNat na) (k4_ := Int32.ofNat (u + 1)) (k7_ := Int32.ofNat (j + 1)) rc rs X hx hZ hw hby hml hown rfl N Z0 A0 A1 A2 g2 (eU (Nat.le_refl _) (by omega)) lj (iJ q2 (by omega)) rfl nj nu lu (bW u) (bW j) (by omega) (by omega)
       obtain ⟨T', L', u', v', X', N', K', C2, C3, r1, r2, st'⟩ := ih i (j + 1) (u + 1) v T1 L1 (by omega) (by omega) (by omega) (by omega) (by omega) X1 N1 (Nat.le_trans Z0 K1.1) (A0.keep K1 (bH d02)) (A1.keep K1 (bH d12)) B2 (A3.keep K1 (bH (Ne.symm d23)))
       exact ⟨T', L', u', v', X', N', eV K1 K' (by simp), C2, C3, r1, r2, fun target kt => st1 _ (st' _ kt)⟩
     · have e2 : j = na := by omega
       subst e2
       obtain ⟨T', L', X', N', e', st'⟩ := aA9 (o0_ := o0) (o1_ := o1) (o2_ := o2) (o3_ := o3) (i4_ := Int32.ofNat u) (i5_ := Int32.ofNat v) (i6_ := Int32.ofNat i) (i7_ := Int32.ofNat j) (eY := Int32.ofNat i) (dD := vs0) (dG := Int32.ofNat j) (aU := vs1) rc rs X hx hZ hw hby hml hown rfl N Z0 A0 A1 (eU (Nat.le_refl _) (by omega)) (eU (Nat.le_refl _) (by omega)) (by omega) (by omega)
       exact ⟨T', L', u, v, X', N', by rw [e']; exact Keep.refl _ _, by rw [e']; exact A2, by rw [e']; exact A3, hu, hv, st'⟩
end OwnMerge

section OwnCopy
variable {p : Program} {l : Launch} {e : Env} {R : Room} {s : State} {m : MethodId} {args : Array Value} {below : List Frame} {meth : Method} {c : Code} {T : State} {locs : List Loc} {cells slots : Nat} {Z : State} {a0 : Array Value} {h : Heap} {a b : Addr} {n z z' : Int32} {n0 : Nat}
theorem bC.arv (V : bC Z h a n) : ∃ (k : ClassId) (vs : List Value), vs.length = n.toNatClampNeg ∧ Arv Z h a k .int n vs (.int 0) := by
 obtain ⟨cl, A, S, M, H⟩ := V
 have key : ∀ i, i < cl.slots.size → ((List.range cl.slots.size).map fun k => (Value.int (Jvm.Lib.StringLatin1.equals.intAt cl k))).getD i (.int 0) = .int (Jvm.Lib.StringLatin1.equals.intAt cl i) := fun i hi => by
   rw [List.getD_eq_getElem?_getD, List.getElem?_map, List.getElem?_range hi]; rfl
 refine ⟨cl.cls, (List.range cl.slots.size).map fun k => (Value.int (Jvm.Lib.StringLatin1.equals.intAt cl k)), by simp [S], cl, A, rfl, S, M, fun i hi => ?_, fun i hi => ?_⟩
 · obtain ⟨y, hy⟩ := H i hi
   rw [key i hi, hy]; simp [Jvm.Lib.StringLatin1.equals.intAt, hy]
 · rw [key i hi]; rfl
theorem aD8 {k : ClassId} {vs : List Value} {d : Value} (V : Arv Z h a k .int n vs d) : bC Z h a n := by
 obtain ⟨cl, A, -, S, M, H, G⟩ := V
 refine ⟨cl, A, S, M, fun i hi => ?_⟩
 have q := G i hi
 have r := H i hi
 rw [r]
 cases hv : vs.getD i d <;> rw [hv] at q <;> first | exact ⟨_, rfl⟩ | (simp [fits] at q)
theorem bB7 (X : Stand p l e R s m args below meth c T locs cells slots) (hx : p.tables.exec = Jvm.exec) (hZ : Z.Warmed39 s.vm) {own : String} {index : Nat} (hown : s.vm.findClass own = some m.cls)
   (w1 : (Cond.methodLink own index Jvm.Stand.acN).before a0 Z = true) (w2 : (Cond.native Jvm.Stand.acN).before a0 Z = true) (w3 : (Cond.static Jvm.Stand.acN).before a0 Z = true) (w4 : (Cond.initialized "java/lang/System").before a0 Z = true) (eT : T.heap = h)
   {nn : Int32} (A : bC Z h a z) (B : bC Z h b z') (h3 : ¬ nn < 0) (h4 : nn.toNatClampNeg ≤ z.toNatClampNeg) (h5 : nn.toNatClampNeg ≤ z'.toNatClampNeg) (N : Fr n0 locs) (ge : n0 ≤ b)
   {g : JFrame} (hg : g.method = m) (hsize : g.locals.size = c.maxLocals) {rest : List Value} (hs : g.stack = .int nn :: .int (0 : Int32) :: .ref b :: .int (0 : Int32) :: .ref a :: rest) (hd : decode c.code g.pc = .ok (.invokestatic index, 3))
   (hf : 1 ≤ R.frames) {W : Nat} (hW : 2 * g.monitorRoom + (rest.map fun v => v.category).sum ≤ W) (hlo : W + (nativeFrameWords "java/lang/System" "arraycopy" 5 + 11) ≤ R.locals) :
   ∃ T' L, Stand p l e R s m args below meth c T' L cells slots ∧ Fr n0 L ∧ Keep h T'.heap [b] ∧ bC Z T'.heap b z' ∧
     ∀ target, Steps p.tables e below (T'.setTop { g with pc := g.pc + 3, stack := rest }) target → Steps p.tables e below (T.setTop g) target := by
 obtain ⟨k1, vs1, l1, A'⟩ := A.arv
 obtain ⟨k2, vs2, l2, B'⟩ := B.arv
 obtain ⟨T', h', L, X', e', N', K', V', st'⟩ := cpA X hx hZ hown w1 w2 w3 w4 eT (sp := 0) (dp := 0) (nn := nn) A' B' (Or.inl ⟨rfl, rfl⟩) (by decide) (by decide) h3 (by show 0 + _ ≤ _; omega) (by show 0 + _ ≤ _; omega) rfl (by rw [l2]; show 0 + _ ≤ _; omega) N ge hg hsize hs hd hf hW hlo
 subst e'
 exact ⟨T', L, X', N', K', aD8 V', st'⟩
theorem aQ7 {cl : Cell} (A : Arr Z h a cl .int) (H : ∀ k, k < cl.slots.size → ∃ y : Int32, cl.slots[k]? = some (.int y)) : FitC Z cl := fun i v hv => by
 obtain ⟨hs, k, hk, comp, hkind⟩ := A.2.1
 obtain ⟨hi, -⟩ := Array.getElem?_eq_some_iff.mp hv
 obtain ⟨y, hy⟩ := H i hi
 cases hy.symm.trans hv
 simp [State.fitsSlot, State.slotType?, hk, hkind, fits]
theorem bB8 (X : Stand p l e R s m args below meth c T locs cells slots) (hx : p.tables.exec = Jvm.exec) (hZ : Z.Warmed39 s.vm) {own : String} {index : Nat} (hown : s.vm.findClass own = some m.cls)
   (w1 : (Cond.methodLink own index ⟨"[I", "clone", "()Ljava/lang/Object;"⟩).before a0 Z = true) (w2 : (Cond.sameMethod "[I" "java/lang/Object" "clone" "()Ljava/lang/Object;").before a0 Z = true) (w3 : (Cond.native ⟨"java/lang/Object", "clone", "()Ljava/lang/Object;"⟩).before a0 Z = true)
   (w4 : (Cond.instanceMethod ⟨"java/lang/Object", "clone", "()Ljava/lang/Object;"⟩).before a0 Z = true) (w5 : (Cond.selects "[I" ⟨"[I", "clone", "()Ljava/lang/Object;"⟩ ⟨"java/lang/Object", "clone", "()Ljava/lang/Object;"⟩).before a0 Z = true) (w6 : (Cond.castable "[I" "java/lang/Cloneable").before a0 Z = true)
   (eT : T.heap = h) (A : bC Z h a n) (E : Exa Z h a "[I") {g : JFrame} (hg : g.method = m) (hsize : g.locals.size = c.maxLocals) {rest : List Value} (hs : g.stack = .ref a :: rest) (hd : decode c.code g.pc = .ok (.invokevirtual index, 3))
   (hf : 1 ≤ R.frames) {W cap : Nat} (hW : 2 * g.monitorRoom + (rest.map fun v => v.category).sum ≤ W) (hl : W + 14 ≤ R.locals) (hcap : n.toNatClampNeg ≤ cap) (hc : cells + 1 ≤ R.cells) (hsl : slots + cap ≤ R.slots) :
   ∃ T' h', Stand p l e R s m args below meth c T' locs (cells + 1) (slots + cap) ∧ T'.heap = h' ∧ Ext h h' ∧ bC Z h' h.size n ∧ Exa Z h' h.size "[I" ∧
     ∀ target, Steps p.tables e below (T'.setTop { g with pc := g.pc + 3, stack := .ref h.size :: rest }) target → Steps p.tables e below (T.setTop g) target := by
 obtain ⟨cl, A1, S, M, H⟩ := A
 obtain ⟨T', h', X', e', x', A', E', st'⟩ := cloneA X hx hZ hown w1 w2 w3 w4 w5 w6 eT A1 E (aQ7 A1 H) hg hsize hs hd hf hW hl (cap := cap) (by rw [S]; exact hcap) hc hsl
 exact ⟨T', h', X', e', x', ⟨_, A', S, M, H⟩, E', st'⟩
theorem bB9 (X : Stand p l e R s m args below meth c T locs cells slots) (hx : p.tables.exec = Jvm.exec) (hZ : Z.Warmed39 s.vm) {own : String} {index : Nat} (hown : s.vm.findClass own = some m.cls)
   (w1 : (Cond.classLink own index "[I").before a0 Z = true) (w2 : (Cond.castable "[I" "[I").before a0 Z = true) (eT : T.heap = h) (A : bC Z h a n) (E : Exa Z h a "[I") {g : JFrame} (hg : g.method = m) {rest : List Value} (hs : g.stack = .ref a :: rest) (hd : decode c.code g.pc = .ok (.checkcast index, 3)) :
   ∃ T', Stand p l e R s m args below meth c T' locs cells slots ∧ T'.heap = h ∧ ∀ target, Steps p.tables e below (T'.setTop { g with pc := g.pc + 3 }) target → Steps p.tables e below (T.setTop g) target := by
 obtain ⟨cl, A1, -, -, -⟩ := A
 obtain ⟨c2, k, e1, e2, e3, -, e5⟩ := E
 cases A1.1.symm.trans e1
 obtain ⟨c1, cC, g1, g2, g3⟩ := Cond.castable_spec w2
 cases e2.symm.trans g1
 obtain ⟨os, ks, hks, -⟩ := State.isArrayOf_alike hZ.alike A1.2.1
 obtain ⟨vm', X', st⟩ := X.checkcast hx hown (mvT hZ w1) (a := a) (by rw [eT]; exact A1.1) os hks (by rw [hZ.alike.findClass]; exact g2) (by rw [hZ.alike.assignable]; exact g3) hg hs hd
 exact ⟨_, X', eT, st⟩
end OwnCopy

def wL (Z : State) (a0_ : Addr) (p1_ : Int32) (fH : Int32) (h0 : Heap) (n0 : Nat) (v : Option Value) (h : Heap) (L : List Loc) : Prop := ∃ b2 : Addr, v = some (.ref b2) ∧ Fr n0 L ∧ Keep h0 h [] ∧ h0.size ≤ b2 ∧ Exa Z h b2 "[I" ∧ bC Z h b2 fH
theorem aI7 (l : Launch) (Z : State) (a0 : Array Value) (hw : oH a0 Z) (ws : List Jvm.Cond) (a0_ : Addr) (p1_ : Int32) (fH : Int32) (h0 : Heap) (n0 : Nat) (Z0 : n0 ≤ h0.size) (mP : bC Z h0 a0_ fH) (bR : Exa Z h0 a0_ "[I") (hf0 : p1_ = fH) (hf1 : (fH).toNatClampNeg ≤ 32) :
   oMet l oM24 jdk_65_method_123_code 3 (some (.array .int)) ws (oR 1 1 32 14) Z h0 #[(.ref a0_), (.int p1_)] (wL Z a0_ p1_ fH h0 n0) := by
 refine oBd n0 (plainFor_of_name aE5) ?_
 intro p e s m below meth c s₁ Bd hx hZ hby hml hown hnm X0 e0 N0
 obtain ⟨c1, A1, S1, M1⟩ := dE mP
 obtain ⟨T2, h2, X2, e2, E2, V2, B2, st2⟩ := bB8 X0 hx hZ hown (oW hw 272 rfl) (oW hw 273 rfl) (oW hw 277 rfl) (oW hw 275 rfl) (oW hw 276 rfl) (oW hw 278 rfl) e0 mP bR (g := (mkF m 7 #[oA a0_, oI p1_, .unset] [(.ref a0_)])) rfl (by rw [hml]; rfl) rfl (oG hby d40 5 rfl) (by decide) (W := 0) (by show 2 * 0 + _ ≤ _; exact Nat.le_of_eq rfl) (by decide) (cap := 32) hf1 (by decide) (by decide)
 obtain ⟨b2, g2⟩ : ∃ z, z = h0.size := ⟨_, rfl⟩
 rw [← g2] at V2 B2 st2
 have pY : h0.size ≤ b2 := Nat.le_of_eq g2.symm
 have aI8 : a0_ ≠ b2 := oV mP.lt pY
 have mJ : h0.size ≤ b2 := Nat.le_trans (Keep.refl h0 []).1 pY
 have g_b2 : n0 ≤ b2 := Nat.le_trans Z0 mJ
 have K2 : Keep h0 h2 [] := (Keep.refl h0 []).ext E2
 obtain ⟨T3, X3, e3, st3⟩ := bB9 X2 hx hZ hown (oW hw 279 rfl) (oW hw 280 rfl) e2 V2 B2 (g := (mkF m 10 #[oA a0_, oI p1_, .unset] [(.ref b2)])) rfl rfl (oG hby d40 6 rfl)
 obtain ⟨fs, hr, hrun, hended, hW, hsame⟩ := X3.leave (v := some (.ref b2)) (fun h => by rw [Bd.returns] at h; cases h)
 refine ⟨_, _, castTop (zP m a0_ p1_) ?_, hrun, hended, _, _, rfl, ?_, ⟨_, rfl⟩, hW, (hsame.mono (by decide) (by decide))⟩
 · show oZ p e below s₁ (mkF m 0 #[oA a0_, oI p1_, .unset] []) _
   refine XS.iloadN X0.here hx rfl (oG hby d40 0 rfl) rfl ?_
   refine XS.aloadN X0.here hx rfl (oG hby d40 1 rfl) rfl rfl ?_
   refine X0.arraylength hx (by rw [e0]; exact A1.1) (State.isArrayOf_alike hZ.alike A1.2.1) (g := (mkF m 2 #[oA a0_, oI p1_, .unset] [(.ref a0_), (.int p1_)])) rfl rfl (oG hby d40 2 rfl) _ ?_
   rw [len_of S1 M1]
   refine XS.icmpNo X0.here hx rfl (oG hby d40 3 rfl) rfl (teq hf0).2 ?_
   refine XS.aloadN X0.here hx rfl (oG hby d40 4 rfl) rfl rfl ?_
   refine st2 _ ?_
   refine st3 _ ?_
   show oZ p e below T3 (mkF m 13 #[oA a0_, oI p1_, .unset] [(.ref b2)]) _
   jvm_step X3.here [X3.here.top, hx, (oG hby d40 7 rfl), X3.method', Bd.returns, Value.isRef, FieldType.isReference]
   first | (intro acts; rw [hr _ acts rfl rfl rfl]) | rw [hr _ _ rfl rfl rfl]
   exact Steps.refl _
 · show wL Z a0_ p1_ fH h0 n0 _ T3.heap _
   rw [e3]
   exact ⟨b2, rfl, N0, K2, mJ, B2, V2⟩
theorem aB0 (l : Launch) (Z : State) (a0 : Array Value) (hw : oH a0 Z) (ws : List Jvm.Cond) (p0_ : Int32) (p1_ : Int32) (h0 : Heap) (n0 : Nat) (Z0 : n0 ≤ h0.size) (hf0 : p1_ < p0_) :
   oMet l oM20 jdk_29_method_69_code 2 (some .int) ws (oR 0 0 0 0) Z h0 #[(.int p0_), (.int p1_)] (cD (some (.int p1_)) h0 n0) := by
 refine oBd n0 (Jvm.Free.JP.mathPlain rfl (by decide +kernel)) ?_
 intro p e s m below meth c s₁ Bd hx hZ hby hml hown hnm X0 e0 N0
 obtain ⟨fs, hr, hrun, hended, hW, hsame⟩ := X0.leave (v := some (.int p1_)) (fun h => by rw [Bd.returns] at h; cases h)
 refine ⟨_, _, castTop (zQ m p0_ p1_) ?_, hrun, hended, _, _, rfl, ?_, ⟨_, rfl⟩, hW, (hsame.mono (by decide) (by decide))⟩
 · show oZ p e below s₁ (mkF m 0 #[oI p0_, oI p1_] []) _
   refine XS.iloadN X0.here hx rfl (oG hby d7 0 rfl) rfl ?_
   refine XS.iloadN X0.here hx rfl (oG hby d7 1 rfl) rfl ?_
   refine XS.icmpYes X0.here hx rfl (pc0 := 2) (pc' := 9) rfl (oG hby d7 2 rfl) rfl (tlt hf0).2.2.1 (by decide) (by decide) ?_
   refine XS.iloadN X0.here hx rfl (oG hby d7 5 rfl) rfl ?_
   show oZ p e below s₁ (mkF m 10 #[oI p0_, oI p1_] [(.int p1_)]) _
   exact retI X0 hx Bd.returns (oG hby d7 6 rfl) hr
 · show cD (some (.int p1_)) h0 n0 _ s₁.heap _
   exact ⟨rfl, N0, e0⟩
def qC (Z : State) (a0_ : Addr) (p1_ : Int32) (fH : Int32) (h0 : Heap) (n0 : Nat) (v : Option Value) (h : Heap) (L : List Loc) : Prop := ∃ b2 : Addr, v = some (.ref b2) ∧ Fr n0 L ∧ Keep h0 h [] ∧ h0.size ≤ b2 ∧ Exa Z h b2 "[I" ∧ bC Z h b2 p1_
theorem yT (l : Launch) (Z : State) (a0 : Array Value) (hw : oH a0 Z) (ws : List Jvm.Cond) (a0_ : Addr) (p1_ : Int32) (fH : Int32) (h0 : Heap) (n0 : Nat) (Z0 : n0 ≤ h0.size) (mP : bC Z h0 a0_ fH) (hf0 : ¬ (p1_ = fH)) (hf1 : ¬ (p1_ < 0)) (hf2 : p1_.toNatClampNeg ≤ 32) (hf3 : p1_ < fH) (hf4 : (p1_).toNatClampNeg ≤ (fH).toNatClampNeg) (hf5 : (p1_).toNatClampNeg ≤ (p1_).toNatClampNeg) :
   oMet l oM24 jdk_65_method_123_code 3 (some (.array .int)) ws (oR 1 1 32 60) Z h0 #[(.ref a0_), (.int p1_)] (qC Z a0_ p1_ fH h0 n0) := by
 refine oBd n0 (plainFor_of_name aE5) ?_
 intro p e s m below meth c s₁ Bd hx hZ hby hml hown hnm X0 e0 N0
 obtain ⟨c1, A1, S1, M1⟩ := dE mP
 obtain ⟨T2, h2, k2, X2, e2, E2, A2, B2, st2⟩ := newPE X0 hx hZ (oW hw 84 rfl) e0 (g := (mkF m 15 #[oA a0_, oI p1_, .unset] [(.int p1_)])) rfl (oG hby d40 9 rfl) rfl hf1 (cap := 32) hf2 (by decide) (by decide) (by decide) (ad := "[I") rfl
 obtain ⟨b2, g2⟩ : ∃ z, z = h0.size := ⟨_, rfl⟩
 rw [← g2] at A2 B2 st2
 have pY : h0.size ≤ b2 := Nat.le_of_eq g2.symm
 have aI8 : a0_ ≠ b2 := oV mP.lt pY
 have mJ : h0.size ≤ b2 := Nat.le_trans (Keep.refl h0 []).1 pY
 have g_b2 : n0 ≤ b2 := Nat.le_trans Z0 mJ
 have K2 : Keep h0 h2 [] := (Keep.refl h0 []).ext E2
 have V2 := (dY (m := 0) A2 hf1).ia
 have gV := (mP.ext E2)
 obtain ⟨c4, A4, S4, M4⟩ := dE gV
 obtain ⟨_, _, ⟨T5, L5, k5, n5⟩, -, X5, ⟨Lc5, hQ5, l5, y5, z5⟩, st5⟩ := Jvm.LawKit.callS X2 hx (y := oM20) hown (mvT hZ (oW hw 228 rfl)) (mvT hZ (oW hw 51 rfl)) (mvT hZ (oW hw 32 rfl)) (mvT hZ (oW hw 52 rfl)) (by decide) (backOf (W := 4) (aB0 l Z a0 hw [] fH p1_ h2 n0 (Nat.le_trans Z0 K2.1) hf3) hZ (oW hw 52 rfl) (oW hw 32 rfl) (by decide) (by decide)) (g := (mkF m 25 #[oA a0_, oI p1_, oA b2] [(.int p1_), (.int fH), (.int 0), (.ref b2), (.int 0), (.ref a0_)])) rfl (by rw [hml]; rfl) (argsL := [(.int fH), (.int p1_)]) (rest := [(.int 0), (.ref b2), (.int 0), (.ref a0_)]) (lenOf mE rfl) rfl (by show 2 * 0 + _ ≤ _; exact Nat.le_of_eq rfl) (oG hby d40 18 rfl) (fun _ _ => ⟨rfl, e2, (by decide : 1 + 0 ≤ _), (by decide : 32 + 0 ≤ _)⟩)
 dsimp only [Pt.U, Pt.locs, Pt.cells, Pt.slots] at X5 l5 y5 z5 st5 hQ5
 subst l5 y5 z5
 obtain ⟨rfl, N5q, e5⟩ := hQ5
 have N5 := Fr.app N0 N5q
 obtain ⟨T6, L6, X6, N6, Kq6, V6, st6⟩ := bB7 X5 hx hZ hown (oW hw 229 rfl) (oW hw 232 rfl) (oW hw 230 rfl) (oW hw 231 rfl) e5 gV V2 hf1 hf4 hf5 N5 g_b2 (g := (mkF m 28 #[oA a0_, oI p1_, oA b2] [(.int p1_), (.int 0), (.ref b2), (.int 0), (.ref a0_)])) rfl (by rw [hml]; rfl) rfl (oG hby d40 19 rfl) (by decide) (W := 0) (by show 2 * 0 + _ ≤ _; exact Nat.le_of_eq rfl) (by decide)
 have K6 : Keep h0 T6.heap [] := K2.trans Kq6 (bJ (Or.inr mJ))
 have aQ8 := (B2.keep Kq6)
 obtain ⟨fs, hr, hrun, hended, hW, hsame⟩ := X6.leave (v := some (.ref b2)) (fun h => by rw [Bd.returns] at h; cases h)
 refine ⟨_, _, castTop (zP m a0_ p1_) ?_, hrun, hended, _, _, rfl, ?_, ⟨_, rfl⟩, hW, (hsame.mono (by decide) (by decide))⟩
 · show oZ p e below s₁ (mkF m 0 #[oA a0_, oI p1_, .unset] []) _
   refine XS.iloadN X0.here hx rfl (oG hby d40 0 rfl) rfl ?_
   refine XS.aloadN X0.here hx rfl (oG hby d40 1 rfl) rfl rfl ?_
   refine X0.arraylength hx (by rw [e0]; exact A1.1) (State.isArrayOf_alike hZ.alike A1.2.1) (g := (mkF m 2 #[oA a0_, oI p1_, .unset] [(.ref a0_), (.int p1_)])) rfl rfl (oG hby d40 2 rfl) _ ?_
   rw [len_of S1 M1]
   refine XS.icmpYes X0.here hx rfl (pc0 := 3) (pc' := 14) rfl (oG hby d40 3 rfl) rfl (feq hf0).2 (by decide) (by decide) ?_
   refine XS.iloadN X0.here hx rfl (oG hby d40 8 rfl) rfl ?_
   refine st2 _ ?_
   refine XS.astoreN X2.here hx rfl (oG hby d40 10 rfl) rfl rfl (l' := #[oA a0_, oI p1_, oA b2]) rfl ?_
   refine XS.aloadN X2.here hx rfl (oG hby d40 11 rfl) rfl rfl ?_
   refine XS.iconst X2.here hx rfl (oG hby d40 12 rfl) ?_
   refine XS.aloadN X2.here hx rfl (oG hby d40 13 rfl) rfl rfl ?_
   refine XS.iconst X2.here hx rfl (oG hby d40 14 rfl) ?_
   show oZ p e below T2 (mkF m 22 #[oA a0_, oI p1_, oA b2] [(.int 0), (.ref b2), (.int 0), (.ref a0_)]) _
   refine XS.aloadN X2.here hx rfl (oG hby d40 15 rfl) rfl rfl ?_
   refine X2.arraylength hx (by rw [e2]; exact A4.1) (State.isArrayOf_alike hZ.alike A4.2.1) (g := (mkF m 23 #[oA a0_, oI p1_, oA b2] [(.ref a0_), (.int 0), (.ref b2), (.int 0), (.ref a0_)])) rfl rfl (oG hby d40 16 rfl) _ ?_
   rw [len_of S4 M4]
   refine XS.iloadN X2.here hx rfl (oG hby d40 17 rfl) rfl ?_
   refine st5 _ ?_
   refine st6 _ ?_
   refine XS.aloadN X6.here hx rfl (oG hby d40 20 rfl) rfl rfl ?_
   show oZ p e below T6 (mkF m 32 #[oA a0_, oI p1_, oA b2] [(.ref b2)]) _
   jvm_step X6.here [X6.here.top, hx, (oG hby d40 21 rfl), X6.method', Bd.returns, Value.isRef, FieldType.isReference]
   first | (intro acts; rw [hr _ acts rfl rfl rfl]) | rw [hr _ _ rfl rfl rfl]
   exact Steps.refl _
 · show qC Z a0_ p1_ fH h0 n0 _ T6.heap _
   exact ⟨b2, rfl, N6, K6, mJ, aQ8, V6⟩
theorem aI9 (l : Launch) (Z : State) (a0 : Array Value) (hw : oH a0 Z) (ws : List Jvm.Cond) (a0_ : Addr) (p1_ : Int32) (w_NONE : Addr) (h0 : Heap) (n0 : Nat) (Z0 : n0 ≤ h0.size) (S_NONE : Sta Z h0 oC4 "NONE" "[I" (.ref w_NONE)) (hf0 : p1_ = (0 : Int32)) :
   oMet l oM10 prog_28_method_3_code 2 (some (.array .int)) ws (oR 2 1 32 100) Z h0 #[(.ref a0_), (.int p1_)] (cD (some (.ref w_NONE)) h0 n0) := by
 refine oBd n0 (plainFor_of_name pK) ?_
 intro p e s m below meth c s₁ Bd hx hZ hby hml hown hnm X0 e0 N0
 obtain ⟨T1, X1, e1, st1⟩ := getS2 X0 hx hZ hown (host := "") (Or.inl (oW hw 233 rfl)) Via.refl e0 S_NONE (g := (mkF m 4 #[oA a0_, oI p1_] [])) rfl (oG hby d39 2 rfl)
 obtain ⟨fs, hr, hrun, hended, hW, hsame⟩ := X1.leave (v := some (.ref w_NONE)) (fun h => by rw [Bd.returns] at h; cases h)
 refine ⟨_, _, castTop (uP m a0_ p1_) ?_, hrun, hended, _, _, rfl, ?_, ⟨_, rfl⟩, hW, (hsame.mono (by decide) (by decide))⟩
 · show oZ p e below s₁ (mkF m 0 #[oA a0_, oI p1_] []) _
   refine XS.iloadN X0.here hx rfl (oG hby d39 0 rfl) rfl ?_
   refine XS.ifNo X0.here hx rfl (oG hby d39 1 rfl) rfl ((if0 _ _).trans (teq hf0).2) ?_
   refine st1 _ ?_
   refine XS.goto X1.here hx rfl (pc0 := 7) (pc' := 15) rfl (oG hby d39 3 rfl) (by decide) (by decide) ?_
   show oZ p e below T1 (mkF m 15 #[oA a0_, oI p1_] [(.ref w_NONE)]) _
   jvm_step X1.here [X1.here.top, hx, (oG hby d39 7 rfl), X1.method', Bd.returns, Value.isRef, FieldType.isReference]
   first | (intro acts; rw [hr _ acts rfl rfl rfl]) | rw [hr _ _ rfl rfl rfl]
   exact Steps.refl _
 · show cD (some (.ref w_NONE)) h0 n0 _ T1.heap _
   exact ⟨rfl, N0, e1⟩
def qD (Z : State) (a0_ : Addr) (p1_ : Int32) (fH : Int32) (h0 : Heap) (n0 : Nat) (v : Option Value) (h : Heap) (L : List Loc) : Prop := ∃ r1_b2 : Addr, v = some (.ref r1_b2) ∧ Fr n0 L ∧ Keep h0 h [] ∧ h0.size ≤ r1_b2 ∧ Exa Z h r1_b2 "[I" ∧ bC Z h r1_b2 fH
theorem yU (l : Launch) (Z : State) (a0 : Array Value) (hw : oH a0 Z) (ws : List Jvm.Cond) (a0_ : Addr) (p1_ : Int32) (fH : Int32) (h0 : Heap) (n0 : Nat) (Z0 : n0 ≤ h0.size) (mP : bC Z h0 a0_ fH) (bR : Exa Z h0 a0_ "[I") (hf0 : ¬ (p1_ = (0 : Int32))) (hf1 : p1_ = fH) (hf2 : (fH).toNatClampNeg ≤ 32) :
   oMet l oM10 prog_28_method_3_code 2 (some (.array .int)) ws (oR 2 1 32 100) Z h0 #[(.ref a0_), (.int p1_)] (qD Z a0_ p1_ fH h0 n0) := by
 refine oBd n0 (plainFor_of_name pK) ?_
 intro p e s m below meth c s₁ Bd hx hZ hby hml hown hnm X0 e0 N0
 obtain ⟨_, _, ⟨T1, L1, k1, n1⟩, -, X1, ⟨Lc1, hQ1, l1, y1, z1⟩, st1⟩ := Jvm.LawKit.callS X0 hx (y := oM24) hown (mvT hZ (oW hw 225 rfl)) (mvT hZ (oW hw 226 rfl)) (mvT hZ (oW hw 204 rfl)) (mvT hZ (oW hw 227 rfl)) (by decide) (backOf (W := 0) (aI7 l Z a0 hw [] a0_ p1_ fH h0 n0 Z0 mP bR hf1 hf2) hZ (oW hw 227 rfl) (oW hw 204 rfl) (by decide) (by decide)) (g := (mkF m 12 #[oA a0_, oI p1_] [(.int p1_), (.ref a0_)])) rfl (by rw [hml]; rfl) (argsL := [(.ref a0_), (.int p1_)]) (rest := []) (lenOf rK rfl) rfl (by show 2 * 0 + _ ≤ _; exact Nat.le_of_eq rfl) (oG hby d39 6 rfl) (fun _ _ => ⟨rfl, e0, (by decide : 0 + 1 ≤ _), (by decide : 0 + 32 ≤ _)⟩)
 dsimp only [Pt.U, Pt.locs, Pt.cells, Pt.slots] at X1 l1 y1 z1 st1 hQ1
 subst l1 y1 z1
 obtain ⟨r1_b2, rfl, N1q, Kq1, pC, rT, aC6⟩ := hQ1
 have N1 := Fr.app N0 N1q
 have yV : a0_ ≠ r1_b2 := oV mP.lt pC
 have pD : h0.size ≤ r1_b2 := Nat.le_trans (Keep.refl h0 []).1 pC
 have g_r1_b2 : n0 ≤ r1_b2 := Nat.le_trans Z0 pD
 have K1 : Keep h0 T1.heap [] := (Keep.refl h0 []).trans Kq1 dX
 obtain ⟨fs, hr, hrun, hended, hW, hsame⟩ := X1.leave (v := some (.ref r1_b2)) (fun h => by rw [Bd.returns] at h; cases h)
 refine ⟨_, _, castTop (uP m a0_ p1_) ?_, hrun, hended, _, _, rfl, ?_, ⟨_, rfl⟩, hW, (hsame.mono (by decide) (by decide))⟩
 · show oZ p e below s₁ (mkF m 0 #[oA a0_, oI p1_] []) _
   refine XS.iloadN X0.here hx rfl (oG hby d39 0 rfl) rfl ?_
   refine XS.ifYes X0.here hx rfl (pc0 := 1) (pc' := 10) rfl (oG hby d39 1 rfl) rfl ((if0 _ _).trans (feq hf0).2) (by decide) (by decide) ?_
   refine XS.aloadN X0.here hx rfl (oG hby d39 4 rfl) rfl rfl ?_
   refine XS.iloadN X0.here hx rfl (oG hby d39 5 rfl) rfl ?_
   refine st1 _ ?_
   show oZ p e below T1 (mkF m 15 #[oA a0_, oI p1_] [(.ref r1_b2)]) _
   jvm_step X1.here [X1.here.top, hx, (oG hby d39 7 rfl), X1.method', Bd.returns, Value.isRef, FieldType.isReference]
   first | (intro acts; rw [hr _ acts rfl rfl rfl]) | rw [hr _ _ rfl rfl rfl]
   exact Steps.refl _
 · show qD Z a0_ p1_ fH h0 n0 _ T1.heap _
   exact ⟨r1_b2, rfl, N1, K1, pD, rT, aC6⟩
def qE (Z : State) (a0_ : Addr) (p1_ : Int32) (fH : Int32) (h0 : Heap) (n0 : Nat) (v : Option Value) (h : Heap) (L : List Loc) : Prop := ∃ r1_b2 : Addr, v = some (.ref r1_b2) ∧ Fr n0 L ∧ Keep h0 h [] ∧ h0.size ≤ r1_b2 ∧ Exa Z h r1_b2 "[I" ∧ bC Z h r1_b2 p1_
theorem yW (l : Launch) (Z : State) (a0 : Array Value) (hw : oH a0 Z) (ws : List Jvm.Cond) (a0_ : Addr) (p1_ : Int32) (fH : Int32) (h0 : Heap) (n0 : Nat) (Z0 : n0 ≤ h0.size) (mP : bC Z h0 a0_ fH) (hf0 : ¬ (p1_ = (0 : Int32))) (hf1 : ¬ (p1_ = fH)) (hf2 : ¬ (p1_ < 0)) (hf3 : p1_.toNatClampNeg ≤ 32) (hf4 : p1_ < fH) (hf5 : (p1_).toNatClampNeg ≤ (fH).toNatClampNeg) (hf6 : (p1_).toNatClampNeg ≤ (p1_).toNatClampNeg) :
   oMet l oM10 prog_28_method_3_code 2 (some (.array .int)) ws (oR 2 1 32 100) Z h0 #[(.ref a0_), (.int p1_)] (qE Z a0_ p1_ fH h0 n0) := by
 refine oBd n0 (plainFor_of_name pK) ?_
 intro p e s m below meth c s₁ Bd hx hZ hby hml hown hnm X0 e0 N0
 obtain ⟨_, _, ⟨T1, L1, k1, n1⟩, -, X1, ⟨Lc1, hQ1, l1, y1, z1⟩, st1⟩ := Jvm.LawKit.callS X0 hx (y := oM24) hown (mvT hZ (oW hw 225 rfl)) (mvT hZ (oW hw 226 rfl)) (mvT hZ (oW hw 204 rfl)) (mvT hZ (oW hw 227 rfl)) (by decide) (backOf (W := 0) (yT l Z a0 hw [] a0_ p1_ fH h0 n0 Z0 mP hf1 hf2 hf3 hf4 hf5 hf6) hZ (oW hw 227 rfl) (oW hw 204 rfl) (by decide) (by decide)) (g := (mkF m 12 #[oA a0_, oI p1_] [(.int p1_), (.ref a0_)])) rfl (by rw [hml]; rfl) (argsL := [(.ref a0_), (.int p1_)]) (rest := []) (lenOf rK rfl) rfl (by show 2 * 0 + _ ≤ _; exact Nat.le_of_eq rfl) (oG hby d39 6 rfl) (fun _ _ => ⟨rfl, e0, (by decide : 0 + 1 ≤ _), (by decide : 0 + 32 ≤ _)⟩)
 dsimp only [Pt.U, Pt.locs, Pt.cells, Pt.slots] at X1 l1 y1 z1 st1 hQ1
 subst l1 y1 z1
 obtain ⟨r1_b2, rfl, N1q, Kq1, pC, rT, aC6⟩ := hQ1
 have N1 := Fr.app N0 N1q
 have yV : a0_ ≠ r1_b2 := oV mP.lt pC
 have pD : h0.size ≤ r1_b2 := Nat.le_trans (Keep.refl h0 []).1 pC
 have g_r1_b2 : n0 ≤ r1_b2 := Nat.le_trans Z0 pD
 have K1 : Keep h0 T1.heap [] := (Keep.refl h0 []).trans Kq1 dX
 obtain ⟨fs, hr, hrun, hended, hW, hsame⟩ := X1.leave (v := some (.ref r1_b2)) (fun h => by rw [Bd.returns] at h; cases h)
 refine ⟨_, _, castTop (uP m a0_ p1_) ?_, hrun, hended, _, _, rfl, ?_, ⟨_, rfl⟩, hW, (hsame.mono (by decide) (by decide))⟩
 · show oZ p e below s₁ (mkF m 0 #[oA a0_, oI p1_] []) _
   refine XS.iloadN X0.here hx rfl (oG hby d39 0 rfl) rfl ?_
   refine XS.ifYes X0.here hx rfl (pc0 := 1) (pc' := 10) rfl (oG hby d39 1 rfl) rfl ((if0 _ _).trans (feq hf0).2) (by decide) (by decide) ?_
   refine XS.aloadN X0.here hx rfl (oG hby d39 4 rfl) rfl rfl ?_
   refine XS.iloadN X0.here hx rfl (oG hby d39 5 rfl) rfl ?_
   refine st1 _ ?_
   show oZ p e below T1 (mkF m 15 #[oA a0_, oI p1_] [(.ref r1_b2)]) _
   jvm_step X1.here [X1.here.top, hx, (oG hby d39 7 rfl), X1.method', Bd.returns, Value.isRef, FieldType.isReference]
   first | (intro acts; rw [hr _ acts rfl rfl rfl]) | rw [hr _ _ rfl rfl rfl]
   exact Steps.refl _
 · show qE Z a0_ p1_ fH h0 n0 _ T1.heap _
   exact ⟨r1_b2, rfl, N1, K1, pD, rT, aC6⟩
def bC0 (Z : State) (w : Addr) (h0 : Heap) (n0 : Nat) (v : Option Value) (h : Heap) (L : List Loc) : Prop := ∃ (r : Addr) (y : Int32), v = some (.ref r) ∧ Fr n0 L ∧ Keep h0 h [] ∧ bC Z h r y ∧ ∀ x, x < h0.size → x ≠ w → r ≠ x
theorem aF2 (l : Launch) (Z : State) (a0 : Array Value) (hw : oH a0 Z) (ws : List Jvm.Cond) (o0 : Addr) (p1 : Int32) (w : Addr) (n1 n2 : Int32) (cnt n : Nat) (h0 : Heap) (n0 : Nat) (Z0 : n0 ≤ h0.size) (SN : Sta Z h0 oC4 "NONE" "[I" (.ref w)) (AN : bC Z h0 w n2) (A : bC Z h0 o0 n1) (EX : Exa Z h0 o0 "[I") (e1 : n1 = Int32.ofNat n) (e2 : p1 = Int32.ofNat cnt) (hle : cnt ≤ n) (hn : n ≤ 32) :
   oMet l oM10 prog_28_method_3_code 2 (some (.array .int)) ws (oR 2 1 32 100) Z h0 #[(.ref o0), (.int p1)] (bC0 Z w h0 n0) := by
 subst e1 e2
 have hn' : (Int32.ofNat n).toNatClampNeg ≤ 32 := by rw [eQ (by omega)]; exact hn
 have hc' : (Int32.ofNat cnt).toNatClampNeg ≤ 32 := by rw [eQ (by omega)]; omega
 have hle' : (Int32.ofNat cnt).toNatClampNeg ≤ (Int32.ofNat n).toNatClampNeg := by rw [eQ (by omega), eQ (by omega)]; exact hle
 have hz := eP (i := cnt) (by omega)
 by_cases q0 : (Int32.ofNat cnt) = (0 : Int32)
 · exact dJ (aI9 l Z a0 hw ws o0 (Int32.ofNat cnt) w h0 n0 Z0 SN q0) fun v h Lc ⟨a1, a2, a3⟩ => ⟨w, n2, a1, a2, a3 ▸ Keep.refl _ _, a3 ▸ AN, fun x _ hx => Ne.symm hx⟩
 · by_cases q1 : (Int32.ofNat cnt) = (Int32.ofNat n)
   · exact dJ (yU l Z a0 hw ws o0 (Int32.ofNat cnt) (Int32.ofNat n) h0 n0 Z0 A EX q0 q1 hn') fun v h Lc ⟨r, a1, a2, a3, a4, a5, a6⟩ => ⟨r, _, a1, a2, a3, a6, fun x hx _ => Ne.symm (Nat.ne_of_lt (Nat.lt_of_lt_of_le hx a4))⟩
   · have hlt := dV (i := cnt) (c := n) (by rcases Nat.lt_or_ge cnt n with g | g; exact g; exact absurd (by rw [Nat.le_antisymm hle g]) q1) (by omega)
     exact dJ (yW l Z a0 hw ws o0 (Int32.ofNat cnt) (Int32.ofNat n) h0 n0 Z0 A q0 q1 hz hc' hlt hle' (Nat.le_refl _)) fun v h Lc ⟨r, a1, a2, a3, a4, a5, a6⟩ => ⟨r, _, a1, a2, a3, a6, fun x hx _ => Ne.symm (Nat.ne_of_lt (Nat.lt_of_lt_of_le hx a4))⟩
theorem aQ9 (rc : Nat) (rs : Nat) (o0_ : Addr) (o1_ : Addr) (dG : Int32) (eY : Int32)
   (X0 : Stand p l e (oR 4 rc rs 150) s m args below meth c T0 locs cells slots) (hx : p.tables.exec = Jvm.exec) (hZ : Z.Warmed39 s.vm) (hw : oH a0 Z) (hby : c.code = prog_28_method_2_code) (hml : c.maxLocals = 8) (hown : s.vm.findClass oC4 = some m.cls) (e0 : T0.heap = h0) (N0 : Fr n0 locs) (Z0 : n0 ≤ h0.size) (fQ : bC Z h0 o1_ dG) (gS : bC Z h0 o0_ eY) (hf0 : ¬ (dG < 0)) (hf1 : dG.toNatClampNeg ≤ 32) (hf2 : ¬ (eY < 0)) (hf3 : eY.toNatClampNeg ≤ 32) (hc : cells + (1 + 1) ≤ rc) (hs : slots + (32 + 32) ≤ rs) :
   ∃ (b2 : Addr) (b5 : Addr) (T' : State) (locs' : List Loc), Stand p l e (oR 4 rc rs 150) s m args below meth c T' locs' (cells + 1 + 1) (slots + 32 + 32) ∧ Fr n0 locs' ∧ Keep h0 T'.heap [] ∧ h0.size ≤ b2 ∧ h0.size ≤ b5 ∧ b2 ≠ b5 ∧ Exa Z T'.heap b2 "[I" ∧ bC Z T'.heap b2 dG ∧ Exa Z T'.heap b5 "[I" ∧ bC Z T'.heap b5 eY ∧
     ∀ target, Steps p.tables e below (T'.setTop (mkF m 22 #[oA o0_, oA o1_, oA b2, oA b5, oI 0, oI 0, oI 0, oI 0] [])) target → Steps p.tables e below (T0.setTop (mkF m 0 #[oA o0_, oA o1_, .unset, .unset, .unset, .unset, .unset, .unset] [])) target := by
 obtain ⟨c1, A1, S1, M1⟩ := dE fQ
 obtain ⟨T2, h2, k2, X2, e2, E2, A2, B2, st2⟩ := newPE X0 hx hZ (oW hw 84 rfl) e0 (g := (mkF m 2 #[oA o0_, oA o1_, .unset, .unset, .unset, .unset, .unset, .unset] [(.int dG)])) rfl (oG hby d38 2 rfl) rfl hf0 (cap := 32) hf1 (by decide) (show cells + 1 ≤ rc from by omega) (show slots + 32 ≤ rs from by omega) (ad := "[I") rfl
 obtain ⟨b2, g2⟩ : ∃ z, z = h0.size := ⟨_, rfl⟩
 rw [← g2] at A2 B2 st2
 have pY : h0.size ≤ b2 := Nat.le_of_eq g2.symm
 have bD6 : o1_ ≠ b2 := oV fQ.lt pY
 have mJ : h0.size ≤ b2 := Nat.le_trans (Keep.refl h0 []).1 pY
 have g_b2 : n0 ≤ b2 := Nat.le_trans Z0 mJ
 have K2 : Keep h0 h2 [] := (Keep.refl h0 []).ext E2
 have V2 := (dY (m := 0) A2 hf0).ia
 have aR0 := (gS.ext E2)
 obtain ⟨c4, A4, S4, M4⟩ := dE aR0
 obtain ⟨T5, h5, k5, X5, e5, E5, A5, B5, st5⟩ := newPE X2 hx hZ (oW hw 84 rfl) e2 (g := (mkF m 7 #[oA o0_, oA o1_, oA b2, .unset, .unset, .unset, .unset, .unset] [(.int eY)])) rfl (oG hby d38 6 rfl) rfl hf2 (cap := 32) hf3 (by decide) (show cells + 1 + 1 ≤ rc from by omega) (show slots + 32 + 32 ≤ rs from by omega) (ad := "[I") rfl
 obtain ⟨b5, g5⟩ : ∃ z, z = h2.size := ⟨_, rfl⟩
 rw [← g5] at A5 B5 st5
 have wM : h2.size ≤ b5 := Nat.le_of_eq g5.symm
 have bD7 : o0_ ≠ b5 := oV aR0.lt wM
 have bC1 := (fQ.ext E2)
 have bD8 : o1_ ≠ b5 := oV bC1.lt wM
 have aR1 : b2 ≠ b5 := oV B2.lt wM
 have eH : h0.size ≤ b5 := Nat.le_trans K2.1 wM
 have g_b5 : n0 ≤ b5 := Nat.le_trans Z0 eH
 have K5 : Keep h0 h5 [] := K2.ext E5
 have V5 := (dY (m := 0) A5 hf2).ia
 have aQ8 := (B2.ext E5)
 have bF7 := (V2.ext E5)
 subst e5
 refine ⟨b2, b5, T5, _, eS X5 (by omega) (by omega), N0, K5, mJ, eH, aR1, aQ8, bF7, B5, V5, fun target kt => ?_⟩
 show oZ p e below T0 (mkF m 0 #[oA o0_, oA o1_, .unset, .unset, .unset, .unset, .unset, .unset] []) _
 refine XS.aloadN X0.here hx rfl (oG hby d38 0 rfl) rfl rfl ?_
 refine X0.arraylength hx (by rw [e0]; exact A1.1) (State.isArrayOf_alike hZ.alike A1.2.1) (g := (mkF m 1 #[oA o0_, oA o1_, .unset, .unset, .unset, .unset, .unset, .unset] [(.ref o1_)])) rfl rfl (oG hby d38 1 rfl) _ ?_
 rw [len_of S1 M1]
 refine st2 _ ?_
 refine XS.astoreN X2.here hx rfl (oG hby d38 3 rfl) rfl rfl (l' := #[oA o0_, oA o1_, oA b2, .unset, .unset, .unset, .unset, .unset]) rfl ?_
 refine XS.aloadN X2.here hx rfl (oG hby d38 4 rfl) rfl rfl ?_
 refine X2.arraylength hx (by rw [e2]; exact A4.1) (State.isArrayOf_alike hZ.alike A4.2.1) (g := (mkF m 6 #[oA o0_, oA o1_, oA b2, .unset, .unset, .unset, .unset, .unset] [(.ref o0_)])) rfl rfl (oG hby d38 5 rfl) _ ?_
 rw [len_of S4 M4]
 refine st5 _ ?_
 refine XS.astoreN X5.here hx rfl (oG hby d38 7 rfl) rfl rfl (l' := #[oA o0_, oA o1_, oA b2, oA b5, .unset, .unset, .unset, .unset]) rfl ?_
 refine XS.iconst X5.here hx rfl (oG hby d38 8 rfl) ?_
 refine XS.istore X5.here hx rfl (oG hby d38 9 rfl) rfl (l' := #[oA o0_, oA o1_, oA b2, oA b5, oI 0, .unset, .unset, .unset]) rfl ?_
 refine XS.iconst X5.here hx rfl (oG hby d38 10 rfl) ?_
 show oZ p e below T5 (mkF m 14 #[oA o0_, oA o1_, oA b2, oA b5, oI 0, .unset, .unset, .unset] [(.int 0)]) _
 refine XS.istore X5.here hx rfl (oG hby d38 11 rfl) rfl (l' := #[oA o0_, oA o1_, oA b2, oA b5, oI 0, oI 0, .unset, .unset]) rfl ?_
 refine XS.iconst X5.here hx rfl (oG hby d38 12 rfl) ?_
 refine XS.istore X5.here hx rfl (oG hby d38 13 rfl) rfl (l' := #[oA o0_, oA o1_, oA b2, oA b5, oI 0, oI 0, oI 0, .unset]) rfl ?_
 refine XS.iconst X5.here hx rfl (oG hby d38 14 rfl) ?_
 refine XS.istore X5.here hx rfl (oG hby d38 15 rfl) rfl (l' := #[oA o0_, oA o1_, oA b2, oA b5, oI 0, oI 0, oI 0, oI 0]) rfl ?_
 exact kt
def wN (Z : State) (a0_ : Addr) (a1_ : Addr) (a2_ : Addr) (lQ : Value) (jV : Value) (h0 : Heap) (n0 : Nat) (v : Option Value) (h : Heap) (L : List Loc) : Prop := v = none ∧ Fr n0 L ∧ Keep h0 h [a0_] ∧ Exa Z h a0_ oC4 ∧ Fld Z h a0_ oC4 "added" "[I" (.ref a1_) ∧ Fld Z h a0_ oC4 "removed" "[I" (.ref a2_)
theorem aJ0 (l : Launch) (Z : State) (a0 : Array Value) (hw : oH a0 Z) (ws : List Jvm.Cond) (a0_ : Addr) (a1_ : Addr) (a2_ : Addr) (lQ : Value) (jV : Value) (h0 : Heap) (n0 : Nat) (Z0 : n0 ≤ h0.size) (bR : Exa Z h0 a0_ oC4) (tQ : Fld Z h0 a0_ oC4 "added" "[I" lQ) (eM : n0 ≤ a0_) (lZ : Fld Z h0 a0_ oC4 "removed" "[I" jV) :
   oMet l oM32 prog_28_method_1_code 3 none ws (oR 1 0 0 12) Z h0 #[(.ref a0_), (.ref a1_), (.ref a2_)] (wN Z a0_ a1_ a2_ lQ jV h0 n0) := by
 refine oBd n0 (plainFor_of_name pK) ?_
 intro p e s m below meth c s₁ Bd hx hZ hby hml hown hnm X0 e0 N0
 obtain ⟨T1, X1, e1, st1⟩ := initO X0 hx hZ hown (oW hw 238 rfl) (oW hw 8 rfl) (oW hw 9 rfl) e0 (g := (mkF m 1 #[oA a0_, oA a1_, oA a2_] [(.ref a0_)])) rfl (by rw [hml]; rfl) rfl (oG hby d41 1 rfl) (by decide) (W := 0) (by show 2 * 0 + _ ≤ _; exact Nat.le_of_eq rfl) (by decide)
 obtain ⟨T2, h2, X2, e2, W2, st2⟩ := putF X1 hx hZ hown (host := "") (Or.inl (oW hw 239 rfl)) Via.refl e1 tQ bR (Or.inr ⟨(oW hw 240 rfl), rfl, hnm⟩) (oW hw 221 rfl) (ty := (.array .int)) (by decide) rfl rfl (g := (mkF m 6 #[oA a0_, oA a1_, oA a2_] [(.ref a1_), (.ref a0_)])) rfl rfl (oG hby d41 4 rfl)
 have Fw2 := tQ.same W2
 have K2 : Keep h0 h2 [a0_] := (Keep.refl h0 [a0_]).wr W2 (Or.inl (oX 0 rfl))
 have N2 := Fr.snoc X2 N0 eM
 have gV := (bR.wr W2)
 have pE := (lZ.other W2 (oN (Or.inr (oW hw 242 rfl)) (Or.inr (oW hw 240 rfl)) (t := (.array .int)) (t' := (.array .int))))
 obtain ⟨T5, h5, X5, e5, W5, st5⟩ := putF X2 hx hZ hown (host := "") (Or.inl (oW hw 241 rfl)) Via.refl e2 pE gV (Or.inr ⟨(oW hw 242 rfl), rfl, hnm⟩) (oW hw 221 rfl) (ty := (.array .int)) (by decide) rfl rfl (g := (mkF m 11 #[oA a0_, oA a1_, oA a2_] [(.ref a2_), (.ref a0_)])) rfl rfl (oG hby d41 7 rfl)
 have Fw5 := pE.same W5
 have K5 : Keep h0 h5 [a0_] := K2.wr W5 (Or.inl (oX 0 rfl))
 have N5 := Fr.snoc X5 N2 eM
 have eW := (gV.wr W5)
 have yX := (Fw2.other W5 (oN (Or.inr (oW hw 240 rfl)) (Or.inr (oW hw 242 rfl)) (t := (.array .int)) (t' := (.array .int))))
 obtain ⟨fs, hr, hrun, hended, hW, hsame⟩ := X5.leave (v := none) (fun _ => rfl)
 refine ⟨_, _, castTop (aL7 m a0_ a1_ a2_) ?_, hrun, hended, _, _, rfl, ?_, ⟨_, rfl⟩, hW, (hsame.mono (by decide) (by decide))⟩
 · show oZ p e below s₁ (mkF m 0 #[oA a0_, oA a1_, oA a2_] []) _
   refine XS.aloadN X0.here hx rfl (oG hby d41 0 rfl) rfl rfl ?_
   refine st1 _ ?_
   refine XS.aloadN X1.here hx rfl (oG hby d41 2 rfl) rfl rfl ?_
   refine XS.aloadN X1.here hx rfl (oG hby d41 3 rfl) rfl rfl ?_
   refine st2 _ ?_
   refine XS.aloadN X2.here hx rfl (oG hby d41 5 rfl) rfl rfl ?_
   refine XS.aloadN X2.here hx rfl (oG hby d41 6 rfl) rfl rfl ?_
   refine st5 _ ?_
   show oZ p e below T5 (mkF m 14 #[oA a0_, oA a1_, oA a2_] []) _
   exact X5.returnOut hx Bd.returns (oG hby d41 8 rfl) hr
 · show wN Z a0_ a1_ a2_ lQ jV h0 n0 _ T5.heap _
   rw [e5]
   exact ⟨rfl, N5, K5, eW, yX, Fw5⟩
theorem aR2 (rc : Nat) (rs : Nat) (o0_ : Addr) (o1_ : Addr) (o2_ : Addr) (o3_ : Addr) (i4_ : Int32) (i5_ : Int32) (i6_ : Int32) (i7_ : Int32) (aF3 : Nat) (aR3 : Nat) (w_NONE : Addr) (n_w_NONE : Int32) (cT : Int32) (aF4 : Nat) (aR4 : Nat) (lP : Int32)
   (X0 : Stand p l e (oR 4 rc rs 150) s m args below meth c T0 locs cells slots) (hx : p.tables.exec = Jvm.exec) (hZ : Z.Warmed39 s.vm) (hw : oH a0 Z) (hby : c.code = prog_28_method_2_code) (hml : c.maxLocals = 8) (hown : s.vm.findClass oC4 = some m.cls) (e0 : T0.heap = h0) (N0 : Fr n0 locs) (Z0 : n0 ≤ h0.size) (S_NONE : Sta Z h0 oC4 "NONE" "[I" (.ref w_NONE)) (A_w_NONE : bC Z h0 w_NONE n_w_NONE) (gL : bC Z h0 o2_ cT) (bF8 : Exa Z h0 o2_ "[I") (wK : bC Z h0 o3_ lP) (uX : Exa Z h0 o3_ "[I") (hf0 : cT = Int32.ofNat aR3) (hf1 : i4_ = Int32.ofNat aF3) (hf2 : aF3 ≤ aR3) (hf3 : aR3 ≤ 32) (hf4 : lP = Int32.ofNat aR4) (hf5 : i5_ = Int32.ofNat aF4) (hf6 : aF4 ≤ aR4) (hf7 : aR4 ≤ 32) (hc : cells + (1 + 1 + 1) ≤ rc) (hs : slots + (2 + 32 + 32) ≤ rs) :
   ∃ (b1 : Addr) (r2_r : Addr) (r7_r : Addr) (v2_y : Int32) (v7_y : Int32) (T' : State) (locs' : List Loc), Stand p l e (oR 4 rc rs 150) s m args below meth c T' locs' (cells + 1 + 1 + 1) (slots + 2 + 32 + 32) ∧ Fr n0 locs' ∧ Keep h0 T'.heap [] ∧ h0.size ≤ b1 ∧ Exa Z T'.heap b1 oC4 ∧ Fld Z T'.heap b1 oC4 "added" "[I" (.ref r2_r) ∧ Fld Z T'.heap b1 oC4 "removed" "[I" (.ref r7_r) ∧ bC Z T'.heap r2_r v2_y ∧ bC Z T'.heap r7_r v7_y ∧
     ∀ target, Steps p.tables e below (T'.setTop (mkF m 141 #[oA o0_, oA o1_, oA o2_, oA o3_, oI i4_, oI i5_, oI i6_, oI i7_] [(.ref b1)])) target → Steps p.tables e below (T0.setTop (mkF m 122 #[oA o0_, oA o1_, oA o2_, oA o3_, oI i4_, oI i5_, oI i6_, oI i7_] [])) target := by
 obtain ⟨T1, h1, X1, e1, E1, A1, D1, -, st1⟩ := newO X0 hx hZ hown (oW hw 220 rfl) (oW hw 221 rfl) (oW hw 218 rfl) e0 (g := (mkF m 122 #[oA o0_, oA o1_, oA o2_, oA o3_, oI i4_, oI i5_, oI i6_, oI i7_] [])) rfl (oG hby d38 71 rfl) (show cells + 1 ≤ rc from by omega) (show slots + 2 ≤ rs from by omega)
 obtain ⟨b1, g1⟩ : ∃ z, z = h0.size := ⟨_, rfl⟩
 rw [← g1] at A1 D1 st1
 have lA : h0.size ≤ b1 := Nat.le_of_eq g1.symm
 have bK : h0.size ≤ b1 := Nat.le_trans (Keep.refl h0 []).1 lA
 have g_b1 : n0 ≤ b1 := Nat.le_trans Z0 bK
 have K1 : Keep h0 h1 [] := (Keep.refl h0 []).ext E1
 have aR5 : Fld Z h1 b1 oC4 "added" "[I" .null := D1 (Or.inr (oW hw 240 rfl)) (ty := (.array .int)) (by decide)
 have aD9 : Fld Z h1 b1 oC4 "removed" "[I" .null := D1 (Or.inr (oW hw 242 rfl)) (ty := (.array .int)) (by decide)
 have dC := (S_NONE.ext E1)
 have xY := (A_w_NONE.ext E1)
 have bC2 := (gL.ext E1)
 have bC3 := (bF8.ext E1)
 obtain ⟨_, _, ⟨T2, L2, k2, n2⟩, -, X2, ⟨Lc2, hQ2, l2, y2, z2⟩, st2⟩ := Jvm.LawKit.callS X1 hx (y := oM10) hown (mvT hZ (oW hw 222 rfl)) (mvT hZ (oW hw 223 rfl)) (mvT hZ (oW hw 218 rfl)) (mvT hZ (oW hw 224 rfl)) (by decide) (backOf (W := 2) (aF2 l Z a0 hw [] o2_ i4_ w_NONE cT n_w_NONE aF3 aR3 h1 n0 (Nat.le_trans Z0 K1.1) dC xY bC2 bC3 hf0 hf1 hf2 hf3) hZ (oW hw 224 rfl) (oW hw 218 rfl) (Nat.le_of_ble_eq_true rfl) (Nat.le_of_ble_eq_true rfl)) (g := (mkF m 129 #[oA o0_, oA o1_, oA o2_, oA o3_, oI i4_, oI i5_, oI i6_, oI i7_] [(.int i4_), (.ref o2_), (.ref b1), (.ref b1)])) rfl (by rw [hml]; rfl) (argsL := [(.ref o2_), (.int i4_)]) (rest := [(.ref b1), (.ref b1)]) (lenOf rK rfl) rfl (by show 2 * 0 + _ ≤ _; exact Nat.le_of_eq rfl) (oG hby d38 75 rfl) (fun _ _ => ⟨rfl, e1, (show cells + 1 + 1 ≤ rc from by omega), (show slots + 2 + 32 ≤ rs from by omega)⟩)
 dsimp only [Pt.U, Pt.locs, Pt.cells, Pt.slots] at X2 l2 y2 z2 st2 hQ2
 subst l2; rw [y2, z2] at X2
 obtain ⟨r2_r, v2_y, rfl, N2q, Kq2, Q2_0, xB⟩ := hQ2
 have N2 := Fr.app N0 N2q
 have aE0 : b1 ≠ r2_r := Ne.symm (xB b1 A1.lt (Ne.symm (oV A_w_NONE.lt bK)))
 have K2 : Keep h0 T2.heap [] := K1.trans Kq2 dX
 have kO := (fM dC Kq2 (dX ))
 have aJ1 := (xY.keep Kq2 (dP _))
 have rU := ((wK.ext E1).keep Kq2 (dP _))
 have aW3 := ((uX.ext E1).keep Kq2)
 obtain ⟨_, _, ⟨T7, L7, k7, n7⟩, -, X7, ⟨Lc7, hQ7, l7, y7, z7⟩, st7⟩ := Jvm.LawKit.callS X2 hx (y := oM10) hown (mvT hZ (oW hw 222 rfl)) (mvT hZ (oW hw 223 rfl)) (mvT hZ (oW hw 218 rfl)) (mvT hZ (oW hw 224 rfl)) (by decide) (backOf (W := 3) (aF2 l Z a0 hw [] o3_ i5_ w_NONE lP n_w_NONE aF4 aR4 T2.heap n0 (Nat.le_trans Z0 K2.1) kO aJ1 rU aW3 hf4 hf5 hf6 hf7) hZ (oW hw 224 rfl) (oW hw 218 rfl) (Nat.le_of_ble_eq_true rfl) (Nat.le_of_ble_eq_true rfl)) (g := (mkF m 135 #[oA o0_, oA o1_, oA o2_, oA o3_, oI i4_, oI i5_, oI i6_, oI i7_] [(.int i5_), (.ref o3_), (.ref r2_r), (.ref b1), (.ref b1)])) rfl (by rw [hml]; rfl) (argsL := [(.ref o3_), (.int i5_)]) (rest := [(.ref r2_r), (.ref b1), (.ref b1)]) (lenOf rK rfl) rfl (by show 2 * 0 + _ ≤ _; exact Nat.le_of_eq rfl) (oG hby d38 78 rfl) (fun _ _ => ⟨rfl, rfl, (show cells + 1 + 1 + 1 ≤ rc from by omega), (show slots + 2 + 32 + 32 ≤ rs from by omega)⟩)
 dsimp only [Pt.U, Pt.locs, Pt.cells, Pt.slots] at X7 l7 y7 z7 st7 hQ7
 subst l7; rw [y7, z7] at X7
 obtain ⟨r7_r, v7_y, rfl, N7q, Kq7, Q7_0, bG4⟩ := hQ7
 have N7 := Fr.app N2 N7q
 have lY := (A1.keep Kq2)
 have aE1 : b1 ≠ r7_r := Ne.symm (bG4 b1 lY.lt (Ne.symm (oV A_w_NONE.lt bK)))
 have K7 : Keep h0 T7.heap [] := K2.trans Kq7 dX
 have nA := (lY.keep Kq7)
 have yY := ((aR5.keep Kq2 (dP _)).keep Kq7 (dP _))
 have wO := ((aD9.keep Kq2 (dP _)).keep Kq7 (dP _))
 obtain ⟨_, _, ⟨T13, L13, k13, n13⟩, -, X13, ⟨Lc13, hQ13, l13, y13, z13⟩, st13⟩ := X7.specialBack hx (y := oM32) rfl hown (mvT hZ (oW hw 235 rfl)) (mvT hZ (oW hw 236 rfl)) (mvT hZ (oW hw 237 rfl)) (by decide) (backOf (W := 1) (aJ0 l Z a0 hw [] b1 r2_r r7_r .null .null T7.heap n0 (Nat.le_trans Z0 K7.1) nA yY g_b1 wO) hZ (oW hw 237 rfl) (oW hw 218 rfl) (Nat.le_of_ble_eq_true rfl) (Nat.le_of_ble_eq_true rfl)) (g := (mkF m 138 #[oA o0_, oA o1_, oA o2_, oA o3_, oI i4_, oI i5_, oI i6_, oI i7_] [(.ref r7_r), (.ref r2_r), (.ref b1), (.ref b1)])) rfl (by rw [hml]; rfl) (Steps.refl _) (a := b1) (argsL := [(.ref r2_r), (.ref r7_r)]) (rest := [(.ref b1)]) (lenOf aK0 rfl) rfl (by show 2 * 0 + _ ≤ _; exact Nat.le_of_eq rfl) (oG hby d38 79 rfl) (fun _ _ => ⟨rfl, rfl, (show cells + 1 + 1 + 1 + 0 ≤ rc from by omega), (show slots + 2 + 32 + 32 + 0 ≤ rs from by omega)⟩)
 dsimp only [Pt.U, Pt.locs, Pt.cells, Pt.slots] at X13 l13 y13 z13 st13 hQ13
 subst l13; rw [y13, z13] at X13
 obtain ⟨rfl, N13q, Kq13, Q13_0, aR6, aR7⟩ := hQ13
 have N13 := Fr.app N7 N13q
 have K13 : Keep h0 T13.heap [] := K7.trans Kq13 (bJ (Or.inr bK))
 have aR8 := ((Q2_0.keep Kq7 (dP _)).keep Kq13 (bH (Ne.symm aE0)))
 have aR9 := (Q7_0.keep Kq13 (bH (Ne.symm aE1)))
 refine ⟨b1, r2_r, r7_r, v2_y, v7_y, T13, _, eS X13 (by omega) (by omega), N13, K13, bK, Q13_0, aR6, aR7, aR8, aR9, fun target kt => ?_⟩
 show oZ p e below T0 (mkF m 122 #[oA o0_, oA o1_, oA o2_, oA o3_, oI i4_, oI i5_, oI i6_, oI i7_] []) _
 refine st1 _ ?_
 refine XS.dup X1.here hx rfl (oG hby d38 72 rfl) rfl rfl ?_
 refine XS.aloadN X1.here hx rfl (oG hby d38 73 rfl) rfl rfl ?_
 refine XS.iload X1.here hx rfl (oG hby d38 74 rfl) rfl ?_
 refine st2 _ ?_
 refine XS.aloadN X2.here hx rfl (oG hby d38 76 rfl) rfl rfl ?_
 refine XS.iload X2.here hx rfl (oG hby d38 77 rfl) rfl ?_
 refine st7 _ ?_
 refine st13.trans ?_
 exact kt
section OwnBetween
def bC4 (Z : State) (h0 : Heap) (n0 : Nat) (v : Option Value) (h : Heap) (L : List Loc) : Prop := ∃ (r rr : Addr) (y : Int32), v = some (.ref r) ∧ Fr n0 L ∧ Keep h0 h [] ∧ h0.size ≤ r ∧ Exa Z h r oC4 ∧ Fld Z h r oC4 "removed" "[I" (.ref rr) ∧ bC Z h rr y
theorem aW4 (l : Launch) (Z : State) (a0 : Array Value) (hw : oH a0 Z) (ws : List Jvm.Cond) (o0 o1 : Addr) (w : Addr) (n1 n2 n3 : Int32) (h0 : Heap) (n0 : Nat) (Z0 : n0 ≤ h0.size)
   (SN : Sta Z h0 oC4 "NONE" "[I" (.ref w)) (AN : bC Z h0 w n3) (A0 : bC Z h0 o0 n1) (A1 : bC Z h0 o1 n2) (c1 : n1.toNatClampNeg ≤ 32) (c2 : n2.toNatClampNeg ≤ 32) :
   oMet l oM21 prog_28_method_2_code 8 (some (.object oC4)) ws (oR 4 5 (4 * 32 + 2) 150) Z h0 #[(.ref o0), (.ref o1)] (bC4 Z h0 n0) := by
 obtain ⟨-, -, -, p1, -⟩ := id A0
 obtain ⟨-, -, -, p2, -⟩ := id A1
 obtain ⟨nb, hnb⟩ : ∃ k, k = n1.toNatClampNeg := ⟨_, rfl⟩
 obtain ⟨na, hna⟩ : ∃ k, k = n2.toNatClampNeg := ⟨_, rfl⟩
 have e1 : n1 = Int32.ofNat nb := by rw [hnb]; exact lJ p1
 have e2 : n2 = Int32.ofNat na := by rw [hna]; exact lJ p2
 rw [← hnb] at c1
 rw [← hna] at c2
 refine oBd n0 (plainFor_of_name pK) ?_
 intro p e s m below meth c s₁ Bd hx hZ hby hml hown hnm X0 e0 N0
 obtain ⟨ad, rm, T1, L1, X1, N1, K1, g1, g2, m1, E1, B1, E2, B2, st1⟩ := aQ9 (o0_ := o0) (o1_ := o1) (dG := n2) (eY := n1) 5 (4 * 32 + 2) X0 hx hZ hw hby hml hown e0 N0 Z0 A1 A0 p2 (by rw [← hna]; exact c2) p1 (by rw [← hnb]; exact c1) (by omega) (by omega)
 have x1 := iD K1
 rw [e1] at A0 B2
 rw [e2] at A1 B1
 obtain ⟨vs0, V0⟩ := (A0.ext x1).il
 obtain ⟨vs1, V1⟩ := (A1.ext x1).il
 have ol : ∀ x, x < h0.size → x ≠ ad ∧ x ≠ rm := fun x hx => ⟨Nat.ne_of_lt (Nat.lt_of_lt_of_le hx g1), Nat.ne_of_lt (Nat.lt_of_lt_of_le hx g2)⟩
 obtain ⟨T2, L2, u, v, X2, N2, K2, D2, D3, r1, r2, st2⟩ := aI6 (rc := 5) (rs := 4 * 32 + 2) hx hZ hw hby hml hown (by omega) (by omega) (Nat.le_trans Z0 g1) (Nat.le_trans Z0 g2) (ol _ A0.lt).1 (ol _ A0.lt).2 (ol _ A1.lt).1 (ol _ A1.lt).2 m1 (by omega) (by omega) _ 0 0 0 0 T1 L1 (Nat.le_refl _) (by omega) (by omega) (by omega) (by omega) X1 N1 (Nat.le_trans Z0 K1.1) V0 V1 B1 B2
 have SN2 := fM (SN.ext x1) K2 (dN (sU B1) (sU B2))
 have AN2 := (AN.ext x1).keep K2 (kU (ol _ AN.lt).1 (ol _ AN.lt).2)
 obtain ⟨b, ra, rr, ya, yr, T3, L3, X3, N3, K3, g3, E3, F3, F4, Q1, Q2, st3⟩ := aR2 (o0_ := o0) (o1_ := o1) (o2_ := ad) (o3_ := rm) (i4_ := Int32.ofNat u) (i5_ := Int32.ofNat v) (i6_ := Int32.ofNat nb) (i7_ := Int32.ofNat na) (aF3 := u) (aR3 := na) (w_NONE := w) (n_w_NONE := n3) (cT := Int32.ofNat na) (aF4 := v) (aR4 := nb) (lP := Int32.ofNat nb) 5 (4 * 32 + 2) X2 hx hZ hw hby hml hown rfl N2 (Nat.le_trans (Nat.le_trans Z0 K1.1) K2.1) SN2 AN2 D2 (E1.keep K2) D3 (E2.keep K2) rfl rfl r1 c2 rfl rfl r2 c1 (by omega) (by omega)
 obtain ⟨fs, hr, hrun, hended, hW, hsame⟩ := X3.leave (v := some (.ref b)) (fun h => by rw [Bd.returns] at h; cases h)
 refine ⟨_, _, castTop (aL8 m o0 o1) (st1 _ (st2 _ (st3 _ ?_))), hrun, hended, _, _, rfl, ⟨b, rr, yr, rfl, N3, ?_, Nat.le_trans K1.1 (Nat.le_trans K2.1 g3), E3, F4, Q2⟩, ⟨_, rfl⟩, hW, hsame.mono (by decide) (by decide)⟩
 · jvm_step X3.here [X3.here.top, hx, (oG hby d38 80 rfl), X3.method', Bd.returns, Value.isRef, FieldType.isReference]
   first | (intro acts; rw [hr _ acts rfl rfl rfl]) | rw [hr _ _ rfl rfl rfl]
   exact Steps.refl _
 · show Keep h0 T3.heap []
   exact (K1.trans K2 (dN (Or.inr g1) (Or.inr g2))).trans K3 dX
end OwnBetween

theorem aS0 (l : Launch) (Z : State) (a0 : Array Value) (hw : oH a0 Z) (ws : List Jvm.Cond) (p0_ : Int32) (p1_ : Int32) (h0 : Heap) (n0 : Nat) (Z0 : n0 ≤ h0.size) (hf0 : ¬ (p0_ < p1_)) :
   oMet l oM16 jdk_29_method_65_code 2 (some .int) ws (oR 0 0 0 0) Z h0 #[(.int p0_), (.int p1_)] (cD (some (.int p0_)) h0 n0) := by
 refine oBd n0 (Jvm.Free.JP.mathPlain rfl (by decide +kernel)) ?_
 intro p e s m below meth c s₁ Bd hx hZ hby hml hown hnm X0 e0 N0
 obtain ⟨fs, hr, hrun, hended, hW, hsame⟩ := X0.leave (v := some (.int p0_)) (fun h => by rw [Bd.returns] at h; cases h)
 refine ⟨_, _, castTop (zR m p0_ p1_) ?_, hrun, hended, _, _, rfl, ?_, ⟨_, rfl⟩, hW, (hsame.mono (by decide) (by decide))⟩
 · show oZ p e below s₁ (mkF m 0 #[oI p0_, oI p1_] []) _
   refine XS.iloadN X0.here hx rfl (oG hby d6 0 rfl) rfl ?_
   refine XS.iloadN X0.here hx rfl (oG hby d6 1 rfl) rfl ?_
   refine XS.icmpNo X0.here hx rfl (oG hby d6 2 rfl) rfl (flt hf0).1 ?_
   refine XS.iloadN X0.here hx rfl (oG hby d6 3 rfl) rfl ?_
   refine XS.goto X0.here hx rfl (pc0 := 6) (pc' := 10) rfl (oG hby d6 4 rfl) (by decide) (by decide) ?_
   show oZ p e below s₁ (mkF m 10 #[oI p0_, oI p1_] [(.int p0_)]) _
   exact retI X0 hx Bd.returns (oG hby d6 6 rfl) hr
 · show cD (some (.int p0_)) h0 n0 _ s₁.heap _
   exact ⟨rfl, N0, e0⟩
theorem aS1 (l : Launch) (Z : State) (a0 : Array Value) (hw : oH a0 Z) (ws : List Jvm.Cond) (p0_ : Int32) (p1_ : Int32) (h0 : Heap) (n0 : Nat) (Z0 : n0 ≤ h0.size) (hf0 : p0_ < p1_) :
   oMet l oM16 jdk_29_method_65_code 2 (some .int) ws (oR 0 0 0 0) Z h0 #[(.int p0_), (.int p1_)] (cD (some (.int p1_)) h0 n0) := by
 refine oBd n0 (Jvm.Free.JP.mathPlain rfl (by decide +kernel)) ?_
 intro p e s m below meth c s₁ Bd hx hZ hby hml hown hnm X0 e0 N0
 obtain ⟨fs, hr, hrun, hended, hW, hsame⟩ := X0.leave (v := some (.int p1_)) (fun h => by rw [Bd.returns] at h; cases h)
 refine ⟨_, _, castTop (zR m p0_ p1_) ?_, hrun, hended, _, _, rfl, ?_, ⟨_, rfl⟩, hW, (hsame.mono (by decide) (by decide))⟩
 · show oZ p e below s₁ (mkF m 0 #[oI p0_, oI p1_] []) _
   refine XS.iloadN X0.here hx rfl (oG hby d6 0 rfl) rfl ?_
   refine XS.iloadN X0.here hx rfl (oG hby d6 1 rfl) rfl ?_
   refine XS.icmpYes X0.here hx rfl (pc0 := 2) (pc' := 9) rfl (oG hby d6 2 rfl) rfl (tlt hf0).1 (by decide) (by decide) ?_
   refine XS.iloadN X0.here hx rfl (oG hby d6 5 rfl) rfl ?_
   show oZ p e below s₁ (mkF m 10 #[oI p0_, oI p1_] [(.int p1_)]) _
   exact retI X0 hx Bd.returns (oG hby d6 6 rfl) hr
 · show cD (some (.int p1_)) h0 n0 _ s₁.heap _
   exact ⟨rfl, N0, e0⟩
theorem aS2 (l : Launch) (Z : State) (a0 : Array Value) (hw : oH a0 Z) (ws : List Jvm.Cond) (p0_ : Int32) (p1_ : Int32) (h0 : Heap) (n0 : Nat) (Z0 : n0 ≤ h0.size) (hf0 : ¬ (p1_ < p0_)) :
   oMet l oM20 jdk_29_method_69_code 2 (some .int) ws (oR 0 0 0 0) Z h0 #[(.int p0_), (.int p1_)] (cD (some (.int p0_)) h0 n0) := by
 refine oBd n0 (Jvm.Free.JP.mathPlain rfl (by decide +kernel)) ?_
 intro p e s m below meth c s₁ Bd hx hZ hby hml hown hnm X0 e0 N0
 obtain ⟨fs, hr, hrun, hended, hW, hsame⟩ := X0.leave (v := some (.int p0_)) (fun h => by rw [Bd.returns] at h; cases h)
 refine ⟨_, _, castTop (zQ m p0_ p1_) ?_, hrun, hended, _, _, rfl, ?_, ⟨_, rfl⟩, hW, (hsame.mono (by decide) (by decide))⟩
 · show oZ p e below s₁ (mkF m 0 #[oI p0_, oI p1_] []) _
   refine XS.iloadN X0.here hx rfl (oG hby d7 0 rfl) rfl ?_
   refine XS.iloadN X0.here hx rfl (oG hby d7 1 rfl) rfl ?_
   refine XS.icmpNo X0.here hx rfl (oG hby d7 2 rfl) rfl (flt hf0).2.2.1 ?_
   refine XS.iloadN X0.here hx rfl (oG hby d7 3 rfl) rfl ?_
   refine XS.goto X0.here hx rfl (pc0 := 6) (pc' := 10) rfl (oG hby d7 4 rfl) (by decide) (by decide) ?_
   show oZ p e below s₁ (mkF m 10 #[oI p0_, oI p1_] [(.int p0_)]) _
   exact retI X0 hx Bd.returns (oG hby d7 6 rfl) hr
 · show cD (some (.int p0_)) h0 n0 _ s₁.heap _
   exact ⟨rfl, N0, e0⟩
theorem aJ2 (l : Launch) (Z : State) (a0 : Array Value) (hw : oH a0 Z) (ws : List Jvm.Cond) (p0_ : Int32) (h0 : Heap) (n0 : Nat) (Z0 : n0 ≤ h0.size) (hf0 : ¬ ((0 : Int32) < p0_)) (hf1 : p0_ = (0 : Int32)) :
   oMet l oM17 jdk_33_method_47_code 2 (some .int) ws (oR 0 0 0 0) Z h0 #[(.int p0_)] (cD (some (.int 32)) h0 n0) := by
 refine oBd n0 (plainFor_of_name rH) ?_
 intro p e s m below meth c s₁ Bd hx hZ hby hml hown hnm X0 e0 N0
 obtain ⟨fs, hr, hrun, hended, hW, hsame⟩ := X0.leave (v := some (.int 32)) (fun h => by rw [Bd.returns] at h; cases h)
 refine ⟨_, _, castTop (zT m p0_) ?_, hrun, hended, _, _, rfl, ?_, ⟨_, rfl⟩, hW, (hsame.mono (by decide) (by decide))⟩
 · show oZ p e below s₁ (mkF m 0 #[oI p0_, .unset] []) _
   refine XS.iloadN X0.here hx rfl (oG hby d5 0 rfl) rfl ?_
   refine XS.ifNo X0.here hx rfl (oG hby d5 1 rfl) rfl ((if0 _ _).trans (flt hf0).2.2.1) ?_
   refine XS.iloadN X0.here hx rfl (oG hby d5 2 rfl) rfl ?_
   refine XS.ifNo X0.here hx rfl (oG hby d5 3 rfl) rfl ((if0 _ _).trans (teq hf1).2) ?_
   refine XS.bipush X0.here hx rfl (oG hby d5 4 rfl) ?_
   refine XS.goto X0.here hx rfl (pc0 := 10) (pc' := 14) rfl (oG hby d5 5 rfl) (by decide) (by decide) ?_
   show oZ p e below s₁ (mkF m 14 #[oI p0_, .unset] [(.int 32)]) _
   exact retI X0 hx Bd.returns (oG hby d5 6 rfl) hr
 · show cD (some (.int 32)) h0 n0 _ s₁.heap _
   exact ⟨rfl, N0, e0⟩
theorem yZ (l : Launch) (Z : State) (a0 : Array Value) (hw : oH a0 Z) (ws : List Jvm.Cond) (p0_ : Int32) (h0 : Heap) (n0 : Nat) (Z0 : n0 ≤ h0.size) (hf0 : (0 : Int32) < p0_) (hf1 : p0_ < (65536 : Int32)) (hf2 : p0_ < (256 : Int32)) (hf3 : p0_ < (16 : Int32)) (hf4 : p0_ < (4 : Int32)) :
   oMet l oM17 jdk_33_method_47_code 2 (some .int) ws (oR 0 0 0 0) Z h0 #[(.int p0_)] (cD (some (.int ((31 : Int32) - (aL p0_ (1 : Int32))))) h0 n0) := by
 refine oBd n0 (plainFor_of_name rH) ?_
 intro p e s m below meth c s₁ Bd hx hZ hby hml hown hnm X0 e0 N0
 obtain ⟨fs, hr, hrun, hended, hW, hsame⟩ := X0.leave (v := some (.int ((31 : Int32) - (aL p0_ (1 : Int32))))) (fun h => by rw [Bd.returns] at h; cases h)
 refine ⟨_, _, castTop (zT m p0_) ?_, hrun, hended, _, _, rfl, ?_, ⟨_, rfl⟩, hW, (hsame.mono (by decide) (by decide))⟩
 · show oZ p e below s₁ (mkF m 0 #[oI p0_, .unset] []) _
   refine XS.iloadN X0.here hx rfl (oG hby d5 0 rfl) rfl ?_
   refine XS.ifYes X0.here hx rfl (pc0 := 1) (pc' := 15) rfl (oG hby d5 1 rfl) rfl ((if0 _ _).trans (tlt hf0).2.2.1) (by decide) (by decide) ?_
   refine XS.bipush X0.here hx rfl (oG hby d5 7 rfl) ?_
   refine XS.istoreN X0.here hx rfl (oG hby d5 8 rfl) rfl (l' := #[oI p0_, oI 31]) rfl ?_
   refine XS.iloadN X0.here hx rfl (oG hby d5 9 rfl) rfl ?_
   refine X0.ldcwInt hx hown (mvT hZ (oW hw 260 rfl)) (g := (mkF m 19 #[oI p0_, oI 31] [(.int p0_)])) rfl (oG hby d5 10 rfl) _ ?_
   refine XS.icmpYes X0.here hx rfl (pc0 := 22) (pc' := 33) rfl (oG hby d5 11 rfl) rfl (tlt hf1).1 (by decide) (by decide) ?_
   refine XS.iloadN X0.here hx rfl (oG hby d5 12 rfl) rfl ?_
   refine XS.sipush X0.here hx rfl (oG hby d5 13 rfl) ?_
   refine XS.icmpYes X0.here hx rfl (pc0 := 37) (pc' := 48) rfl (oG hby d5 14 rfl) rfl (tlt hf2).1 (by decide) (by decide) ?_
   refine XS.iloadN X0.here hx rfl (oG hby d5 15 rfl) rfl ?_
   show oZ p e below s₁ (mkF m 49 #[oI p0_, oI 31] [(.int p0_)]) _
   refine XS.bipush X0.here hx rfl (oG hby d5 16 rfl) ?_
   refine XS.icmpYes X0.here hx rfl (pc0 := 51) (pc' := 61) rfl (oG hby d5 17 rfl) rfl (tlt hf3).1 (by decide) (by decide) ?_
   refine XS.iloadN X0.here hx rfl (oG hby d5 18 rfl) rfl ?_
   refine XS.iconst X0.here hx rfl (oG hby d5 19 rfl) ?_
   refine XS.icmpYes X0.here hx rfl (pc0 := 63) (pc' := 73) rfl (oG hby d5 20 rfl) rfl (tlt hf4).1 (by decide) (by decide) ?_
   refine XS.iloadN X0.here hx rfl (oG hby d5 21 rfl) rfl ?_
   refine XS.iloadN X0.here hx rfl (oG hby d5 22 rfl) rfl ?_
   refine XS.iconst X0.here hx rfl (oG hby d5 23 rfl) ?_
   refine XS.iushr X0.here hx rfl (oG hby d5 24 rfl) rfl ?_
   refine XS.isub X0.here hx rfl (oG hby d5 25 rfl) rfl ?_
   show oZ p e below s₁ (mkF m 78 #[oI p0_, oI 31] [(.int ((31 : Int32) - (aL p0_ (1 : Int32))))]) _
   exact retI X0 hx Bd.returns (oG hby d5 26 rfl) hr
 · show cD (some (.int ((31 : Int32) - (aL p0_ (1 : Int32))))) h0 n0 _ s₁.heap _
   exact ⟨rfl, N0, e0⟩
def fR (a b : Int32) : Int32 := if a < b then b else a
def nF (a b : Int32) : Int32 := if b < a then b else a
def iT (a : Int32) : Int32 := if a = (0 : Int32) then (32 : Int32) else (31 : Int32) - (aL a (1 : Int32))
def wP (a : Int32) : Prop := a = (0 : Int32) ∨ (¬ a = (0 : Int32) ∧ (0 : Int32) < a ∧ a < (4 : Int32) ∧ a < (16 : Int32) ∧ a < (256 : Int32) ∧ a < (65536 : Int32))
theorem uK (l : Launch) (Z : State) (a0 : Array Value) (hw : oH a0 Z) (ws : List Jvm.Cond) (p0 p1 : Int32) (h0 : Heap) (n0 : Nat) (Z0 : n0 ≤ h0.size) : oMet l oM16 jdk_29_method_65_code 2 (some .int) ws (oR 0 0 0 0) Z h0 #[(.int p0), (.int p1)] (cD (some (.int (fR p0 p1))) h0 n0) := by
 by_cases q : p0 < p1
 · rw [show fR p0 p1 = p1 from if_pos q]; exact aS1 l Z a0 hw ws p0 p1 h0 n0 Z0 q
 · rw [show fR p0 p1 = p0 from if_neg q]; exact aS0 l Z a0 hw ws p0 p1 h0 n0 Z0 q
theorem aW5 (l : Launch) (Z : State) (a0 : Array Value) (hw : oH a0 Z) (ws : List Jvm.Cond) (p0 p1 : Int32) (h0 : Heap) (n0 : Nat) (Z0 : n0 ≤ h0.size) : oMet l oM20 jdk_29_method_69_code 2 (some .int) ws (oR 0 0 0 0) Z h0 #[(.int p0), (.int p1)] (cD (some (.int (nF p0 p1))) h0 n0) := by
 by_cases q : p1 < p0
 · rw [show nF p0 p1 = p1 from if_pos q]; exact aB0 l Z a0 hw ws p0 p1 h0 n0 Z0 q
 · rw [show nF p0 p1 = p0 from if_neg q]; exact aS2 l Z a0 hw ws p0 p1 h0 n0 Z0 q
theorem aF5 (l : Launch) (Z : State) (a0 : Array Value) (hw : oH a0 Z) (ws : List Jvm.Cond) (p0 : Int32) (h0 : Heap) (n0 : Nat) (Z0 : n0 ≤ h0.size) (ok : wP p0) : oMet l oM17 jdk_33_method_47_code 2 (some .int) ws (oR 0 0 0 0) Z h0 #[(.int p0)] (cD (some (.int (iT p0))) h0 n0) := by
 rcases ok with rfl | ⟨q0, q1, q2, q3, q4, q5⟩
 · exact aJ2 l Z a0 hw ws (0 : Int32) h0 n0 Z0 (by decide) (by decide)
 · rw [show iT p0 = ((31 : Int32) - (aL p0 (1 : Int32))) from if_neg q0]; exact yZ l Z a0 hw ws p0 h0 n0 Z0 q1 q5 q4 q3 q2
def nP (Z : State) (a0_ : Addr) (p1_ : Int32) (p2_ : Int32) (eZ : Value) (eE : Value) (x_ : Int32) (gX : Value) (y_ : Int32) (fA : Value) (eF : Value) (h0 : Heap) (n0 : Nat) (v : Option Value) (h : Heap) (L : List Loc) : Prop := v = none ∧ Fr n0 L ∧ Keep h0 h [a0_] ∧ Exa Z h a0_ oC0 ∧ Fld Z h a0_ oC0 "backends" "I" (.int p1_) ∧ Fld Z h a0_ oC0 "subsetSize" "I" (.int p2_) ∧ Fld Z h a0_ oC0 "lots" "I" (.int x_) ∧ Fld Z h a0_ oC0 "ringBits" "I" (.int y_) ∧ Fld Z h a0_ oC0 "fitsInARow" "Z" (.int 0)
theorem wQ (l : Launch) (Z : State) (a0 : Array Value) (hw : oH a0 Z) (ws : List Jvm.Cond) (a0_ : Addr) (p1_ : Int32) (p2_ : Int32) (eZ : Value) (eE : Value) (x_ : Int32) (gX : Value) (y_ : Int32) (fA : Value) (eF : Value) (h0 : Heap) (n0 : Nat) (Z0 : n0 ≤ h0.size) (bR : Exa Z h0 a0_ oC0) (cF : Fld Z h0 a0_ oC0 "backends" "I" eZ) (eM : n0 ≤ a0_) (cQ : Fld Z h0 a0_ oC0 "subsetSize" "I" eE) (bU : Fld Z h0 a0_ oC0 "lots" "I" gX) (aQ : Fld Z h0 a0_ oC0 "ringBits" "I" fA) (cX : Fld Z h0 a0_ oC0 "fitsInARow" "Z" eF) (hf0 : ¬ (p1_ < (1 : Int32))) (hf1 : ¬ (p2_ < (1 : Int32))) (hf2 : ¬ (p1_ < p2_)) (hf3 : (((p1_ - (1 : Int32)) / (10 : Int32)) + (1 : Int32)) = x_) (hf4 : wP (x_ - (1 : Int32))) (hf5 : (fR (1 : Int32) ((32 : Int32) - (iT (x_ - (1 : Int32))))) = y_) (hf6 : (p1_ / (10 : Int32)) < p2_) :
   oMet l oM14 prog_29_method_1_code 3 none ws (oR 1 0 0 16) Z h0 #[(.ref a0_), (.int p1_), (.int p2_)] (nP Z a0_ p1_ p2_ eZ eE x_ gX y_ fA eF h0 n0) := by
 refine oBd n0 (plainFor_of_name eC) ?_
 intro p e s m below meth c s₁ Bd hx hZ hby hml hown hnm X0 e0 N0
 obtain ⟨T1, X1, e1, st1⟩ := initO X0 hx hZ hown (oW hw 19 rfl) (oW hw 8 rfl) (oW hw 9 rfl) e0 (g := (mkF m 1 #[oA a0_, oI p1_, oI p2_] [(.ref a0_)])) rfl (by rw [hml]; rfl) rfl (oG hby d4 1 rfl) (by decide) (W := 0) (by show 2 * 0 + _ ≤ _; exact Nat.le_of_eq rfl) (by decide)
 obtain ⟨T2, h2, X2, e2, W2, st2⟩ := putF X1 hx hZ hown (host := "") (Or.inl (oW hw 20 rfl)) Via.refl e1 cF bR (Or.inr ⟨(oW hw 21 rfl), rfl, hnm⟩) (oW hw 15 rfl) (ty := .int) (by decide) rfl rfl (g := (mkF m 64 #[oA a0_, oI p1_, oI p2_] [(.int p1_), (.ref a0_)])) rfl rfl (oG hby d4 13 rfl)
 have Fw2 := cF.same W2
 have K2 : Keep h0 h2 [a0_] := (Keep.refl h0 [a0_]).wr W2 (Or.inl (oX 0 rfl))
 have N2 := Fr.snoc X2 N0 eM
 have gV := (bR.wr W2)
 have gH := (cQ.other W2 (oN (Or.inr (oW hw 23 rfl)) (Or.inr (oW hw 21 rfl)) (t := .int) (t' := .int)))
 obtain ⟨T5, h5, X5, e5, W5, st5⟩ := putF X2 hx hZ hown (host := "") (Or.inl (oW hw 22 rfl)) Via.refl e2 gH gV (Or.inr ⟨(oW hw 23 rfl), rfl, hnm⟩) (oW hw 15 rfl) (ty := .int) (by decide) rfl rfl (g := (mkF m 69 #[oA a0_, oI p1_, oI p2_] [(.int p2_), (.ref a0_)])) rfl rfl (oG hby d4 16 rfl)
 have Fw5 := gH.same W5
 have K5 : Keep h0 h5 [a0_] := K2.wr W5 (Or.inl (oX 0 rfl))
 have N5 := Fr.snoc X5 N2 eM
 have eW := (gV.wr W5)
 have bZ := ((bU.other W2 (oN (Or.inr (oW hw 25 rfl)) (Or.inr (oW hw 21 rfl)) (t := .int) (t' := .int))).other W5 (oN (Or.inr (oW hw 25 rfl)) (Or.inr (oW hw 23 rfl)) (t := .int) (t' := .int)))
 obtain ⟨T8, h8, X8, e8, W8, st8⟩ := putF X5 hx hZ hown (host := "") (Or.inl (oW hw 24 rfl)) Via.refl e5 bZ eW (Or.inr ⟨(oW hw 25 rfl), rfl, hnm⟩) (oW hw 15 rfl) (ty := .int) (by decide) rfl rfl (g := (mkF m 81 #[oA a0_, oI p1_, oI p2_] [(.int x_), (.ref a0_)])) rfl rfl (oG hby d4 25 rfl)
 have Fw8 := bZ.same W8
 have K8 : Keep h0 h8 [a0_] := K5.wr W8 (Or.inl (oX 0 rfl))
 have N8 := Fr.snoc X8 N5 eM
 obtain ⟨T9, X9, e9, st9⟩ := getF X8 hx hZ hown (host := "") (Or.inl (oW hw 24 rfl)) Via.refl e8 Fw8 (g := (mkF m 89 #[oA a0_, oI p1_, oI p2_] [(.ref a0_), (.int 32), (.int 1), (.ref a0_)])) rfl rfl (oG hby d4 30 rfl)
 obtain ⟨_, _, ⟨T10, L10, k10, n10⟩, -, X10, ⟨Lc10, hQ10, l10, y10, z10⟩, st10⟩ := Jvm.LawKit.callS X9 hx (y := oM17) hown (mvT hZ (oW hw 26 rfl)) (mvT hZ (oW hw 27 rfl)) (mvT hZ (oW hw 28 rfl)) (mvT hZ (oW hw 29 rfl)) (by decide) (backOf (W := 3) (aF5 l Z a0 hw [] (x_ - (1 : Int32)) h8 n0 (Nat.le_trans Z0 K8.1) hf4) hZ (oW hw 29 rfl) (oW hw 28 rfl) (by decide) (by decide)) (g := (mkF m 94 #[oA a0_, oI p1_, oI p2_] [(.int (x_ - (1 : Int32))), (.int 32), (.int 1), (.ref a0_)])) rfl (by rw [hml]; rfl) (argsL := [(.int (x_ - (1 : Int32)))]) (rest := [(.int 32), (.int 1), (.ref a0_)]) (lenOf fL rfl) rfl (by show 2 * 0 + _ ≤ _; exact Nat.le_of_eq rfl) (oG hby d4 33 rfl) (fun _ _ => ⟨rfl, e9, (by decide : 0 + 0 ≤ _), (by decide : 0 + 0 ≤ _)⟩)
 dsimp only [Pt.U, Pt.locs, Pt.cells, Pt.slots] at X10 l10 y10 z10 st10 hQ10
 subst l10 y10 z10
 obtain ⟨rfl, N10q, e10⟩ := hQ10
 have N10 := Fr.app N8 N10q
 obtain ⟨_, _, ⟨T11, L11, k11, n11⟩, -, X11, ⟨Lc11, hQ11, l11, y11, z11⟩, st11⟩ := Jvm.LawKit.callS X10 hx (y := oM16) hown (mvT hZ (oW hw 30 rfl)) (mvT hZ (oW hw 31 rfl)) (mvT hZ (oW hw 32 rfl)) (mvT hZ (oW hw 33 rfl)) (by decide) (backOf (W := 1) (uK l Z a0 hw [] (1 : Int32) ((32 : Int32) - (iT (x_ - (1 : Int32)))) h8 n0 (Nat.le_trans Z0 K8.1) ) hZ (oW hw 33 rfl) (oW hw 32 rfl) (by decide) (by decide)) (g := (mkF m 98 #[oA a0_, oI p1_, oI p2_] [(.int ((32 : Int32) - (iT (x_ - (1 : Int32))))), (.int 1), (.ref a0_)])) rfl (by rw [hml]; rfl) (argsL := [(.int 1), (.int ((32 : Int32) - (iT (x_ - (1 : Int32)))))]) (rest := [(.ref a0_)]) (lenOf mE rfl) rfl (by show 2 * 0 + _ ≤ _; exact Nat.le_of_eq rfl) (oG hby d4 35 rfl) (fun _ _ => ⟨rfl, e10, (by decide : 0 + 0 ≤ _), (by decide : 0 + 0 ≤ _)⟩)
 dsimp only [Pt.U, Pt.locs, Pt.cells, Pt.slots] at X11 l11 y11 z11 st11 hQ11
 subst l11 y11 z11
 obtain ⟨rfl, N11q, e11⟩ := hQ11
 have N11 := Fr.app N10 N11q
 have hV := (eW.wr W8)
 have gT := (((aQ.other W2 (oN (Or.inr (oW hw 35 rfl)) (Or.inr (oW hw 21 rfl)) (t := .int) (t' := .int))).other W5 (oN (Or.inr (oW hw 35 rfl)) (Or.inr (oW hw 23 rfl)) (t := .int) (t' := .int))).other W8 (oN (Or.inr (oW hw 35 rfl)) (Or.inr (oW hw 25 rfl)) (t := .int) (t' := .int)))
 obtain ⟨T14, h14, X14, e14, W14, st14⟩ := putF X11 hx hZ hown (host := "") (Or.inl (oW hw 34 rfl)) Via.refl e11 gT hV (Or.inr ⟨(oW hw 35 rfl), rfl, hnm⟩) (oW hw 15 rfl) (ty := .int) (by decide) rfl rfl (g := (mkF m 101 #[oA a0_, oI p1_, oI p2_] [(.int y_), (.ref a0_)])) rfl rfl (oG hby d4 36 rfl)
 have Fw14 := gT.same W14
 have K14 : Keep h0 h14 [a0_] := K8.wr W14 (Or.inl (oX 0 rfl))
 have N14 := Fr.snoc X14 N11 eM
 have iQ := (hV.wr W14)
 have fZ := ((((cX.other W2 (oN (Or.inr (oW hw 37 rfl)) (Or.inr (oW hw 21 rfl)) (t := .boolean) (t' := .int))).other W5 (oN (Or.inr (oW hw 37 rfl)) (Or.inr (oW hw 23 rfl)) (t := .boolean) (t' := .int))).other W8 (oN (Or.inr (oW hw 37 rfl)) (Or.inr (oW hw 25 rfl)) (t := .boolean) (t' := .int))).other W14 (oN (Or.inr (oW hw 37 rfl)) (Or.inr (oW hw 35 rfl)) (t := .boolean) (t' := .int)))
 obtain ⟨T17, h17, X17, e17, W17, st17⟩ := putFN X14 hx hZ hown (oW hw 36 rfl) Via.refl e14 fZ iQ (Or.inr ⟨(oW hw 37 rfl), rfl, hnm⟩) (oW hw 15 rfl) (ty := .boolean) (v' := (.int 0)) (by decide) rfl rfl (g := (mkF m 118 #[oA a0_, oI p1_, oI p2_] [(.int 0), (.ref a0_)])) rfl rfl (oG hby d4 46 rfl)
 have Fw17 := fZ.same W17
 have K17 : Keep h0 h17 [a0_] := K14.wr W17 (Or.inl (oX 0 rfl))
 have N17 := Fr.snoc X17 N14 eM
 have gF := (iQ.wr W17)
 have jQ := ((((Fw2.other W5 (oN (Or.inr (oW hw 21 rfl)) (Or.inr (oW hw 23 rfl)) (t := .int) (t' := .int))).other W8 (oN (Or.inr (oW hw 21 rfl)) (Or.inr (oW hw 25 rfl)) (t := .int) (t' := .int))).other W14 (oN (Or.inr (oW hw 21 rfl)) (Or.inr (oW hw 35 rfl)) (t := .int) (t' := .int))).other W17 (oN (Or.inr (oW hw 21 rfl)) (Or.inr (oW hw 37 rfl)) (t := .int) (t' := .boolean)))
 have iU := (((Fw5.other W8 (oN (Or.inr (oW hw 23 rfl)) (Or.inr (oW hw 25 rfl)) (t := .int) (t' := .int))).other W14 (oN (Or.inr (oW hw 23 rfl)) (Or.inr (oW hw 35 rfl)) (t := .int) (t' := .int))).other W17 (oN (Or.inr (oW hw 23 rfl)) (Or.inr (oW hw 37 rfl)) (t := .int) (t' := .boolean)))
 have iZ := ((Fw8.other W14 (oN (Or.inr (oW hw 25 rfl)) (Or.inr (oW hw 35 rfl)) (t := .int) (t' := .int))).other W17 (oN (Or.inr (oW hw 25 rfl)) (Or.inr (oW hw 37 rfl)) (t := .int) (t' := .boolean)))
 have jR := (Fw14.other W17 (oN (Or.inr (oW hw 35 rfl)) (Or.inr (oW hw 37 rfl)) (t := .int) (t' := .boolean)))
 obtain ⟨fs, hr, hrun, hended, hW, hsame⟩ := X17.leave (v := none) (fun _ => rfl)
 refine ⟨_, _, castTop (zU m a0_ p1_ p2_) ?_, hrun, hended, _, _, rfl, ?_, ⟨_, rfl⟩, hW, (hsame.mono (by decide) (by decide))⟩
 · show oZ p e below s₁ (mkF m 0 #[oA a0_, oI p1_, oI p2_] []) _
   refine XS.aloadN X0.here hx rfl (oG hby d4 0 rfl) rfl rfl ?_
   refine st1 _ ?_
   refine XS.iloadN X1.here hx rfl (oG hby d4 2 rfl) rfl ?_
   refine XS.iconst X1.here hx rfl (oG hby d4 3 rfl) ?_
   refine XS.icmpYes X1.here hx rfl (pc0 := 6) (pc' := 23) rfl (oG hby d4 4 rfl) rfl (flt hf0).2.1 (by decide) (by decide) ?_
   refine XS.iloadN X1.here hx rfl (oG hby d4 5 rfl) rfl ?_
   refine XS.iconst X1.here hx rfl (oG hby d4 6 rfl) ?_
   refine XS.icmpYes X1.here hx rfl (pc0 := 25) (pc' := 42) rfl (oG hby d4 7 rfl) rfl (flt hf1).2.1 (by decide) (by decide) ?_
   refine XS.iloadN X1.here hx rfl (oG hby d4 8 rfl) rfl ?_
   refine XS.iloadN X1.here hx rfl (oG hby d4 9 rfl) rfl ?_
   refine XS.icmpYes X1.here hx rfl (pc0 := 44) (pc' := 62) rfl (oG hby d4 10 rfl) rfl (flt hf2).2.2.2 (by decide) (by decide) ?_
   show oZ p e below T1 (mkF m 62 #[oA a0_, oI p1_, oI p2_] []) _
   refine XS.aloadN X1.here hx rfl (oG hby d4 11 rfl) rfl rfl ?_
   refine XS.iloadN X1.here hx rfl (oG hby d4 12 rfl) rfl ?_
   refine st2 _ ?_
   refine XS.aloadN X2.here hx rfl (oG hby d4 14 rfl) rfl rfl ?_
   refine XS.iloadN X2.here hx rfl (oG hby d4 15 rfl) rfl ?_
   refine st5 _ ?_
   refine XS.aloadN X5.here hx rfl (oG hby d4 17 rfl) rfl rfl ?_
   refine XS.iloadN X5.here hx rfl (oG hby d4 18 rfl) rfl ?_
   refine XS.iconst X5.here hx rfl (oG hby d4 19 rfl) ?_
   refine XS.isub X5.here hx rfl (oG hby d4 20 rfl) rfl ?_
   refine XS.bipush X5.here hx rfl (oG hby d4 21 rfl) ?_
   show oZ p e below T5 (mkF m 78 #[oA a0_, oI p1_, oI p2_] [(.int 10), (.int (p1_ - (1 : Int32))), (.ref a0_)]) _
   refine XS.idiv X5.here hx rfl (oG hby d4 22 rfl) rfl (by decide +kernel) ?_
   refine XS.iconst X5.here hx rfl (oG hby d4 23 rfl) ?_
   refine XS.iadd X5.here hx rfl (oG hby d4 24 rfl) rfl ?_
   show oZ p e below T5 (mkF m 81 #[oA a0_, oI p1_, oI p2_] [(.int (((p1_ - (1 : Int32)) / (10 : Int32)) + (1 : Int32))), (.ref a0_)]) _
   rw [hf3]
   refine st8 _ ?_
   refine XS.aloadN X8.here hx rfl (oG hby d4 26 rfl) rfl rfl ?_
   refine XS.iconst X8.here hx rfl (oG hby d4 27 rfl) ?_
   refine XS.bipush X8.here hx rfl (oG hby d4 28 rfl) ?_
   refine XS.aloadN X8.here hx rfl (oG hby d4 29 rfl) rfl rfl ?_
   refine st9 _ ?_
   refine XS.iconst X9.here hx rfl (oG hby d4 31 rfl) ?_
   refine XS.isub X9.here hx rfl (oG hby d4 32 rfl) rfl ?_
   refine st10 _ ?_
   refine XS.isub X10.here hx rfl (oG hby d4 34 rfl) rfl ?_
   show oZ p e below T10 (mkF m 98 #[oA a0_, oI p1_, oI p2_] [(.int ((32 : Int32) - (iT (x_ - (1 : Int32))))), (.int 1), (.ref a0_)]) _
   refine st11 _ ?_
   show oZ p e below T11 (mkF m 101 #[oA a0_, oI p1_, oI p2_] [(.int (fR (1 : Int32) ((32 : Int32) - (iT (x_ - (1 : Int32)))))), (.ref a0_)]) _
   rw [hf5]
   refine st14 _ ?_
   refine XS.aloadN X14.here hx rfl (oG hby d4 37 rfl) rfl rfl ?_
   refine XS.iloadN X14.here hx rfl (oG hby d4 38 rfl) rfl ?_
   refine XS.iloadN X14.here hx rfl (oG hby d4 39 rfl) rfl ?_
   refine XS.bipush X14.here hx rfl (oG hby d4 40 rfl) ?_
   refine XS.idiv X14.here hx rfl (oG hby d4 41 rfl) rfl (by decide +kernel) ?_
   refine XS.icmpYes X14.here hx rfl (pc0 := 110) (pc' := 117) rfl (oG hby d4 42 rfl) rfl (tlt hf6).2.2.1 (by decide) (by decide) ?_
   refine XS.iconst X14.here hx rfl (oG hby d4 45 rfl) ?_
   refine st17 _ ?_
   show oZ p e below T17 (mkF m 121 #[oA a0_, oI p1_, oI p2_] []) _
   exact X17.returnOut hx Bd.returns (oG hby d4 47 rfl) hr
 · show nP Z a0_ p1_ p2_ eZ eE x_ gX y_ fA eF h0 n0 _ T17.heap _
   rw [e17]
   exact ⟨rfl, N17, K17, gF, jQ, iU, iZ, jR, Fw17⟩
def nQ (Z : State) (a0_ : Addr) (p1_ : Int32) (p2_ : Int32) (eZ : Value) (eE : Value) (x_ : Int32) (gX : Value) (y_ : Int32) (fA : Value) (eF : Value) (h0 : Heap) (n0 : Nat) (v : Option Value) (h : Heap) (L : List Loc) : Prop := v = none ∧ Fr n0 L ∧ Keep h0 h [a0_] ∧ Exa Z h a0_ oC0 ∧ Fld Z h a0_ oC0 "backends" "I" (.int p1_) ∧ Fld Z h a0_ oC0 "subsetSize" "I" (.int p2_) ∧ Fld Z h a0_ oC0 "lots" "I" (.int x_) ∧ Fld Z h a0_ oC0 "ringBits" "I" (.int y_) ∧ Fld Z h a0_ oC0 "fitsInARow" "Z" (.int 1)
theorem wR (l : Launch) (Z : State) (a0 : Array Value) (hw : oH a0 Z) (ws : List Jvm.Cond) (a0_ : Addr) (p1_ : Int32) (p2_ : Int32) (eZ : Value) (eE : Value) (x_ : Int32) (gX : Value) (y_ : Int32) (fA : Value) (eF : Value) (h0 : Heap) (n0 : Nat) (Z0 : n0 ≤ h0.size) (bR : Exa Z h0 a0_ oC0) (cF : Fld Z h0 a0_ oC0 "backends" "I" eZ) (eM : n0 ≤ a0_) (cQ : Fld Z h0 a0_ oC0 "subsetSize" "I" eE) (bU : Fld Z h0 a0_ oC0 "lots" "I" gX) (aQ : Fld Z h0 a0_ oC0 "ringBits" "I" fA) (cX : Fld Z h0 a0_ oC0 "fitsInARow" "Z" eF) (hf0 : ¬ (p1_ < (1 : Int32))) (hf1 : ¬ (p2_ < (1 : Int32))) (hf2 : ¬ (p1_ < p2_)) (hf3 : (((p1_ - (1 : Int32)) / (10 : Int32)) + (1 : Int32)) = x_) (hf4 : wP (x_ - (1 : Int32))) (hf5 : (fR (1 : Int32) ((32 : Int32) - (iT (x_ - (1 : Int32))))) = y_) (hf6 : ¬ ((p1_ / (10 : Int32)) < p2_)) :
   oMet l oM14 prog_29_method_1_code 3 none ws (oR 1 0 0 16) Z h0 #[(.ref a0_), (.int p1_), (.int p2_)] (nQ Z a0_ p1_ p2_ eZ eE x_ gX y_ fA eF h0 n0) := by
 refine oBd n0 (plainFor_of_name eC) ?_
 intro p e s m below meth c s₁ Bd hx hZ hby hml hown hnm X0 e0 N0
 obtain ⟨T1, X1, e1, st1⟩ := initO X0 hx hZ hown (oW hw 19 rfl) (oW hw 8 rfl) (oW hw 9 rfl) e0 (g := (mkF m 1 #[oA a0_, oI p1_, oI p2_] [(.ref a0_)])) rfl (by rw [hml]; rfl) rfl (oG hby d4 1 rfl) (by decide) (W := 0) (by show 2 * 0 + _ ≤ _; exact Nat.le_of_eq rfl) (by decide)
 obtain ⟨T2, h2, X2, e2, W2, st2⟩ := putF X1 hx hZ hown (host := "") (Or.inl (oW hw 20 rfl)) Via.refl e1 cF bR (Or.inr ⟨(oW hw 21 rfl), rfl, hnm⟩) (oW hw 15 rfl) (ty := .int) (by decide) rfl rfl (g := (mkF m 64 #[oA a0_, oI p1_, oI p2_] [(.int p1_), (.ref a0_)])) rfl rfl (oG hby d4 13 rfl)
 have Fw2 := cF.same W2
 have K2 : Keep h0 h2 [a0_] := (Keep.refl h0 [a0_]).wr W2 (Or.inl (oX 0 rfl))
 have N2 := Fr.snoc X2 N0 eM
 have gV := (bR.wr W2)
 have gH := (cQ.other W2 (oN (Or.inr (oW hw 23 rfl)) (Or.inr (oW hw 21 rfl)) (t := .int) (t' := .int)))
 obtain ⟨T5, h5, X5, e5, W5, st5⟩ := putF X2 hx hZ hown (host := "") (Or.inl (oW hw 22 rfl)) Via.refl e2 gH gV (Or.inr ⟨(oW hw 23 rfl), rfl, hnm⟩) (oW hw 15 rfl) (ty := .int) (by decide) rfl rfl (g := (mkF m 69 #[oA a0_, oI p1_, oI p2_] [(.int p2_), (.ref a0_)])) rfl rfl (oG hby d4 16 rfl)
 have Fw5 := gH.same W5
 have K5 : Keep h0 h5 [a0_] := K2.wr W5 (Or.inl (oX 0 rfl))
 have N5 := Fr.snoc X5 N2 eM
 have eW := (gV.wr W5)
 have bZ := ((bU.other W2 (oN (Or.inr (oW hw 25 rfl)) (Or.inr (oW hw 21 rfl)) (t := .int) (t' := .int))).other W5 (oN (Or.inr (oW hw 25 rfl)) (Or.inr (oW hw 23 rfl)) (t := .int) (t' := .int)))
 obtain ⟨T8, h8, X8, e8, W8, st8⟩ := putF X5 hx hZ hown (host := "") (Or.inl (oW hw 24 rfl)) Via.refl e5 bZ eW (Or.inr ⟨(oW hw 25 rfl), rfl, hnm⟩) (oW hw 15 rfl) (ty := .int) (by decide) rfl rfl (g := (mkF m 81 #[oA a0_, oI p1_, oI p2_] [(.int x_), (.ref a0_)])) rfl rfl (oG hby d4 25 rfl)
 have Fw8 := bZ.same W8
 have K8 : Keep h0 h8 [a0_] := K5.wr W8 (Or.inl (oX 0 rfl))
 have N8 := Fr.snoc X8 N5 eM
 obtain ⟨T9, X9, e9, st9⟩ := getF X8 hx hZ hown (host := "") (Or.inl (oW hw 24 rfl)) Via.refl e8 Fw8 (g := (mkF m 89 #[oA a0_, oI p1_, oI p2_] [(.ref a0_), (.int 32), (.int 1), (.ref a0_)])) rfl rfl (oG hby d4 30 rfl)
 obtain ⟨_, _, ⟨T10, L10, k10, n10⟩, -, X10, ⟨Lc10, hQ10, l10, y10, z10⟩, st10⟩ := Jvm.LawKit.callS X9 hx (y := oM17) hown (mvT hZ (oW hw 26 rfl)) (mvT hZ (oW hw 27 rfl)) (mvT hZ (oW hw 28 rfl)) (mvT hZ (oW hw 29 rfl)) (by decide) (backOf (W := 3) (aF5 l Z a0 hw [] (x_ - (1 : Int32)) h8 n0 (Nat.le_trans Z0 K8.1) hf4) hZ (oW hw 29 rfl) (oW hw 28 rfl) (by decide) (by decide)) (g := (mkF m 94 #[oA a0_, oI p1_, oI p2_] [(.int (x_ - (1 : Int32))), (.int 32), (.int 1), (.ref a0_)])) rfl (by rw [hml]; rfl) (argsL := [(.int (x_ - (1 : Int32)))]) (rest := [(.int 32), (.int 1), (.ref a0_)]) (lenOf fL rfl) rfl (by show 2 * 0 + _ ≤ _; exact Nat.le_of_eq rfl) (oG hby d4 33 rfl) (fun _ _ => ⟨rfl, e9, (by decide : 0 + 0 ≤ _), (by decide : 0 + 0 ≤ _)⟩)
 dsimp only [Pt.U, Pt.locs, Pt.cells, Pt.slots] at X10 l10 y10 z10 st10 hQ10
 subst l10 y10 z10
 obtain ⟨rfl, N10q, e10⟩ := hQ10
 have N10 := Fr.app N8 N10q
 obtain ⟨_, _, ⟨T11, L11, k11, n11⟩, -, X11, ⟨Lc11, hQ11, l11, y11, z11⟩, st11⟩ := Jvm.LawKit.callS X10 hx (y := oM16) hown (mvT hZ (oW hw 30 rfl)) (mvT hZ (oW hw 31 rfl)) (mvT hZ (oW hw 32 rfl)) (mvT hZ (oW hw 33 rfl)) (by decide) (backOf (W := 1) (uK l Z a0 hw [] (1 : Int32) ((32 : Int32) - (iT (x_ - (1 : Int32)))) h8 n0 (Nat.le_trans Z0 K8.1) ) hZ (oW hw 33 rfl) (oW hw 32 rfl) (by decide) (by decide)) (g := (mkF m 98 #[oA a0_, oI p1_, oI p2_] [(.int ((32 : Int32) - (iT (x_ - (1 : Int32))))), (.int 1), (.ref a0_)])) rfl (by rw [hml]; rfl) (argsL := [(.int 1), (.int ((32 : Int32) - (iT (x_ - (1 : Int32)))))]) (rest := [(.ref a0_)]) (lenOf mE rfl) rfl (by show 2 * 0 + _ ≤ _; exact Nat.le_of_eq rfl) (oG hby d4 35 rfl) (fun _ _ => ⟨rfl, e10, (by decide : 0 + 0 ≤ _), (by decide : 0 + 0 ≤ _)⟩)
 dsimp only [Pt.U, Pt.locs, Pt.cells, Pt.slots] at X11 l11 y11 z11 st11 hQ11
 subst l11 y11 z11
 obtain ⟨rfl, N11q, e11⟩ := hQ11
 have N11 := Fr.app N10 N11q
 have hV := (eW.wr W8)
 have gT := (((aQ.other W2 (oN (Or.inr (oW hw 35 rfl)) (Or.inr (oW hw 21 rfl)) (t := .int) (t' := .int))).other W5 (oN (Or.inr (oW hw 35 rfl)) (Or.inr (oW hw 23 rfl)) (t := .int) (t' := .int))).other W8 (oN (Or.inr (oW hw 35 rfl)) (Or.inr (oW hw 25 rfl)) (t := .int) (t' := .int)))
 obtain ⟨T14, h14, X14, e14, W14, st14⟩ := putF X11 hx hZ hown (host := "") (Or.inl (oW hw 34 rfl)) Via.refl e11 gT hV (Or.inr ⟨(oW hw 35 rfl), rfl, hnm⟩) (oW hw 15 rfl) (ty := .int) (by decide) rfl rfl (g := (mkF m 101 #[oA a0_, oI p1_, oI p2_] [(.int y_), (.ref a0_)])) rfl rfl (oG hby d4 36 rfl)
 have Fw14 := gT.same W14
 have K14 : Keep h0 h14 [a0_] := K8.wr W14 (Or.inl (oX 0 rfl))
 have N14 := Fr.snoc X14 N11 eM
 have iQ := (hV.wr W14)
 have fZ := ((((cX.other W2 (oN (Or.inr (oW hw 37 rfl)) (Or.inr (oW hw 21 rfl)) (t := .boolean) (t' := .int))).other W5 (oN (Or.inr (oW hw 37 rfl)) (Or.inr (oW hw 23 rfl)) (t := .boolean) (t' := .int))).other W8 (oN (Or.inr (oW hw 37 rfl)) (Or.inr (oW hw 25 rfl)) (t := .boolean) (t' := .int))).other W14 (oN (Or.inr (oW hw 37 rfl)) (Or.inr (oW hw 35 rfl)) (t := .boolean) (t' := .int)))
 obtain ⟨T17, h17, X17, e17, W17, st17⟩ := putFN X14 hx hZ hown (oW hw 36 rfl) Via.refl e14 fZ iQ (Or.inr ⟨(oW hw 37 rfl), rfl, hnm⟩) (oW hw 15 rfl) (ty := .boolean) (v' := (.int 1)) (by decide) rfl rfl (g := (mkF m 118 #[oA a0_, oI p1_, oI p2_] [(.int 1), (.ref a0_)])) rfl rfl (oG hby d4 46 rfl)
 have Fw17 := fZ.same W17
 have K17 : Keep h0 h17 [a0_] := K14.wr W17 (Or.inl (oX 0 rfl))
 have N17 := Fr.snoc X17 N14 eM
 have gF := (iQ.wr W17)
 have jQ := ((((Fw2.other W5 (oN (Or.inr (oW hw 21 rfl)) (Or.inr (oW hw 23 rfl)) (t := .int) (t' := .int))).other W8 (oN (Or.inr (oW hw 21 rfl)) (Or.inr (oW hw 25 rfl)) (t := .int) (t' := .int))).other W14 (oN (Or.inr (oW hw 21 rfl)) (Or.inr (oW hw 35 rfl)) (t := .int) (t' := .int))).other W17 (oN (Or.inr (oW hw 21 rfl)) (Or.inr (oW hw 37 rfl)) (t := .int) (t' := .boolean)))
 have iU := (((Fw5.other W8 (oN (Or.inr (oW hw 23 rfl)) (Or.inr (oW hw 25 rfl)) (t := .int) (t' := .int))).other W14 (oN (Or.inr (oW hw 23 rfl)) (Or.inr (oW hw 35 rfl)) (t := .int) (t' := .int))).other W17 (oN (Or.inr (oW hw 23 rfl)) (Or.inr (oW hw 37 rfl)) (t := .int) (t' := .boolean)))
 have iZ := ((Fw8.other W14 (oN (Or.inr (oW hw 25 rfl)) (Or.inr (oW hw 35 rfl)) (t := .int) (t' := .int))).other W17 (oN (Or.inr (oW hw 25 rfl)) (Or.inr (oW hw 37 rfl)) (t := .int) (t' := .boolean)))
 have jR := (Fw14.other W17 (oN (Or.inr (oW hw 35 rfl)) (Or.inr (oW hw 37 rfl)) (t := .int) (t' := .boolean)))
 obtain ⟨fs, hr, hrun, hended, hW, hsame⟩ := X17.leave (v := none) (fun _ => rfl)
 refine ⟨_, _, castTop (zU m a0_ p1_ p2_) ?_, hrun, hended, _, _, rfl, ?_, ⟨_, rfl⟩, hW, (hsame.mono (by decide) (by decide))⟩
 · show oZ p e below s₁ (mkF m 0 #[oA a0_, oI p1_, oI p2_] []) _
   refine XS.aloadN X0.here hx rfl (oG hby d4 0 rfl) rfl rfl ?_
   refine st1 _ ?_
   refine XS.iloadN X1.here hx rfl (oG hby d4 2 rfl) rfl ?_
   refine XS.iconst X1.here hx rfl (oG hby d4 3 rfl) ?_
   refine XS.icmpYes X1.here hx rfl (pc0 := 6) (pc' := 23) rfl (oG hby d4 4 rfl) rfl (flt hf0).2.1 (by decide) (by decide) ?_
   refine XS.iloadN X1.here hx rfl (oG hby d4 5 rfl) rfl ?_
   refine XS.iconst X1.here hx rfl (oG hby d4 6 rfl) ?_
   refine XS.icmpYes X1.here hx rfl (pc0 := 25) (pc' := 42) rfl (oG hby d4 7 rfl) rfl (flt hf1).2.1 (by decide) (by decide) ?_
   refine XS.iloadN X1.here hx rfl (oG hby d4 8 rfl) rfl ?_
   refine XS.iloadN X1.here hx rfl (oG hby d4 9 rfl) rfl ?_
   refine XS.icmpYes X1.here hx rfl (pc0 := 44) (pc' := 62) rfl (oG hby d4 10 rfl) rfl (flt hf2).2.2.2 (by decide) (by decide) ?_
   show oZ p e below T1 (mkF m 62 #[oA a0_, oI p1_, oI p2_] []) _
   refine XS.aloadN X1.here hx rfl (oG hby d4 11 rfl) rfl rfl ?_
   refine XS.iloadN X1.here hx rfl (oG hby d4 12 rfl) rfl ?_
   refine st2 _ ?_
   refine XS.aloadN X2.here hx rfl (oG hby d4 14 rfl) rfl rfl ?_
   refine XS.iloadN X2.here hx rfl (oG hby d4 15 rfl) rfl ?_
   refine st5 _ ?_
   refine XS.aloadN X5.here hx rfl (oG hby d4 17 rfl) rfl rfl ?_
   refine XS.iloadN X5.here hx rfl (oG hby d4 18 rfl) rfl ?_
   refine XS.iconst X5.here hx rfl (oG hby d4 19 rfl) ?_
   refine XS.isub X5.here hx rfl (oG hby d4 20 rfl) rfl ?_
   refine XS.bipush X5.here hx rfl (oG hby d4 21 rfl) ?_
   show oZ p e below T5 (mkF m 78 #[oA a0_, oI p1_, oI p2_] [(.int 10), (.int (p1_ - (1 : Int32))), (.ref a0_)]) _
   refine XS.idiv X5.here hx rfl (oG hby d4 22 rfl) rfl (by decide +kernel) ?_
   refine XS.iconst X5.here hx rfl (oG hby d4 23 rfl) ?_
   refine XS.iadd X5.here hx rfl (oG hby d4 24 rfl) rfl ?_
   show oZ p e below T5 (mkF m 81 #[oA a0_, oI p1_, oI p2_] [(.int (((p1_ - (1 : Int32)) / (10 : Int32)) + (1 : Int32))), (.ref a0_)]) _
   rw [hf3]
   refine st8 _ ?_
   refine XS.aloadN X8.here hx rfl (oG hby d4 26 rfl) rfl rfl ?_
   refine XS.iconst X8.here hx rfl (oG hby d4 27 rfl) ?_
   refine XS.bipush X8.here hx rfl (oG hby d4 28 rfl) ?_
   refine XS.aloadN X8.here hx rfl (oG hby d4 29 rfl) rfl rfl ?_
   refine st9 _ ?_
   refine XS.iconst X9.here hx rfl (oG hby d4 31 rfl) ?_
   refine XS.isub X9.here hx rfl (oG hby d4 32 rfl) rfl ?_
   refine st10 _ ?_
   refine XS.isub X10.here hx rfl (oG hby d4 34 rfl) rfl ?_
   show oZ p e below T10 (mkF m 98 #[oA a0_, oI p1_, oI p2_] [(.int ((32 : Int32) - (iT (x_ - (1 : Int32))))), (.int 1), (.ref a0_)]) _
   refine st11 _ ?_
   show oZ p e below T11 (mkF m 101 #[oA a0_, oI p1_, oI p2_] [(.int (fR (1 : Int32) ((32 : Int32) - (iT (x_ - (1 : Int32)))))), (.ref a0_)]) _
   rw [hf5]
   refine st14 _ ?_
   refine XS.aloadN X14.here hx rfl (oG hby d4 37 rfl) rfl rfl ?_
   refine XS.iloadN X14.here hx rfl (oG hby d4 38 rfl) rfl ?_
   refine XS.iloadN X14.here hx rfl (oG hby d4 39 rfl) rfl ?_
   refine XS.bipush X14.here hx rfl (oG hby d4 40 rfl) ?_
   refine XS.idiv X14.here hx rfl (oG hby d4 41 rfl) rfl (by decide +kernel) ?_
   refine XS.icmpNo X14.here hx rfl (oG hby d4 42 rfl) rfl (flt hf6).2.2.1 ?_
   refine XS.iconst X14.here hx rfl (oG hby d4 43 rfl) ?_
   refine XS.goto X14.here hx rfl (pc0 := 114) (pc' := 118) rfl (oG hby d4 44 rfl) (by decide) (by decide) ?_
   refine st17 _ ?_
   show oZ p e below T17 (mkF m 121 #[oA a0_, oI p1_, oI p2_] []) _
   exact X17.returnOut hx Bd.returns (oG hby d4 47 rfl) hr
 · show nQ Z a0_ p1_ p2_ eZ eE x_ gX y_ fA eF h0 n0 _ T17.heap _
   rw [e17]
   exact ⟨rfl, N17, K17, gF, jQ, iU, iZ, jR, Fw17⟩
def jX (b n : Int32) (L : Nat) (ft : Int32) : Prop := ¬ (b < (1 : Int32)) ∧ ¬ (n < (1 : Int32)) ∧ ¬ (b < n) ∧ (((b - (1 : Int32)) / (10 : Int32)) + (1 : Int32)) = (Int32.ofNat L) ∧ wP ((Int32.ofNat L) - (1 : Int32)) ∧ (fR (1 : Int32) ((32 : Int32) - (iT ((Int32.ofNat L) - (1 : Int32))))) = (gQ L) ∧ ((ft = (0 : Int32) ∧ (b / (10 : Int32)) < n) ∨ (ft = (1 : Int32) ∧ ¬ ((b / (10 : Int32)) < n)))
def aW6 (Z : State) (o : Addr) (b n : Int32) (L : Nat) (ft : Int32) (h0 : Heap) (n0 : Nat) (v : Option Value) (h : Heap) (L' : List Loc) : Prop := v = none ∧ Fr n0 L' ∧ Keep h0 h [o] ∧ kN Z h o b n L ft
theorem aF6 (l : Launch) (Z : State) (a0 : Array Value) (hw : oH a0 Z) (ws : List Jvm.Cond) (o0 : Addr) (b n : Int32) (L : Nat) (ft : Int32) (u0 u1 u2 u3 u4 : Value) (h0 : Heap) (n0 : Nat) (Z0 : n0 ≤ h0.size) (E0 : Exa Z h0 o0 oC0) (F0 : Fld Z h0 o0 oC0 "backends" "I" u0) (F1 : Fld Z h0 o0 oC0 "subsetSize" "I" u1) (F2 : Fld Z h0 o0 oC0 "lots" "I" u2) (F3 : Fld Z h0 o0 oC0 "ringBits" "I" u3) (F4 : Fld Z h0 o0 oC0 "fitsInARow" "Z" u4) (g0 : n0 ≤ o0) (ok : jX b n L ft) :
   oMet l oM14 prog_29_method_1_code 3 none ws (oR 1 0 0 16) Z h0 #[(.ref o0), (.int b), (.int n)] (aW6 Z o0 b n L ft h0 n0) := by
 obtain ⟨k1, k2, k3, k4, k5, k6, k7⟩ := ok
 rcases k7 with ⟨rfl, k7⟩ | ⟨rfl, k7⟩
 · exact dJ (wQ l Z a0 hw ws o0 b n u0 u1 (Int32.ofNat L) u2 (gQ L) u3 u4 h0 n0 Z0 E0 F0 g0 F1 F2 F3 F4 k1 k2 k3 k4 k5 k6 k7) fun v h Lc q => q
 · exact dJ (wR l Z a0 hw ws o0 b n u0 u1 (Int32.ofNat L) u2 (gQ L) u3 u4 h0 n0 Z0 E0 F0 g0 F1 F2 F3 F4 k1 k2 k3 k4 k5 k6 k7) fun v h Lc q => q
theorem aB1 (l : Launch) (Z : State) (a0 : Array Value) (hw : oH a0 Z) (ws : List Jvm.Cond) (o0 : Addr) (cli : Int32) (o4 : Addr) (b n lo rb ft vn : Int32) (vv : List Int32) (L R cx cl : Nat) (h0 : Heap) (n0 : Nat) (Z0 : n0 ≤ h0.size) (E0 : Exa Z h0 o0 oC0) (F0 : Fld Z h0 o0 oC0 "backends" "I" (.int b)) (F1 : Fld Z h0 o0 oC0 "subsetSize" "I" (.int n)) (F2 : Fld Z h0 o0 oC0 "lots" "I" (.int lo)) (F3 : Fld Z h0 o0 oC0 "ringBits" "I" (.int rb)) (F4 : Fld Z h0 o0 oC0 "fitsInARow" "Z" (.int ft)) (S0 : Sta Z h0 oC0 "START_ROWS" "[I" (.ref o4)) (A0 : bB Z h0 o4 vn vv) (B0 : Sta Z h0 oC3 "$assertionsDisabled" "Z" (.int 1)) (e1 : lo = Int32.ofNat L) (e2 : rb = gQ L) (e3 : vn = (10 : Int32)) (e4 : vv = ([0, 8, 2, 4, 6, 1, 9, 5, 3, 7] : List Int32)) (ok : iC b n cli ft L R cx cl) :
   oMet l oM3 prog_29_method_2_code 5 (some (.array .int)) ws (oR 8 (10 + 2 * cl) (80 + 11 * cl) 230) Z h0 #[(.ref o0), (.int cli)] (aD6 Z n h0 n0) := by
 subst e1 e2 e3 e4
 exact aQ1 l Z a0 hw ws o0 cli o4 b n ft L R cx cl h0 n0 Z0 ⟨E0, F0, F1, F2, F3, F4⟩ ⟨S0, A0, B0⟩ ok
theorem aJ3 (l : Launch) (Z : State) (a0 : Array Value) (hw : oH a0 Z) (ws : List Jvm.Cond) (a0_ : Addr) (mA : Addr) (hB : Int32) (h0 : Heap) (n0 : Nat) (Z0 : n0 ≤ h0.size) (lZ : Fld Z h0 a0_ oC4 "removed" "[I" (.ref mA)) (tZ : bC Z h0 mA hB) :
   oMet l oM19 prog_28_method_6_code 1 (some .int) ws (oR 0 0 0 0) Z h0 #[(.ref a0_)] (cD (some (.int hB)) h0 n0) := by
 refine oBd n0 (plainFor_of_name pK) ?_
 intro p e s m below meth c s₁ Bd hx hZ hby hml hown hnm X0 e0 N0
 obtain ⟨T1, X1, e1, st1⟩ := getF X0 hx hZ hown (host := "") (Or.inl (oW hw 241 rfl)) Via.refl e0 lZ (g := (mkF m 1 #[oA a0_] [(.ref a0_)])) rfl rfl (oG hby d42 1 rfl)
 obtain ⟨c2, A2, S2, M2⟩ := dE tZ
 obtain ⟨fs, hr, hrun, hended, hW, hsame⟩ := X1.leave (v := some (.int hB)) (fun h => by rw [Bd.returns] at h; cases h)
 refine ⟨_, _, castTop (aL9 m a0_) ?_, hrun, hended, _, _, rfl, ?_, ⟨_, rfl⟩, hW, (hsame.mono (by decide) (by decide))⟩
 · show oZ p e below s₁ (mkF m 0 #[oA a0_] []) _
   refine XS.aloadN X0.here hx rfl (oG hby d42 0 rfl) rfl rfl ?_
   refine st1 _ ?_
   refine X1.arraylength hx (by rw [e1]; exact A2.1) (State.isArrayOf_alike hZ.alike A2.2.1) (g := (mkF m 4 #[oA a0_] [(.ref mA)])) rfl rfl (oG hby d42 2 rfl) _ ?_
   rw [len_of S2 M2]
   show oZ p e below T1 (mkF m 5 #[oA a0_] [(.int hB)]) _
   exact retI X1 hx Bd.returns (oG hby d42 3 rfl) hr
 · show cD (some (.int hB)) h0 n0 _ T1.heap _
   exact ⟨rfl, N0, e1⟩
theorem aS3 (l : Launch) (Z : State) (a0 : Array Value) (hw : oH a0 Z) (ws : List Jvm.Cond) (p0_ : Int32) (h0 : Heap) (n0 : Nat) (Z0 : n0 ≤ h0.size) (hf0 : ¬ (p0_ < (1 : Int32))) :
   oMet l oM33 prog_29_method_15_code 1 none ws (oR 0 0 0 0) Z h0 #[(.int p0_)] (cD (none) h0 n0) := by
 refine oBd n0 (plainFor_of_name eC) ?_
 intro p e s m below meth c s₁ Bd hx hZ hby hml hown hnm X0 e0 N0
 obtain ⟨fs, hr, hrun, hended, hW, hsame⟩ := X0.leave (v := none) (fun _ => rfl)
 refine ⟨_, _, castTop (aM0 m p0_) ?_, hrun, hended, _, _, rfl, ?_, ⟨_, rfl⟩, hW, (hsame.mono (by decide) (by decide))⟩
 · show oZ p e below s₁ (mkF m 0 #[oI p0_] []) _
   refine XS.iloadN X0.here hx rfl (oG hby d3 0 rfl) rfl ?_
   refine XS.iconst X0.here hx rfl (oG hby d3 1 rfl) ?_
   refine XS.icmpYes X0.here hx rfl (pc0 := 2) (pc' := 19) rfl (oG hby d3 2 rfl) rfl (flt hf0).2.1 (by decide) (by decide) ?_
   show oZ p e below s₁ (mkF m 19 #[oI p0_] []) _
   exact X0.returnOut hx Bd.returns (oG hby d3 3 rfl) hr
 · show cD (none) h0 n0 _ s₁.heap _
   exact ⟨rfl, N0, e0⟩
theorem aS4 (rc : Nat) (rs : Nat) (o0_ : Addr) (i1_ : Int32) (i2_ : Int32) (i3_ : Int32) (i4_ : Int32) (i5_ : Int32) (i6_ : Int32) (l0_ : Nat) (aW7 : Int32) (l1_ : Nat) (aW8 : Int32) (qF : Value) (pF : Value) (mQ : Value) (gC : Value) (mR : Value) (fF : Value) (k_ : Int32) (gU : Value) (cW : Value) (eG : Value)
   (X0 : Stand p l e (oR 9 rc rs 256) s m args below meth c T0 locs cells slots) (hx : p.tables.exec = Jvm.exec) (hZ : Z.Warmed39 s.vm) (hw : oH a0 Z) (hby : c.code = prog_7_method_1_code) (hml : c.maxLocals = 17) (hown : s.vm.findClass oC2 = some m.cls) (e0 : T0.heap = h0) (N0 : Fr n0 locs) (Z0 : n0 ≤ h0.size) (hnm : meth.name = "<init>") (bL : Exa Z h0 o0_ oC2) (xJ : Fld Z h0 o0_ oC2 "clients" "I" qF) (qG : n0 ≤ o0_) (cU : Fld Z h0 o0_ oC2 "backends" "I" pF) (eD : Fld Z h0 o0_ oC2 "subsetSize" "I" mQ) (kB : Fld Z h0 o0_ oC2 "toClients" "I" gC) (tB : Fld Z h0 o0_ oC2 "toBackends" "I" mR) (iV : Fld Z h0 o0_ oC2 "toSubsetSize" "I" fF) (jB : Fld Z h0 o0_ oC2 "replaced" "J" gU) (fK : Fld Z h0 o0_ oC2 "mostReplacedByOneClient" "I" cW) (gY : Fld Z h0 o0_ oC2 "whollyNewSubsets" "I" eG) (hf0 : ¬ (i1_ < (1 : Int32))) (hf1 : ¬ (i4_ < (1 : Int32))) (hf2 : jX i2_ i3_ l0_ aW7) (hf3 : jX i5_ i6_ l1_ aW8) (hf4 : (nF i1_ i4_) = k_) (hc : cells + (1 + 1) ≤ rc) (hs : slots + (5 + 5) ≤ rs) :
   ∃ (b3 : Addr) (b5 : Addr) (T' : State) (locs' : List Loc), Stand p l e (oR 9 rc rs 256) s m args below meth c T' locs' (cells + 1 + 1) (slots + 5 + 5) ∧ Fr n0 locs' ∧ Keep h0 T'.heap [o0_] ∧ h0.size ≤ b3 ∧ h0.size ≤ b5 ∧ b3 ≠ b5 ∧ Exa Z T'.heap o0_ oC2 ∧ Fld Z T'.heap o0_ oC2 "toClients" "I" (.int i4_) ∧ Fld Z T'.heap o0_ oC2 "toSubsetSize" "I" (.int i6_) ∧ Fld Z T'.heap o0_ oC2 "replaced" "J" gU ∧ Fld Z T'.heap o0_ oC2 "mostReplacedByOneClient" "I" cW ∧ Fld Z T'.heap o0_ oC2 "whollyNewSubsets" "I" eG ∧ Exa Z T'.heap b3 oC0 ∧ Fld Z T'.heap b3 oC0 "backends" "I" (.int i2_) ∧ Fld Z T'.heap b3 oC0 "subsetSize" "I" (.int i3_) ∧ Fld Z T'.heap b3 oC0 "lots" "I" (.int (Int32.ofNat l0_)) ∧ Fld Z T'.heap b3 oC0 "ringBits" "I" (.int (gQ l0_)) ∧ Fld Z T'.heap b3 oC0 "fitsInARow" "Z" (.int aW7) ∧ Exa Z T'.heap b5 oC0 ∧ Fld Z T'.heap b5 oC0 "backends" "I" (.int i5_) ∧ Fld Z T'.heap b5 oC0 "subsetSize" "I" (.int i6_) ∧ Fld Z T'.heap b5 oC0 "lots" "I" (.int (Int32.ofNat l1_)) ∧ Fld Z T'.heap b5 oC0 "ringBits" "I" (.int (gQ l1_)) ∧ Fld Z T'.heap b5 oC0 "fitsInARow" "Z" (.int aW8) ∧
     ∀ target, Steps p.tables e below (T'.setTop (mkF m 106 #[oA o0_, oI i1_, oI i2_, oI i3_, oI i4_, oI i5_, oI i6_, oA b3, oA b5, oJ 0, .second, oI 0, oI 0, oI k_, oI 0, .unset, .unset] [])) target → Steps p.tables e below (T0.setTop (mkF m 0 #[oA o0_, oI i1_, oI i2_, oI i3_, oI i4_, oI i5_, oI i6_, .unset, .unset, .unset, .unset, .unset, .unset, .unset, .unset, .unset, .unset] [])) target := by
 obtain ⟨T1, X1, e1, st1⟩ := initO X0 hx hZ hown (oW hw 7 rfl) (oW hw 8 rfl) (oW hw 9 rfl) e0 (g := (mkF m 1 #[oA o0_, oI i1_, oI i2_, oI i3_, oI i4_, oI i5_, oI i6_, .unset, .unset, .unset, .unset, .unset, .unset, .unset, .unset, .unset, .unset] [(.ref o0_)])) rfl (by rw [hml]; rfl) rfl (oG hby d1 1 rfl) (Nat.le_of_ble_eq_true rfl) (W := 0) (by show 2 * 0 + _ ≤ _; exact Nat.le_of_eq rfl) (Nat.le_of_ble_eq_true rfl)
 obtain ⟨_, _, ⟨T2, L2, k2, n2⟩, -, X2, ⟨Lc2, hQ2, l2, y2, z2⟩, st2⟩ := Jvm.LawKit.callS X1 hx (y := oM33) hown (mvT hZ (oW hw 10 rfl)) (mvT hZ (oW hw 11 rfl)) (mvT hZ (oW hw 12 rfl)) (mvT hZ (oW hw 13 rfl)) (by decide) (backOf (W := 0) (aS3 l Z a0 hw [] i1_ h0 n0 Z0 hf0) hZ (oW hw 13 rfl) (oW hw 12 rfl) (Nat.le_of_ble_eq_true rfl) (Nat.le_of_ble_eq_true rfl)) (g := (mkF m 5 #[oA o0_, oI i1_, oI i2_, oI i3_, oI i4_, oI i5_, oI i6_, .unset, .unset, .unset, .unset, .unset, .unset, .unset, .unset, .unset, .unset] [(.int i1_)])) rfl (by rw [hml]; rfl) (argsL := [(.int i1_)]) (rest := []) (lenOf jT rfl) rfl (by show 2 * 0 + _ ≤ _; exact Nat.le_of_eq rfl) (oG hby d1 3 rfl) (fun _ _ => ⟨rfl, e1, (show cells + 0 ≤ rc from by omega), (show slots + 0 ≤ rs from by omega)⟩)
 dsimp only [Pt.U, Pt.locs, Pt.cells, Pt.slots] at X2 l2 y2 z2 st2 hQ2
 subst l2; rw [y2, z2] at X2
 obtain ⟨rfl, N2q, e2⟩ := hQ2
 have N2 := Fr.app N0 N2q
 obtain ⟨T3, h3, X3, e3, E3, A3, D3, -, st3⟩ := newO X2 hx hZ hown (oW hw 14 rfl) (oW hw 15 rfl) (oW hw 12 rfl) e2 (g := (mkF m 29 #[oA o0_, oI i1_, oI i2_, oI i3_, oI i4_, oI i5_, oI i6_, .unset, .unset, .unset, .unset, .unset, .unset, .unset, .unset, .unset, .unset] [])) rfl (oG hby d1 7 rfl) (show cells + 1 ≤ rc from by omega) (show slots + 5 ≤ rs from by omega)
 obtain ⟨b3, g3⟩ : ∃ z, z = h0.size := ⟨_, rfl⟩
 rw [← g3] at A3 D3 st3
 have gZ : h0.size ≤ b3 := Nat.le_of_eq g3.symm
 have bX : h0.size ≤ b3 := Nat.le_trans (Keep.refl h0 [o0_]).1 gZ
 have g_b3 : n0 ≤ b3 := Nat.le_trans Z0 bX
 have K3 : Keep h0 h3 [o0_] := (Keep.refl h0 [o0_]).ext E3
 have aB2 : Fld Z h3 b3 oC0 "backends" "I" (.int 0) := D3 (Or.inr (oW hw 21 rfl)) (ty := .int) (by decide)
 have xK : Fld Z h3 b3 oC0 "subsetSize" "I" (.int 0) := D3 (Or.inr (oW hw 23 rfl)) (ty := .int) (by decide)
 have aW9 : Fld Z h3 b3 oC0 "lots" "I" (.int 0) := D3 (Or.inr (oW hw 25 rfl)) (ty := .int) (by decide)
 have aB3 : Fld Z h3 b3 oC0 "ringBits" "I" (.int 0) := D3 (Or.inr (oW hw 35 rfl)) (ty := .int) (by decide)
 have xL : Fld Z h3 b3 oC0 "fitsInARow" "Z" (.int 0) := D3 (Or.inr (oW hw 37 rfl)) (ty := .boolean) (by decide)
 obtain ⟨_, _, ⟨T4, L4, k4, n4⟩, -, X4, ⟨Lc4, hQ4, l4, y4, z4⟩, st4⟩ := X3.specialBack hx (y := oM14) rfl hown (mvT hZ (oW hw 16 rfl)) (mvT hZ (oW hw 17 rfl)) (mvT hZ (oW hw 18 rfl)) (by decide) (backOf (W := 1) (aF6 l Z a0 hw [] b3 i2_ i3_ l0_ aW7 (.int 0) (.int 0) (.int 0) (.int 0) (.int 0) h3 n0 (Nat.le_trans Z0 K3.1) A3 aB2 xK aW9 aB3 xL g_b3 hf2) hZ (oW hw 18 rfl) (oW hw 12 rfl) (Nat.le_of_ble_eq_true rfl) (Nat.le_of_ble_eq_true rfl)) (g := (mkF m 35 #[oA o0_, oI i1_, oI i2_, oI i3_, oI i4_, oI i5_, oI i6_, .unset, .unset, .unset, .unset, .unset, .unset, .unset, .unset, .unset, .unset] [(.int i3_), (.int i2_), (.ref b3), (.ref b3)])) rfl (by rw [hml]; rfl) (Steps.refl _) (a := b3) (argsL := [(.int i2_), (.int i3_)]) (rest := [(.ref b3)]) (lenOf zH rfl) rfl (by show 2 * 0 + _ ≤ _; exact Nat.le_of_eq rfl) (oG hby d1 11 rfl) (fun _ _ => ⟨rfl, e3, (show cells + 1 + 0 ≤ rc from by omega), (show slots + 5 + 0 ≤ rs from by omega)⟩)
 dsimp only [Pt.U, Pt.locs, Pt.cells, Pt.slots] at X4 l4 y4 z4 st4 hQ4
 subst l4; rw [y4, z4] at X4
 obtain ⟨rfl, N4q, Kq4, Q4_0, aP9, bG5, bG6, bG7, bG8⟩ := hQ4
 have N4 := Fr.app N2 N4q
 have K4 : Keep h0 T4.heap [o0_] := K3.trans Kq4 (bJ (Or.inr bX))
 obtain ⟨T5, h5, X5, e5, E5, A5, D5, -, st5⟩ := newO X4 hx hZ hown (oW hw 14 rfl) (oW hw 15 rfl) (oW hw 12 rfl) rfl (g := (mkF m 40 #[oA o0_, oI i1_, oI i2_, oI i3_, oI i4_, oI i5_, oI i6_, oA b3, .unset, .unset, .unset, .unset, .unset, .unset, .unset, .unset, .unset] [])) rfl (oG hby d1 13 rfl) (show cells + 1 + 1 ≤ rc from by omega) (show slots + 5 + 5 ≤ rs from by omega)
 obtain ⟨b5, g5⟩ : ∃ z, z = T4.heap.size := ⟨_, rfl⟩
 rw [← g5] at A5 D5 st5
 have wM : T4.heap.size ≤ b5 := Nat.le_of_eq g5.symm
 have mT : b3 ≠ b5 := oV Q4_0.lt wM
 have eH : h0.size ≤ b5 := Nat.le_trans K4.1 wM
 have g_b5 : n0 ≤ b5 := Nat.le_trans Z0 eH
 have K5 : Keep h0 h5 [o0_] := K4.ext E5
 have aB4 : Fld Z h5 b5 oC0 "backends" "I" (.int 0) := D5 (Or.inr (oW hw 21 rfl)) (ty := .int) (by decide)
 have xM : Fld Z h5 b5 oC0 "subsetSize" "I" (.int 0) := D5 (Or.inr (oW hw 23 rfl)) (ty := .int) (by decide)
 have aX0 : Fld Z h5 b5 oC0 "lots" "I" (.int 0) := D5 (Or.inr (oW hw 25 rfl)) (ty := .int) (by decide)
 have aB5 : Fld Z h5 b5 oC0 "ringBits" "I" (.int 0) := D5 (Or.inr (oW hw 35 rfl)) (ty := .int) (by decide)
 have xN : Fld Z h5 b5 oC0 "fitsInARow" "Z" (.int 0) := D5 (Or.inr (oW hw 37 rfl)) (ty := .boolean) (by decide)
 obtain ⟨_, _, ⟨T6, L6, k6, n6⟩, -, X6, ⟨Lc6, hQ6, l6, y6, z6⟩, st6⟩ := X5.specialBack hx (y := oM14) rfl hown (mvT hZ (oW hw 16 rfl)) (mvT hZ (oW hw 17 rfl)) (mvT hZ (oW hw 18 rfl)) (by decide) (backOf (W := 1) (aF6 l Z a0 hw [] b5 i5_ i6_ l1_ aW8 (.int 0) (.int 0) (.int 0) (.int 0) (.int 0) h5 n0 (Nat.le_trans Z0 K5.1) A5 aB4 xM aX0 aB5 xN g_b5 hf3) hZ (oW hw 18 rfl) (oW hw 12 rfl) (Nat.le_of_ble_eq_true rfl) (Nat.le_of_ble_eq_true rfl)) (g := (mkF m 48 #[oA o0_, oI i1_, oI i2_, oI i3_, oI i4_, oI i5_, oI i6_, oA b3, .unset, .unset, .unset, .unset, .unset, .unset, .unset, .unset, .unset] [(.int i6_), (.int i5_), (.ref b5), (.ref b5)])) rfl (by rw [hml]; rfl) (Steps.refl _) (a := b5) (argsL := [(.int i5_), (.int i6_)]) (rest := [(.ref b5)]) (lenOf zH rfl) rfl (by show 2 * 0 + _ ≤ _; exact Nat.le_of_eq rfl) (oG hby d1 17 rfl) (fun _ _ => ⟨rfl, e5, (show cells + 1 + 1 + 0 ≤ rc from by omega), (show slots + 5 + 5 + 0 ≤ rs from by omega)⟩)
 dsimp only [Pt.U, Pt.locs, Pt.cells, Pt.slots] at X6 l6 y6 z6 st6 hQ6
 subst l6; rw [y6, z6] at X6
 obtain ⟨rfl, N6q, Kq6, aV8, bA2, bA3, aV9, bA4, bA5⟩ := hQ6
 have N6 := Fr.app N4 N6q
 have K6 : Keep h0 T6.heap [o0_] := K5.trans Kq6 (bJ (Or.inr eH))
 have aS5 := ((((bL.ext E3).keep Kq4).ext E5).keep Kq6)
 have pG := ((((xJ.ext E3).keep Kq4 (bH (oV bL.lt bX))).ext E5).keep Kq6 (bH (oV bL.lt eH)))
 obtain ⟨T9, h9, X9, e9, W9, st9⟩ := putF X6 hx hZ hown (host := "") (Or.inl (oW hw 38 rfl)) Via.refl rfl pG aS5 (Or.inr ⟨(oW hw 39 rfl), rfl, hnm⟩) (oW hw 2 rfl) (ty := .int) (by decide) rfl rfl (g := (mkF m 55 #[oA o0_, oI i1_, oI i2_, oI i3_, oI i4_, oI i5_, oI i6_, oA b3, oA b5, .unset, .unset, .unset, .unset, .unset, .unset, .unset, .unset] [(.int i1_), (.ref o0_)])) rfl rfl (oG hby d1 21 rfl)
 have Fw9 := pG.same W9
 have K9 : Keep h0 h9 [o0_] := K6.wr W9 (Or.inl (oX 0 rfl))
 have N9 := Fr.snoc X9 N6 qG
 have pO := (aS5.wr W9)
 have mU := (((((cU.ext E3).keep Kq4 (bH (oV bL.lt bX))).ext E5).keep Kq6 (bH (oV bL.lt eH))).other W9 (oN (Or.inr (oW hw 41 rfl)) (Or.inr (oW hw 39 rfl)) (t := .int) (t' := .int)))
 obtain ⟨T12, h12, X12, e12, W12, st12⟩ := putF X9 hx hZ hown (host := "") (Or.inl (oW hw 40 rfl)) Via.refl e9 mU pO (Or.inr ⟨(oW hw 41 rfl), rfl, hnm⟩) (oW hw 2 rfl) (ty := .int) (by decide) rfl rfl (g := (mkF m 60 #[oA o0_, oI i1_, oI i2_, oI i3_, oI i4_, oI i5_, oI i6_, oA b3, oA b5, .unset, .unset, .unset, .unset, .unset, .unset, .unset, .unset] [(.int i2_), (.ref o0_)])) rfl rfl (oG hby d1 24 rfl)
 have Fw12 := mU.same W12
 have K12 : Keep h0 h12 [o0_] := K9.wr W12 (Or.inl (oX 0 rfl))
 have N12 := Fr.snoc X12 N9 qG
 have aF7 := (pO.wr W12)
 have fY := ((((((eD.ext E3).keep Kq4 (bH (oV bL.lt bX))).ext E5).keep Kq6 (bH (oV bL.lt eH))).other W9 (oN (Or.inr (oW hw 43 rfl)) (Or.inr (oW hw 39 rfl)) (t := .int) (t' := .int))).other W12 (oN (Or.inr (oW hw 43 rfl)) (Or.inr (oW hw 41 rfl)) (t := .int) (t' := .int)))
 obtain ⟨T15, h15, X15, e15, W15, st15⟩ := putF X12 hx hZ hown (host := "") (Or.inl (oW hw 42 rfl)) Via.refl e12 fY aF7 (Or.inr ⟨(oW hw 43 rfl), rfl, hnm⟩) (oW hw 2 rfl) (ty := .int) (by decide) rfl rfl (g := (mkF m 65 #[oA o0_, oI i1_, oI i2_, oI i3_, oI i4_, oI i5_, oI i6_, oA b3, oA b5, .unset, .unset, .unset, .unset, .unset, .unset, .unset, .unset] [(.int i3_), (.ref o0_)])) rfl rfl (oG hby d1 27 rfl)
 have Fw15 := fY.same W15
 have K15 : Keep h0 h15 [o0_] := K12.wr W15 (Or.inl (oX 0 rfl))
 have N15 := Fr.snoc X15 N12 qG
 have aF8 := (aF7.wr W15)
 have lR := (((((((kB.ext E3).keep Kq4 (bH (oV bL.lt bX))).ext E5).keep Kq6 (bH (oV bL.lt eH))).other W9 (oN (Or.inr (oW hw 45 rfl)) (Or.inr (oW hw 39 rfl)) (t := .int) (t' := .int))).other W12 (oN (Or.inr (oW hw 45 rfl)) (Or.inr (oW hw 41 rfl)) (t := .int) (t' := .int))).other W15 (oN (Or.inr (oW hw 45 rfl)) (Or.inr (oW hw 43 rfl)) (t := .int) (t' := .int)))
 obtain ⟨T18, h18, X18, e18, W18, st18⟩ := putF X15 hx hZ hown (host := "") (Or.inl (oW hw 44 rfl)) Via.refl e15 lR aF8 (Or.inr ⟨(oW hw 45 rfl), rfl, hnm⟩) (oW hw 2 rfl) (ty := .int) (by decide) rfl rfl (g := (mkF m 71 #[oA o0_, oI i1_, oI i2_, oI i3_, oI i4_, oI i5_, oI i6_, oA b3, oA b5, .unset, .unset, .unset, .unset, .unset, .unset, .unset, .unset] [(.int i4_), (.ref o0_)])) rfl rfl (oG hby d1 30 rfl)
 have Fw18 := lR.same W18
 have K18 : Keep h0 h18 [o0_] := K15.wr W18 (Or.inl (oX 0 rfl))
 have N18 := Fr.snoc X18 N15 qG
 have aF9 := (aF8.wr W18)
 have lK := ((((((((tB.ext E3).keep Kq4 (bH (oV bL.lt bX))).ext E5).keep Kq6 (bH (oV bL.lt eH))).other W9 (oN (Or.inr (oW hw 47 rfl)) (Or.inr (oW hw 39 rfl)) (t := .int) (t' := .int))).other W12 (oN (Or.inr (oW hw 47 rfl)) (Or.inr (oW hw 41 rfl)) (t := .int) (t' := .int))).other W15 (oN (Or.inr (oW hw 47 rfl)) (Or.inr (oW hw 43 rfl)) (t := .int) (t' := .int))).other W18 (oN (Or.inr (oW hw 47 rfl)) (Or.inr (oW hw 45 rfl)) (t := .int) (t' := .int)))
 obtain ⟨T21, h21, X21, e21, W21, st21⟩ := putF X18 hx hZ hown (host := "") (Or.inl (oW hw 46 rfl)) Via.refl e18 lK aF9 (Or.inr ⟨(oW hw 47 rfl), rfl, hnm⟩) (oW hw 2 rfl) (ty := .int) (by decide) rfl rfl (g := (mkF m 77 #[oA o0_, oI i1_, oI i2_, oI i3_, oI i4_, oI i5_, oI i6_, oA b3, oA b5, .unset, .unset, .unset, .unset, .unset, .unset, .unset, .unset] [(.int i5_), (.ref o0_)])) rfl rfl (oG hby d1 33 rfl)
 have Fw21 := lK.same W21
 have K21 : Keep h0 h21 [o0_] := K18.wr W21 (Or.inl (oX 0 rfl))
 have N21 := Fr.snoc X21 N18 qG
 have aG0 := (aF9.wr W21)
 have jY := (((((((((iV.ext E3).keep Kq4 (bH (oV bL.lt bX))).ext E5).keep Kq6 (bH (oV bL.lt eH))).other W9 (oN (Or.inr (oW hw 49 rfl)) (Or.inr (oW hw 39 rfl)) (t := .int) (t' := .int))).other W12 (oN (Or.inr (oW hw 49 rfl)) (Or.inr (oW hw 41 rfl)) (t := .int) (t' := .int))).other W15 (oN (Or.inr (oW hw 49 rfl)) (Or.inr (oW hw 43 rfl)) (t := .int) (t' := .int))).other W18 (oN (Or.inr (oW hw 49 rfl)) (Or.inr (oW hw 45 rfl)) (t := .int) (t' := .int))).other W21 (oN (Or.inr (oW hw 49 rfl)) (Or.inr (oW hw 47 rfl)) (t := .int) (t' := .int)))
 obtain ⟨T24, h24, X24, e24, W24, st24⟩ := putF X21 hx hZ hown (host := "") (Or.inl (oW hw 48 rfl)) Via.refl e21 jY aG0 (Or.inr ⟨(oW hw 49 rfl), rfl, hnm⟩) (oW hw 2 rfl) (ty := .int) (by decide) rfl rfl (g := (mkF m 83 #[oA o0_, oI i1_, oI i2_, oI i3_, oI i4_, oI i5_, oI i6_, oA b3, oA b5, .unset, .unset, .unset, .unset, .unset, .unset, .unset, .unset] [(.int i6_), (.ref o0_)])) rfl rfl (oG hby d1 36 rfl)
 have Fw24 := jY.same W24
 have K24 : Keep h0 h24 [o0_] := K21.wr W24 (Or.inl (oX 0 rfl))
 have N24 := Fr.snoc X24 N21 qG
 obtain ⟨_, _, ⟨T25, L25, k25, n25⟩, -, X25, ⟨Lc25, hQ25, l25, y25, z25⟩, st25⟩ := Jvm.LawKit.callS X24 hx (y := oM20) hown (mvT hZ (oW hw 50 rfl)) (mvT hZ (oW hw 51 rfl)) (mvT hZ (oW hw 32 rfl)) (mvT hZ (oW hw 52 rfl)) (by decide) (backOf (W := 0) (aW5 l Z a0 hw [] i1_ i4_ h24 n0 (Nat.le_trans Z0 K24.1) ) hZ (oW hw 52 rfl) (oW hw 32 rfl) (Nat.le_of_ble_eq_true rfl) (Nat.le_of_ble_eq_true rfl)) (g := (mkF m 98 #[oA o0_, oI i1_, oI i2_, oI i3_, oI i4_, oI i5_, oI i6_, oA b3, oA b5, oJ 0, .second, oI 0, oI 0, .unset, .unset, .unset, .unset] [(.int i4_), (.int i1_)])) rfl (by rw [hml]; rfl) (argsL := [(.int i1_), (.int i4_)]) (rest := []) (lenOf mE rfl) rfl (by show 2 * 0 + _ ≤ _; exact Nat.le_of_eq rfl) (oG hby d1 45 rfl) (fun _ _ => ⟨rfl, e24, (show cells + 1 + 1 + 0 ≤ rc from by omega), (show slots + 5 + 5 + 0 ≤ rs from by omega)⟩)
 dsimp only [Pt.U, Pt.locs, Pt.cells, Pt.slots] at X25 l25 y25 z25 st25 hQ25
 subst l25; rw [y25, z25] at X25
 obtain ⟨rfl, N25q, e25⟩ := hQ25
 have N25 := Fr.app N24 N25q
 have tC := ((((((((((jB.ext E3).keep Kq4 (bH (oV bL.lt bX))).ext E5).keep Kq6 (bH (oV bL.lt eH))).other W9 (oN (Or.inr (oW hw 250 rfl)) (Or.inr (oW hw 39 rfl)) (t := .long) (t' := .int))).other W12 (oN (Or.inr (oW hw 250 rfl)) (Or.inr (oW hw 41 rfl)) (t := .long) (t' := .int))).other W15 (oN (Or.inr (oW hw 250 rfl)) (Or.inr (oW hw 43 rfl)) (t := .long) (t' := .int))).other W18 (oN (Or.inr (oW hw 250 rfl)) (Or.inr (oW hw 45 rfl)) (t := .long) (t' := .int))).other W21 (oN (Or.inr (oW hw 250 rfl)) (Or.inr (oW hw 47 rfl)) (t := .long) (t' := .int))).other W24 (oN (Or.inr (oW hw 250 rfl)) (Or.inr (oW hw 49 rfl)) (t := .long) (t' := .int)))
 have kC := ((((((((((fK.ext E3).keep Kq4 (bH (oV bL.lt bX))).ext E5).keep Kq6 (bH (oV bL.lt eH))).other W9 (oN (Or.inr (oW hw 252 rfl)) (Or.inr (oW hw 39 rfl)) (t := .int) (t' := .int))).other W12 (oN (Or.inr (oW hw 252 rfl)) (Or.inr (oW hw 41 rfl)) (t := .int) (t' := .int))).other W15 (oN (Or.inr (oW hw 252 rfl)) (Or.inr (oW hw 43 rfl)) (t := .int) (t' := .int))).other W18 (oN (Or.inr (oW hw 252 rfl)) (Or.inr (oW hw 45 rfl)) (t := .int) (t' := .int))).other W21 (oN (Or.inr (oW hw 252 rfl)) (Or.inr (oW hw 47 rfl)) (t := .int) (t' := .int))).other W24 (oN (Or.inr (oW hw 252 rfl)) (Or.inr (oW hw 49 rfl)) (t := .int) (t' := .int)))
 have mB := ((((((((((gY.ext E3).keep Kq4 (bH (oV bL.lt bX))).ext E5).keep Kq6 (bH (oV bL.lt eH))).other W9 (oN (Or.inr (oW hw 254 rfl)) (Or.inr (oW hw 39 rfl)) (t := .int) (t' := .int))).other W12 (oN (Or.inr (oW hw 254 rfl)) (Or.inr (oW hw 41 rfl)) (t := .int) (t' := .int))).other W15 (oN (Or.inr (oW hw 254 rfl)) (Or.inr (oW hw 43 rfl)) (t := .int) (t' := .int))).other W18 (oN (Or.inr (oW hw 254 rfl)) (Or.inr (oW hw 45 rfl)) (t := .int) (t' := .int))).other W21 (oN (Or.inr (oW hw 254 rfl)) (Or.inr (oW hw 47 rfl)) (t := .int) (t' := .int))).other W24 (oN (Or.inr (oW hw 254 rfl)) (Or.inr (oW hw 49 rfl)) (t := .int) (t' := .int)))
 have aX1 := (aG0.wr W24)
 have sL := ((Fw18.other W21 (oN (Or.inr (oW hw 45 rfl)) (Or.inr (oW hw 47 rfl)) (t := .int) (t' := .int))).other W24 (oN (Or.inr (oW hw 45 rfl)) (Or.inr (oW hw 49 rfl)) (t := .int) (t' := .int)))
 have bC5 := ((((((((Q4_0.ext E5).keep Kq6).wr W9).wr W12).wr W15).wr W18).wr W21).wr W24)
 have uA := ((((((((aP9.ext E5).keep Kq6 (bH mT)).other W9 (Or.inl (Ne.symm (oV bL.lt bX)))).other W12 (Or.inl (Ne.symm (oV bL.lt bX)))).other W15 (Or.inl (Ne.symm (oV bL.lt bX)))).other W18 (Or.inl (Ne.symm (oV bL.lt bX)))).other W21 (Or.inl (Ne.symm (oV bL.lt bX)))).other W24 (Or.inl (Ne.symm (oV bL.lt bX))))
 have sM := ((((((((bG5.ext E5).keep Kq6 (bH mT)).other W9 (Or.inl (Ne.symm (oV bL.lt bX)))).other W12 (Or.inl (Ne.symm (oV bL.lt bX)))).other W15 (Or.inl (Ne.symm (oV bL.lt bX)))).other W18 (Or.inl (Ne.symm (oV bL.lt bX)))).other W21 (Or.inl (Ne.symm (oV bL.lt bX)))).other W24 (Or.inl (Ne.symm (oV bL.lt bX))))
 have aB6 := ((((((((bG6.ext E5).keep Kq6 (bH mT)).other W9 (Or.inl (Ne.symm (oV bL.lt bX)))).other W12 (Or.inl (Ne.symm (oV bL.lt bX)))).other W15 (Or.inl (Ne.symm (oV bL.lt bX)))).other W18 (Or.inl (Ne.symm (oV bL.lt bX)))).other W21 (Or.inl (Ne.symm (oV bL.lt bX)))).other W24 (Or.inl (Ne.symm (oV bL.lt bX))))
 have uB := ((((((((bG7.ext E5).keep Kq6 (bH mT)).other W9 (Or.inl (Ne.symm (oV bL.lt bX)))).other W12 (Or.inl (Ne.symm (oV bL.lt bX)))).other W15 (Or.inl (Ne.symm (oV bL.lt bX)))).other W18 (Or.inl (Ne.symm (oV bL.lt bX)))).other W21 (Or.inl (Ne.symm (oV bL.lt bX)))).other W24 (Or.inl (Ne.symm (oV bL.lt bX))))
 have sN := ((((((((bG8.ext E5).keep Kq6 (bH mT)).other W9 (Or.inl (Ne.symm (oV bL.lt bX)))).other W12 (Or.inl (Ne.symm (oV bL.lt bX)))).other W15 (Or.inl (Ne.symm (oV bL.lt bX)))).other W18 (Or.inl (Ne.symm (oV bL.lt bX)))).other W21 (Or.inl (Ne.symm (oV bL.lt bX)))).other W24 (Or.inl (Ne.symm (oV bL.lt bX))))
 have bC6 := ((((((aV8.wr W9).wr W12).wr W15).wr W18).wr W21).wr W24)
 have uC := ((((((bA2.other W9 (Or.inl (Ne.symm (oV bL.lt eH)))).other W12 (Or.inl (Ne.symm (oV bL.lt eH)))).other W15 (Or.inl (Ne.symm (oV bL.lt eH)))).other W18 (Or.inl (Ne.symm (oV bL.lt eH)))).other W21 (Or.inl (Ne.symm (oV bL.lt eH)))).other W24 (Or.inl (Ne.symm (oV bL.lt eH))))
 have sO := ((((((bA3.other W9 (Or.inl (Ne.symm (oV bL.lt eH)))).other W12 (Or.inl (Ne.symm (oV bL.lt eH)))).other W15 (Or.inl (Ne.symm (oV bL.lt eH)))).other W18 (Or.inl (Ne.symm (oV bL.lt eH)))).other W21 (Or.inl (Ne.symm (oV bL.lt eH)))).other W24 (Or.inl (Ne.symm (oV bL.lt eH))))
 have aB7 := ((((((aV9.other W9 (Or.inl (Ne.symm (oV bL.lt eH)))).other W12 (Or.inl (Ne.symm (oV bL.lt eH)))).other W15 (Or.inl (Ne.symm (oV bL.lt eH)))).other W18 (Or.inl (Ne.symm (oV bL.lt eH)))).other W21 (Or.inl (Ne.symm (oV bL.lt eH)))).other W24 (Or.inl (Ne.symm (oV bL.lt eH))))
 have uD := ((((((bA4.other W9 (Or.inl (Ne.symm (oV bL.lt eH)))).other W12 (Or.inl (Ne.symm (oV bL.lt eH)))).other W15 (Or.inl (Ne.symm (oV bL.lt eH)))).other W18 (Or.inl (Ne.symm (oV bL.lt eH)))).other W21 (Or.inl (Ne.symm (oV bL.lt eH)))).other W24 (Or.inl (Ne.symm (oV bL.lt eH))))
 have sP := ((((((bA5.other W9 (Or.inl (Ne.symm (oV bL.lt eH)))).other W12 (Or.inl (Ne.symm (oV bL.lt eH)))).other W15 (Or.inl (Ne.symm (oV bL.lt eH)))).other W18 (Or.inl (Ne.symm (oV bL.lt eH)))).other W21 (Or.inl (Ne.symm (oV bL.lt eH)))).other W24 (Or.inl (Ne.symm (oV bL.lt eH))))
 subst e25
 refine ⟨b3, b5, T25, _, eS X25 (by omega) (by omega), N25, K24, bX, eH, mT, aX1, sL, Fw24, tC, kC, mB, bC5, uA, sM, aB6, uB, sN, bC6, uC, sO, aB7, uD, sP, fun target kt => ?_⟩
 show oZ p e below T0 (mkF m 0 #[oA o0_, oI i1_, oI i2_, oI i3_, oI i4_, oI i5_, oI i6_, .unset, .unset, .unset, .unset, .unset, .unset, .unset, .unset, .unset, .unset] []) _
 refine XS.aloadN X0.here hx rfl (oG hby d1 0 rfl) rfl rfl ?_
 refine st1 _ ?_
 refine XS.iloadN X1.here hx rfl (oG hby d1 2 rfl) rfl ?_
 refine st2 _ ?_
 refine XS.iload X2.here hx rfl (oG hby d1 4 rfl) rfl ?_
 refine XS.iconst X2.here hx rfl (oG hby d1 5 rfl) ?_
 refine XS.icmpYes X2.here hx rfl (pc0 := 11) (pc' := 29) rfl (oG hby d1 6 rfl) rfl (flt hf1).2.1 (by decide) (by decide) ?_
 refine st3 _ ?_
 refine XS.dup X3.here hx rfl (oG hby d1 8 rfl) rfl rfl ?_
 refine XS.iloadN X3.here hx rfl (oG hby d1 9 rfl) rfl ?_
 refine XS.iloadN X3.here hx rfl (oG hby d1 10 rfl) rfl ?_
 show oZ p e below T3 (mkF m 35 #[oA o0_, oI i1_, oI i2_, oI i3_, oI i4_, oI i5_, oI i6_, .unset, .unset, .unset, .unset, .unset, .unset, .unset, .unset, .unset, .unset] [(.int i3_), (.int i2_), (.ref b3), (.ref b3)]) _
 refine st4.trans ?_
 refine XS.astore X4.here hx rfl (oG hby d1 12 rfl) rfl rfl (l' := #[oA o0_, oI i1_, oI i2_, oI i3_, oI i4_, oI i5_, oI i6_, oA b3, .unset, .unset, .unset, .unset, .unset, .unset, .unset, .unset, .unset]) rfl ?_
 refine st5 _ ?_
 refine XS.dup X5.here hx rfl (oG hby d1 14 rfl) rfl rfl ?_
 refine XS.iload X5.here hx rfl (oG hby d1 15 rfl) rfl ?_
 refine XS.iload X5.here hx rfl (oG hby d1 16 rfl) rfl ?_
 refine st6.trans ?_
 refine XS.astore X6.here hx rfl (oG hby d1 18 rfl) rfl rfl (l' := #[oA o0_, oI i1_, oI i2_, oI i3_, oI i4_, oI i5_, oI i6_, oA b3, oA b5, .unset, .unset, .unset, .unset, .unset, .unset, .unset, .unset]) rfl ?_
 refine XS.aloadN X6.here hx rfl (oG hby d1 19 rfl) rfl rfl ?_
 refine XS.iloadN X6.here hx rfl (oG hby d1 20 rfl) rfl ?_
 refine st9 _ ?_
 show oZ p e below T9 (mkF m 58 #[oA o0_, oI i1_, oI i2_, oI i3_, oI i4_, oI i5_, oI i6_, oA b3, oA b5, .unset, .unset, .unset, .unset, .unset, .unset, .unset, .unset] []) _
 refine XS.aloadN X9.here hx rfl (oG hby d1 22 rfl) rfl rfl ?_
 refine XS.iloadN X9.here hx rfl (oG hby d1 23 rfl) rfl ?_
 refine st12 _ ?_
 refine XS.aloadN X12.here hx rfl (oG hby d1 25 rfl) rfl rfl ?_
 refine XS.iloadN X12.here hx rfl (oG hby d1 26 rfl) rfl ?_
 refine st15 _ ?_
 refine XS.aloadN X15.here hx rfl (oG hby d1 28 rfl) rfl rfl ?_
 refine XS.iload X15.here hx rfl (oG hby d1 29 rfl) rfl ?_
 refine st18 _ ?_
 refine XS.aloadN X18.here hx rfl (oG hby d1 31 rfl) rfl rfl ?_
 refine XS.iload X18.here hx rfl (oG hby d1 32 rfl) rfl ?_
 show oZ p e below T18 (mkF m 77 #[oA o0_, oI i1_, oI i2_, oI i3_, oI i4_, oI i5_, oI i6_, oA b3, oA b5, .unset, .unset, .unset, .unset, .unset, .unset, .unset, .unset] [(.int i5_), (.ref o0_)]) _
 refine st21 _ ?_
 refine XS.aloadN X21.here hx rfl (oG hby d1 34 rfl) rfl rfl ?_
 refine XS.iload X21.here hx rfl (oG hby d1 35 rfl) rfl ?_
 refine st24 _ ?_
 refine XS.lconst X24.here hx rfl (oG hby d1 37 rfl) ?_
 show oZ p e below T24 (mkF m 87 #[oA o0_, oI i1_, oI i2_, oI i3_, oI i4_, oI i5_, oI i6_, oA b3, oA b5, .unset, .unset, .unset, .unset, .unset, .unset, .unset, .unset] [(.long 0)]) _
 refine XS.lstore X24.here hx rfl (oG hby d1 38 rfl) rfl (l' := #[oA o0_, oI i1_, oI i2_, oI i3_, oI i4_, oI i5_, oI i6_, oA b3, oA b5, oJ 0, .second, .unset, .unset, .unset, .unset, .unset, .unset]) rfl ?_
 refine XS.iconst X24.here hx rfl (oG hby d1 39 rfl) ?_
 refine XS.istore X24.here hx rfl (oG hby d1 40 rfl) rfl (l' := #[oA o0_, oI i1_, oI i2_, oI i3_, oI i4_, oI i5_, oI i6_, oA b3, oA b5, oJ 0, .second, oI 0, .unset, .unset, .unset, .unset, .unset]) rfl ?_
 refine XS.iconst X24.here hx rfl (oG hby d1 41 rfl) ?_
 refine XS.istore X24.here hx rfl (oG hby d1 42 rfl) rfl (l' := #[oA o0_, oI i1_, oI i2_, oI i3_, oI i4_, oI i5_, oI i6_, oA b3, oA b5, oJ 0, .second, oI 0, oI 0, .unset, .unset, .unset, .unset]) rfl ?_
 refine XS.iloadN X24.here hx rfl (oG hby d1 43 rfl) rfl ?_
 refine XS.iload X24.here hx rfl (oG hby d1 44 rfl) rfl ?_
 refine st25 _ ?_
 show oZ p e below T25 (mkF m 101 #[oA o0_, oI i1_, oI i2_, oI i3_, oI i4_, oI i5_, oI i6_, oA b3, oA b5, oJ 0, .second, oI 0, oI 0, .unset, .unset, .unset, .unset] [(.int (nF i1_ i4_))]) _
 rw [hf4]
 refine XS.istore X25.here hx rfl (oG hby d1 46 rfl) rfl (l' := #[oA o0_, oI i1_, oI i2_, oI i3_, oI i4_, oI i5_, oI i6_, oA b3, oA b5, oJ 0, .second, oI 0, oI 0, oI k_, .unset, .unset, .unset]) rfl ?_
 refine XS.iconst X25.here hx rfl (oG hby d1 47 rfl) ?_
 refine XS.istore X25.here hx rfl (oG hby d1 48 rfl) rfl (l' := #[oA o0_, oI i1_, oI i2_, oI i3_, oI i4_, oI i5_, oI i6_, oA b3, oA b5, oJ 0, .second, oI 0, oI 0, oI k_, oI 0, .unset, .unset]) rfl ?_
 exact kt
theorem aS6 (rc : Nat) (rs : Nat) (o0_ : Addr) (i1_ : Int32) (i2_ : Int32) (i3_ : Int32) (i4_ : Int32) (i5_ : Int32) (i6_ : Int32) (o7_ : Addr) (o8_ : Addr) (j9_ : Int64) (fD : Int32) (fO : Int32) (fP : Int32) (fB : Int32) (nG : Slot) (kP : Slot) (l0_ : Nat) (bC7 : Nat) (bC8 : Nat) (jC : Int32) (fG : Int32) (nH : Int32) (jD : Int32) (iK : Int32) (w_START_ROWS : Addr) (n_w_START_ROWS : Int32) (vs_w_START_ROWS : List Int32) (l1_ : Nat) (bC9 : Nat) (bD0 : Nat) (jE : Int32) (fV : Int32) (nI : Int32) (jF : Int32) (iL : Int32) (w_NONE : Addr) (n_w_NONE : Int32)
   (X0 : Stand p l e (oR 9 rc rs 256) s m args below meth c T0 locs cells slots) (hx : p.tables.exec = Jvm.exec) (hZ : Z.Warmed39 s.vm) (hw : oH a0 Z) (hby : c.code = prog_7_method_1_code) (hml : c.maxLocals = 17) (hown : s.vm.findClass oC2 = some m.cls) (e0 : T0.heap = h0) (N0 : Fr n0 locs) (Z0 : n0 ≤ h0.size) (aG1 : Exa Z h0 o7_ oC0) (wS : Fld Z h0 o7_ oC0 "backends" "I" (.int jC)) (tD : Fld Z h0 o7_ oC0 "subsetSize" "I" (.int fG)) (aE2 : Fld Z h0 o7_ oC0 "lots" "I" (.int nH)) (wT : Fld Z h0 o7_ oC0 "ringBits" "I" (.int jD)) (tE : Fld Z h0 o7_ oC0 "fitsInARow" "Z" (.int iK)) (S_START_ROWS : Sta Z h0 oC0 "START_ROWS" "[I" (.ref w_START_ROWS)) (A_w_START_ROWS : bB Z h0 w_START_ROWS n_w_START_ROWS vs_w_START_ROWS) (S__assertionsDisabled : Sta Z h0 oC3 "$assertionsDisabled" "Z" (.int 1)) (bD1 : (nG = .unset ∨ ∃ z : Addr, nG = oA z)) (bF9 : Exa Z h0 o8_ oC0) (wU : Fld Z h0 o8_ oC0 "backends" "I" (.int jE)) (tF : Fld Z h0 o8_ oC0 "subsetSize" "I" (.int fV)) (aE3 : Fld Z h0 o8_ oC0 "lots" "I" (.int nI)) (wV : Fld Z h0 o8_ oC0 "ringBits" "I" (.int jF)) (tG : Fld Z h0 o8_ oC0 "fitsInARow" "Z" (.int iL)) (S_NONE : Sta Z h0 oC4 "NONE" "[I" (.ref w_NONE)) (A_w_NONE : bC Z h0 w_NONE n_w_NONE) (bD2 : (kP = .unset ∨ ∃ z : Int32, kP = oI z)) (hf0 : fB < fP) (hf1 : nH = Int32.ofNat l0_) (hf2 : jD = gQ l0_) (hf3 : n_w_START_ROWS = (10 : Int32)) (hf4 : vs_w_START_ROWS = ([0, 8, 2, 4, 6, 1, 9, 5, 3, 7] : List Int32)) (hf5 : iC jC fG fB iK l0_ bC7 bC8 79) (hf6 : nI = Int32.ofNat l1_) (hf7 : jF = gQ l1_) (hf8 : iC jE fV fB iL l1_ bC9 bD0 29) (hf9 : fG.toNatClampNeg ≤ 32) (hf10 : fV.toNatClampNeg ≤ 32) (hc : cells + ((10 + 2 * 79) + (10 + 2 * 29) + 5) ≤ rc) (hs : slots + ((80 + 11 * 79) + (80 + 11 * 29) + (4 * 32 + 2)) ≤ rs) :
   ∃ (r1_r : Addr) (v13_y : Int32) (T' : State) (locs' : List Loc), Stand p l e (oR 9 rc rs 256) s m args below meth c T' locs' (cells + (10 + 2 * 79) + (10 + 2 * 29) + 5) (slots + (80 + 11 * 79) + (80 + 11 * 29) + (4 * 32 + 2)) ∧ Fr n0 locs' ∧ Keep h0 T'.heap [] ∧ h0.size ≤ r1_r ∧ bC Z T'.heap r1_r fG ∧
     ∀ target, Steps p.tables e below (T'.setTop (mkF m 139 #[oA o0_, oI i1_, oI i2_, oI i3_, oI i4_, oI i5_, oI i6_, oA o7_, oA o8_, oJ j9_, .second, oI fD, oI fO, oI fP, oI fB, oA r1_r, oI v13_y] [])) target → Steps p.tables e below (T0.setTop (mkF m 106 #[oA o0_, oI i1_, oI i2_, oI i3_, oI i4_, oI i5_, oI i6_, oA o7_, oA o8_, oJ j9_, .second, oI fD, oI fO, oI fP, oI fB, nG, kP] [])) target := by
 obtain ⟨cq1, kq1, q1a, q1b, q1c⟩ := isOf hZ e0 aG1
 obtain ⟨_, _, ⟨T1, L1, k1, n1⟩, -, X1, ⟨Lc1, hQ1, l1, y1, z1⟩, st1⟩ := X0.virtualBack hx (y := oM3) (z := oM3) hown (mvT hZ (oW hw 53 rfl)) (mvT hZ (oW hw 54 rfl)) (notFace_of_selects (args := #[]) (mvT hZ (oW hw 56 rfl))) (mvT hZ (oW hw 56 rfl)) (mvT hZ (oW hw 55 rfl)) (by decide) (backOf (W := 0) (aB1 l Z a0 hw [] o7_ fB w_START_ROWS jC fG nH jD iK n_w_START_ROWS vs_w_START_ROWS l0_ bC7 bC8 79 h0 n0 Z0 aG1 wS tD aE2 wT tE S_START_ROWS A_w_START_ROWS S__assertionsDisabled hf1 hf2 hf3 hf4 hf5) hZ (oW hw 57 rfl) (oW hw 12 rfl) (Nat.le_of_ble_eq_true rfl) (Nat.le_of_ble_eq_true rfl)) q1a q1c (g := (mkF m 117 #[oA o0_, oI i1_, oI i2_, oI i3_, oI i4_, oI i5_, oI i6_, oA o7_, oA o8_, oJ j9_, .second, oI fD, oI fO, oI fP, oI fB, nG, kP] [(.int fB), (.ref o7_)])) rfl (by rw [hml]; rfl) (Steps.refl _) (argsL := [(.int fB)]) (rest := []) (lenOf uL rfl) rfl (by show 2 * 0 + _ ≤ _; exact Nat.le_of_eq rfl) (oG hby d1 54 rfl) (fun _ _ => ⟨rfl, e0, (show cells + (10 + 2 * 79) ≤ rc from by omega), (show slots + (80 + 11 * 79) ≤ rs from by omega)⟩)
 dsimp only [Pt.U, Pt.locs, Pt.cells, Pt.slots] at X1 l1 y1 z1 st1 hQ1
 subst l1; rw [y1, z1] at X1
 obtain ⟨r1_r, rfl, N1q, Kq1, nB, rT⟩ := hQ1
 have N1 := Fr.app N0 N1q
 have aY7 : o7_ ≠ r1_r := oV aG1.lt nB
 have aB8 : w_START_ROWS ≠ r1_r := oV A_w_START_ROWS.lt nB
 have pM : h0.size ≤ r1_r := Nat.le_trans (Keep.refl h0 []).1 nB
 have g_r1_r : n0 ≤ r1_r := Nat.le_trans Z0 pM
 have K1 : Keep h0 T1.heap [] := (Keep.refl h0 []).trans Kq1 dX
 have zA := (bF9.keep Kq1)
 have uE := (wU.keep Kq1 (dP _))
 have sQ := (tF.keep Kq1 (dP _))
 have aB9 := (aE3.keep Kq1 (dP _))
 have uF := (wV.keep Kq1 (dP _))
 have sR := (tG.keep Kq1 (dP _))
 have kQ := (fM S_START_ROWS Kq1 (dX ))
 have jS := (A_w_START_ROWS.keep Kq1 (dP _))
 have kD := (fM S__assertionsDisabled Kq1 (dX ))
 obtain ⟨cq2, kq2, q2a, q2b, q2c⟩ := isOf hZ rfl zA
 obtain ⟨_, _, ⟨T2, L2, k2, n2⟩, -, X2, ⟨Lc2, hQ2, l2, y2, z2⟩, st2⟩ := X1.virtualBack hx (y := oM3) (z := oM3) hown (mvT hZ (oW hw 53 rfl)) (mvT hZ (oW hw 54 rfl)) (notFace_of_selects (args := #[]) (mvT hZ (oW hw 56 rfl))) (mvT hZ (oW hw 56 rfl)) (mvT hZ (oW hw 55 rfl)) (by decide) (backOf (W := 1) (aB1 l Z a0 hw [] o8_ fB w_START_ROWS jE fV nI jF iL n_w_START_ROWS vs_w_START_ROWS l1_ bC9 bD0 29 T1.heap n0 (Nat.le_trans Z0 K1.1) zA uE sQ aB9 uF sR kQ jS kD hf6 hf7 hf3 hf4 hf8) hZ (oW hw 57 rfl) (oW hw 12 rfl) (Nat.le_of_ble_eq_true rfl) (Nat.le_of_ble_eq_true rfl)) q2a q2c (g := (mkF m 128 #[oA o0_, oI i1_, oI i2_, oI i3_, oI i4_, oI i5_, oI i6_, oA o7_, oA o8_, oJ j9_, .second, oI fD, oI fO, oI fP, oI fB, oA r1_r, kP] [(.int fB), (.ref o8_), (.ref r1_r)])) rfl (by rw [hml]; rfl) (Steps.refl _) (argsL := [(.int fB)]) (rest := [(.ref r1_r)]) (lenOf uL rfl) rfl (by show 2 * 0 + _ ≤ _; exact Nat.le_of_eq rfl) (oG hby d1 59 rfl) (fun _ _ => ⟨rfl, rfl, (show cells + (10 + 2 * 79) + (10 + 2 * 29) ≤ rc from by omega), (show slots + (80 + 11 * 79) + (80 + 11 * 29) ≤ rs from by omega)⟩)
 dsimp only [Pt.U, Pt.locs, Pt.cells, Pt.slots] at X2 l2 y2 z2 st2 hQ2
 subst l2; rw [y2, z2] at X2
 obtain ⟨r2_r, rfl, N2q, Kq2, jA, Q2_0⟩ := hQ2
 have N2 := Fr.app N1 N2q
 have aG2 := (aG1.keep Kq1)
 have aY8 : o7_ ≠ r2_r := oV aG2.lt jA
 have aY9 : o8_ ≠ r2_r := oV zA.lt jA
 have aC0 : w_START_ROWS ≠ r2_r := oV jS.lt jA
 have aX2 : r1_r ≠ r2_r := oV rT.lt jA
 have lN : h0.size ≤ r2_r := Nat.le_trans K1.1 jA
 have g_r2_r : n0 ≤ r2_r := Nat.le_trans Z0 lN
 have K2 : Keep h0 T2.heap [] := K1.trans Kq2 dX
 have kE := (fM (fM S_NONE Kq1 (dX )) Kq2 (dX ))
 have wW := ((A_w_NONE.keep Kq1 (dP _)).keep Kq2 (dP _))
 have wX := (rT.keep Kq2 (dP _))
 obtain ⟨_, _, ⟨T13, L13, k13, n13⟩, -, X13, ⟨Lc13, hQ13, l13, y13, z13⟩, st13⟩ := Jvm.LawKit.callS X2 hx (y := oM21) hown (mvT hZ (oW hw 216 rfl)) (mvT hZ (oW hw 217 rfl)) (mvT hZ (oW hw 218 rfl)) (mvT hZ (oW hw 219 rfl)) (by decide) (backOf (W := 0) (aW4 l Z a0 hw [] r1_r r2_r w_NONE fG fV n_w_NONE T2.heap n0 (Nat.le_trans Z0 K2.1) kE wW wX Q2_0 hf9 hf10) hZ (oW hw 219 rfl) (oW hw 218 rfl) (Nat.le_of_ble_eq_true rfl) (Nat.le_of_ble_eq_true rfl)) (g := (mkF m 131 #[oA o0_, oI i1_, oI i2_, oI i3_, oI i4_, oI i5_, oI i6_, oA o7_, oA o8_, oJ j9_, .second, oI fD, oI fO, oI fP, oI fB, oA r1_r, kP] [(.ref r2_r), (.ref r1_r)])) rfl (by rw [hml]; rfl) (argsL := [(.ref r1_r), (.ref r2_r)]) (rest := []) (lenOf aK1 rfl) rfl (by show 2 * 0 + _ ≤ _; exact Nat.le_of_eq rfl) (oG hby d1 60 rfl) (fun _ _ => ⟨rfl, rfl, (show cells + (10 + 2 * 79) + (10 + 2 * 29) + 5 ≤ rc from by omega), (show slots + (80 + 11 * 79) + (80 + 11 * 29) + (4 * 32 + 2) ≤ rs from by omega)⟩)
 dsimp only [Pt.U, Pt.locs, Pt.cells, Pt.slots] at X13 l13 y13 z13 st13 hQ13
 subst l13; rw [y13, z13] at X13
 obtain ⟨r13_r, r13_rr, v13_y, rfl, N13q, Kq13, lL, Q13_0, aR6, aR7⟩ := hQ13
 have N13 := Fr.app N2 N13q
 have aX3 := (aG2.keep Kq2)
 have aX4 : o7_ ≠ r13_r := oV aX3.lt lL
 have aX5 := (zA.keep Kq2)
 have aX6 : o8_ ≠ r13_r := oV aX5.lt lL
 have tH := (jS.keep Kq2 (dP _))
 have zE : w_START_ROWS ≠ r13_r := oV tH.lt lL
 have aU0 : r1_r ≠ r13_r := oV wX.lt lL
 have aU1 : r2_r ≠ r13_r := oV Q2_0.lt lL
 have aJ6 : w_NONE ≠ r13_r := oV wW.lt lL
 have aS7 : h0.size ≤ r13_r := Nat.le_trans K2.1 lL
 have g_r13_r : n0 ≤ r13_r := Nat.le_trans Z0 aS7
 have K13 : Keep h0 T13.heap [] := K2.trans Kq13 dX
 obtain ⟨cq20, kq20, q20a, q20b, q20c⟩ := isOf hZ rfl Q13_0
 obtain ⟨_, _, ⟨T20, L20, k20, n20⟩, -, X20, ⟨Lc20, hQ20, l20, y20, z20⟩, st20⟩ := X13.virtualBack hx (y := oM19) (z := oM19) hown (mvT hZ (oW hw 243 rfl)) (mvT hZ (oW hw 244 rfl)) (notFace_of_selects (args := #[]) (mvT hZ (oW hw 246 rfl))) (mvT hZ (oW hw 246 rfl)) (mvT hZ (oW hw 245 rfl)) (by decide) (backOf (W := 0) (aJ3 l Z a0 hw [] r13_r r13_rr v13_y T13.heap n0 (Nat.le_trans Z0 K13.1) aR6 aR7) hZ (oW hw 247 rfl) (oW hw 218 rfl) (Nat.le_of_ble_eq_true rfl) (Nat.le_of_ble_eq_true rfl)) q20a q20c (g := (mkF m 134 #[oA o0_, oI i1_, oI i2_, oI i3_, oI i4_, oI i5_, oI i6_, oA o7_, oA o8_, oJ j9_, .second, oI fD, oI fO, oI fP, oI fB, oA r1_r, kP] [(.ref r13_r)])) rfl (by rw [hml]; rfl) (Steps.refl _) (argsL := []) (rest := []) (lenOf aK2 rfl) rfl (by show 2 * 0 + _ ≤ _; exact Nat.le_of_eq rfl) (oG hby d1 61 rfl) (fun _ _ => ⟨rfl, rfl, (show cells + (10 + 2 * 79) + (10 + 2 * 29) + 5 + 0 ≤ rc from by omega), (show slots + (80 + 11 * 79) + (80 + 11 * 29) + (4 * 32 + 2) + 0 ≤ rs from by omega)⟩)
 dsimp only [Pt.U, Pt.locs, Pt.cells, Pt.slots] at X20 l20 y20 z20 st20 hQ20
 subst l20; rw [y20, z20] at X20
 obtain ⟨rfl, N20q, e20⟩ := hQ20
 have N20 := Fr.app N13 N20q
 have aS8 := (wX.keep Kq13 (dP _))
 refine ⟨r1_r, v13_y, T20, _, eS X20 (by omega) (by omega), N20, (by rw [e20]; exact K13), pM, (by rw [e20]; exact aS8), fun target kt => ?_⟩
 show oZ p e below T0 (mkF m 106 #[oA o0_, oI i1_, oI i2_, oI i3_, oI i4_, oI i5_, oI i6_, oA o7_, oA o8_, oJ j9_, .second, oI fD, oI fO, oI fP, oI fB, nG, kP] []) _
 refine XS.iload X0.here hx rfl (oG hby d1 49 rfl) rfl ?_
 refine XS.iload X0.here hx rfl (oG hby d1 50 rfl) rfl ?_
 refine XS.icmpNo X0.here hx rfl (oG hby d1 51 rfl) rfl (tlt hf0).2.1 ?_
 refine XS.aload X0.here hx rfl (oG hby d1 52 rfl) rfl rfl ?_
 refine XS.iload X0.here hx rfl (oG hby d1 53 rfl) rfl ?_
 refine st1.trans ?_
 refine XS.astore X1.here hx rfl (oG hby d1 55 rfl) rfl rfl (l' := #[oA o0_, oI i1_, oI i2_, oI i3_, oI i4_, oI i5_, oI i6_, oA o7_, oA o8_, oJ j9_, .second, oI fD, oI fO, oI fP, oI fB, oA r1_r, kP]) (by rcases bD1 with rfl | ⟨_, rfl⟩ <;> rfl) ?_
 refine XS.aload X1.here hx rfl (oG hby d1 56 rfl) rfl rfl ?_
 refine XS.aload X1.here hx rfl (oG hby d1 57 rfl) rfl rfl ?_
 refine XS.iload X1.here hx rfl (oG hby d1 58 rfl) rfl ?_
 refine st2.trans ?_
 show oZ p e below T2 (mkF m 131 #[oA o0_, oI i1_, oI i2_, oI i3_, oI i4_, oI i5_, oI i6_, oA o7_, oA o8_, oJ j9_, .second, oI fD, oI fO, oI fP, oI fB, oA r1_r, kP] [(.ref r2_r), (.ref r1_r)]) _
 refine st13 _ ?_
 refine st20.trans ?_
 refine XS.istore X20.here hx rfl (oG hby d1 62 rfl) rfl (l' := #[oA o0_, oI i1_, oI i2_, oI i3_, oI i4_, oI i5_, oI i6_, oA o7_, oA o8_, oJ j9_, .second, oI fD, oI fO, oI fP, oI fB, oA r1_r, oI v13_y]) (by rcases bD2 with rfl | ⟨_, rfl⟩ <;> rfl) ?_
 exact kt
theorem aS9 (rc : Nat) (rs : Nat) (o0_ : Addr) (i1_ : Int32) (i2_ : Int32) (i3_ : Int32) (i4_ : Int32) (i5_ : Int32) (i6_ : Int32) (o7_ : Addr) (o8_ : Addr) (j9_ : Int64) (fD : Int32) (fO : Int32) (fP : Int32) (fB : Int32) (iY : Addr) (eK : Int32) (rE : Int32) (k_ : Int32)
   (X0 : Stand p l e (oR 9 rc rs 256) s m args below meth c T0 locs cells slots) (hx : p.tables.exec = Jvm.exec) (hZ : Z.Warmed39 s.vm) (hw : oH a0 Z) (hby : c.code = prog_7_method_1_code) (hml : c.maxLocals = 17) (hown : s.vm.findClass oC2 = some m.cls) (e0 : T0.heap = h0) (N0 : Fr n0 locs) (Z0 : n0 ≤ h0.size) (aE4 : bC Z h0 iY rE) (hf0 : ¬ (eK = rE)) (hf1 : (fB + (1 : Int32)) = k_) (hc : cells + (0) ≤ rc) (hs : slots + (0) ≤ rs) :
   ∃ (T' : State) (locs' : List Loc), Stand p l e (oR 9 rc rs 256) s m args below meth c T' locs' cells slots ∧ Fr n0 locs' ∧ T'.heap = h0 ∧
     ∀ target, Steps p.tables e below (T'.setTop (mkF m 106 #[oA o0_, oI i1_, oI i2_, oI i3_, oI i4_, oI i5_, oI i6_, oA o7_, oA o8_, oJ (j9_ + (eK.toInt64)), .second, oI (fR fD eK), oI fO, oI fP, oI k_, oA iY, oI eK] [])) target → Steps p.tables e below (T0.setTop (mkF m 139 #[oA o0_, oI i1_, oI i2_, oI i3_, oI i4_, oI i5_, oI i6_, oA o7_, oA o8_, oJ j9_, .second, oI fD, oI fO, oI fP, oI fB, oA iY, oI eK] [])) target := by
 obtain ⟨_, _, ⟨T1, L1, k1, n1⟩, -, X1, ⟨Lc1, hQ1, l1, y1, z1⟩, st1⟩ := Jvm.LawKit.callS X0 hx (y := oM16) hown (mvT hZ (oW hw 248 rfl)) (mvT hZ (oW hw 31 rfl)) (mvT hZ (oW hw 32 rfl)) (mvT hZ (oW hw 33 rfl)) (by decide) (backOf (W := 0) (uK l Z a0 hw [] fD eK h0 n0 Z0 ) hZ (oW hw 33 rfl) (oW hw 32 rfl) (Nat.le_of_ble_eq_true rfl) (Nat.le_of_ble_eq_true rfl)) (g := (mkF m 151 #[oA o0_, oI i1_, oI i2_, oI i3_, oI i4_, oI i5_, oI i6_, oA o7_, oA o8_, oJ (j9_ + (eK.toInt64)), .second, oI fD, oI fO, oI fP, oI fB, oA iY, oI eK] [(.int eK), (.int fD)])) rfl (by rw [hml]; rfl) (argsL := [(.int fD), (.int eK)]) (rest := []) (lenOf mE rfl) rfl (by show 2 * 0 + _ ≤ _; exact Nat.le_of_eq rfl) (oG hby d1 70 rfl) (fun _ _ => ⟨rfl, e0, (show cells + 0 ≤ rc from by omega), (show slots + 0 ≤ rs from by omega)⟩)
 dsimp only [Pt.U, Pt.locs, Pt.cells, Pt.slots] at X1 l1 y1 z1 st1 hQ1
 subst l1; rw [y1, z1] at X1
 obtain ⟨rfl, N1q, e1⟩ := hQ1
 have N1 := Fr.app N0 N1q
 obtain ⟨c2, A2, S2, M2⟩ := dE aE4
 refine ⟨T1, _, X1, N1, e1, fun target kt => ?_⟩
 show oZ p e below T0 (mkF m 139 #[oA o0_, oI i1_, oI i2_, oI i3_, oI i4_, oI i5_, oI i6_, oA o7_, oA o8_, oJ j9_, .second, oI fD, oI fO, oI fP, oI fB, oA iY, oI eK] []) _
 refine XS.lload X0.here hx rfl (oG hby d1 63 rfl) rfl ?_
 refine XS.iload X0.here hx rfl (oG hby d1 64 rfl) rfl ?_
 refine XS.i2l X0.here hx rfl (oG hby d1 65 rfl) rfl ?_
 refine XS.ladd X0.here hx rfl (oG hby d1 66 rfl) rfl ?_
 refine XS.lstore X0.here hx rfl (oG hby d1 67 rfl) rfl (l' := #[oA o0_, oI i1_, oI i2_, oI i3_, oI i4_, oI i5_, oI i6_, oA o7_, oA o8_, oJ (j9_ + (eK.toInt64)), .second, oI fD, oI fO, oI fP, oI fB, oA iY, oI eK]) rfl ?_
 refine XS.iload X0.here hx rfl (oG hby d1 68 rfl) rfl ?_
 refine XS.iload X0.here hx rfl (oG hby d1 69 rfl) rfl ?_
 refine st1 _ ?_
 refine XS.istore X1.here hx rfl (oG hby d1 71 rfl) rfl (l' := #[oA o0_, oI i1_, oI i2_, oI i3_, oI i4_, oI i5_, oI i6_, oA o7_, oA o8_, oJ (j9_ + (eK.toInt64)), .second, oI (fR fD eK), oI fO, oI fP, oI fB, oA iY, oI eK]) rfl ?_
 refine XS.iload X1.here hx rfl (oG hby d1 72 rfl) rfl ?_
 refine XS.aload X1.here hx rfl (oG hby d1 73 rfl) rfl rfl ?_
 show oZ p e below T1 (mkF m 160 #[oA o0_, oI i1_, oI i2_, oI i3_, oI i4_, oI i5_, oI i6_, oA o7_, oA o8_, oJ (j9_ + (eK.toInt64)), .second, oI (fR fD eK), oI fO, oI fP, oI fB, oA iY, oI eK] [(.ref iY), (.int eK)]) _
 refine X1.arraylength hx (by rw [e1]; exact A2.1) (State.isArrayOf_alike hZ.alike A2.2.1) (g := (mkF m 160 #[oA o0_, oI i1_, oI i2_, oI i3_, oI i4_, oI i5_, oI i6_, oA o7_, oA o8_, oJ (j9_ + (eK.toInt64)), .second, oI (fR fD eK), oI fO, oI fP, oI fB, oA iY, oI eK] [(.ref iY), (.int eK)])) rfl rfl (oG hby d1 74 rfl) _ ?_
 rw [len_of S2 M2]
 refine XS.icmpYes X1.here hx rfl (pc0 := 161) (pc' := 167) rfl (oG hby d1 75 rfl) rfl (feq hf0).2 (by decide) (by decide) ?_
 refine XS.iinc X1.here hx rfl (oG hby d1 77 rfl) rfl (l' := #[oA o0_, oI i1_, oI i2_, oI i3_, oI i4_, oI i5_, oI i6_, oA o7_, oA o8_, oJ (j9_ + (eK.toInt64)), .second, oI (fR fD eK), oI fO, oI fP, oI (fB + (1 : Int32)), oA iY, oI eK]) rfl ?_
 show oZ p e below T1 (mkF m 170 #[oA o0_, oI i1_, oI i2_, oI i3_, oI i4_, oI i5_, oI i6_, oA o7_, oA o8_, oJ (j9_ + (eK.toInt64)), .second, oI (fR fD eK), oI fO, oI fP, oI (fB + (1 : Int32)), oA iY, oI eK] []) _
 rw [hf1]
 refine XS.goto X1.here hx rfl (pc0 := 170) (pc' := 106) rfl (oG hby d1 78 rfl) (by decide) (by decide) ?_
 exact kt
theorem aT0 (rc : Nat) (rs : Nat) (o0_ : Addr) (i1_ : Int32) (i2_ : Int32) (i3_ : Int32) (i4_ : Int32) (i5_ : Int32) (i6_ : Int32) (o7_ : Addr) (o8_ : Addr) (j9_ : Int64) (fD : Int32) (fO : Int32) (fP : Int32) (fB : Int32) (iY : Addr) (eK : Int32) (rE : Int32) (k_ : Int32)
   (X0 : Stand p l e (oR 9 rc rs 256) s m args below meth c T0 locs cells slots) (hx : p.tables.exec = Jvm.exec) (hZ : Z.Warmed39 s.vm) (hw : oH a0 Z) (hby : c.code = prog_7_method_1_code) (hml : c.maxLocals = 17) (hown : s.vm.findClass oC2 = some m.cls) (e0 : T0.heap = h0) (N0 : Fr n0 locs) (Z0 : n0 ≤ h0.size) (aE4 : bC Z h0 iY rE) (hf0 : eK = rE) (hf1 : (fB + (1 : Int32)) = k_) (hc : cells + (0) ≤ rc) (hs : slots + (0) ≤ rs) :
   ∃ (T' : State) (locs' : List Loc), Stand p l e (oR 9 rc rs 256) s m args below meth c T' locs' cells slots ∧ Fr n0 locs' ∧ T'.heap = h0 ∧
     ∀ target, Steps p.tables e below (T'.setTop (mkF m 106 #[oA o0_, oI i1_, oI i2_, oI i3_, oI i4_, oI i5_, oI i6_, oA o7_, oA o8_, oJ (j9_ + (eK.toInt64)), .second, oI (fR fD eK), oI (fO + (1 : Int32)), oI fP, oI k_, oA iY, oI eK] [])) target → Steps p.tables e below (T0.setTop (mkF m 139 #[oA o0_, oI i1_, oI i2_, oI i3_, oI i4_, oI i5_, oI i6_, oA o7_, oA o8_, oJ j9_, .second, oI fD, oI fO, oI fP, oI fB, oA iY, oI eK] [])) target := by
 obtain ⟨_, _, ⟨T1, L1, k1, n1⟩, -, X1, ⟨Lc1, hQ1, l1, y1, z1⟩, st1⟩ := Jvm.LawKit.callS X0 hx (y := oM16) hown (mvT hZ (oW hw 248 rfl)) (mvT hZ (oW hw 31 rfl)) (mvT hZ (oW hw 32 rfl)) (mvT hZ (oW hw 33 rfl)) (by decide) (backOf (W := 0) (uK l Z a0 hw [] fD eK h0 n0 Z0 ) hZ (oW hw 33 rfl) (oW hw 32 rfl) (Nat.le_of_ble_eq_true rfl) (Nat.le_of_ble_eq_true rfl)) (g := (mkF m 151 #[oA o0_, oI i1_, oI i2_, oI i3_, oI i4_, oI i5_, oI i6_, oA o7_, oA o8_, oJ (j9_ + (eK.toInt64)), .second, oI fD, oI fO, oI fP, oI fB, oA iY, oI eK] [(.int eK), (.int fD)])) rfl (by rw [hml]; rfl) (argsL := [(.int fD), (.int eK)]) (rest := []) (lenOf mE rfl) rfl (by show 2 * 0 + _ ≤ _; exact Nat.le_of_eq rfl) (oG hby d1 70 rfl) (fun _ _ => ⟨rfl, e0, (show cells + 0 ≤ rc from by omega), (show slots + 0 ≤ rs from by omega)⟩)
 dsimp only [Pt.U, Pt.locs, Pt.cells, Pt.slots] at X1 l1 y1 z1 st1 hQ1
 subst l1; rw [y1, z1] at X1
 obtain ⟨rfl, N1q, e1⟩ := hQ1
 have N1 := Fr.app N0 N1q
 obtain ⟨c2, A2, S2, M2⟩ := dE aE4
 refine ⟨T1, _, X1, N1, e1, fun target kt => ?_⟩
 show oZ p e below T0 (mkF m 139 #[oA o0_, oI i1_, oI i2_, oI i3_, oI i4_, oI i5_, oI i6_, oA o7_, oA o8_, oJ j9_, .second, oI fD, oI fO, oI fP, oI fB, oA iY, oI eK] []) _
 refine XS.lload X0.here hx rfl (oG hby d1 63 rfl) rfl ?_
 refine XS.iload X0.here hx rfl (oG hby d1 64 rfl) rfl ?_
 refine XS.i2l X0.here hx rfl (oG hby d1 65 rfl) rfl ?_
 refine XS.ladd X0.here hx rfl (oG hby d1 66 rfl) rfl ?_
 refine XS.lstore X0.here hx rfl (oG hby d1 67 rfl) rfl (l' := #[oA o0_, oI i1_, oI i2_, oI i3_, oI i4_, oI i5_, oI i6_, oA o7_, oA o8_, oJ (j9_ + (eK.toInt64)), .second, oI fD, oI fO, oI fP, oI fB, oA iY, oI eK]) rfl ?_
 refine XS.iload X0.here hx rfl (oG hby d1 68 rfl) rfl ?_
 refine XS.iload X0.here hx rfl (oG hby d1 69 rfl) rfl ?_
 refine st1 _ ?_
 refine XS.istore X1.here hx rfl (oG hby d1 71 rfl) rfl (l' := #[oA o0_, oI i1_, oI i2_, oI i3_, oI i4_, oI i5_, oI i6_, oA o7_, oA o8_, oJ (j9_ + (eK.toInt64)), .second, oI (fR fD eK), oI fO, oI fP, oI fB, oA iY, oI eK]) rfl ?_
 refine XS.iload X1.here hx rfl (oG hby d1 72 rfl) rfl ?_
 refine XS.aload X1.here hx rfl (oG hby d1 73 rfl) rfl rfl ?_
 show oZ p e below T1 (mkF m 160 #[oA o0_, oI i1_, oI i2_, oI i3_, oI i4_, oI i5_, oI i6_, oA o7_, oA o8_, oJ (j9_ + (eK.toInt64)), .second, oI (fR fD eK), oI fO, oI fP, oI fB, oA iY, oI eK] [(.ref iY), (.int eK)]) _
 refine X1.arraylength hx (by rw [e1]; exact A2.1) (State.isArrayOf_alike hZ.alike A2.2.1) (g := (mkF m 160 #[oA o0_, oI i1_, oI i2_, oI i3_, oI i4_, oI i5_, oI i6_, oA o7_, oA o8_, oJ (j9_ + (eK.toInt64)), .second, oI (fR fD eK), oI fO, oI fP, oI fB, oA iY, oI eK] [(.ref iY), (.int eK)])) rfl rfl (oG hby d1 74 rfl) _ ?_
 rw [len_of S2 M2]
 refine XS.icmpNo X1.here hx rfl (oG hby d1 75 rfl) rfl (teq hf0).2 ?_
 refine XS.iinc X1.here hx rfl (oG hby d1 76 rfl) rfl (l' := #[oA o0_, oI i1_, oI i2_, oI i3_, oI i4_, oI i5_, oI i6_, oA o7_, oA o8_, oJ (j9_ + (eK.toInt64)), .second, oI (fR fD eK), oI (fO + (1 : Int32)), oI fP, oI fB, oA iY, oI eK]) rfl ?_
 refine XS.iinc X1.here hx rfl (oG hby d1 77 rfl) rfl (l' := #[oA o0_, oI i1_, oI i2_, oI i3_, oI i4_, oI i5_, oI i6_, oA o7_, oA o8_, oJ (j9_ + (eK.toInt64)), .second, oI (fR fD eK), oI (fO + (1 : Int32)), oI fP, oI (fB + (1 : Int32)), oA iY, oI eK]) rfl ?_
 show oZ p e below T1 (mkF m 170 #[oA o0_, oI i1_, oI i2_, oI i3_, oI i4_, oI i5_, oI i6_, oA o7_, oA o8_, oJ (j9_ + (eK.toInt64)), .second, oI (fR fD eK), oI (fO + (1 : Int32)), oI fP, oI (fB + (1 : Int32)), oA iY, oI eK] []) _
 rw [hf1]
 refine XS.goto X1.here hx rfl (pc0 := 170) (pc' := 106) rfl (oG hby d1 78 rfl) (by decide) (by decide) ?_
 exact kt
theorem aT1 (rc : Nat) (rs : Nat) (o0_ : Addr) (i1_ : Int32) (i2_ : Int32) (i3_ : Int32) (i4_ : Int32) (i5_ : Int32) (i6_ : Int32) (o7_ : Addr) (o8_ : Addr) (j9_ : Int64) (fD : Int32) (fO : Int32) (fP : Int32) (fB : Int32) (nG : Slot) (kP : Slot) 
   (X0 : Stand p l e (oR 9 rc rs 256) s m args below meth c T0 locs cells slots) (hx : p.tables.exec = Jvm.exec) (hZ : Z.Warmed39 s.vm) (hw : oH a0 Z) (hby : c.code = prog_7_method_1_code) (hml : c.maxLocals = 17) (hown : s.vm.findClass oC2 = some m.cls) (e0 : T0.heap = h0) (N0 : Fr n0 locs) (Z0 : n0 ≤ h0.size) (hf0 : ¬ (fB < fP)) (hc : cells + (0) ≤ rc) (hs : slots + (0) ≤ rs) :
   ∃ (T' : State) (locs' : List Loc), Stand p l e (oR 9 rc rs 256) s m args below meth c T' locs' cells slots ∧ Fr n0 locs' ∧ T'.heap = h0 ∧
     ∀ target, Steps p.tables e below (T'.setTop (mkF m 173 #[oA o0_, oI i1_, oI i2_, oI i3_, oI i4_, oI i5_, oI i6_, oA o7_, oA o8_, oJ j9_, .second, oI fD, oI fO, oI fP, oI fB, nG, kP] [])) target → Steps p.tables e below (T0.setTop (mkF m 106 #[oA o0_, oI i1_, oI i2_, oI i3_, oI i4_, oI i5_, oI i6_, oA o7_, oA o8_, oJ j9_, .second, oI fD, oI fO, oI fP, oI fB, nG, kP] [])) target := by
 refine ⟨T0, _, X0, N0, e0, fun target kt => ?_⟩
 show oZ p e below T0 (mkF m 106 #[oA o0_, oI i1_, oI i2_, oI i3_, oI i4_, oI i5_, oI i6_, oA o7_, oA o8_, oJ j9_, .second, oI fD, oI fO, oI fP, oI fB, nG, kP] []) _
 refine XS.iload X0.here hx rfl (oG hby d1 49 rfl) rfl ?_
 refine XS.iload X0.here hx rfl (oG hby d1 50 rfl) rfl ?_
 refine XS.icmpYes X0.here hx rfl (pc0 := 110) (pc' := 173) rfl (oG hby d1 51 rfl) rfl (flt hf0).2.1 (by decide) (by decide) ?_
 exact kt
theorem aT2 (rc : Nat) (rs : Nat) (o0_ : Addr) (i1_ : Int32) (i2_ : Int32) (i3_ : Int32) (i4_ : Int32) (i5_ : Int32) (i6_ : Int32) (o7_ : Addr) (o8_ : Addr) (j9_ : Int64) (fD : Int32) (fO : Int32) (fP : Int32) (fB : Int32) (nG : Slot) (kP : Slot) (gU : Value) (cW : Value) (eG : Value) (gC : Value) (fF : Value)
   (X0 : Stand p l e (oR 9 rc rs 256) s m args below meth c T0 locs cells slots) (hx : p.tables.exec = Jvm.exec) (hZ : Z.Warmed39 s.vm) (hw : oH a0 Z) (hby : c.code = prog_7_method_1_code) (hml : c.maxLocals = 17) (hown : s.vm.findClass oC2 = some m.cls) (e0 : T0.heap = h0) (N0 : Fr n0 locs) (Z0 : n0 ≤ h0.size) (hnm : meth.name = "<init>") (bL : Exa Z h0 o0_ oC2) (jB : Fld Z h0 o0_ oC2 "replaced" "J" gU) (qG : n0 ≤ o0_) (fK : Fld Z h0 o0_ oC2 "mostReplacedByOneClient" "I" cW) (gY : Fld Z h0 o0_ oC2 "whollyNewSubsets" "I" eG) (kB : Fld Z h0 o0_ oC2 "toClients" "I" gC) (iV : Fld Z h0 o0_ oC2 "toSubsetSize" "I" fF) (hc : cells + (0) ≤ rc) (hs : slots + (0) ≤ rs) :
   ∃ (T' : State) (locs' : List Loc), Stand p l e (oR 9 rc rs 256) s m args below meth c T' locs' cells slots ∧ Fr n0 locs' ∧ Keep h0 T'.heap [o0_] ∧ Exa Z T'.heap o0_ oC2 ∧ Fld Z T'.heap o0_ oC2 "replaced" "J" (.long j9_) ∧ Fld Z T'.heap o0_ oC2 "mostReplacedByOneClient" "I" (.int fD) ∧ Fld Z T'.heap o0_ oC2 "whollyNewSubsets" "I" (.int fO) ∧ Fld Z T'.heap o0_ oC2 "toClients" "I" gC ∧ Fld Z T'.heap o0_ oC2 "toSubsetSize" "I" fF ∧
     ∀ target, Steps p.tables e below (T'.setTop (mkF m 191 #[oA o0_, oI i1_, oI i2_, oI i3_, oI i4_, oI i5_, oI i6_, oA o7_, oA o8_, oJ j9_, .second, oI fD, oI fO, oI fP, oI fB, nG, kP] [])) target → Steps p.tables e below (T0.setTop (mkF m 173 #[oA o0_, oI i1_, oI i2_, oI i3_, oI i4_, oI i5_, oI i6_, oA o7_, oA o8_, oJ j9_, .second, oI fD, oI fO, oI fP, oI fB, nG, kP] [])) target := by
 obtain ⟨T1, h1, X1, e1, W1, st1⟩ := putF X0 hx hZ hown (host := "") (Or.inl (oW hw 249 rfl)) Via.refl e0 jB bL (Or.inr ⟨(oW hw 250 rfl), rfl, hnm⟩) (oW hw 2 rfl) (ty := .long) (by decide) rfl rfl (g := (mkF m 176 #[oA o0_, oI i1_, oI i2_, oI i3_, oI i4_, oI i5_, oI i6_, oA o7_, oA o8_, oJ j9_, .second, oI fD, oI fO, oI fP, oI fB, nG, kP] [(.long j9_), (.ref o0_)])) rfl rfl (oG hby d1 81 rfl)
 have Fw1 := jB.same W1
 have K1 : Keep h0 h1 [o0_] := (Keep.refl h0 [o0_]).wr W1 (Or.inl (oX 0 rfl))
 have N1 := Fr.snoc X1 N0 qG
 have aT3 := (bL.wr W1)
 have hX := (fK.other W1 (oN (Or.inr (oW hw 252 rfl)) (Or.inr (oW hw 250 rfl)) (t := .int) (t' := .long)))
 obtain ⟨T4, h4, X4, e4, W4, st4⟩ := putF X1 hx hZ hown (host := "") (Or.inl (oW hw 251 rfl)) Via.refl e1 hX aT3 (Or.inr ⟨(oW hw 252 rfl), rfl, hnm⟩) (oW hw 2 rfl) (ty := .int) (by decide) rfl rfl (g := (mkF m 182 #[oA o0_, oI i1_, oI i2_, oI i3_, oI i4_, oI i5_, oI i6_, oA o7_, oA o8_, oJ j9_, .second, oI fD, oI fO, oI fP, oI fB, nG, kP] [(.int fD), (.ref o0_)])) rfl rfl (oG hby d1 84 rfl)
 have Fw4 := hX.same W4
 have K4 : Keep h0 h4 [o0_] := K1.wr W4 (Or.inl (oX 0 rfl))
 have N4 := Fr.snoc X4 N1 qG
 have aT4 := (aT3.wr W4)
 have iX := ((gY.other W1 (oN (Or.inr (oW hw 254 rfl)) (Or.inr (oW hw 250 rfl)) (t := .int) (t' := .long))).other W4 (oN (Or.inr (oW hw 254 rfl)) (Or.inr (oW hw 252 rfl)) (t := .int) (t' := .int)))
 obtain ⟨T7, h7, X7, e7, W7, st7⟩ := putF X4 hx hZ hown (host := "") (Or.inl (oW hw 253 rfl)) Via.refl e4 iX aT4 (Or.inr ⟨(oW hw 254 rfl), rfl, hnm⟩) (oW hw 2 rfl) (ty := .int) (by decide) rfl rfl (g := (mkF m 188 #[oA o0_, oI i1_, oI i2_, oI i3_, oI i4_, oI i5_, oI i6_, oA o7_, oA o8_, oJ j9_, .second, oI fD, oI fO, oI fP, oI fB, nG, kP] [(.int fO), (.ref o0_)])) rfl rfl (oG hby d1 87 rfl)
 have Fw7 := iX.same W7
 have K7 : Keep h0 h7 [o0_] := K4.wr W7 (Or.inl (oX 0 rfl))
 have N7 := Fr.snoc X7 N4 qG
 have tI := (((kB.other W1 (oN (Or.inr (oW hw 45 rfl)) (Or.inr (oW hw 250 rfl)) (t := .int) (t' := .long))).other W4 (oN (Or.inr (oW hw 45 rfl)) (Or.inr (oW hw 252 rfl)) (t := .int) (t' := .int))).other W7 (oN (Or.inr (oW hw 45 rfl)) (Or.inr (oW hw 254 rfl)) (t := .int) (t' := .int)))
 have pU := (((iV.other W1 (oN (Or.inr (oW hw 49 rfl)) (Or.inr (oW hw 250 rfl)) (t := .int) (t' := .long))).other W4 (oN (Or.inr (oW hw 49 rfl)) (Or.inr (oW hw 252 rfl)) (t := .int) (t' := .int))).other W7 (oN (Or.inr (oW hw 49 rfl)) (Or.inr (oW hw 254 rfl)) (t := .int) (t' := .int)))
 have pO := (aT4.wr W7)
 have tJ := ((Fw1.other W4 (oN (Or.inr (oW hw 250 rfl)) (Or.inr (oW hw 252 rfl)) (t := .long) (t' := .int))).other W7 (oN (Or.inr (oW hw 250 rfl)) (Or.inr (oW hw 254 rfl)) (t := .long) (t' := .int)))
 have kF := (Fw4.other W7 (oN (Or.inr (oW hw 252 rfl)) (Or.inr (oW hw 254 rfl)) (t := .int) (t' := .int)))
 subst e7
 refine ⟨T7, _, X7, N7, K7, pO, tJ, kF, Fw7, tI, pU, fun target kt => ?_⟩
 show oZ p e below T0 (mkF m 173 #[oA o0_, oI i1_, oI i2_, oI i3_, oI i4_, oI i5_, oI i6_, oA o7_, oA o8_, oJ j9_, .second, oI fD, oI fO, oI fP, oI fB, nG, kP] []) _
 refine XS.aloadN X0.here hx rfl (oG hby d1 79 rfl) rfl rfl ?_
 refine XS.lload X0.here hx rfl (oG hby d1 80 rfl) rfl ?_
 refine st1 _ ?_
 refine XS.aloadN X1.here hx rfl (oG hby d1 82 rfl) rfl rfl ?_
 refine XS.iload X1.here hx rfl (oG hby d1 83 rfl) rfl ?_
 refine st4 _ ?_
 refine XS.aloadN X4.here hx rfl (oG hby d1 85 rfl) rfl rfl ?_
 refine XS.iload X4.here hx rfl (oG hby d1 86 rfl) rfl ?_
 refine st7 _ ?_
 exact kt
section OwnChurn
theorem kN.ext {Z : State} {h h' : Heap} {o : Addr} {b n : Int32} {L : Nat} {ft : Int32} (U : kN Z h o b n L ft) (E : Ext h h') : kN Z h' o b n L ft := ⟨U.1.ext E, U.2.1.ext E, U.2.2.1.ext E, U.2.2.2.1.ext E, U.2.2.2.2.1.ext E, U.2.2.2.2.2.ext E⟩
theorem rC.ext {Z : State} {h h' : Heap} {o4 : Addr} (Y : rC Z h o4) (E : Ext h h') : rC Z h' o4 := ⟨Y.1.ext E, Y.2.1.ext E, Y.2.2.ext E⟩
def pR (Z : State) (h : Heap) (sb sa o4 w : Addr) (b n : Int32) (L : Nat) (ft b' n' : Int32) (L' : Nat) (ft' nw : Int32) : Prop :=
 kN Z h sb b n L ft ∧ kN Z h sa b' n' L' ft' ∧ rC Z h o4 ∧ Sta Z h oC4 "NONE" "[I" (.ref w) ∧ bC Z h w nw
theorem pR.ext {Z : State} {h h' : Heap} {sb sa o4 w : Addr} {b n : Int32} {L : Nat} {ft b' n' : Int32} {L' : Nat} {ft' nw : Int32} (V : pR Z h sb sa o4 w b n L ft b' n' L' ft' nw) (E : Ext h h') : pR Z h' sb sa o4 w b n L ft b' n' L' ft' nw :=
 ⟨V.1.ext E, V.2.1.ext E, V.2.2.1.ext E, V.2.2.2.1.ext E, V.2.2.2.2.ext E⟩
theorem aJ4 {p : Program} {l : Launch} {e : Env} {s : State} {m : MethodId} {args : Array Value} {below : List Frame} {meth : Method} {c : Code} {Z : State} {a0 : Array Value} {n0 : Nat} {rc rs : Nat} {o0 sb sa o4 w : Addr} {i1 i2 i3 i4 i5 i6 b n ft b' n' ft' nw : Int32} {L R cx L' R' cx' cnt : Nat}
   (hx : p.tables.exec = Jvm.exec) (hZ : Z.Warmed39 s.vm) (hw : oH a0 Z) (hby : c.code = prog_7_method_1_code) (hml : c.maxLocals = 17) (hown : s.vm.findClass oC2 = some m.cls)
   (hcnt : cnt < 1000) (hp1 : n.toNatClampNeg ≤ 32) (hp2 : n'.toNatClampNeg ≤ 32) (ok1 : ∀ i, i < cnt → iC b n (Int32.ofNat i) ft L R cx 79) (ok2 : ∀ i, i < cnt → iC b' n' (Int32.ofNat i) ft' L' R' cx' 29) :
   ∀ (k i : Nat) (j9 : Int64) (i11 i12 : Int32) (s15 s16 : Slot) (T0 : State) (locs : List Loc) (cells slots : Nat), i + k = cnt → (s15 = .unset ∨ ∃ z : Addr, s15 = oA z) → (s16 = .unset ∨ ∃ z : Int32, s16 = oI z) →
     Stand p l e (oR 9 rc rs 256) s m args below meth c T0 locs cells slots → Fr n0 locs → n0 ≤ T0.heap.size → pR Z T0.heap sb sa o4 w b n L ft b' n' L' ft' nw →
     cells + 241 * k ≤ rc → slots + 1478 * k ≤ rs →
     ∃ (T' : State) (locs' : List Loc) (j9' : Int64) (i11' i12' i14' : Int32) (s15' s16' : Slot), Stand p l e (oR 9 rc rs 256) s m args below meth c T' locs' (cells + 241 * k) (slots + 1478 * k) ∧ Fr n0 locs' ∧ Keep T0.heap T'.heap [] ∧
     ∀ target, Steps p.tables e below (T'.setTop (mkF m 173 #[oA o0, oI i1, oI i2, oI i3, oI i4, oI i5, oI i6, oA sb, oA sa, oJ j9', .second, oI i11', oI i12', oI (Int32.ofNat cnt), oI i14', s15', s16'] [])) target →
       Steps p.tables e below (T0.setTop (mkF m 106 #[oA o0, oI i1, oI i2, oI i3, oI i4, oI i5, oI i6, oA sb, oA sa, oJ j9, .second, oI i11, oI i12, oI (Int32.ofNat cnt), oI (Int32.ofNat i), s15, s16] [])) target := by
 intro k
 induction k with
 | zero =>
   intro i j9 i11 i12 s15 s16 T0 locs cells slots hik h15 h16 X N Z0 V hc hs
   obtain ⟨T', L1, X', N', e', st'⟩ := aT1 (o0_ := o0) (i1_ := i1) (i2_ := i2) (i3_ := i3) (i4_ := i4) (i5_ := i5) (i6_ := i6) (o7_ := sb) (o8_ := sa) (j9_ := j9) (fD := i11) (fO := i12) (fP := Int32.ofNat cnt) (fB := Int32.ofNat i) (nG := s15) (kP := s16) rc rs X hx hZ hw hby hml hown rfl N Z0 (eU (i := i) (c := cnt) (by omega) (by omega)) (by omega) (by omega)
   exact ⟨T', L1, _, _, _, _, _, _, X', N', by rw [e']; exact Keep.refl _ _, st'⟩
 | succ k ih =>
   intro i j9 i11 i12 s15 s16 T0 locs cells slots hik h15 h16 X N Z0 V hc hs
   have hi : i < cnt := by omega
   obtain ⟨U1, U2, Y, SN, AN⟩ := V
   obtain ⟨r, y, T1, L1, X1, N1, K1, g1, A1, st1⟩ := aS6 (o0_ := o0) (i1_ := i1) (i2_ := i2) (i3_ := i3) (i4_ := i4) (i5_ := i5) (i6_ := i6) (o7_ := sb) (o8_ := sa) (j9_ := j9) (fD := i11) (fO := i12) (fP := Int32.ofNat cnt) (fB := Int32.ofNat i) (nG := s15) (kP := s16) (l0_ := L) (bC7 := R) (bC8 := cx) (jC := b) (fG := n) (nH := Int32.ofNat L) (jD := gQ L) (iK := ft) (w_START_ROWS := o4) (n_w_START_ROWS := 10) (vs_w_START_ROWS := [0, 8, 2, 4, 6, 1, 9, 5, 3, 7]) (l1_ := L') (bC9 := R') (bD0 := cx') (jE := b') (fV := n') (nI := Int32.ofNat L') (jF := gQ L') (iL := ft') (w_NONE := w) (n_w_NONE := nw) rc rs X hx hZ hw hby hml hown rfl N Z0 U1.1 U1.2.1 U1.2.2.1 U1.2.2.2.1 U1.2.2.2.2.1 U1.2.2.2.2.2 Y.1 Y.2.1 Y.2.2 h15 U2.1 U2.2.1 U2.2.2.1 U2.2.2.2.1 U2.2.2.2.2.1 U2.2.2.2.2.2 SN AN h16 (dV (i := i) (c := cnt) hi (by omega)) rfl rfl rfl rfl (ok1 i hi) rfl rfl (ok2 i hi) hp1 hp2 (by omega) (by omega)
   have V1 := (show pR Z T0.heap sb sa o4 w b n L ft b' n' L' ft' nw from ⟨U1, U2, Y, SN, AN⟩).ext (iD K1)
   by_cases q : y = n
   · obtain ⟨T2, L2, X2, N2, e2, st2⟩ := aT0 (o0_ := o0) (i1_ := i1) (i2_ := i2) (i3_ := i3) (i4_ := i4) (i5_ := i5) (i6_ := i6) (o7_ := sb) (o8_ := sa) (j9_ := j9) (fD := i11) (fO := i12) (fP := Int32.ofNat cnt) (fB := Int32.ofNat i) (iY := r) (eK := y) (rE := n) (k_ := Int32.ofNat (i + 1)) rc rs X1 hx hZ hw hby hml hown rfl N1 (Nat.le_trans Z0 K1.1) A1 q (bW i) (by omega) (by omega)
     obtain ⟨T', L3, j9', i11', i12', i14', s15', s16', X', N', K', st'⟩ := ih (i + 1) _ _ _ (oA r) (oI y) T2 L2 _ _ (by omega) (Or.inr ⟨_, rfl⟩) (Or.inr ⟨_, rfl⟩) X2 N2 (by rw [e2]; exact Nat.le_trans Z0 K1.1) (by rw [e2]; exact V1) (by omega) (by omega)
     exact ⟨T', L3, j9', i11', i12', i14', s15', s16', eS X' (by omega) (by omega), N', K1.trans (by rw [← e2]; exact K') dX, fun target kt => st1 _ (st2 _ (st' _ kt))⟩
   · obtain ⟨T2, L2, X2, N2, e2, st2⟩ := aS9 (o0_ := o0) (i1_ := i1) (i2_ := i2) (i3_ := i3) (i4_ := i4) (i5_ := i5) (i6_ := i6) (o7_ := sb) (o8_ := sa) (j9_ := j9) (fD := i11) (fO := i12) (fP := Int32.ofNat cnt) (fB := Int32.ofNat i) (iY := r) (eK := y) (rE := n) (k_ := Int32.ofNat (i + 1)) rc rs X1 hx hZ hw hby hml hown rfl N1 (Nat.le_trans Z0 K1.1) A1 q (bW i) (by omega) (by omega)
     obtain ⟨T', L3, j9', i11', i12', i14', s15', s16', X', N', K', st'⟩ := ih (i + 1) _ _ _ (oA r) (oI y) T2 L2 _ _ (by omega) (Or.inr ⟨_, rfl⟩) (Or.inr ⟨_, rfl⟩) X2 N2 (by rw [e2]; exact Nat.le_trans Z0 K1.1) (by rw [e2]; exact V1) (by omega) (by omega)
     exact ⟨T', L3, j9', i11', i12', i14', s15', s16', eS X' (by omega) (by omega), N', K1.trans (by rw [← e2]; exact K') dX, fun target kt => st1 _ (st2 _ (st' _ kt))⟩
def pH (i1 i2 i3 i4 i5 i6 : Int32) : Prop := ∃ (cnt L : Nat) (ft : Int32) (R cx L' : Nat) (ft' : Int32) (R' cx' : Nat),
 ¬ (i1 < (1 : Int32)) ∧ ¬ (i4 < (1 : Int32)) ∧ jX i2 i3 L ft ∧ jX i5 i6 L' ft' ∧ nF i1 i4 = Int32.ofNat cnt ∧ cnt ≤ 2 ∧ i3.toNatClampNeg ≤ 32 ∧ i6.toNatClampNeg ≤ 32 ∧
 (∀ i, i < cnt → iC i2 i3 (Int32.ofNat i) ft L R cx 79) ∧ (∀ i, i < cnt → iC i5 i6 (Int32.ofNat i) ft' L' R' cx' 29)
def bD3 (Z : State) (o : Addr) (x y : Int32) (h0 : Heap) (n0 : Nat) (v : Option Value) (h : Heap) (L : List Loc) : Prop := v = none ∧ Fr n0 L ∧ Keep h0 h [o] ∧ Exa Z h o oC2 ∧ Fld Z h o oC2 "toClients" "I" (.int x) ∧ Fld Z h o oC2 "toSubsetSize" "I" (.int y)
theorem aG3 (l : Launch) (Z : State) (a0 : Array Value) (hw : oH a0 Z) (ws : List Jvm.Cond) (o0 : Addr) (i1 i2 i3 i4 i5 i6 : Int32) (o4 w : Addr) (vn nw : Int32) (vv : List Int32) (u0 u1 u2 u3 u4 u5 u6 u7 u8 : Value) (h0 : Heap) (n0 : Nat) (Z0 : n0 ≤ h0.size)
   (E0 : Exa Z h0 o0 oC2) (F0 : Fld Z h0 o0 oC2 "clients" "I" u0) (F1 : Fld Z h0 o0 oC2 "backends" "I" u1) (F2 : Fld Z h0 o0 oC2 "subsetSize" "I" u2) (F3 : Fld Z h0 o0 oC2 "toClients" "I" u3) (F4 : Fld Z h0 o0 oC2 "toBackends" "I" u4) (F5 : Fld Z h0 o0 oC2 "toSubsetSize" "I" u5) (F6 : Fld Z h0 o0 oC2 "replaced" "J" u6) (F7 : Fld Z h0 o0 oC2 "mostReplacedByOneClient" "I" u7) (F8 : Fld Z h0 o0 oC2 "whollyNewSubsets" "I" u8) (g0 : n0 ≤ o0)
   (S0 : Sta Z h0 oC0 "START_ROWS" "[I" (.ref o4)) (A0 : bB Z h0 o4 vn vv) (B0 : Sta Z h0 oC3 "$assertionsDisabled" "Z" (.int 1)) (SN : Sta Z h0 oC4 "NONE" "[I" (.ref w)) (AN : bC Z h0 w nw)
   (e3 : vn = (10 : Int32)) (e4 : vv = ([0, 8, 2, 4, 6, 1, 9, 5, 3, 7] : List Int32)) (v1 : ¬ (o4 = o0)) (v2 : ¬ (w = o0)) (ok : pH i1 i2 i3 i4 i5 i6) :
   oMet l oM23 prog_7_method_1_code 17 none ws (oR 9 484 2966 256) Z h0 #[(.ref o0), (.int i1), (.int i2), (.int i3), (.int i4), (.int i5), (.int i6)] (bD3 Z o0 i4 i6 h0 n0) := by
 subst e3 e4
 obtain ⟨cnt, L, ft, R, cx, L', ft', R', cx', k1, k2, k3, k4, k5, k6, k7, k8, k9, k10⟩ := ok
 refine oBd n0 (plainFor_of_name aE6) ?_
 intro p e s m below meth c s₁ Bd hx hZ hby hml hown hnm X0 e0 N0
 obtain ⟨sb, sa, T1, L1, X1, N1, K1, g1, g2, nab, E1, f3, f5, f6, f7, f8, EB, b1, b2, b3, b4, b5, EA, c1, c2, c3, c4, c5, st1⟩ := aS4 (o0_ := o0) (i1_ := i1) (i2_ := i2) (i3_ := i3) (i4_ := i4) (i5_ := i5) (i6_ := i6) (l0_ := L) (aW7 := ft) (l1_ := L') (aW8 := ft') (k_ := Int32.ofNat cnt) (qF := u0) (pF := u1) (mQ := u2) (gC := u3) (mR := u4) (fF := u5) (gU := u6) (cW := u7) (eG := u8) 484 2966 X0 hx hZ hw hby hml hown e0 N0 Z0 hnm E0 F0 g0 F1 F2 F3 F4 F5 F6 F7 F8 k1 k2 k3 k4 k5 (by omega) (by omega)
 have V1 : pR Z T1.heap sb sa o4 w i2 i3 L ft i5 i6 L' ft' nw := ⟨⟨EB, b1, b2, b3, b4, b5⟩, ⟨EA, c1, c2, c3, c4, c5⟩, ⟨fM S0 K1 (bJ (mF E0)), A0.keep K1 (bH v1), fM B0 K1 (bJ (mF E0))⟩, fM SN K1 (bJ (mF E0)), AN.keep K1 (bH v2)⟩
 obtain ⟨T2, L2, j9, i11, i12, i14, s15, s16, X2, N2, K2, st2⟩ := aJ4 (o0 := o0) (i1 := i1) (i2 := i2) (i3 := i3) (i4 := i4) (i5 := i5) (i6 := i6) hx hZ hw hby hml hown (by omega) k7 k8 k9 k10 cnt 0 0 0 0 .unset .unset T1 L1 _ _ (by omega) (Or.inl rfl) (Or.inl rfl) X1 N1 (Nat.le_trans Z0 K1.1) V1 (by omega) (by omega)
 have x2 := iD K2
 obtain ⟨T3, L3, X3, N3, K3, E3, t6, t7, t8, t3, t5, st3⟩ := aT2 (o0_ := o0) (i1_ := i1) (i2_ := i2) (i3_ := i3) (i4_ := i4) (i5_ := i5) (i6_ := i6) (o7_ := sb) (o8_ := sa) (j9_ := j9) (fD := i11) (fO := i12) (fP := Int32.ofNat cnt) (fB := i14) (nG := s15) (kP := s16) (gU := u6) (cW := u7) (eG := u8) (gC := (.int i4)) (fF := (.int i6)) 484 2966 X2 hx hZ hw hby hml hown rfl N2 (Nat.le_trans (Nat.le_trans Z0 K1.1) K2.1) hnm (E1.ext x2) (f6.ext x2) g0 (f7.ext x2) (f8.ext x2) (f3.ext x2) (f5.ext x2) (by omega) (by omega)
 obtain ⟨fs, hr, hrun, hended, hW, hsame⟩ := X3.leave (v := none) (fun _ => rfl)
 refine ⟨_, _, castTop (aM1 m o0 i1 i2 i3 i4 i5 i6) (st1 _ (st2 _ (st3 _ ?_))), hrun, hended, _, _, rfl, ⟨rfl, N3, ?_, E3, t3, t5⟩, ⟨_, rfl⟩, hW, hsame.mono (show 0 + 1 + 1 + 241 * cnt ≤ 484 by omega) (show 0 + 5 + 5 + 1478 * cnt ≤ 2966 by omega)⟩
 · exact X3.returnOut hx Bd.returns (oG hby d1 88 rfl) hr
 · show Keep h0 T3.heap [o0]
   exact (K1.trans K2 dX).trans K3 (bJ (Or.inl (oX 0 rfl)))
end OwnChurn

theorem xZ (l : Launch) (Z : State) (a0 : Array Value) (hw : oH a0 Z) (ws : List Jvm.Cond) (a0_ : Addr) (gD : Int32) (gA : Int32) (h0 : Heap) (n0 : Nat) (Z0 : n0 ≤ h0.size) (uG : Fld Z h0 a0_ oC2 "toClients" "I" (.int gD)) (rF : Fld Z h0 a0_ oC2 "toSubsetSize" "I" (.int gA)) :
   oMet l oM11 prog_7_method_9_code 1 (some .long) ws (oR 0 0 0 0) Z h0 #[(.ref a0_)] (cD (some (.long ((gD.toInt64) * (gA.toInt64)))) h0 n0) := by
 refine oBd n0 (plainFor_of_name aE6) ?_
 intro p e s m below meth c s₁ Bd hx hZ hby hml hown hnm X0 e0 N0
 obtain ⟨T1, X1, e1, st1⟩ := getF X0 hx hZ hown (host := "") (Or.inl (oW hw 44 rfl)) Via.refl e0 uG (g := (mkF m 1 #[oA a0_] [(.ref a0_)])) rfl rfl (oG hby d43 1 rfl)
 obtain ⟨T2, X2, e2, st2⟩ := getF X1 hx hZ hown (host := "") (Or.inl (oW hw 48 rfl)) Via.refl e1 rF (g := (mkF m 6 #[oA a0_] [(.ref a0_), (.long (gD.toInt64))])) rfl rfl (oG hby d43 4 rfl)
 obtain ⟨fs, hr, hrun, hended, hW, hsame⟩ := X2.leave (v := some (.long ((gD.toInt64) * (gA.toInt64)))) (fun h => by rw [Bd.returns] at h; cases h)
 refine ⟨_, _, castTop (aM2 m a0_) ?_, hrun, hended, _, _, rfl, ?_, ⟨_, rfl⟩, hW, (hsame.mono (by decide) (by decide))⟩
 · show oZ p e below s₁ (mkF m 0 #[oA a0_] []) _
   refine XS.aloadN X0.here hx rfl (oG hby d43 0 rfl) rfl rfl ?_
   refine st1 _ ?_
   refine XS.i2l X1.here hx rfl (oG hby d43 2 rfl) rfl ?_
   refine XS.aloadN X1.here hx rfl (oG hby d43 3 rfl) rfl rfl ?_
   refine st2 _ ?_
   refine XS.i2l X2.here hx rfl (oG hby d43 5 rfl) rfl ?_
   refine XS.lmul X2.here hx rfl (oG hby d43 6 rfl) rfl ?_
   show oZ p e below T2 (mkF m 11 #[oA a0_] [(.long ((gD.toInt64) * (gA.toInt64)))]) _
   exact X2.lreturnOut hx Bd.returns (oG hby d43 7 rfl) hr
 · show cD (some (.long ((gD.toInt64) * (gA.toInt64)))) h0 n0 _ T2.heap _
   exact ⟨rfl, N0, e2⟩
theorem aT5 (l : Launch) (Z : State) (a0 : Array Value) (hw : oH a0 Z) (ws : List Jvm.Cond) (p0_ : Int32) (p1_ : Int32) (p2_ : Int32) (p3_ : Int32) (p4_ : Int32) (p5_ : Int32) (k1_ : Int32) (k2_ : Int32) (k3_ : Int32) (k4_ : Int32) (k6_ : Int32) (k5_ : Int32) (w_START_ROWS : Addr) (n_w_START_ROWS : Int32) (vs_w_START_ROWS : List Int32) (w_NONE : Addr) (n_w_NONE : Int32) (h0 : Heap) (n0 : Nat) (Z0 : n0 ≤ h0.size) (S_START_ROWS : Sta Z h0 oC0 "START_ROWS" "[I" (.ref w_START_ROWS)) (A_w_START_ROWS : bB Z h0 w_START_ROWS n_w_START_ROWS vs_w_START_ROWS) (S__assertionsDisabled : Sta Z h0 oC3 "$assertionsDisabled" "Z" (.int 1)) (S_NONE : Sta Z h0 oC4 "NONE" "[I" (.ref w_NONE)) (A_w_NONE : bC Z h0 w_NONE n_w_NONE) (hf0 : ((1 : Int32) + (p0_ &&& (1 : Int32))) = k1_) (hf1 : ((1 : Int32) + (p1_ &&& (31 : Int32))) = k2_) (hf2 : ¬ (k2_ = (0 : Int32))) (hf3 : ((1 : Int32) + ((p2_ &&& (2147483647 : Int32)) % k2_)) = k3_) (hf4 : (p3_ &&& (2147483647 : Int32)) = k4_) (hf5 : k4_ = (0 : Int32)) (hf6 : ((1 : Int32) + (p5_ &&& (7 : Int32))) = k6_) (hf7 : (k6_ + (p4_ &&& (31 : Int32))) = k5_) (hf8 : n_w_START_ROWS = (10 : Int32)) (hf9 : vs_w_START_ROWS = ([0, 8, 2, 4, 6, 1, 9, 5, 3, 7] : List Int32)) (hf10 : pH k1_ k2_ k3_ (1 : Int32) k5_ k6_) (hf11 : (0 : Int32) < (lcmpW (((1 : Int32).toInt64) * (k6_.toInt64)) (0 : Int64))) (hf12 : (lcmpW ((((1 : Int32).toInt64) * (k6_.toInt64)) / (1 : Int64)) (k6_.toInt64)) = (0 : Int32)) (hf13 : (lcmpW ((((1 : Int32).toInt64) * (k6_.toInt64)) - ((((1 : Int32).toInt64) * (k6_.toInt64)) / (1 : Int64)) * (1 : Int64)) (0 : Int64)) = (0 : Int32)) :
   MetFree l x (head1 (Jvm.Cond.code x code maxLocals ret :: ws) room_1) (fun a U => a = #[(.int p0_), (.int p1_), (.int p2_), (.int p3_), (.int p4_), (.int p5_)] ∧ Z.Warmed39 U.vm ∧ U.heap = h0) (fun _ _ _ _ _ => True) (fun _ U o U' => ∃ v L, o = .returned v ∧ uM n0 v U'.heap L ∧ FrameEnd U o U' L room_1.cells room_1.slots) := by
 refine MetFree.of_bodySF (plainFor_of_name aE7) hisR ?_
 intro p e s m args below meth c s₁ Bd hml0 hP hK
 obtain ⟨rfl, hZ, hh⟩ := hP
 have hx := Bd.exec
 have hby := Bd.bytes
 have hml : c.maxLocals = 16 := hml0
 have hown : s.vm.findClass "com/example/narrows/narrows/ChurnConnectionsAfterPinLaw" = some m.cls := findClass_of_methodNamed Bd.named
 have hnm := (name_of_methodNamed Bd.named Bd.method).1
 have X0 : Stand p l e room_1 s m #[(.int p0_), (.int p1_), (.int p2_), (.int p3_), (.int p4_), (.int p5_)] below meth c s₁ [] 0 0 := Stand.of_body Bd
 have e0 : s₁.heap = h0 := by rw [← hh, Bd.state]; rfl
 have N0 := Fr.nil n0
 obtain ⟨T1, h1, X1, e1, E1, A1, D1, -, st1⟩ := newO X0 hx hZ hown (oW hw 1 rfl) (oW hw 2 rfl) (oW hw 3 rfl) e0 (g := (mkF m 64 #[oI p0_, oI p1_, oI p2_, oI p3_, oI p4_, oI p5_, oI k1_, oI k2_, oI k3_, oI k4_, oI 1, oI k6_, oI k5_, .unset, .unset, .unset] [])) rfl (hb hby at_64) (by decide) (by decide)
 obtain ⟨b1, g1⟩ : ∃ z, z = h0.size := ⟨_, rfl⟩
 rw [← g1] at A1 D1 st1
 have lA : h0.size ≤ b1 := Nat.le_of_eq g1.symm
 have bK : h0.size ≤ b1 := Nat.le_trans (Keep.refl h0 []).1 lA
 have g_b1 : n0 ≤ b1 := Nat.le_trans Z0 bK
 have K1 : Keep h0 h1 [] := (Keep.refl h0 []).ext E1
 have rG : Fld Z h1 b1 oC2 "clients" "I" (.int 0) := D1 (Or.inr (oW hw 39 rfl)) (ty := .int) (by decide)
 have pI : Fld Z h1 b1 oC2 "backends" "I" (.int 0) := D1 (Or.inr (oW hw 41 rfl)) (ty := .int) (by decide)
 have mC : Fld Z h1 b1 oC2 "subsetSize" "I" (.int 0) := D1 (Or.inr (oW hw 43 rfl)) (ty := .int) (by decide)
 have nJ : Fld Z h1 b1 oC2 "toClients" "I" (.int 0) := D1 (Or.inr (oW hw 45 rfl)) (ty := .int) (by decide)
 have mD : Fld Z h1 b1 oC2 "toBackends" "I" (.int 0) := D1 (Or.inr (oW hw 47 rfl)) (ty := .int) (by decide)
 have kG : Fld Z h1 b1 oC2 "toSubsetSize" "I" (.int 0) := D1 (Or.inr (oW hw 49 rfl)) (ty := .int) (by decide)
 have pJ : Fld Z h1 b1 oC2 "replaced" "J" (.long 0) := D1 (Or.inr (oW hw 250 rfl)) (ty := .long) (by decide)
 have gB : Fld Z h1 b1 oC2 "mostReplacedByOneClient" "I" (.int 0) := D1 (Or.inr (oW hw 252 rfl)) (ty := .int) (by decide)
 have iN : Fld Z h1 b1 oC2 "whollyNewSubsets" "I" (.int 0) := D1 (Or.inr (oW hw 254 rfl)) (ty := .int) (by decide)
 have dC := (S_START_ROWS.ext E1)
 have kH := (A_w_START_ROWS.ext E1)
 have cL := (S__assertionsDisabled.ext E1)
 have fS := (S_NONE.ext E1)
 have tK := (A_w_NONE.ext E1)
 obtain ⟨_, _, ⟨T2, L2, k2, n2⟩, -, X2, ⟨Lc2, hQ2, l2, y2, z2⟩, st2⟩ := X1.specialBack hx (y := oM23) rfl hown (mvT hZ (oW hw 4 rfl)) (mvT hZ (oW hw 5 rfl)) (mvT hZ (oW hw 6 rfl)) (by decide) (backOf (W := 1) (aG3 l Z a0 hw [] b1 k1_ k2_ k3_ (1 : Int32) k5_ k6_ w_START_ROWS w_NONE n_w_START_ROWS n_w_NONE vs_w_START_ROWS (.int 0) (.int 0) (.int 0) (.int 0) (.int 0) (.int 0) (.long 0) (.int 0) (.int 0) h1 n0 (Nat.le_trans Z0 K1.1) A1 rG pI mC nJ mD kG pJ gB iN g_b1 dC kH cL fS tK hf8 hf9 (oV A_w_START_ROWS.lt bK) (oV A_w_NONE.lt bK) hf10) hZ (oW hw 6 rfl) (oW hw 3 rfl) (by decide) (by decide)) (g := (mkF m 80 #[oI p0_, oI p1_, oI p2_, oI p3_, oI p4_, oI p5_, oI k1_, oI k2_, oI k3_, oI k4_, oI 1, oI k6_, oI k5_, .unset, .unset, .unset] [(.int k6_), (.int k5_), (.int 1), (.int k3_), (.int k2_), (.int k1_), (.ref b1), (.ref b1)])) rfl (by rw [hml]; rfl) (Steps.refl _) (a := b1) (argsL := [(.int k1_), (.int k2_), (.int k3_), (.int 1), (.int k5_), (.int k6_)]) (rest := [(.ref b1)]) (lenOf zI rfl) rfl (by show 2 * 0 + _ ≤ _; exact Nat.le_of_eq rfl) (hb hby at_80) (fun _ _ => ⟨rfl, e1, (by decide : 1 + 484 ≤ _), (by decide : 9 + 2966 ≤ _)⟩)
 dsimp only [Pt.U, Pt.locs, Pt.cells, Pt.slots] at X2 l2 y2 z2 st2 hQ2
 subst l2 y2 z2
 obtain ⟨rfl, N2q, Kq2, Q2_0, xB, aM3⟩ := hQ2
 have N2 := Fr.app N0 N2q
 have K2 : Keep h0 T2.heap [] := K1.trans Kq2 (bJ (Or.inr bK))
 obtain ⟨cq8, kq8, q8a, q8b, q8c⟩ := isOf hZ rfl Q2_0
 obtain ⟨_, _, ⟨T8, L8, k8, n8⟩, -, X8, ⟨Lc8, hQ8, l8, y8, z8⟩, st8⟩ := X2.virtualBack hx (y := oM11) (z := oM11) hown (mvT hZ (oW hw 255 rfl)) (mvT hZ (oW hw 256 rfl)) (notFace_of_selects (args := #[]) (mvT hZ (oW hw 258 rfl))) (mvT hZ (oW hw 258 rfl)) (mvT hZ (oW hw 257 rfl)) (by decide) (backOf (W := 0) (xZ l Z a0 hw [] b1 (1 : Int32) k6_ T2.heap n0 (Nat.le_trans Z0 K2.1) xB aM3) hZ (oW hw 259 rfl) (oW hw 3 rfl) (by decide) (by decide)) q8a q8c (g := (mkF m 87 #[oI p0_, oI p1_, oI p2_, oI p3_, oI p4_, oI p5_, oI k1_, oI k2_, oI k3_, oI k4_, oI 1, oI k6_, oI k5_, oA b1, .unset, .unset] [(.ref b1)])) rfl (by rw [hml]; rfl) (Steps.refl _) (argsL := []) (rest := []) (lenOf uI rfl) rfl (by show 2 * 0 + _ ≤ _; exact Nat.le_of_eq rfl) (hb hby at_87) (fun _ _ => ⟨rfl, rfl, (by decide : 485 + 0 ≤ _), (by decide : 2975 + 0 ≤ _)⟩)
 dsimp only [Pt.U, Pt.locs, Pt.cells, Pt.slots] at X8 l8 y8 z8 st8 hQ8
 subst l8 y8 z8
 obtain ⟨rfl, N8q, e8⟩ := hQ8
 have N8 := Fr.app N2 N8q
 obtain ⟨fs, hr, hrun, hended, hW, hsame⟩ := X8.leave (v := some (.int 1)) (fun h => by rw [Bd.returns] at h; cases h)
 refine ⟨_, _, castTop (zV m p0_ p1_ p2_ p3_ p4_ p5_) ?_, hrun, hended, _, _, rfl, ?_, ⟨_, rfl⟩, hW, (hsame.mono (by decide) (by decide))⟩
 · show oZ p e below s₁ (mkF m 0 #[oI p0_, oI p1_, oI p2_, oI p3_, oI p4_, oI p5_, .unset, .unset, .unset, .unset, .unset, .unset, .unset, .unset, .unset, .unset] []) _
   refine XS.iconst X0.here hx rfl (hb hby at_0) ?_
   refine XS.iloadN X0.here hx rfl (hb hby at_1) rfl ?_
   refine XS.iconst X0.here hx rfl (hb hby at_2) ?_
   refine XS.iand X0.here hx rfl (hb hby at_3) rfl ?_
   refine XS.iadd X0.here hx rfl (hb hby at_4) rfl ?_
   show oZ p e below s₁ (mkF m 5 #[oI p0_, oI p1_, oI p2_, oI p3_, oI p4_, oI p5_, .unset, .unset, .unset, .unset, .unset, .unset, .unset, .unset, .unset, .unset] [(.int ((1 : Int32) + (p0_ &&& (1 : Int32))))]) _
   rw [hf0]
   refine XS.istore X0.here hx rfl (hb hby at_5) rfl (l' := #[oI p0_, oI p1_, oI p2_, oI p3_, oI p4_, oI p5_, oI k1_, .unset, .unset, .unset, .unset, .unset, .unset, .unset, .unset, .unset]) rfl ?_
   refine XS.iconst X0.here hx rfl (hb hby at_7) ?_
   refine XS.iloadN X0.here hx rfl (hb hby at_8) rfl ?_
   refine XS.bipush X0.here hx rfl (hb hby at_9) ?_
   refine XS.iand X0.here hx rfl (hb hby at_11) rfl ?_
   refine XS.iadd X0.here hx rfl (hb hby at_12) rfl ?_
   show oZ p e below s₁ (mkF m 13 #[oI p0_, oI p1_, oI p2_, oI p3_, oI p4_, oI p5_, oI k1_, .unset, .unset, .unset, .unset, .unset, .unset, .unset, .unset, .unset] [(.int ((1 : Int32) + (p1_ &&& (31 : Int32))))]) _
   rw [hf1]
   refine XS.istore X0.here hx rfl (hb hby at_13) rfl (l' := #[oI p0_, oI p1_, oI p2_, oI p3_, oI p4_, oI p5_, oI k1_, oI k2_, .unset, .unset, .unset, .unset, .unset, .unset, .unset, .unset]) rfl ?_
   refine XS.iconst X0.here hx rfl (hb hby at_15) ?_
   refine XS.iloadN X0.here hx rfl (hb hby at_16) rfl ?_
   refine X0.ldcInt hx hown (mvT hZ (oW hw 0 rfl)) (g := (mkF m 17 #[oI p0_, oI p1_, oI p2_, oI p3_, oI p4_, oI p5_, oI k1_, oI k2_, .unset, .unset, .unset, .unset, .unset, .unset, .unset, .unset] [(.int p2_), (.int 1)])) rfl (hb hby at_17) _ ?_
   refine XS.iand X0.here hx rfl (hb hby at_19) rfl ?_
   refine XS.iload X0.here hx rfl (hb hby at_20) rfl ?_
   refine iremM X0 hx rfl (hb hby at_22) rfl hf2 ?_
   refine XS.iadd X0.here hx rfl (hb hby at_23) rfl ?_
   show oZ p e below s₁ (mkF m 24 #[oI p0_, oI p1_, oI p2_, oI p3_, oI p4_, oI p5_, oI k1_, oI k2_, .unset, .unset, .unset, .unset, .unset, .unset, .unset, .unset] [(.int ((1 : Int32) + ((p2_ &&& (2147483647 : Int32)) % k2_)))]) _
   rw [hf3]
   refine XS.istore X0.here hx rfl (hb hby at_24) rfl (l' := #[oI p0_, oI p1_, oI p2_, oI p3_, oI p4_, oI p5_, oI k1_, oI k2_, oI k3_, .unset, .unset, .unset, .unset, .unset, .unset, .unset]) rfl ?_
   refine XS.iloadN X0.here hx rfl (hb hby at_26) rfl ?_
   refine X0.ldcInt hx hown (mvT hZ (oW hw 0 rfl)) (g := (mkF m 27 #[oI p0_, oI p1_, oI p2_, oI p3_, oI p4_, oI p5_, oI k1_, oI k2_, oI k3_, .unset, .unset, .unset, .unset, .unset, .unset, .unset] [(.int p3_)])) rfl (hb hby at_27) _ ?_
   refine XS.iand X0.here hx rfl (hb hby at_29) rfl ?_
   show oZ p e below s₁ (mkF m 30 #[oI p0_, oI p1_, oI p2_, oI p3_, oI p4_, oI p5_, oI k1_, oI k2_, oI k3_, .unset, .unset, .unset, .unset, .unset, .unset, .unset] [(.int (p3_ &&& (2147483647 : Int32)))]) _
   rw [hf4]
   refine XS.istore X0.here hx rfl (hb hby at_30) rfl (l' := #[oI p0_, oI p1_, oI p2_, oI p3_, oI p4_, oI p5_, oI k1_, oI k2_, oI k3_, oI k4_, .unset, .unset, .unset, .unset, .unset, .unset]) rfl ?_
   refine XS.iload X0.here hx rfl (hb hby at_32) rfl ?_
   refine XS.ifNo X0.here hx rfl (hb hby at_34) rfl ((if0 _ _).trans (teq hf5).2) ?_
   refine XS.iconst X0.here hx rfl (hb hby at_37) ?_
   refine XS.goto X0.here hx rfl (pc0 := 38) (pc' := 43) rfl (hb hby at_38) (by decide) (by decide) ?_
   refine XS.istore X0.here hx rfl (hb hby at_43) rfl (l' := #[oI p0_, oI p1_, oI p2_, oI p3_, oI p4_, oI p5_, oI k1_, oI k2_, oI k3_, oI k4_, oI 1, .unset, .unset, .unset, .unset, .unset]) rfl ?_
   refine XS.iconst X0.here hx rfl (hb hby at_45) ?_
   refine XS.iload X0.here hx rfl (hb hby at_46) rfl ?_
   refine XS.bipush X0.here hx rfl (hb hby at_48) ?_
   refine XS.iand X0.here hx rfl (hb hby at_50) rfl ?_
   show oZ p e below s₁ (mkF m 51 #[oI p0_, oI p1_, oI p2_, oI p3_, oI p4_, oI p5_, oI k1_, oI k2_, oI k3_, oI k4_, oI 1, .unset, .unset, .unset, .unset, .unset] [(.int (p5_ &&& (7 : Int32))), (.int 1)]) _
   refine XS.iadd X0.here hx rfl (hb hby at_51) rfl ?_
   show oZ p e below s₁ (mkF m 52 #[oI p0_, oI p1_, oI p2_, oI p3_, oI p4_, oI p5_, oI k1_, oI k2_, oI k3_, oI k4_, oI 1, .unset, .unset, .unset, .unset, .unset] [(.int ((1 : Int32) + (p5_ &&& (7 : Int32))))]) _
   rw [hf6]
   refine XS.istore X0.here hx rfl (hb hby at_52) rfl (l' := #[oI p0_, oI p1_, oI p2_, oI p3_, oI p4_, oI p5_, oI k1_, oI k2_, oI k3_, oI k4_, oI 1, oI k6_, .unset, .unset, .unset, .unset]) rfl ?_
   refine XS.iload X0.here hx rfl (hb hby at_54) rfl ?_
   refine XS.iload X0.here hx rfl (hb hby at_56) rfl ?_
   refine XS.bipush X0.here hx rfl (hb hby at_58) ?_
   refine XS.iand X0.here hx rfl (hb hby at_60) rfl ?_
   refine XS.iadd X0.here hx rfl (hb hby at_61) rfl ?_
   show oZ p e below s₁ (mkF m 62 #[oI p0_, oI p1_, oI p2_, oI p3_, oI p4_, oI p5_, oI k1_, oI k2_, oI k3_, oI k4_, oI 1, oI k6_, .unset, .unset, .unset, .unset] [(.int (k6_ + (p4_ &&& (31 : Int32))))]) _
   rw [hf7]
   refine XS.istore X0.here hx rfl (hb hby at_62) rfl (l' := #[oI p0_, oI p1_, oI p2_, oI p3_, oI p4_, oI p5_, oI k1_, oI k2_, oI k3_, oI k4_, oI 1, oI k6_, oI k5_, .unset, .unset, .unset]) rfl ?_
   refine st1 _ ?_
   refine XS.dup X1.here hx rfl (hb hby at_67) rfl rfl ?_
   refine XS.iload X1.here hx rfl (hb hby at_68) rfl ?_
   refine XS.iload X1.here hx rfl (hb hby at_70) rfl ?_
   refine XS.iload X1.here hx rfl (hb hby at_72) rfl ?_
   refine XS.iload X1.here hx rfl (hb hby at_74) rfl ?_
   refine XS.iload X1.here hx rfl (hb hby at_76) rfl ?_
   refine XS.iload X1.here hx rfl (hb hby at_78) rfl ?_
   refine st2.trans ?_
   show oZ p e below T2 (mkF m 83 #[oI p0_, oI p1_, oI p2_, oI p3_, oI p4_, oI p5_, oI k1_, oI k2_, oI k3_, oI k4_, oI 1, oI k6_, oI k5_, .unset, .unset, .unset] [(.ref b1)]) _
   refine XS.astore X2.here hx rfl (hb hby at_83) rfl rfl (l' := #[oI p0_, oI p1_, oI p2_, oI p3_, oI p4_, oI p5_, oI k1_, oI k2_, oI k3_, oI k4_, oI 1, oI k6_, oI k5_, oA b1, .unset, .unset]) rfl ?_
   refine XS.aload X2.here hx rfl (hb hby at_85) rfl rfl ?_
   refine st8.trans ?_
   refine XS.lstore X8.here hx rfl (hb hby at_90) rfl (l' := #[oI p0_, oI p1_, oI p2_, oI p3_, oI p4_, oI p5_, oI k1_, oI k2_, oI k3_, oI k4_, oI 1, oI k6_, oI k5_, oA b1, oJ (((1 : Int32).toInt64) * (k6_.toInt64)), .second]) rfl ?_
   refine XS.lload X8.here hx rfl (hb hby at_92) rfl ?_
   refine XS.lconst X8.here hx rfl (hb hby at_94) ?_
   show oZ p e below T8 (mkF m 95 #[oI p0_, oI p1_, oI p2_, oI p3_, oI p4_, oI p5_, oI k1_, oI k2_, oI k3_, oI k4_, oI 1, oI k6_, oI k5_, oA b1, oJ (((1 : Int32).toInt64) * (k6_.toInt64)), .second] [(.long 0), (.long (((1 : Int32).toInt64) * (k6_.toInt64)))]) _
   refine XS.lcmp X8.here hx rfl (hb hby at_95) rfl ?_
   refine XS.ifNo X8.here hx rfl (hb hby at_96) rfl ((if0 _ _).trans (tlt hf11).2.2.2) ?_
   refine XS.lload X8.here hx rfl (hb hby at_99) rfl ?_
   refine XS.iload X8.here hx rfl (hb hby at_101) rfl ?_
   refine XS.i2l X8.here hx rfl (hb hby at_103) rfl ?_
   show oZ p e below T8 (mkF m 104 #[oI p0_, oI p1_, oI p2_, oI p3_, oI p4_, oI p5_, oI k1_, oI k2_, oI k3_, oI k4_, oI 1, oI k6_, oI k5_, oA b1, oJ (((1 : Int32).toInt64) * (k6_.toInt64)), .second] [(.long ((1 : Int32).toInt64)), (.long (((1 : Int32).toInt64) * (k6_.toInt64)))]) _
   rw [(by decide +kernel : ((1 : Int32).toInt64) = (1 : Int64))]
   refine XS.ldiv X8.here hx rfl (hb hby at_104) rfl (by decide +kernel) ?_
   refine XS.iload X8.here hx rfl (hb hby at_105) rfl ?_
   refine XS.i2l X8.here hx rfl (hb hby at_107) rfl ?_
   refine XS.lcmp X8.here hx rfl (hb hby at_108) rfl ?_
   refine XS.ifNo X8.here hx rfl (hb hby at_109) rfl ((if0 _ _).trans (teq hf12).2) ?_
   refine XS.lload X8.here hx rfl (hb hby at_112) rfl ?_
   refine XS.iload X8.here hx rfl (hb hby at_114) rfl ?_
   refine XS.i2l X8.here hx rfl (hb hby at_116) rfl ?_
   show oZ p e below T8 (mkF m 117 #[oI p0_, oI p1_, oI p2_, oI p3_, oI p4_, oI p5_, oI k1_, oI k2_, oI k3_, oI k4_, oI 1, oI k6_, oI k5_, oA b1, oJ (((1 : Int32).toInt64) * (k6_.toInt64)), .second] [(.long ((1 : Int32).toInt64)), (.long (((1 : Int32).toInt64) * (k6_.toInt64)))]) _
   rw [(by decide +kernel : ((1 : Int32).toInt64) = (1 : Int64))]
   refine XS.lrem X8.here hx rfl (hb hby at_117) rfl (by decide +kernel) ?_
   refine XS.lconst X8.here hx rfl (hb hby at_118) ?_
   show oZ p e below T8 (mkF m 119 #[oI p0_, oI p1_, oI p2_, oI p3_, oI p4_, oI p5_, oI k1_, oI k2_, oI k3_, oI k4_, oI 1, oI k6_, oI k5_, oA b1, oJ (((1 : Int32).toInt64) * (k6_.toInt64)), .second] [(.long 0), (.long ((((1 : Int32).toInt64) * (k6_.toInt64)) - ((((1 : Int32).toInt64) * (k6_.toInt64)) / (1 : Int64)) * (1 : Int64)))]) _
   refine XS.lcmp X8.here hx rfl (hb hby at_119) rfl ?_
   refine XS.ifNo X8.here hx rfl (hb hby at_120) rfl ((if0 _ _).trans (teq hf13).2) ?_
   refine XS.iconst X8.here hx rfl (hb hby at_123) ?_
   refine XS.goto X8.here hx rfl (pc0 := 124) (pc' := 128) rfl (hb hby at_124) (by decide) (by decide) ?_
   show oZ p e below T8 (mkF m 128 #[oI p0_, oI p1_, oI p2_, oI p3_, oI p4_, oI p5_, oI k1_, oI k2_, oI k3_, oI k4_, oI 1, oI k6_, oI k5_, oA b1, oJ (((1 : Int32).toInt64) * (k6_.toInt64)), .second] [(.int 1)]) _
   exact retN X8 hx (t := .boolean) Bd.returns (by simp) (hb hby at_128) hr
 · show uM n0 _ T8.heap _
   exact ⟨rfl, N8⟩
theorem aT6 (l : Launch) (Z : State) (a0 : Array Value) (hw : oH a0 Z) (ws : List Jvm.Cond) (p0_ : Int32) (p1_ : Int32) (p2_ : Int32) (p3_ : Int32) (p4_ : Int32) (p5_ : Int32) (k1_ : Int32) (k2_ : Int32) (k3_ : Int32) (k4_ : Int32) (k6_ : Int32) (k5_ : Int32) (w_START_ROWS : Addr) (n_w_START_ROWS : Int32) (vs_w_START_ROWS : List Int32) (w_NONE : Addr) (n_w_NONE : Int32) (h0 : Heap) (n0 : Nat) (Z0 : n0 ≤ h0.size) (S_START_ROWS : Sta Z h0 oC0 "START_ROWS" "[I" (.ref w_START_ROWS)) (A_w_START_ROWS : bB Z h0 w_START_ROWS n_w_START_ROWS vs_w_START_ROWS) (S__assertionsDisabled : Sta Z h0 oC3 "$assertionsDisabled" "Z" (.int 1)) (S_NONE : Sta Z h0 oC4 "NONE" "[I" (.ref w_NONE)) (A_w_NONE : bC Z h0 w_NONE n_w_NONE) (hf0 : ((1 : Int32) + (p0_ &&& (1 : Int32))) = k1_) (hf1 : ((1 : Int32) + (p1_ &&& (31 : Int32))) = k2_) (hf2 : ¬ (k2_ = (0 : Int32))) (hf3 : ((1 : Int32) + ((p2_ &&& (2147483647 : Int32)) % k2_)) = k3_) (hf4 : (p3_ &&& (2147483647 : Int32)) = k4_) (hf5 : ¬ (k4_ = (0 : Int32))) (hf6 : ((1 : Int32) + (p5_ &&& (7 : Int32))) = k6_) (hf7 : (k6_ + (p4_ &&& (31 : Int32))) = k5_) (hf8 : n_w_START_ROWS = (10 : Int32)) (hf9 : vs_w_START_ROWS = ([0, 8, 2, 4, 6, 1, 9, 5, 3, 7] : List Int32)) (hf10 : pH k1_ k2_ k3_ k4_ k5_ k6_) (hf11 : (0 : Int32) < (lcmpW ((k4_.toInt64) * (k6_.toInt64)) (0 : Int64))) (hf12 : ¬ ((k4_.toInt64) = (0 : Int64))) (hf13 : (lcmpW (((k4_.toInt64) * (k6_.toInt64)) / (k4_.toInt64)) (k6_.toInt64)) = (0 : Int32)) (hf14 : (lcmpW (((k4_.toInt64) * (k6_.toInt64)) - (((k4_.toInt64) * (k6_.toInt64)) / (k4_.toInt64)) * (k4_.toInt64)) (0 : Int64)) = (0 : Int32)) :
   MetFree l x (head1 (Jvm.Cond.code x code maxLocals ret :: ws) room_1) (fun a U => a = #[(.int p0_), (.int p1_), (.int p2_), (.int p3_), (.int p4_), (.int p5_)] ∧ Z.Warmed39 U.vm ∧ U.heap = h0) (fun _ _ _ _ _ => True) (fun _ U o U' => ∃ v L, o = .returned v ∧ uM n0 v U'.heap L ∧ FrameEnd U o U' L room_1.cells room_1.slots) := by
 refine MetFree.of_bodySF (plainFor_of_name aE7) hisR ?_
 intro p e s m args below meth c s₁ Bd hml0 hP hK
 obtain ⟨rfl, hZ, hh⟩ := hP
 have hx := Bd.exec
 have hby := Bd.bytes
 have hml : c.maxLocals = 16 := hml0
 have hown : s.vm.findClass "com/example/narrows/narrows/ChurnConnectionsAfterPinLaw" = some m.cls := findClass_of_methodNamed Bd.named
 have hnm := (name_of_methodNamed Bd.named Bd.method).1
 have X0 : Stand p l e room_1 s m #[(.int p0_), (.int p1_), (.int p2_), (.int p3_), (.int p4_), (.int p5_)] below meth c s₁ [] 0 0 := Stand.of_body Bd
 have e0 : s₁.heap = h0 := by rw [← hh, Bd.state]; rfl
 have N0 := Fr.nil n0
 obtain ⟨T1, h1, X1, e1, E1, A1, D1, -, st1⟩ := newO X0 hx hZ hown (oW hw 1 rfl) (oW hw 2 rfl) (oW hw 3 rfl) e0 (g := (mkF m 64 #[oI p0_, oI p1_, oI p2_, oI p3_, oI p4_, oI p5_, oI k1_, oI k2_, oI k3_, oI k4_, oI k4_, oI k6_, oI k5_, .unset, .unset, .unset] [])) rfl (hb hby at_64) (by decide) (by decide)
 obtain ⟨b1, g1⟩ : ∃ z, z = h0.size := ⟨_, rfl⟩
 rw [← g1] at A1 D1 st1
 have lA : h0.size ≤ b1 := Nat.le_of_eq g1.symm
 have bK : h0.size ≤ b1 := Nat.le_trans (Keep.refl h0 []).1 lA
 have g_b1 : n0 ≤ b1 := Nat.le_trans Z0 bK
 have K1 : Keep h0 h1 [] := (Keep.refl h0 []).ext E1
 have rG : Fld Z h1 b1 oC2 "clients" "I" (.int 0) := D1 (Or.inr (oW hw 39 rfl)) (ty := .int) (by decide)
 have pI : Fld Z h1 b1 oC2 "backends" "I" (.int 0) := D1 (Or.inr (oW hw 41 rfl)) (ty := .int) (by decide)
 have mC : Fld Z h1 b1 oC2 "subsetSize" "I" (.int 0) := D1 (Or.inr (oW hw 43 rfl)) (ty := .int) (by decide)
 have nJ : Fld Z h1 b1 oC2 "toClients" "I" (.int 0) := D1 (Or.inr (oW hw 45 rfl)) (ty := .int) (by decide)
 have mD : Fld Z h1 b1 oC2 "toBackends" "I" (.int 0) := D1 (Or.inr (oW hw 47 rfl)) (ty := .int) (by decide)
 have kG : Fld Z h1 b1 oC2 "toSubsetSize" "I" (.int 0) := D1 (Or.inr (oW hw 49 rfl)) (ty := .int) (by decide)
 have pJ : Fld Z h1 b1 oC2 "replaced" "J" (.long 0) := D1 (Or.inr (oW hw 250 rfl)) (ty := .long) (by decide)
 have gB : Fld Z h1 b1 oC2 "mostReplacedByOneClient" "I" (.int 0) := D1 (Or.inr (oW hw 252 rfl)) (ty := .int) (by decide)
 have iN : Fld Z h1 b1 oC2 "whollyNewSubsets" "I" (.int 0) := D1 (Or.inr (oW hw 254 rfl)) (ty := .int) (by decide)
 have dC := (S_START_ROWS.ext E1)
 have kH := (A_w_START_ROWS.ext E1)
 have cL := (S__assertionsDisabled.ext E1)
 have fS := (S_NONE.ext E1)
 have tK := (A_w_NONE.ext E1)
 obtain ⟨_, _, ⟨T2, L2, k2, n2⟩, -, X2, ⟨Lc2, hQ2, l2, y2, z2⟩, st2⟩ := X1.specialBack hx (y := oM23) rfl hown (mvT hZ (oW hw 4 rfl)) (mvT hZ (oW hw 5 rfl)) (mvT hZ (oW hw 6 rfl)) (by decide) (backOf (W := 1) (aG3 l Z a0 hw [] b1 k1_ k2_ k3_ k4_ k5_ k6_ w_START_ROWS w_NONE n_w_START_ROWS n_w_NONE vs_w_START_ROWS (.int 0) (.int 0) (.int 0) (.int 0) (.int 0) (.int 0) (.long 0) (.int 0) (.int 0) h1 n0 (Nat.le_trans Z0 K1.1) A1 rG pI mC nJ mD kG pJ gB iN g_b1 dC kH cL fS tK hf8 hf9 (oV A_w_START_ROWS.lt bK) (oV A_w_NONE.lt bK) hf10) hZ (oW hw 6 rfl) (oW hw 3 rfl) (by decide) (by decide)) (g := (mkF m 80 #[oI p0_, oI p1_, oI p2_, oI p3_, oI p4_, oI p5_, oI k1_, oI k2_, oI k3_, oI k4_, oI k4_, oI k6_, oI k5_, .unset, .unset, .unset] [(.int k6_), (.int k5_), (.int k4_), (.int k3_), (.int k2_), (.int k1_), (.ref b1), (.ref b1)])) rfl (by rw [hml]; rfl) (Steps.refl _) (a := b1) (argsL := [(.int k1_), (.int k2_), (.int k3_), (.int k4_), (.int k5_), (.int k6_)]) (rest := [(.ref b1)]) (lenOf zI rfl) rfl (by show 2 * 0 + _ ≤ _; exact Nat.le_of_eq rfl) (hb hby at_80) (fun _ _ => ⟨rfl, e1, (by decide : 1 + 484 ≤ _), (by decide : 9 + 2966 ≤ _)⟩)
 dsimp only [Pt.U, Pt.locs, Pt.cells, Pt.slots] at X2 l2 y2 z2 st2 hQ2
 subst l2 y2 z2
 obtain ⟨rfl, N2q, Kq2, Q2_0, xB, aM3⟩ := hQ2
 have N2 := Fr.app N0 N2q
 have K2 : Keep h0 T2.heap [] := K1.trans Kq2 (bJ (Or.inr bK))
 obtain ⟨cq8, kq8, q8a, q8b, q8c⟩ := isOf hZ rfl Q2_0
 obtain ⟨_, _, ⟨T8, L8, k8, n8⟩, -, X8, ⟨Lc8, hQ8, l8, y8, z8⟩, st8⟩ := X2.virtualBack hx (y := oM11) (z := oM11) hown (mvT hZ (oW hw 255 rfl)) (mvT hZ (oW hw 256 rfl)) (notFace_of_selects (args := #[]) (mvT hZ (oW hw 258 rfl))) (mvT hZ (oW hw 258 rfl)) (mvT hZ (oW hw 257 rfl)) (by decide) (backOf (W := 0) (xZ l Z a0 hw [] b1 k4_ k6_ T2.heap n0 (Nat.le_trans Z0 K2.1) xB aM3) hZ (oW hw 259 rfl) (oW hw 3 rfl) (by decide) (by decide)) q8a q8c (g := (mkF m 87 #[oI p0_, oI p1_, oI p2_, oI p3_, oI p4_, oI p5_, oI k1_, oI k2_, oI k3_, oI k4_, oI k4_, oI k6_, oI k5_, oA b1, .unset, .unset] [(.ref b1)])) rfl (by rw [hml]; rfl) (Steps.refl _) (argsL := []) (rest := []) (lenOf uI rfl) rfl (by show 2 * 0 + _ ≤ _; exact Nat.le_of_eq rfl) (hb hby at_87) (fun _ _ => ⟨rfl, rfl, (by decide : 485 + 0 ≤ _), (by decide : 2975 + 0 ≤ _)⟩)
 dsimp only [Pt.U, Pt.locs, Pt.cells, Pt.slots] at X8 l8 y8 z8 st8 hQ8
 subst l8 y8 z8
 obtain ⟨rfl, N8q, e8⟩ := hQ8
 have N8 := Fr.app N2 N8q
 obtain ⟨fs, hr, hrun, hended, hW, hsame⟩ := X8.leave (v := some (.int 1)) (fun h => by rw [Bd.returns] at h; cases h)
 refine ⟨_, _, castTop (zV m p0_ p1_ p2_ p3_ p4_ p5_) ?_, hrun, hended, _, _, rfl, ?_, ⟨_, rfl⟩, hW, (hsame.mono (by decide) (by decide))⟩
 · show oZ p e below s₁ (mkF m 0 #[oI p0_, oI p1_, oI p2_, oI p3_, oI p4_, oI p5_, .unset, .unset, .unset, .unset, .unset, .unset, .unset, .unset, .unset, .unset] []) _
   refine XS.iconst X0.here hx rfl (hb hby at_0) ?_
   refine XS.iloadN X0.here hx rfl (hb hby at_1) rfl ?_
   refine XS.iconst X0.here hx rfl (hb hby at_2) ?_
   refine XS.iand X0.here hx rfl (hb hby at_3) rfl ?_
   refine XS.iadd X0.here hx rfl (hb hby at_4) rfl ?_
   show oZ p e below s₁ (mkF m 5 #[oI p0_, oI p1_, oI p2_, oI p3_, oI p4_, oI p5_, .unset, .unset, .unset, .unset, .unset, .unset, .unset, .unset, .unset, .unset] [(.int ((1 : Int32) + (p0_ &&& (1 : Int32))))]) _
   rw [hf0]
   refine XS.istore X0.here hx rfl (hb hby at_5) rfl (l' := #[oI p0_, oI p1_, oI p2_, oI p3_, oI p4_, oI p5_, oI k1_, .unset, .unset, .unset, .unset, .unset, .unset, .unset, .unset, .unset]) rfl ?_
   refine XS.iconst X0.here hx rfl (hb hby at_7) ?_
   refine XS.iloadN X0.here hx rfl (hb hby at_8) rfl ?_
   refine XS.bipush X0.here hx rfl (hb hby at_9) ?_
   refine XS.iand X0.here hx rfl (hb hby at_11) rfl ?_
   refine XS.iadd X0.here hx rfl (hb hby at_12) rfl ?_
   show oZ p e below s₁ (mkF m 13 #[oI p0_, oI p1_, oI p2_, oI p3_, oI p4_, oI p5_, oI k1_, .unset, .unset, .unset, .unset, .unset, .unset, .unset, .unset, .unset] [(.int ((1 : Int32) + (p1_ &&& (31 : Int32))))]) _
   rw [hf1]
   refine XS.istore X0.here hx rfl (hb hby at_13) rfl (l' := #[oI p0_, oI p1_, oI p2_, oI p3_, oI p4_, oI p5_, oI k1_, oI k2_, .unset, .unset, .unset, .unset, .unset, .unset, .unset, .unset]) rfl ?_
   refine XS.iconst X0.here hx rfl (hb hby at_15) ?_
   refine XS.iloadN X0.here hx rfl (hb hby at_16) rfl ?_
   refine X0.ldcInt hx hown (mvT hZ (oW hw 0 rfl)) (g := (mkF m 17 #[oI p0_, oI p1_, oI p2_, oI p3_, oI p4_, oI p5_, oI k1_, oI k2_, .unset, .unset, .unset, .unset, .unset, .unset, .unset, .unset] [(.int p2_), (.int 1)])) rfl (hb hby at_17) _ ?_
   refine XS.iand X0.here hx rfl (hb hby at_19) rfl ?_
   refine XS.iload X0.here hx rfl (hb hby at_20) rfl ?_
   refine iremM X0 hx rfl (hb hby at_22) rfl hf2 ?_
   refine XS.iadd X0.here hx rfl (hb hby at_23) rfl ?_
   show oZ p e below s₁ (mkF m 24 #[oI p0_, oI p1_, oI p2_, oI p3_, oI p4_, oI p5_, oI k1_, oI k2_, .unset, .unset, .unset, .unset, .unset, .unset, .unset, .unset] [(.int ((1 : Int32) + ((p2_ &&& (2147483647 : Int32)) % k2_)))]) _
   rw [hf3]
   refine XS.istore X0.here hx rfl (hb hby at_24) rfl (l' := #[oI p0_, oI p1_, oI p2_, oI p3_, oI p4_, oI p5_, oI k1_, oI k2_, oI k3_, .unset, .unset, .unset, .unset, .unset, .unset, .unset]) rfl ?_
   refine XS.iloadN X0.here hx rfl (hb hby at_26) rfl ?_
   refine X0.ldcInt hx hown (mvT hZ (oW hw 0 rfl)) (g := (mkF m 27 #[oI p0_, oI p1_, oI p2_, oI p3_, oI p4_, oI p5_, oI k1_, oI k2_, oI k3_, .unset, .unset, .unset, .unset, .unset, .unset, .unset] [(.int p3_)])) rfl (hb hby at_27) _ ?_
   refine XS.iand X0.here hx rfl (hb hby at_29) rfl ?_
   show oZ p e below s₁ (mkF m 30 #[oI p0_, oI p1_, oI p2_, oI p3_, oI p4_, oI p5_, oI k1_, oI k2_, oI k3_, .unset, .unset, .unset, .unset, .unset, .unset, .unset] [(.int (p3_ &&& (2147483647 : Int32)))]) _
   rw [hf4]
   refine XS.istore X0.here hx rfl (hb hby at_30) rfl (l' := #[oI p0_, oI p1_, oI p2_, oI p3_, oI p4_, oI p5_, oI k1_, oI k2_, oI k3_, oI k4_, .unset, .unset, .unset, .unset, .unset, .unset]) rfl ?_
   refine XS.iload X0.here hx rfl (hb hby at_32) rfl ?_
   refine XS.ifYes X0.here hx rfl (pc0 := 34) (pc' := 41) rfl (hb hby at_34) rfl ((if0 _ _).trans (feq hf5).2) (by decide) (by decide) ?_
   refine XS.iload X0.here hx rfl (hb hby at_41) rfl ?_
   refine XS.istore X0.here hx rfl (hb hby at_43) rfl (l' := #[oI p0_, oI p1_, oI p2_, oI p3_, oI p4_, oI p5_, oI k1_, oI k2_, oI k3_, oI k4_, oI k4_, .unset, .unset, .unset, .unset, .unset]) rfl ?_
   refine XS.iconst X0.here hx rfl (hb hby at_45) ?_
   refine XS.iload X0.here hx rfl (hb hby at_46) rfl ?_
   refine XS.bipush X0.here hx rfl (hb hby at_48) ?_
   refine XS.iand X0.here hx rfl (hb hby at_50) rfl ?_
   refine XS.iadd X0.here hx rfl (hb hby at_51) rfl ?_
   show oZ p e below s₁ (mkF m 52 #[oI p0_, oI p1_, oI p2_, oI p3_, oI p4_, oI p5_, oI k1_, oI k2_, oI k3_, oI k4_, oI k4_, .unset, .unset, .unset, .unset, .unset] [(.int ((1 : Int32) + (p5_ &&& (7 : Int32))))]) _
   rw [hf6]
   refine XS.istore X0.here hx rfl (hb hby at_52) rfl (l' := #[oI p0_, oI p1_, oI p2_, oI p3_, oI p4_, oI p5_, oI k1_, oI k2_, oI k3_, oI k4_, oI k4_, oI k6_, .unset, .unset, .unset, .unset]) rfl ?_
   refine XS.iload X0.here hx rfl (hb hby at_54) rfl ?_
   refine XS.iload X0.here hx rfl (hb hby at_56) rfl ?_
   refine XS.bipush X0.here hx rfl (hb hby at_58) ?_
   refine XS.iand X0.here hx rfl (hb hby at_60) rfl ?_
   refine XS.iadd X0.here hx rfl (hb hby at_61) rfl ?_
   show oZ p e below s₁ (mkF m 62 #[oI p0_, oI p1_, oI p2_, oI p3_, oI p4_, oI p5_, oI k1_, oI k2_, oI k3_, oI k4_, oI k4_, oI k6_, .unset, .unset, .unset, .unset] [(.int (k6_ + (p4_ &&& (31 : Int32))))]) _
   rw [hf7]
   refine XS.istore X0.here hx rfl (hb hby at_62) rfl (l' := #[oI p0_, oI p1_, oI p2_, oI p3_, oI p4_, oI p5_, oI k1_, oI k2_, oI k3_, oI k4_, oI k4_, oI k6_, oI k5_, .unset, .unset, .unset]) rfl ?_
   refine st1 _ ?_
   refine XS.dup X1.here hx rfl (hb hby at_67) rfl rfl ?_
   refine XS.iload X1.here hx rfl (hb hby at_68) rfl ?_
   refine XS.iload X1.here hx rfl (hb hby at_70) rfl ?_
   refine XS.iload X1.here hx rfl (hb hby at_72) rfl ?_
   refine XS.iload X1.here hx rfl (hb hby at_74) rfl ?_
   refine XS.iload X1.here hx rfl (hb hby at_76) rfl ?_
   refine XS.iload X1.here hx rfl (hb hby at_78) rfl ?_
   refine st2.trans ?_
   show oZ p e below T2 (mkF m 83 #[oI p0_, oI p1_, oI p2_, oI p3_, oI p4_, oI p5_, oI k1_, oI k2_, oI k3_, oI k4_, oI k4_, oI k6_, oI k5_, .unset, .unset, .unset] [(.ref b1)]) _
   refine XS.astore X2.here hx rfl (hb hby at_83) rfl rfl (l' := #[oI p0_, oI p1_, oI p2_, oI p3_, oI p4_, oI p5_, oI k1_, oI k2_, oI k3_, oI k4_, oI k4_, oI k6_, oI k5_, oA b1, .unset, .unset]) rfl ?_
   refine XS.aload X2.here hx rfl (hb hby at_85) rfl rfl ?_
   refine st8.trans ?_
   refine XS.lstore X8.here hx rfl (hb hby at_90) rfl (l' := #[oI p0_, oI p1_, oI p2_, oI p3_, oI p4_, oI p5_, oI k1_, oI k2_, oI k3_, oI k4_, oI k4_, oI k6_, oI k5_, oA b1, oJ ((k4_.toInt64) * (k6_.toInt64)), .second]) rfl ?_
   refine XS.lload X8.here hx rfl (hb hby at_92) rfl ?_
   refine XS.lconst X8.here hx rfl (hb hby at_94) ?_
   show oZ p e below T8 (mkF m 95 #[oI p0_, oI p1_, oI p2_, oI p3_, oI p4_, oI p5_, oI k1_, oI k2_, oI k3_, oI k4_, oI k4_, oI k6_, oI k5_, oA b1, oJ ((k4_.toInt64) * (k6_.toInt64)), .second] [(.long 0), (.long ((k4_.toInt64) * (k6_.toInt64)))]) _
   refine XS.lcmp X8.here hx rfl (hb hby at_95) rfl ?_
   refine XS.ifNo X8.here hx rfl (hb hby at_96) rfl ((if0 _ _).trans (tlt hf11).2.2.2) ?_
   refine XS.lload X8.here hx rfl (hb hby at_99) rfl ?_
   refine XS.iload X8.here hx rfl (hb hby at_101) rfl ?_
   refine XS.i2l X8.here hx rfl (hb hby at_103) rfl ?_
   refine XS.ldiv X8.here hx rfl (hb hby at_104) rfl hf12 ?_
   refine XS.iload X8.here hx rfl (hb hby at_105) rfl ?_
   refine XS.i2l X8.here hx rfl (hb hby at_107) rfl ?_
   refine XS.lcmp X8.here hx rfl (hb hby at_108) rfl ?_
   refine XS.ifNo X8.here hx rfl (hb hby at_109) rfl ((if0 _ _).trans (teq hf13).2) ?_
   refine XS.lload X8.here hx rfl (hb hby at_112) rfl ?_
   show oZ p e below T8 (mkF m 114 #[oI p0_, oI p1_, oI p2_, oI p3_, oI p4_, oI p5_, oI k1_, oI k2_, oI k3_, oI k4_, oI k4_, oI k6_, oI k5_, oA b1, oJ ((k4_.toInt64) * (k6_.toInt64)), .second] [(.long ((k4_.toInt64) * (k6_.toInt64)))]) _
   refine XS.iload X8.here hx rfl (hb hby at_114) rfl ?_
   refine XS.i2l X8.here hx rfl (hb hby at_116) rfl ?_
   refine XS.lrem X8.here hx rfl (hb hby at_117) rfl hf12 ?_
   refine XS.lconst X8.here hx rfl (hb hby at_118) ?_
   show oZ p e below T8 (mkF m 119 #[oI p0_, oI p1_, oI p2_, oI p3_, oI p4_, oI p5_, oI k1_, oI k2_, oI k3_, oI k4_, oI k4_, oI k6_, oI k5_, oA b1, oJ ((k4_.toInt64) * (k6_.toInt64)), .second] [(.long 0), (.long (((k4_.toInt64) * (k6_.toInt64)) - (((k4_.toInt64) * (k6_.toInt64)) / (k4_.toInt64)) * (k4_.toInt64)))]) _
   refine XS.lcmp X8.here hx rfl (hb hby at_119) rfl ?_
   refine XS.ifNo X8.here hx rfl (hb hby at_120) rfl ((if0 _ _).trans (teq hf14).2) ?_
   refine XS.iconst X8.here hx rfl (hb hby at_123) ?_
   refine XS.goto X8.here hx rfl (pc0 := 124) (pc' := 128) rfl (hb hby at_124) (by decide) (by decide) ?_
   show oZ p e below T8 (mkF m 128 #[oI p0_, oI p1_, oI p2_, oI p3_, oI p4_, oI p5_, oI k1_, oI k2_, oI k3_, oI k4_, oI k4_, oI k6_, oI k5_, oA b1, oJ ((k4_.toInt64) * (k6_.toInt64)), .second] [(.int 1)]) _
   exact retN X8 hx (t := .boolean) Bd.returns (by simp) (hb hby at_128) hr
 · show uM n0 _ T8.heap _
   exact ⟨rfl, N8⟩
section OwnNumbers
def qH (b : Nat) : Nat := (b - 1) / 10 + 1
def lS (b n : Nat) : Int32 := if b / 10 < n then 0 else 1
def aC1 (b n : Nat) : Nat := 10 * n / b
def wY (b n : Nat) : Nat := if qH b ≤ n + 1 then qH b else n + 1
def zB (b n : Int32) (L : Nat) (ft : Int32) : Decidable (jX b n L ft) := by
 delta jX
 delta wP
 infer_instance
def zC (L c : Nat) : Decidable (gR L c) := by
 delta gR
 infer_instance
def aX7 (b n pl : Int32) (L R calls : Nat) : Decidable (oY b n pl L R calls) := by
 delta oY
 haveI := zC L L
 infer_instance
def aX8 (b n cli : Int32) (L cx : Nat) : Decidable (wI b n cli L cx) := by
 delta wI
 haveI := zC L cx
 infer_instance
def aX9 (b n cli : Int32) (L cx : Nat) : Decidable (wJ b n cli L cx) := by
 delta wJ
 haveI := zC L cx
 infer_instance
def zD (b n cli ft : Int32) (L R cx cl : Nat) : Decidable (iC b n cli ft L R cx cl) := by
 delta iC
 haveI := aX7 b n (cli % (10 : Int32)) L R cl
 haveI := aX8 b n cli L cx
 haveI := aX9 b n cli L cx
 infer_instance
def sS (cl cn b n : Nat) : Bool := @decide _ (zB (Int32.ofNat b) (Int32.ofNat n) (qH b) (lS b n)) && (List.range cn).all fun i => @decide _ (zD (Int32.ofNat b) (Int32.ofNat n) (Int32.ofNat i) (lS b n) (qH b) (aC1 b n) (wY b n) cl)
theorem lT {cl cn b n : Nat} (h : sS cl cn b n = true) : jX (Int32.ofNat b) (Int32.ofNat n) (qH b) (lS b n) ∧ ∀ i, i < cn → iC (Int32.ofNat b) (Int32.ofNat n) (Int32.ofNat i) (lS b n) (qH b) (aC1 b n) (wY b n) cl := by
 obtain ⟨h1, h2⟩ := (Bool.and_eq_true _ _).mp (show (@decide _ (zB (Int32.ofNat b) (Int32.ofNat n) (qH b) (lS b n)) && (List.range cn).all fun i => @decide _ (zD (Int32.ofNat b) (Int32.ofNat n) (Int32.ofNat i) (lS b n) (qH b) (aC1 b n) (wY b n) cl)) = true from h)
 exact ⟨@of_decide_eq_true _ (zB _ _ _ _) h1, fun i hi => @of_decide_eq_true _ (zD _ _ _ _ _ _ _ _) (List.all_eq_true.mp h2 i (List.mem_range.mpr hi))⟩
set_option maxRecDepth 100000 in
theorem aY0 : ∀ b : Fin 32, ∀ n : Fin 32, n.1 ≤ b.1 → sS 79 2 (b.1 + 1) (n.1 + 1) = true := by decide +kernel
set_option maxRecDepth 100000 in
theorem aY1 : ∀ k : Fin 8, ∀ d : Fin 32, sS 29 2 (k.1 + 1 + d.1) (k.1 + 1) = true := by decide +kernel
theorem own_lt1 {x : Int32} (hx : ¬ (x < (1 : Int32))) : ¬ (x < 0) := fun q => hx (by
 rw [Int32.lt_iff_toInt_lt] at q ⊢
 have e1 : (1 : Int32).toInt = 1 := rfl
 have e0 : (0 : Int32).toInt = 0 := rfl
 omega)
theorem yA {x y : Int32} (q : ¬ (y < x)) : x.toNatClampNeg ≤ y.toNatClampNeg := by
 rw [Int32.lt_iff_toInt_lt] at q
 show x.toInt.toNat ≤ y.toInt.toNat
 omega
theorem aY2 {a b : Int32} (ha : ¬ (a < (1 : Int32))) (hb : ¬ (b < (1 : Int32))) : ∃ cnt : Nat, nF a b = Int32.ofNat cnt ∧ cnt ≤ a.toNatClampNeg ∧ cnt ≤ b.toNatClampNeg := by
 by_cases q : b < a
 · exact ⟨b.toNatClampNeg, (show nF a b = b from if_pos q).trans (lJ (own_lt1 hb)), yA (fun r => by rw [Int32.lt_iff_toInt_lt] at q r; omega), Nat.le_refl _⟩
 · exact ⟨a.toNatClampNeg, (show nF a b = a from if_neg q).trans (lJ (own_lt1 ha)), Nat.le_refl _, yA q⟩
theorem bG2 (x : Int32) : ¬ (fR (1 : Int32) x < (1 : Int32)) := by
 by_cases q : (1 : Int32) < x
 · rw [show fR (1 : Int32) x = x from if_pos q]
   intro r
   rw [Int32.lt_iff_toInt_lt] at q r
   omega
 · rw [show fR (1 : Int32) x = 1 from if_neg q]
   decide
theorem aJ5 {k1 k4 : Int32} {b n b' n' : Nat} (h1 : ¬ (k1 < (1 : Int32))) (h4 : ¬ (k4 < (1 : Int32))) (hc : k1.toNatClampNeg ≤ 2) (hn : n ≤ 32) (hn' : n' ≤ 32) (c1 : sS 79 2 b n = true) (c2 : sS 29 2 b' n' = true) : pH k1 (Int32.ofNat b) (Int32.ofNat n) k4 (Int32.ofNat b') (Int32.ofNat n') := by
 obtain ⟨cnt, q1, q2, q3⟩ := aY2 h1 h4
 exact ⟨cnt, qH b, lS b n, aC1 b n, wY b n, qH b', lS b' n', aC1 b' n', wY b' n', h1, h4, (lT c1).1, (lT c2).1, q1, by omega, by rw [eQ (by omega)]; exact hn, by rw [eQ (by omega)]; exact hn', fun i hi => (lT c1).2 i (by omega), fun i hi => (lT c2).2 i (by omega)⟩
theorem sT {x y : Int32} {M : Nat} (h : y.toInt = x.toInt % (M : Int)) (h0 : 0 < M) : ∃ j : Nat, j < M ∧ y = Int32.ofNat j := by
 have h1 := Int.emod_nonneg x.toInt (show (M : Int) ≠ 0 by omega)
 have h2 := Int.emod_lt_of_pos x.toInt (show (0 : Int) < M by omega)
 rw [← h] at h1 h2
 refine ⟨y.toNatClampNeg, ?_, lJ (fun q => ?_)⟩
 · show y.toInt.toNat < M
   omega
 · rw [Int32.lt_iff_toInt_lt] at q
   have e0 : (0 : Int32).toInt = 0 := rfl
   omega
theorem nK (j : Nat) : (1 : Int32) + Int32.ofNat j = Int32.ofNat (j + 1) := by
 rw [Nat.add_comm, Int32.ofNat_add]; rfl
theorem aG4 (x : Int64) : lcmpW x x = 0 := by
 show (if x > x then (1 : Int32) else if x = x then 0 else -1) = 0
 rw [if_neg (fun q => absurd q (by rw [gt_iff_lt, Int64.lt_iff_toInt_lt]; omega)), if_pos rfl]
theorem aG5 {args : Array Value} {s : State} {t : Term} {n : Int32} {a : Addr} {c : Cell} (h : (Term.length t).eval args s none [] s = some (.int n)) (ht : t.eval args s none [] s = some (.ref a)) (hc : s.heap[a]? = some c) : c.slots.size = n.toNatClampNeg ∧ ¬ n < 0 := by
 obtain ⟨a', c', ha', hat, hv⟩ := Term.length_spec h
 cases ht.symm.trans ha'
 cases hc.symm.trans (State.arrayAt?_spec hat).1
 have hl : c.slots.size < 2 ^ 31 := by
   rcases Nat.lt_or_ge c.slots.size (2 ^ 31) with q | q
   · exact q
   · exfalso
     simp [Term.eval, ht, hat, Nat.not_lt.mpr q] at h
 cases hv
 refine ⟨?_, fun q => ?_⟩
 · show _ = (c.slots.size.toInt32).toInt.toNat
   rw [len_toInt hl]; omega
 · rw [Int32.lt_iff_toInt_lt, len_toInt hl] at q
   have e0 : (0 : Int32).toInt = 0 := rfl
   omega
theorem qI {i : Nat} (h0 : 0 < i) (h : i < 2 ^ 31) : ¬ (Int32.ofNat i = (0 : Int32)) := fun q => by
 have e := congrArg Int32.toInt q
 rw [eB h] at e
 have e0 : (0 : Int32).toInt = 0 := rfl
 omega
theorem aT7 {x : Int32} (h : 0 ≤ x.toInt) (r : x < (1 : Int32)) : x = (0 : Int32) := by
 rw [Int32.lt_iff_toInt_lt] at r
 have e1 : (1 : Int32).toInt = 1 := rfl
 have e0 : (0 : Int32).toInt = 0 := rfl
 exact Int32.toInt_inj.mp (by omega)
theorem own_lt1' {x : Int32} (h : ¬ (x < (1 : Int32))) : 0 < x.toInt := by
 rw [Int32.lt_iff_toInt_lt] at h
 have e1 : (1 : Int32).toInt = 1 := rfl
 omega
theorem aY3 {x : Int64} (h : 0 < x.toInt) : (0 : Int32) < lcmpW x (0 : Int64) := by
 show (0 : Int32) < (if x > 0 then (1 : Int32) else if x = 0 then 0 else -1)
 rw [if_pos (show x > 0 by rw [gt_iff_lt, Int64.lt_iff_toInt_lt]; exact h)]
 decide
theorem aG6 {a b : Int64} (ha : 0 < a.toInt) (ha2 : a.toInt < 2 ^ 31) (hb : 0 < b.toInt) (hb2 : b.toInt ≤ 8) : (0 : Int32) < lcmpW (a * b) (0 : Int64) ∧ lcmpW ((a * b) / a) b = (0 : Int32) ∧ lcmpW ((a * b) - ((a * b) / a) * a) (0 : Int64) = (0 : Int32) ∧ ¬ (a = (0 : Int64)) := by
 have p1 : a.toInt * b.toInt ≤ a.toInt * 8 := Int.mul_le_mul_of_nonneg_left hb2 (by omega)
 have p0 : 0 < a.toInt * b.toInt := Int.mul_pos ha hb
 have hm : (a * b).toInt = a.toInt * b.toInt := Jvm.Kit.i64_mul (by omega) (by omega)
 have hd : (a * b) / a = b := by
   apply Int64.toInt_inj.mp
   rw [Jvm.Kit.i64_div (by rintro ⟨-, h⟩; omega), hm, Int.mul_tdiv_cancel_left _ (by omega)]
 refine ⟨aY3 (by rw [hm]; exact p0), by rw [hd]; exact aG4 b, ?_, ?_⟩
 · rw [hd, Int64.mul_comm b a, Int64.sub_self]
   exact aG4 0
 · intro q
   rw [q] at ha
   exact absurd ha (by decide)
theorem aY4 {b a a' : Int64} (e : a' = a) (ha : 0 < a.toInt) (ha2 : a.toInt < 2 ^ 31) (hb : 0 < b.toInt) (hb2 : b.toInt ≤ 8) : (0 : Int32) < lcmpW (a' * b) (0 : Int64) ∧ lcmpW ((a' * b) / a) b = (0 : Int32) ∧ lcmpW ((a' * b) - ((a' * b) / a) * a) (0 : Int64) = (0 : Int32) ∧ ¬ (a = (0 : Int64)) := by
 subst e
 exact aG6 ha ha2 hb hb2
end OwnNumbers

theorem comes_1 {Post : Tables → Env → Array Value → State → Outcome → State → Prop} (hpost : ∀ tb e args s v u, (limb_1_1.after args s (.returned v) u = true ∧ limb_1_2.after args s (.returned v) u = true ∧ True) → FrameEnd s (.returned v) u (Jvm.fieldLocs frame_1_writes args s ++ Jvm.arrayLocs frame_1_arrays args s ++ Jvm.staticLocs frame_1_statics s) 664 3904 → Post tb e args s (.returned v) u) :
   ArmFor flags0 classFile x code maxLocals ret World_1 tables_1 room_1 Calls_1 rest_1 Pre_1 Post := by
 intro l hfl _ _ p e ha hc hk s m args below hf hA hF happ hP
 obtain ⟨hcalls, hrest, hpre⟩ := hP
 obtain ⟨-, -, -, hnamed, -, -, -, hat⟩ := (Spec.applies_iff hf).mp happ
 obtain ⟨hg, hn⟩ := and_e (Cond.before_iff.mp (show (Jvm.Cond.and given_1 narrow_1).before args s = true from hpre))
 obtain ⟨hg0, hgr⟩ := and_e hg
 obtain ⟨ga0, gr0⟩ := and_e hgr
 obtain ⟨ga1, gr1⟩ := and_e gr0
 obtain ⟨ga2, gr2⟩ := and_e gr1
 obtain ⟨ga3, gr3⟩ := and_e gr2
 obtain ⟨ga4, gr4⟩ := and_e gr3
 have ga5 := gr4
 obtain ⟨w0_, w1_, w2_, w3_, w4_, w5_, rfl⟩ : ∃ w0_ w1_ w2_ w3_ w4_ w5_ : Value, args = #[w0_, w1_, w2_, w3_, w4_, w5_] := by
   have hs : args.size = 6 := by simpa [Cond.value, given_1] using hg0
   obtain ⟨L⟩ := args
   match L, hs with
   | [w0_, w1_, w2_, w3_, w4_, w5_], _ => exact ⟨w0_, w1_, w2_, w3_, w4_, w5_, rfl⟩
 have hw := fun d (hd : d ∈ tables_1) => atoms_spec (ws := Jvm.Cond.code x code maxLocals ret :: tables_1) hat d (List.mem_cons_of_mem _ hd)
 obtain ⟨p0_, ei0⟩ := is_v ga0
 obtain rfl : w0_ = (.int p0_) := Option.some.inj ei0
 obtain ⟨p1_, ei1⟩ := is_v ga1
 obtain rfl : w1_ = (.int p1_) := Option.some.inj ei1
 obtain ⟨p2_, ei2⟩ := is_v ga2
 obtain rfl : w2_ = (.int p2_) := Option.some.inj ei2
 obtain ⟨p3_, ei3⟩ := is_v ga3
 obtain rfl : w3_ = (.int p3_) := Option.some.inj ei3
 obtain ⟨p4_, ei4⟩ := is_v ga4
 obtain rfl : w4_ = (.int p4_) := Option.some.inj ei4
 obtain ⟨p5_, ei5⟩ := is_v ga5
 obtain rfl : w5_ = (.int p5_) := Option.some.inj ei5
 obtain ⟨c0, r0⟩ := and_e hn
 obtain ⟨c1, r1⟩ := and_e r0
 obtain ⟨c2, r2⟩ := and_e r1
 obtain ⟨c3, r3⟩ := and_e r2
 obtain ⟨c4, r4⟩ := and_e r3
 obtain ⟨c5, r5⟩ := and_e r4
 obtain ⟨c6, r6⟩ := and_e r5
 obtain ⟨c7, r7⟩ := and_e r6
 obtain ⟨c8, r8⟩ := and_e r7
 obtain ⟨c9, r9⟩ := and_e r8
 obtain ⟨c10, r10⟩ := and_e r9
 obtain ⟨c11, r11⟩ := and_e r10
 obtain ⟨c12, r12⟩ := and_e r11
 have c13 := r12
 obtain ⟨oS, evS⟩ := arr_v c0
 obtain ⟨oN, evN⟩ := arr_v c2
 have S_START := Sta.start evS (Or.inr ⟨(oW hw 12 rfl), (oW hw 134 rfl)⟩)
 have S_NONE := Sta.start evN (Or.inr ⟨(oW hw 218 rfl), (oW hw 234 rfl)⟩)
 obtain ⟨cS, ArS⟩ := Arr.start evS c0
 obtain ⟨cN, ArN⟩ := Arr.start evN c2
 obtain ⟨zS, mS⟩ := aG5 (iE c1) evS ArS.1
 obtain ⟨zN, mN⟩ := aG5 (iE c3) evN ArN.1
 have y0 : cS.slots[0]? = some (.int 0) := (elem_in (iE c4) evS (Term.int_eval (0)) ArS.1).2
 have y1 : cS.slots[1]? = some (.int 8) := (elem_in (iE c5) evS (Term.int_eval (1)) ArS.1).2
 have y2 : cS.slots[2]? = some (.int 2) := (elem_in (iE c6) evS (Term.int_eval (2)) ArS.1).2
 have y3 : cS.slots[3]? = some (.int 4) := (elem_in (iE c7) evS (Term.int_eval (3)) ArS.1).2
 have y4 : cS.slots[4]? = some (.int 6) := (elem_in (iE c8) evS (Term.int_eval (4)) ArS.1).2
 have y5 : cS.slots[5]? = some (.int 1) := (elem_in (iE c9) evS (Term.int_eval (5)) ArS.1).2
 have y6 : cS.slots[6]? = some (.int 9) := (elem_in (iE c10) evS (Term.int_eval (6)) ArS.1).2
 have y7 : cS.slots[7]? = some (.int 5) := (elem_in (iE c11) evS (Term.int_eval (7)) ArS.1).2
 have y8 : cS.slots[8]? = some (.int 3) := (elem_in (iE c12) evS (Term.int_eval (8)) ArS.1).2
 have y9 : cS.slots[9]? = some (.int 7) := (elem_in (iE c13) evS (Term.int_eval (9)) ArS.1).2
 have A_START : bB s s.heap oS (10 : Int32) ([0, 8, 2, 4, 6, 1, 9, 5, 3, 7] : List Int32) := ⟨cS, ArS, zS, mS, fun k hk => by
   have hk' : k < 10 := Nat.lt_of_lt_of_eq hk zS
   match k, hk' with
   | 0, _ => exact y0
   | 1, _ => exact y1
   | 2, _ => exact y2
   | 3, _ => exact y3
   | 4, _ => exact y4
   | 5, _ => exact y5
   | 6, _ => exact y6
   | 7, _ => exact y7
   | 8, _ => exact y8
   | 9, _ => exact y9
   | k + 10, h => exact absurd h (by omega)⟩
 have A_NONE : bC s s.heap oN (0 : Int32) := ⟨cN, ArN, zN, mN, fun k hk => absurd (Nat.lt_of_lt_of_eq hk zN) (Nat.not_lt_zero k)⟩
 obtain ⟨hsets, hown0⟩ := atoms_of _ (rest_1_c_eq ▸ (show rest_1_c.before _ s = true from hrest))
 have S_BIT := Sta.start (iE (Cond.before_iff.mp (hsets _ (oX 2 rfl)))) (Or.inl (hsets _ (oX 1 rfl)))
 obtain ⟨jc, hjc, ejc⟩ := sT (M := 2) (Jvm.Kit.i32_mask p0_ 1 (k := 1) (by decide) (by decide)) (by decide)
 obtain ⟨jb, hjb, ejb⟩ := sT (M := 32) (Jvm.Kit.i32_mask p1_ 31 (k := 5) (by decide) (by decide)) (by decide)
 obtain ⟨je, hje, eje⟩ := sT (M := 32) (Jvm.Kit.i32_mask p4_ 31 (k := 5) (by decide) (by decide)) (by decide)
 obtain ⟨jf, hjf, ejf⟩ := sT (M := 8) (Jvm.Kit.i32_mask p5_ 7 (k := 3) (by decide) (by decide)) (by decide)
 have hM : ∀ x : Int32, (x &&& (2147483647 : Int32)).toInt = x.toInt % 2 ^ 31 := fun x => Jvm.Kit.i32_mask x 2147483647 (k := 31) (by decide) (by decide)
 have eb : (1 : Int32) + (p1_ &&& (31 : Int32)) = Int32.ofNat (jb + 1) := by rw [ejb]; exact nK _
 obtain ⟨jn, hjn, ejn⟩ := sT (x := p2_ &&& (2147483647 : Int32)) (y := (p2_ &&& (2147483647 : Int32)) % Int32.ofNat (jb + 1)) (M := jb + 1) (by rw [Jvm.Kit.i32_rem_nonneg (by rw [hM]; omega), eB (by omega)]) (by omega)
 have ok : ∀ k4 : Int32, ¬ (k4 < (1 : Int32)) → pH (Int32.ofNat (jc + 1)) (Int32.ofNat (jb + 1)) (Int32.ofNat (jn + 1)) k4 (Int32.ofNat (jf + 1 + je)) (Int32.ofNat (jf + 1)) := fun k4 h4 => aJ5 (eU (i := jc + 1) (c := 1) (by omega) (by omega)) h4 (by rw [eQ (by omega)]; omega) (by omega) (by omega) (aY0 ⟨jb, hjb⟩ ⟨jn, by omega⟩ (show jn ≤ jb by omega)) (aY1 ⟨jf, hjf⟩ ⟨je, hje⟩)
 have h6 : (Int32.ofNat (jf + 1)).toInt64.toInt = jf + 1 := by rw [Int32.toInt_toInt64, eB (by omega)]; rfl
 have key : MetFree l x (head1 (Jvm.Cond.code x code maxLocals ret :: tables_1) room_1) (fun a U => a = #[(.int p0_), (.int p1_), (.int p2_), (.int p3_), (.int p4_), (.int p5_)] ∧ s.Warmed39 U.vm ∧ U.heap = s.heap) (fun _ _ _ _ _ => True) (fun _ U o U' => ∃ v L, o = .returned v ∧ uM s.heap.size v U'.heap L ∧ FrameEnd U o U' L room_1.cells room_1.slots) := by
   by_cases q : (p3_ &&& (2147483647 : Int32)) = (0 : Int32)
   · have dv := aY4 (a := 1) (a' := (1 : Int32).toInt64) (b := (Int32.ofNat (jf + 1)).toInt64) (by decide) (by decide) (by decide) (by rw [h6]; omega) (by rw [h6]; omega)
     exact aT5 l s _ hw tables_1 p0_ p1_ p2_ p3_ p4_ p5_ (Int32.ofNat (jc + 1)) (Int32.ofNat (jb + 1)) (Int32.ofNat (jn + 1)) (p3_ &&& (2147483647 : Int32)) (Int32.ofNat (jf + 1)) (Int32.ofNat (jf + 1 + je)) oS (10 : Int32) ([0, 8, 2, 4, 6, 1, 9, 5, 3, 7] : List Int32) oN (0 : Int32) s.heap s.heap.size (Nat.le_refl _) S_START A_START S_BIT S_NONE A_NONE (by rw [ejc]; exact nK _) eb (qI (by omega) (by omega)) (by rw [ejn]; exact nK _) rfl q (by rw [ejf]; exact nK _) (by rw [eje, ← Int32.ofNat_add]) rfl rfl (ok _ (by decide)) dv.1 dv.2.1 dv.2.2.1
   · have hq := hM p3_
     have h4 : ¬ ((p3_ &&& (2147483647 : Int32)) < (1 : Int32)) := fun r => q (aT7 (by rw [hq]; omega) r)
     have hp := own_lt1' h4
     have dv := aG6 (a := (p3_ &&& (2147483647 : Int32)).toInt64) (by rw [Int32.toInt_toInt64]; exact hp) (by rw [Int32.toInt_toInt64, hq]; omega) (b := (Int32.ofNat (jf + 1)).toInt64) (by rw [h6]; omega) (by rw [h6]; omega)
     exact aT6 l s _ hw tables_1 p0_ p1_ p2_ p3_ p4_ p5_ (Int32.ofNat (jc + 1)) (Int32.ofNat (jb + 1)) (Int32.ofNat (jn + 1)) (p3_ &&& (2147483647 : Int32)) (Int32.ofNat (jf + 1)) (Int32.ofNat (jf + 1 + je)) oS (10 : Int32) ([0, 8, 2, 4, 6, 1, 9, 5, 3, 7] : List Int32) oN (0 : Int32) s.heap s.heap.size (Nat.le_refl _) S_START A_START S_BIT S_NONE A_NONE (by rw [ejc]; exact nK _) eb (qI (by omega) (by omega)) (by rw [ejn]; exact nK _) rfl q (by rw [ejf]; exact nK _) (by rw [eje, ← Int32.ofNat_add]) rfl rfl (ok _ h4) dv.1 dv.2.2.2 dv.2.1 dv.2.2.1
 obtain ⟨n, o, h1, h2, h3, _, L, rfl, ⟨rfl, N⟩, hq⟩ := key p e ha hc hk s m _ below hf ((Spec.applies_iff_loose hf).mp happ).1 ⟨rfl, State.Warmed39.refl s, rfl⟩ trivial
 refine ⟨n, _, h1, h2, h3, hpost _ _ _ _ _ _ ⟨Cond.after_iff.mpr rfl, Cond.after_iff.mpr (eq_i res_at (Term.int_eval (1)) rfl), trivial⟩ ⟨hq.1, hq.2.1, (hq.2.2.sift fun y hy => Or.inr (N y hy)).mono (by decide) (by decide)⟩⟩
theorem main_1_1 : Claimed_1_1 := comes_1 fun _ _ _ _ _ _ h hF => ⟨h.1, hF⟩
theorem main_1_2 : Claimed_1_2 := comes_1 fun _ _ _ _ _ _ h hF => ⟨h.2.1, hF⟩
end Jvm.Pilot.@@N@@
namespace Jvm.Pilot.@@N@@
open Jvm Jvm.ClassFile Sem Op Lib Jvm.Free Jvm.Stand Jvm.Pilot.@@N@@.Jvm.D
/-! MADE BY PROGRAM (witnessworld.py) out of the Statement's table words and the real class files: 26 classes; the members and pool entries that the words name. The judged class is class 1, her method 1. -/
namespace start1
open Jvm.ClassFile
def u (s : String) : CpInfo := .utf8 (stringToUtf16 s)
/-- a pool by its gaps: so many unusable entries, then the entry; so many at the end -/
def gap : Nat → List CpInfo → List CpInfo
  | 0, r => r
  | n + 1, r => .unusable :: gap n r
def poolList (es : List (Nat × CpInfo)) (last : Nat) : List CpInfo := es.foldr (fun e r => gap e.1 (e.2 :: r)) (gap last [])
def pool (es : List (Nat × CpInfo)) (last : Nat) : Array CpInfo := ⟨poolList es last⟩
def fileOf (pool : Array CpInfo) (this : Nat) (attrs : Array Attribute := #[]) (ms : Array MethodInfo := #[]) (fl : Nat := 33) (sup : Nat := 0) (ifs : Array Nat := #[]) (fds : Array FieldInfo := #[]) : ClassFile where
  minorVersion := 0
  majorVersion := 65
  constantPool := pool
  accessFlags := fl
  thisClass := this
  superClass := sup
  interfaces := ifs
  fields := fds
  methods := ms
  attributes := attrs
def plain (name : String) (sup : Option ClassId) : Class where
  name := name
  kind := .ordinary
  loader := none
  accessFlags := 33
  super := sup
  interfaces := #[]
  cf := none
  fields := #[]
  methods := #[]
  instanceTypes := #[]
  staticTypes := #[]
  resolved := #[]
  callSites := []
  init := .initialized
  statics := none
  mirror := none

def pool0 : Array CpInfo := pool [(5, u "<init>"), (0, u "()V"), (1, .class_ 10), (1, u "java/lang/Object"), (85, u "clone"), (0, u "()Ljava/lang/Object;")] 26

def k0c0 : Code := { maxStack := 0, maxLocals := 1, code := object_method_1_code, exceptionTable := #[], attributes := #[] }
def k0m0 : Method := { name := "<init>", desc := "()V", sig := { parameters := [], returnType := none }, accessFlags := 1, code := some k0c0 }
def k0m1 : Method := { name := "clone", desc := "()Ljava/lang/Object;", sig := { parameters := [], returnType := some (.object "java/lang/Object") }, accessFlags := 260, code := none }
/-- java/lang/Object -/
def k0 : Class := { plain "java/lang/Object" none with
  accessFlags := 33
  interfaces := #[]
  cf := some (fileOf pool0 8 #[] #[{ accessFlags := 1, nameIndex := 5, descriptorIndex := 6, attributes := #[] }, { accessFlags := 260, nameIndex := 96, descriptorIndex := 97, attributes := #[] }] 33 0 #[] #[])
  fields := #[]
  methods := #[k0m0, k0m1]
  instanceTypes := #[]
  staticTypes := #[]
  resolved := Array.replicate 124 none
  statics := none }

def pool1 : Array CpInfo := pool [(2, .class_ 4), (1, u "java/lang/Object"), (0, u "<init>"), (0, u "()V"), (0, .integer 2147483647), (0, .class_ 9), (0, u "com/example/narrows/narrows/Churn"), (0, .methodref 8 11), (0, .nameAndType 5 12), (0, u "(IIIIII)V"), (0, .methodref 8 14), (0, .nameAndType 15 16), (0, u "connectionsAfter"), (0, u "()J"), (0, .class_ 18), (0, u "com/example/narrows/narrows/ChurnConnectionsAfterPinLaw"), (2, u "law"), (0, u "(IIIIII)Z")] 3

def k1m0 : Method := { name := "<init>", desc := "()V", sig := { parameters := [], returnType := none }, accessFlags := 1, code := none }
def k1c1 : Code := { maxStack := 8, maxLocals := 16, code := code, exceptionTable := #[], attributes := #[] }
def k1m1 : Method := { name := "law", desc := "(IIIIII)Z", sig := { parameters := [.int, .int, .int, .int, .int, .int], returnType := some .boolean }, accessFlags := 9, code := some k1c1 }
/-- com/example/narrows/narrows/ChurnConnectionsAfterPinLaw -/
def k1 : Class := { plain "com/example/narrows/narrows/ChurnConnectionsAfterPinLaw" (some 0) with
  accessFlags := 49
  interfaces := #[]
  cf := some (fileOf pool1 17 #[] #[{ accessFlags := 1, nameIndex := 5, descriptorIndex := 6, attributes := #[] }, { accessFlags := 9, nameIndex := 21, descriptorIndex := 22, attributes := #[] }] 49 2 #[] #[])
  fields := #[]
  methods := #[k1m0, k1m1]
  instanceTypes := #[]
  staticTypes := #[]
  resolved := Array.replicate 26 none
  statics := none }

def pool2 : Array CpInfo := pool [(1, .methodref 2 3), (0, .class_ 4), (0, .nameAndType 5 6), (0, u "java/lang/Object"), (0, u "<init>"), (0, u "()V"), (0, .methodref 8 9), (0, .class_ 10), (0, .nameAndType 11 12), (0, u "com/example/narrows/narrows/Subsetter"), (0, u "checkClients"), (0, u "(I)V"), (9, .methodref 8 23), (0, .nameAndType 5 24), (0, u "(II)V"), (0, .fieldref 26 27), (0, .class_ 28), (0, .nameAndType 29 30), (0, u "com/example/narrows/narrows/Churn"), (0, u "clients"), (0, u "I"), (0, .fieldref 26 32), (0, .nameAndType 33 30), (0, u "backends"), (0, .fieldref 26 35), (0, .nameAndType 36 30), (0, u "subsetSize"), (0, .fieldref 26 38), (0, .nameAndType 39 30), (0, u "toClients"), (0, .fieldref 26 41), (0, .nameAndType 42 30), (0, u "toBackends"), (0, .fieldref 26 44), (0, .nameAndType 45 30), (0, u "toSubsetSize"), (0, .methodref 47 48), (0, .class_ 49), (0, .nameAndType 50 51), (0, u "java/lang/Math"), (0, u "min"), (0, u "(II)I"), (0, .methodref 8 53), (0, .nameAndType 54 55), (0, u "subset"), (0, u "(I)[I"), (0, .methodref 57 58), (0, .class_ 59), (0, .nameAndType 60 61), (0, u "com/example/narrows/narrows/SubsetChange"), (0, u "between"), (0, u "([I[I)Lcom/example/narrows/narrows/SubsetChange;"), (0, .methodref 57 63), (0, .nameAndType 64 65), (0, u "removedCount"), (0, u "()I"), (0, .methodref 47 67), (0, .nameAndType 68 51), (0, u "max"), (0, .fieldref 26 70), (0, .nameAndType 71 72), (0, u "replaced"), (0, u "J"), (0, .fieldref 26 74), (0, .nameAndType 75 30), (0, u "mostReplacedByOneClient"), (0, .fieldref 26 77), (0, .nameAndType 78 30), (0, u "whollyNewSubsets"), (0, u "(IIIIII)V"), (4, u "()J"), (0, u "connectionsAfter")] 17

def k2c0 : Code := { maxStack := 4, maxLocals := 17, code := prog_7_method_1_code, exceptionTable := #[], attributes := #[] }
def k2m0 : Method := { name := "<init>", desc := "(IIIIII)V", sig := { parameters := [.int, .int, .int, .int, .int, .int], returnType := none }, accessFlags := 1, code := some k2c0 }
def k2c1 : Code := { maxStack := 4, maxLocals := 1, code := prog_7_method_9_code, exceptionTable := #[], attributes := #[] }
def k2m1 : Method := { name := "connectionsAfter", desc := "()J", sig := { parameters := [], returnType := some .long }, accessFlags := 1, code := some k2c1 }
/-- com/example/narrows/narrows/Churn -/
def k2 : Class := { plain "com/example/narrows/narrows/Churn" (some 0) with
  accessFlags := 49
  interfaces := #[]
  cf := some (fileOf pool2 26 #[] #[{ accessFlags := 1, nameIndex := 5, descriptorIndex := 79, attributes := #[] }, { accessFlags := 1, nameIndex := 85, descriptorIndex := 84, attributes := #[] }] 49 2 #[] #[{ accessFlags := 18, nameIndex := 29, descriptorIndex := 30, attributes := #[] }, { accessFlags := 18, nameIndex := 33, descriptorIndex := 30, attributes := #[] }, { accessFlags := 18, nameIndex := 36, descriptorIndex := 30, attributes := #[] }, { accessFlags := 18, nameIndex := 39, descriptorIndex := 30, attributes := #[] }, { accessFlags := 18, nameIndex := 42, descriptorIndex := 30, attributes := #[] }, { accessFlags := 18, nameIndex := 45, descriptorIndex := 30, attributes := #[] }, { accessFlags := 18, nameIndex := 71, descriptorIndex := 72, attributes := #[] }, { accessFlags := 18, nameIndex := 75, descriptorIndex := 30, attributes := #[] }, { accessFlags := 18, nameIndex := 78, descriptorIndex := 30, attributes := #[] }])
  fields := #[{ name := "clients", type := .int, accessFlags := 18, slot := 0, constantValue := 0 }, { name := "backends", type := .int, accessFlags := 18, slot := 1, constantValue := 0 }, { name := "subsetSize", type := .int, accessFlags := 18, slot := 2, constantValue := 0 }, { name := "toClients", type := .int, accessFlags := 18, slot := 3, constantValue := 0 }, { name := "toBackends", type := .int, accessFlags := 18, slot := 4, constantValue := 0 }, { name := "toSubsetSize", type := .int, accessFlags := 18, slot := 5, constantValue := 0 }, { name := "replaced", type := .long, accessFlags := 18, slot := 6, constantValue := 0 }, { name := "mostReplacedByOneClient", type := .int, accessFlags := 18, slot := 7, constantValue := 0 }, { name := "whollyNewSubsets", type := .int, accessFlags := 18, slot := 8, constantValue := 0 }]
  methods := #[k2m0, k2m1]
  instanceTypes := #[.int, .int, .int, .int, .int, .int, .long, .int, .int]
  staticTypes := #[]
  resolved := Array.replicate 103 none
  statics := none }

def pool3 : Array CpInfo := pool [(1, .methodref 2 3), (0, .class_ 4), (0, .nameAndType 5 6), (0, u "java/lang/Object"), (0, u "<init>"), (0, u "()V"), (13, .fieldref 21 22), (0, .class_ 23), (0, .nameAndType 24 25), (0, u "com/example/narrows/narrows/Subsetter"), (0, u "backends"), (0, u "I"), (0, .fieldref 21 27), (0, .nameAndType 28 25), (0, u "subsetSize"), (0, .fieldref 21 30), (0, .nameAndType 31 25), (0, u "lots"), (0, .class_ 33), (0, u "java/lang/Integer"), (0, .methodref 32 35), (0, .nameAndType 36 37), (0, u "numberOfLeadingZeros"), (0, u "(I)I"), (0, .methodref 39 40), (0, .class_ 41), (0, .nameAndType 42 43), (0, u "java/lang/Math"), (0, u "max"), (0, u "(II)I"), (0, .fieldref 21 45), (0, .nameAndType 46 25), (0, u "ringBits"), (0, .fieldref 21 48), (0, .nameAndType 49 50), (0, u "fitsInARow"), (0, u "Z"), (1, .methodref 21 53), (0, .nameAndType 54 55), (0, u "sharedWalk"), (0, u "(I)[I"), (3, .fieldref 21 60), (0, .nameAndType 61 62), (0, u "START_ROWS"), (0, u "[I"), (0, .methodref 21 64), (0, .nameAndType 65 66), (0, u "walk"), (0, u "(II)[I"), (0, .methodref 68 69), (0, .class_ 70), (0, .nameAndType 71 72), (0, u "java/util/Arrays"), (0, u "sort"), (0, u "([I)V"), (2, u "subset"), (10, .methodref 21 87), (0, .nameAndType 88 66), (0, u "walkOrder"), (0, .long 10), (1, .methodref 21 92), (0, .nameAndType 93 94), (0, u "lotsHolding"), (0, u "([IJ)I"), (0, .class_ 96), (0, u "com/example/narrows/narrows/Subsetter$Stretch"), (0, .methodref 95 98), (0, .nameAndType 5 99), (0, u "(JII)V"), (0, .methodref 21 101), (0, .nameAndType 102 103), (0, u "offerRows"), (0, u "([IILcom/example/narrows/narrows/Subsetter$Stretch;)Z"), (0, .fieldref 95 105), (0, .nameAndType 106 62), (0, u "chosen"), (0, .methodref 39 108), (0, .nameAndType 109 110), (0, u "min"), (0, u "(JJ)J"), (13, u "(I)Z"), (0, .methodref 95 126), (0, .nameAndType 127 124), (0, u "offer"), (2, u "(I)V"), (3, .methodref 21 135), (0, .nameAndType 136 137), (0, u "takeRow"), (0, u "(I[II[II)I"), (0, .methodref 21 139), (0, .nameAndType 140 141), (0, u "backendAt"), (0, u "(III)I"), (0, .methodref 21 143), (0, .nameAndType 144 37), (0, u "firstSlotAtOrAfter"), (0, .methodref 21 146), (0, .nameAndType 147 37), (0, u "lotAt"), (0, .methodref 21 149), (0, .nameAndType 150 66), (0, u "shuffle"), (1, .methodref 32 153), (0, .nameAndType 154 37), (0, u "reverse"), (0, .methodref 32 156), (0, .nameAndType 157 158), (0, u "toUnsignedLong"), (0, u "(I)J"), (0, .long 9), (1, .methodref 162 163), (0, .class_ 164), (0, .nameAndType 165 166), (0, u "com/example/narrows/narrows/SplitMix64"), (0, u "afterDraws"), (0, u "(JJ)Lcom/example/narrows/narrows/SplitMix64;"), (0, .methodref 162 168), (0, .nameAndType 169 170), (0, u "nextLong"), (0, u "()J"), (0, .methodref 172 173), (0, .class_ 174), (0, .nameAndType 175 110), (0, u "java/lang/Long"), (0, u "remainderUnsigned"), (0, u "LOT_SIZE"), (2, u "(II)V"), (7, u "checkClients")] 29

def k3c0 : Code := { maxStack := 5, maxLocals := 3, code := prog_29_method_1_code, exceptionTable := #[], attributes := #[] }
def k3m0 : Method := { name := "<init>", desc := "(II)V", sig := { parameters := [.int, .int], returnType := none }, accessFlags := 1, code := some k3c0 }
def k3c1 : Code := { maxStack := 4, maxLocals := 5, code := prog_29_method_2_code, exceptionTable := #[], attributes := #[] }
def k3m1 : Method := { name := "subset", desc := "(I)[I", sig := { parameters := [.int], returnType := some (.array .int) }, accessFlags := 1, code := some k3c1 }
def k3c2 : Code := { maxStack := 8, maxLocals := 11, code := prog_29_method_5_code, exceptionTable := #[], attributes := #[] }
def k3m2 : Method := { name := "sharedWalk", desc := "(I)[I", sig := { parameters := [.int], returnType := some (.array .int) }, accessFlags := 2, code := some k3c2 }
def k3c3 : Code := { maxStack := 4, maxLocals := 9, code := prog_29_method_9_code, exceptionTable := #[], attributes := #[] }
def k3m3 : Method := { name := "takeRow", desc := "(I[II[II)I", sig := { parameters := [.int, (.array .int), .int, (.array .int), .int], returnType := some .int }, accessFlags := 2, code := some k3c3 }
def k3c4 : Code := { maxStack := 4, maxLocals := 10, code := prog_29_method_10_code, exceptionTable := #[], attributes := #[] }
def k3m4 : Method := { name := "offerRows", desc := "([IILcom/example/narrows/narrows/Subsetter$Stretch;)Z", sig := { parameters := [(.array .int), .int, (.object "com/example/narrows/narrows/Subsetter$Stretch")], returnType := some .boolean }, accessFlags := 2, code := some k3c4 }
def k3c5 : Code := { maxStack := 8, maxLocals := 8, code := prog_29_method_11_code, exceptionTable := #[], attributes := #[] }
def k3m5 : Method := { name := "lotsHolding", desc := "([IJ)I", sig := { parameters := [(.array .int), .long], returnType := some .int }, accessFlags := 2, code := some k3c5 }
def k3c6 : Code := { maxStack := 8, maxLocals := 7, code := prog_29_method_12_code, exceptionTable := #[], attributes := #[] }
def k3m6 : Method := { name := "walk", desc := "(II)[I", sig := { parameters := [.int, .int], returnType := some (.array .int) }, accessFlags := 2, code := some k3c6 }
def k3c7 : Code := { maxStack := 4, maxLocals := 9, code := prog_29_method_13_code, exceptionTable := #[], attributes := #[] }
def k3m7 : Method := { name := "walkOrder", desc := "(II)[I", sig := { parameters := [.int, .int], returnType := some (.array .int) }, accessFlags := 2, code := some k3c7 }
def k3c8 : Code := { maxStack := 4, maxLocals := 6, code := prog_29_method_14_code, exceptionTable := #[], attributes := #[] }
def k3m8 : Method := { name := "backendAt", desc := "(III)I", sig := { parameters := [.int, .int, .int], returnType := some .int }, accessFlags := 2, code := some k3c8 }
def k3c9 : Code := { maxStack := 3, maxLocals := 1, code := prog_29_method_15_code, exceptionTable := #[], attributes := #[] }
def k3m9 : Method := { name := "checkClients", desc := "(I)V", sig := { parameters := [.int], returnType := none }, accessFlags := 8, code := some k3c9 }
def k3c10 : Code := { maxStack := 5, maxLocals := 5, code := prog_29_method_17_code, exceptionTable := #[], attributes := #[] }
def k3m10 : Method := { name := "firstSlotAtOrAfter", desc := "(I)I", sig := { parameters := [.int], returnType := some .int }, accessFlags := 2, code := some k3c10 }
def k3c11 : Code := { maxStack := 3, maxLocals := 2, code := prog_29_method_18_code, exceptionTable := #[], attributes := #[] }
def k3m11 : Method := { name := "lotAt", desc := "(I)I", sig := { parameters := [.int], returnType := some .int }, accessFlags := 2, code := some k3c11 }
def k3c12 : Code := { maxStack := 6, maxLocals := 7, code := prog_29_method_19_code, exceptionTable := #[], attributes := #[] }
def k3m12 : Method := { name := "shuffle", desc := "(II)[I", sig := { parameters := [.int, .int], returnType := some (.array .int) }, accessFlags := 10, code := some k3c12 }
/-- com/example/narrows/narrows/Subsetter -/
def k3 : Class := { plain "com/example/narrows/narrows/Subsetter" (some 0) with
  accessFlags := 49
  interfaces := #[]
  cf := some (fileOf pool3 21 #[.nestMembers #[95]] #[{ accessFlags := 1, nameIndex := 5, descriptorIndex := 179, attributes := #[] }, { accessFlags := 1, nameIndex := 75, descriptorIndex := 55, attributes := #[] }, { accessFlags := 2, nameIndex := 54, descriptorIndex := 55, attributes := #[] }, { accessFlags := 2, nameIndex := 136, descriptorIndex := 137, attributes := #[] }, { accessFlags := 2, nameIndex := 102, descriptorIndex := 103, attributes := #[] }, { accessFlags := 2, nameIndex := 93, descriptorIndex := 94, attributes := #[] }, { accessFlags := 2, nameIndex := 65, descriptorIndex := 66, attributes := #[] }, { accessFlags := 2, nameIndex := 88, descriptorIndex := 66, attributes := #[] }, { accessFlags := 2, nameIndex := 140, descriptorIndex := 141, attributes := #[] }, { accessFlags := 8, nameIndex := 187, descriptorIndex := 130, attributes := #[] }, { accessFlags := 2, nameIndex := 144, descriptorIndex := 37, attributes := #[] }, { accessFlags := 2, nameIndex := 147, descriptorIndex := 37, attributes := #[] }, { accessFlags := 10, nameIndex := 150, descriptorIndex := 66, attributes := #[] }] 49 2 #[] #[{ accessFlags := 26, nameIndex := 176, descriptorIndex := 25, attributes := #[] }, { accessFlags := 26, nameIndex := 61, descriptorIndex := 62, attributes := #[] }, { accessFlags := 18, nameIndex := 24, descriptorIndex := 25, attributes := #[] }, { accessFlags := 18, nameIndex := 28, descriptorIndex := 25, attributes := #[] }, { accessFlags := 18, nameIndex := 31, descriptorIndex := 25, attributes := #[] }, { accessFlags := 18, nameIndex := 49, descriptorIndex := 50, attributes := #[] }, { accessFlags := 18, nameIndex := 46, descriptorIndex := 25, attributes := #[] }])
  fields := #[{ name := "LOT_SIZE", type := .int, accessFlags := 26, slot := 0, constantValue := 0 }, { name := "START_ROWS", type := (.array .int), accessFlags := 26, slot := 1, constantValue := 0 }, { name := "backends", type := .int, accessFlags := 18, slot := 0, constantValue := 0 }, { name := "subsetSize", type := .int, accessFlags := 18, slot := 1, constantValue := 0 }, { name := "lots", type := .int, accessFlags := 18, slot := 2, constantValue := 0 }, { name := "fitsInARow", type := .boolean, accessFlags := 18, slot := 3, constantValue := 0 }, { name := "ringBits", type := .int, accessFlags := 18, slot := 4, constantValue := 0 }]
  methods := #[k3m0, k3m1, k3m2, k3m3, k3m4, k3m5, k3m6, k3m7, k3m8, k3m9, k3m10, k3m11, k3m12]
  instanceTypes := #[.int, .int, .int, .boolean, .int]
  staticTypes := #[.int, (.array .int)]
  resolved := ⟨List.replicate 104 none ++ some (.field 11 1) :: List.replicate 112 none⟩
  statics := some 0 }

def pool4 : Array CpInfo := pool [(1, .class_ 2), (0, u "java/io/Serializable"), (0, .class_ 4), (0, u "java/lang/Object")] 2

/-- java/io/Serializable -/
def k4 : Class := { plain "java/io/Serializable" (some 0) with
  accessFlags := 1537
  interfaces := #[]
  cf := some (fileOf pool4 1 #[] #[] 1537 3 #[] #[])
  fields := #[]
  methods := #[]
  instanceTypes := #[]
  staticTypes := #[]
  resolved := Array.replicate 7 none
  statics := none }

def pool5 : Array CpInfo := pool [(2, .class_ 4), (1, u "java/lang/Object"), (0, u "<init>"), (0, u "()V"), (1, .class_ 10), (1, u "java/lang/Number"), (2, .class_ 14), (0, u "java/io/Serializable"), (0, u "serialVersionUID"), (0, u "J")] 20

def k5m0 : Method := { name := "<init>", desc := "()V", sig := { parameters := [], returnType := none }, accessFlags := 1, code := none }
/-- java/lang/Number -/
def k5 : Class := { plain "java/lang/Number" (some 0) with
  accessFlags := 1057
  interfaces := #[4]
  cf := some (fileOf pool5 8 #[] #[{ accessFlags := 1, nameIndex := 5, descriptorIndex := 6, attributes := #[] }] 1057 2 #[13] #[{ accessFlags := 26, nameIndex := 15, descriptorIndex := 16, attributes := #[] }])
  fields := #[{ name := "serialVersionUID", type := .long, accessFlags := 26, slot := 0, constantValue := 0 }]
  methods := #[k5m0]
  instanceTypes := #[]
  staticTypes := #[.long]
  resolved := Array.replicate 37 none
  statics := none }

def pool6 : Array CpInfo := pool [(1, .class_ 2), (0, u "java/lang/Comparable"), (0, .class_ 4), (0, u "java/lang/Object")] 7

/-- java/lang/Comparable -/
def k6 : Class := { plain "java/lang/Comparable" (some 0) with
  accessFlags := 1537
  interfaces := #[]
  cf := some (fileOf pool6 1 #[] #[] 1537 3 #[] #[])
  fields := #[]
  methods := #[]
  instanceTypes := #[]
  staticTypes := #[]
  resolved := Array.replicate 12 none
  statics := none }

def pool7 : Array CpInfo := pool [(1, .class_ 2), (0, u "java/lang/constant/Constable"), (0, .class_ 4), (0, u "java/lang/Object")] 6

/-- java/lang/constant/Constable -/
def k7 : Class := { plain "java/lang/constant/Constable" (some 0) with
  accessFlags := 1537
  interfaces := #[]
  cf := some (fileOf pool7 1 #[] #[] 1537 3 #[] #[])
  fields := #[]
  methods := #[]
  instanceTypes := #[]
  staticTypes := #[]
  resolved := Array.replicate 11 none
  statics := none }

def pool8 : Array CpInfo := pool [(1, .class_ 2), (0, u "java/lang/constant/ConstantDesc"), (0, .class_ 4), (0, u "java/lang/Object")] 32

/-- java/lang/constant/ConstantDesc -/
def k8 : Class := { plain "java/lang/constant/ConstantDesc" (some 0) with
  accessFlags := 1537
  interfaces := #[]
  cf := some (fileOf pool8 1 #[] #[] 1537 3 #[] #[])
  fields := #[]
  methods := #[]
  instanceTypes := #[]
  staticTypes := #[]
  resolved := Array.replicate 37 none
  statics := none }

def pool9 : Array CpInfo := pool [(1, .class_ 2), (0, u "java/lang/Integer"), (16, u "digits"), (0, u "[C"), (19, u "toUnsignedLong"), (0, u "(I)J"), (11, u "numberOfLeadingZeros"), (0, u "(I)I"), (30, u "DigitOnes"), (0, u "[B"), (2, u "DigitTens"), (99, .class_ 190), (0, u "java/lang/Integer$IntegerCache"), (3, u "I"), (8, .class_ 204), (0, u "java/lang/Number"), (2, u "value"), (54, .long 4294967295), (1, .integer 65536), (0, .integer 1431655765), (0, .integer 858993459), (0, .integer 252645135), (0, .methodref 1 269), (0, .nameAndType 270 54), (0, u "reverseBytes"), (3, .integer 65280), (27, u "TYPE"), (0, u "Ljava/lang/Class;"), (0, .class_ 305), (0, u "java/lang/Comparable"), (0, .class_ 307), (0, u "java/lang/constant/Constable"), (0, .class_ 309), (0, u "java/lang/constant/ConstantDesc"), (0, u "MIN_VALUE"), (1, u "MAX_VALUE"), (3, u "SIZE"), (1, u "BYTES"), (1, u "serialVersionUID"), (0, u "J"), (89, u "reverse")] 41

def k9c0 : Code := { maxStack := 4, maxLocals := 1, code := jdk_33_method_42_code, exceptionTable := #[], attributes := #[] }
def k9m0 : Method := { name := "toUnsignedLong", desc := "(I)J", sig := { parameters := [.int], returnType := some .long }, accessFlags := 9, code := some k9c0 }
def k9c1 : Code := { maxStack := 3, maxLocals := 2, code := jdk_33_method_47_code, exceptionTable := #[], attributes := #[] }
def k9m1 : Method := { name := "numberOfLeadingZeros", desc := "(I)I", sig := { parameters := [.int], returnType := some .int }, accessFlags := 9, code := some k9c1 }
def k9c2 : Code := { maxStack := 3, maxLocals := 1, code := jdk_33_method_52_code, exceptionTable := #[], attributes := #[] }
def k9m2 : Method := { name := "reverse", desc := "(I)I", sig := { parameters := [.int], returnType := some .int }, accessFlags := 9, code := some k9c2 }
def k9c3 : Code := { maxStack := 3, maxLocals := 1, code := jdk_33_method_57_code, exceptionTable := #[], attributes := #[] }
def k9m3 : Method := { name := "reverseBytes", desc := "(I)I", sig := { parameters := [.int], returnType := some .int }, accessFlags := 9, code := some k9c3 }
/-- java/lang/Integer -/
def k9 : Class := { plain "java/lang/Integer" (some 5) with
  accessFlags := 49
  interfaces := #[6, 7, 8]
  cf := some (fileOf pool9 1 #[.nestMembers #[189]] #[{ accessFlags := 9, nameIndex := 40, descriptorIndex := 41, attributes := #[] }, { accessFlags := 9, nameIndex := 53, descriptorIndex := 54, attributes := #[] }, { accessFlags := 9, nameIndex := 411, descriptorIndex := 54, attributes := #[] }, { accessFlags := 9, nameIndex := 270, descriptorIndex := 54, attributes := #[] }] 49 203 #[304, 306, 308] #[{ accessFlags := 25, nameIndex := 310, descriptorIndex := 194, attributes := #[] }, { accessFlags := 25, nameIndex := 312, descriptorIndex := 194, attributes := #[] }, { accessFlags := 25, nameIndex := 302, descriptorIndex := 303, attributes := #[] }, { accessFlags := 24, nameIndex := 19, descriptorIndex := 20, attributes := #[] }, { accessFlags := 24, nameIndex := 89, descriptorIndex := 86, attributes := #[] }, { accessFlags := 24, nameIndex := 85, descriptorIndex := 86, attributes := #[] }, { accessFlags := 18, nameIndex := 207, descriptorIndex := 194, attributes := #[] }, { accessFlags := 25, nameIndex := 316, descriptorIndex := 194, attributes := #[] }, { accessFlags := 25, nameIndex := 318, descriptorIndex := 194, attributes := #[] }, { accessFlags := 26, nameIndex := 320, descriptorIndex := 321, attributes := #[] }])
  fields := #[{ name := "MIN_VALUE", type := .int, accessFlags := 25, slot := 0, constantValue := 0 }, { name := "MAX_VALUE", type := .int, accessFlags := 25, slot := 1, constantValue := 0 }, { name := "TYPE", type := (.object "java/lang/Class"), accessFlags := 25, slot := 2, constantValue := 0 }, { name := "digits", type := (.array .char), accessFlags := 24, slot := 3, constantValue := 0 }, { name := "DigitTens", type := (.array .byte), accessFlags := 24, slot := 4, constantValue := 0 }, { name := "DigitOnes", type := (.array .byte), accessFlags := 24, slot := 5, constantValue := 0 }, { name := "value", type := .int, accessFlags := 18, slot := 0, constantValue := 0 }, { name := "SIZE", type := .int, accessFlags := 25, slot := 6, constantValue := 0 }, { name := "BYTES", type := .int, accessFlags := 25, slot := 7, constantValue := 0 }, { name := "serialVersionUID", type := .long, accessFlags := 26, slot := 8, constantValue := 0 }]
  methods := #[k9m0, k9m1, k9m2, k9m3]
  instanceTypes := #[.int]
  staticTypes := #[.int, .int, (.object "java/lang/Class"), (.array .char), (.array .byte), (.array .byte), .int, .int, .long]
  resolved := Array.replicate 453 none
  statics := none }

def pool10 : Array CpInfo := pool [(1, .class_ 2), (0, u "java/lang/Math"), (1, .class_ 6), (1, u "java/lang/Object"), (0, u "<init>"), (0, u "()V"), (89, .class_ 100), (1, u "java/lang/Math$RandomNumberGeneratorHolder"), (20, u "(JJ)J"), (50, u "negativeZeroFloatBits"), (0, u "J"), (2, u "negativeZeroDoubleBits"), (21, u "max"), (2, u "min"), (43, u "$assertionsDisabled"), (0, u "Z"), (88, u "(II)I"), (2, u "twoToTheDoubleScaleDown"), (0, u "D"), (4, u "twoToTheDoubleScaleUp"), (9, u "E"), (3, u "PI"), (2, u "TAU"), (2, u "DEGREES_TO_RADIANS"), (0, u "RADIANS_TO_DEGREES")] 94

def k10m0 : Method := { name := "<init>", desc := "()V", sig := { parameters := [], returnType := none }, accessFlags := 2, code := none }
def k10c1 : Code := { maxStack := 2, maxLocals := 2, code := jdk_29_method_65_code, exceptionTable := #[], attributes := #[] }
def k10m1 : Method := { name := "max", desc := "(II)I", sig := { parameters := [.int, .int], returnType := some .int }, accessFlags := 9, code := some k10c1 }
def k10c2 : Code := { maxStack := 2, maxLocals := 2, code := jdk_29_method_69_code, exceptionTable := #[], attributes := #[] }
def k10m2 : Method := { name := "min", desc := "(II)I", sig := { parameters := [.int, .int], returnType := some .int }, accessFlags := 9, code := some k10c2 }
def k10c3 : Code := { maxStack := 4, maxLocals := 4, code := jdk_29_method_70_code, exceptionTable := #[], attributes := #[] }
def k10m3 : Method := { name := "min", desc := "(JJ)J", sig := { parameters := [.long, .long], returnType := some .long }, accessFlags := 9, code := some k10c3 }
/-- java/lang/Math -/
def k10 : Class := { plain "java/lang/Math" (some 0) with
  accessFlags := 49
  interfaces := #[]
  cf := some (fileOf pool10 1 #[.nestMembers #[98]] #[{ accessFlags := 2, nameIndex := 7, descriptorIndex := 8, attributes := #[] }, { accessFlags := 9, nameIndex := 198, descriptorIndex := 335, attributes := #[] }, { accessFlags := 9, nameIndex := 201, descriptorIndex := 335, attributes := #[] }, { accessFlags := 9, nameIndex := 201, descriptorIndex := 121, attributes := #[] }] 49 4 #[] #[{ accessFlags := 25, nameIndex := 354, descriptorIndex := 339, attributes := #[] }, { accessFlags := 25, nameIndex := 358, descriptorIndex := 339, attributes := #[] }, { accessFlags := 25, nameIndex := 361, descriptorIndex := 339, attributes := #[] }, { accessFlags := 26, nameIndex := 364, descriptorIndex := 339, attributes := #[] }, { accessFlags := 26, nameIndex := 365, descriptorIndex := 339, attributes := #[] }, { accessFlags := 26, nameIndex := 172, descriptorIndex := 173, attributes := #[] }, { accessFlags := 26, nameIndex := 176, descriptorIndex := 173, attributes := #[] }, { accessFlags := 8, nameIndex := 344, descriptorIndex := 339, attributes := #[] }, { accessFlags := 8, nameIndex := 338, descriptorIndex := 339, attributes := #[] }, { accessFlags := 4120, nameIndex := 245, descriptorIndex := 246, attributes := #[] }])
  fields := #[{ name := "E", type := .double, accessFlags := 25, slot := 0, constantValue := 0 }, { name := "PI", type := .double, accessFlags := 25, slot := 1, constantValue := 0 }, { name := "TAU", type := .double, accessFlags := 25, slot := 2, constantValue := 0 }, { name := "DEGREES_TO_RADIANS", type := .double, accessFlags := 26, slot := 3, constantValue := 0 }, { name := "RADIANS_TO_DEGREES", type := .double, accessFlags := 26, slot := 4, constantValue := 0 }, { name := "negativeZeroFloatBits", type := .long, accessFlags := 26, slot := 5, constantValue := 0 }, { name := "negativeZeroDoubleBits", type := .long, accessFlags := 26, slot := 6, constantValue := 0 }, { name := "twoToTheDoubleScaleUp", type := .double, accessFlags := 8, slot := 7, constantValue := 0 }, { name := "twoToTheDoubleScaleDown", type := .double, accessFlags := 8, slot := 8, constantValue := 0 }, { name := "$assertionsDisabled", type := .boolean, accessFlags := 4120, slot := 9, constantValue := 0 }]
  methods := #[k10m0, k10m1, k10m2, k10m3]
  instanceTypes := #[]
  staticTypes := #[.double, .double, .double, .double, .double, .long, .long, .double, .double, .boolean]
  resolved := Array.replicate 460 none
  statics := none }

def pool11 : Array CpInfo := pool [(1, .methodref 2 3), (0, .class_ 4), (0, .nameAndType 5 6), (0, u "java/lang/Object"), (0, u "<init>"), (0, u "()V"), (0, .fieldref 8 9), (0, .class_ 10), (0, .nameAndType 11 12), (0, u "com/example/narrows/narrows/Subsetter$Stretch"), (0, u "toSkip"), (0, u "J"), (0, .fieldref 8 14), (0, .nameAndType 15 16), (0, u "chosen"), (0, u "[I"), (0, .class_ 18), (0, u "java/util/BitSet"), (0, .methodref 17 20), (0, .nameAndType 5 21), (0, u "(I)V"), (0, .fieldref 8 23), (0, .nameAndType 24 25), (0, u "has"), (0, u "Ljava/util/BitSet;"), (0, .fieldref 8 27), (0, .nameAndType 28 29), (0, u "taken"), (0, u "I"), (0, .methodref 17 31), (0, .nameAndType 32 33), (0, u "get"), (0, u "(I)Z"), (0, .methodref 17 35), (0, .nameAndType 36 21), (0, u "set"), (0, u "(JII)V"), (2, u "offer"), (4, .class_ 46), (0, u "com/example/narrows/narrows/Subsetter")] 2

def k11c0 : Code := { maxStack := 4, maxLocals := 5, code := prog_30_method_1_code, exceptionTable := #[], attributes := #[] }
def k11m0 : Method := { name := "<init>", desc := "(JII)V", sig := { parameters := [.long, .int, .int], returnType := none }, accessFlags := 0, code := some k11c0 }
def k11c1 : Code := { maxStack := 5, maxLocals := 2, code := prog_30_method_2_code, exceptionTable := #[], attributes := #[] }
def k11m1 : Method := { name := "offer", desc := "(I)Z", sig := { parameters := [.int], returnType := some .boolean }, accessFlags := 0, code := some k11c1 }
/-- com/example/narrows/narrows/Subsetter$Stretch -/
def k11 : Class := { plain "com/example/narrows/narrows/Subsetter$Stretch" (some 0) with
  accessFlags := 48
  interfaces := #[]
  cf := some (fileOf pool11 8 #[.nestHost 45] #[{ accessFlags := 0, nameIndex := 5, descriptorIndex := 37, attributes := #[] }, { accessFlags := 0, nameIndex := 40, descriptorIndex := 33, attributes := #[] }] 48 2 #[] #[{ accessFlags := 2, nameIndex := 11, descriptorIndex := 12, attributes := #[] }, { accessFlags := 18, nameIndex := 15, descriptorIndex := 16, attributes := #[] }, { accessFlags := 2, nameIndex := 28, descriptorIndex := 29, attributes := #[] }, { accessFlags := 18, nameIndex := 24, descriptorIndex := 25, attributes := #[] }])
  fields := #[{ name := "toSkip", type := .long, accessFlags := 2, slot := 0, constantValue := 0 }, { name := "chosen", type := (.array .int), accessFlags := 18, slot := 1, constantValue := 0 }, { name := "taken", type := .int, accessFlags := 2, slot := 2, constantValue := 0 }, { name := "has", type := (.object "java/util/BitSet"), accessFlags := 18, slot := 3, constantValue := 0 }]
  methods := #[k11m0, k11m1]
  instanceTypes := #[.long, (.array .int), .int, (.object "java/util/BitSet")]
  staticTypes := #[]
  resolved := Array.replicate 49 none
  statics := none }

def pool12 : Array CpInfo := pool [(1, .class_ 2), (0, u "java/lang/Cloneable"), (0, .class_ 4), (0, u "java/lang/Object")] 2

/-- java/lang/Cloneable -/
def k12 : Class := { plain "java/lang/Cloneable" (some 0) with
  accessFlags := 1537
  interfaces := #[]
  cf := some (fileOf pool12 1 #[] #[] 1537 3 #[] #[])
  fields := #[]
  methods := #[]
  instanceTypes := #[]
  staticTypes := #[]
  resolved := Array.replicate 7 none
  statics := none }

def pool13 : Array CpInfo := pool [(1, .class_ 2), (0, u "java/util/BitSet"), (0, .fieldref 1 4), (0, .nameAndType 5 6), (0, u "$assertionsDisabled"), (0, u "Z"), (0, .fieldref 1 8), (0, .nameAndType 9 10), (0, u "wordsInUse"), (0, u "I"), (0, .fieldref 1 12), (0, .nameAndType 13 14), (0, u "words"), (0, u "[J"), (3, .nameAndType 19 20), (0, u "<init>"), (0, u "()V"), (0, .methodref 22 18), (0, .class_ 23), (0, u "java/lang/Object"), (0, .fieldref 1 25), (0, .nameAndType 26 6), (0, u "sizeIsSticky"), (0, .methodref 1 28), (0, .nameAndType 29 30), (0, u "initWords"), (0, u "(I)V"), (21, .methodref 1 53), (0, .nameAndType 54 55), (0, u "wordIndex"), (0, u "(I)I"), (0, .methodref 1 57), (0, .nameAndType 58 20), (0, u "checkInvariants"), (21, u "get"), (58, .methodref 1 140), (0, .nameAndType 141 30), (0, u "ensureCapacity"), (13, .methodref 1 156), (0, .nameAndType 157 30), (0, u "expandTo"), (11, u "set"), (99, .class_ 270), (0, u "java/util/BitSet$1BitSetSpliterator"), (22, u "serialPersistentFields"), (0, u "[Ljava/io/ObjectStreamField;"), (0, .class_ 296), (0, u "java/lang/Cloneable"), (0, .class_ 298), (0, u "java/io/Serializable"), (0, u "ADDRESS_BITS_PER_WORD"), (2, u "BITS_PER_WORD"), (1, u "BIT_INDEX_MASK"), (1, u "WORD_MASK"), (0, u "J"), (0, u "serialVersionUID"), (42, u "(I)Z")] 65

def k13c0 : Code := { maxStack := 2, maxLocals := 1, code := jdk_92_method_1_code, exceptionTable := #[], attributes := #[] }
def k13m0 : Method := { name := "wordIndex", desc := "(I)I", sig := { parameters := [.int], returnType := some .int }, accessFlags := 10, code := some k13c0 }
def k13c1 : Code := { maxStack := 4, maxLocals := 1, code := jdk_92_method_2_code, exceptionTable := #[], attributes := #[] }
def k13m1 : Method := { name := "checkInvariants", desc := "()V", sig := { parameters := [], returnType := none }, accessFlags := 2, code := some k13c1 }
def k13m2 : Method := { name := "<init>", desc := "()V", sig := { parameters := [], returnType := none }, accessFlags := 1, code := none }
def k13c3 : Code := { maxStack := 4, maxLocals := 2, code := jdk_92_method_5_code, exceptionTable := #[], attributes := #[] }
def k13m3 : Method := { name := "<init>", desc := "(I)V", sig := { parameters := [.int], returnType := none }, accessFlags := 1, code := some k13c3 }
def k13c4 : Code := { maxStack := 3, maxLocals := 2, code := jdk_92_method_6_code, exceptionTable := #[], attributes := #[] }
def k13m4 : Method := { name := "initWords", desc := "(I)V", sig := { parameters := [.int], returnType := none }, accessFlags := 2, code := some k13c4 }
def k13c5 : Code := { maxStack := 3, maxLocals := 3, code := jdk_92_method_14_code, exceptionTable := #[], attributes := #[] }
def k13m5 : Method := { name := "ensureCapacity", desc := "(I)V", sig := { parameters := [.int], returnType := none }, accessFlags := 2, code := some k13c5 }
def k13c6 : Code := { maxStack := 2, maxLocals := 3, code := jdk_92_method_15_code, exceptionTable := #[], attributes := #[] }
def k13m6 : Method := { name := "expandTo", desc := "(I)V", sig := { parameters := [.int], returnType := none }, accessFlags := 2, code := some k13c6 }
def k13c7 : Code := { maxStack := 7, maxLocals := 3, code := jdk_92_method_19_code, exceptionTable := #[], attributes := #[] }
def k13m7 : Method := { name := "set", desc := "(I)V", sig := { parameters := [.int], returnType := none }, accessFlags := 1, code := some k13c7 }
def k13c8 : Code := { maxStack := 5, maxLocals := 3, code := jdk_92_method_26_code, exceptionTable := #[], attributes := #[] }
def k13m8 : Method := { name := "get", desc := "(I)Z", sig := { parameters := [.int], returnType := some .boolean }, accessFlags := 1, code := some k13c8 }
/-- java/util/BitSet -/
def k13 : Class := { plain "java/util/BitSet" (some 0) with
  accessFlags := 33
  interfaces := #[12, 4]
  cf := some (fileOf pool13 1 #[.nestMembers #[269]] #[{ accessFlags := 10, nameIndex := 54, descriptorIndex := 55, attributes := #[] }, { accessFlags := 2, nameIndex := 58, descriptorIndex := 20, attributes := #[] }, { accessFlags := 1, nameIndex := 19, descriptorIndex := 20, attributes := #[] }, { accessFlags := 1, nameIndex := 19, descriptorIndex := 30, attributes := #[] }, { accessFlags := 2, nameIndex := 29, descriptorIndex := 30, attributes := #[] }, { accessFlags := 2, nameIndex := 141, descriptorIndex := 30, attributes := #[] }, { accessFlags := 2, nameIndex := 157, descriptorIndex := 30, attributes := #[] }, { accessFlags := 1, nameIndex := 169, descriptorIndex := 30, attributes := #[] }, { accessFlags := 1, nameIndex := 80, descriptorIndex := 351, attributes := #[] }] 33 22 #[295, 297] #[{ accessFlags := 26, nameIndex := 299, descriptorIndex := 10, attributes := #[] }, { accessFlags := 26, nameIndex := 302, descriptorIndex := 10, attributes := #[] }, { accessFlags := 26, nameIndex := 304, descriptorIndex := 10, attributes := #[] }, { accessFlags := 26, nameIndex := 306, descriptorIndex := 307, attributes := #[] }, { accessFlags := 26, nameIndex := 293, descriptorIndex := 294, attributes := #[] }, { accessFlags := 2, nameIndex := 13, descriptorIndex := 14, attributes := #[] }, { accessFlags := 130, nameIndex := 9, descriptorIndex := 10, attributes := #[] }, { accessFlags := 130, nameIndex := 26, descriptorIndex := 6, attributes := #[] }, { accessFlags := 26, nameIndex := 308, descriptorIndex := 307, attributes := #[] }, { accessFlags := 4120, nameIndex := 5, descriptorIndex := 6, attributes := #[] }])
  fields := #[{ name := "ADDRESS_BITS_PER_WORD", type := .int, accessFlags := 26, slot := 0, constantValue := 0 }, { name := "BITS_PER_WORD", type := .int, accessFlags := 26, slot := 1, constantValue := 0 }, { name := "BIT_INDEX_MASK", type := .int, accessFlags := 26, slot := 2, constantValue := 0 }, { name := "WORD_MASK", type := .long, accessFlags := 26, slot := 3, constantValue := 0 }, { name := "serialPersistentFields", type := (.array (.object "java/io/ObjectStreamField")), accessFlags := 26, slot := 4, constantValue := 0 }, { name := "words", type := (.array .long), accessFlags := 2, slot := 0, constantValue := 0 }, { name := "wordsInUse", type := .int, accessFlags := 130, slot := 1, constantValue := 0 }, { name := "sizeIsSticky", type := .boolean, accessFlags := 130, slot := 2, constantValue := 0 }, { name := "serialVersionUID", type := .long, accessFlags := 26, slot := 5, constantValue := 0 }, { name := "$assertionsDisabled", type := .boolean, accessFlags := 4120, slot := 6, constantValue := 0 }]
  methods := #[k13m0, k13m1, k13m2, k13m3, k13m4, k13m5, k13m6, k13m7, k13m8]
  instanceTypes := #[(.array .long), .int, .boolean]
  staticTypes := #[.int, .int, .int, .long, (.array (.object "java/io/ObjectStreamField")), .long, .boolean]
  resolved := Array.replicate 417 none
  statics := some 1 }

def pool14 : Array CpInfo := pool [(1, .methodref 2 3), (0, .class_ 4), (0, .nameAndType 5 6), (0, u "java/lang/Object"), (0, u "<init>"), (0, u "()V"), (0, .fieldref 8 9), (0, .class_ 10), (0, .nameAndType 11 12), (0, u "com/example/narrows/narrows/SplitMix64"), (0, u "state"), (0, u "J"), (0, .long 11400714819323198485), (1, .methodref 8 16), (0, .nameAndType 5 17), (0, u "(J)V"), (0, .long 13787848793156543929), (1, .long 10723151780598845931), (1, u "GAMMA"), (3, u "afterDraws"), (0, u "(JJ)Lcom/example/narrows/narrows/SplitMix64;"), (0, u "nextLong"), (0, u "()J")] 2

def k14c0 : Code := { maxStack := 3, maxLocals := 3, code := prog_27_method_1_code, exceptionTable := #[], attributes := #[] }
def k14m0 : Method := { name := "<init>", desc := "(J)V", sig := { parameters := [.long], returnType := none }, accessFlags := 2, code := some k14c0 }
def k14c1 : Code := { maxStack := 8, maxLocals := 4, code := prog_27_method_2_code, exceptionTable := #[], attributes := #[] }
def k14m1 : Method := { name := "afterDraws", desc := "(JJ)Lcom/example/narrows/narrows/SplitMix64;", sig := { parameters := [.long, .long], returnType := some (.object "com/example/narrows/narrows/SplitMix64") }, accessFlags := 8, code := some k14c1 }
def k14c2 : Code := { maxStack := 5, maxLocals := 3, code := prog_27_method_3_code, exceptionTable := #[], attributes := #[] }
def k14m2 : Method := { name := "nextLong", desc := "()J", sig := { parameters := [], returnType := some .long }, accessFlags := 0, code := some k14c2 }
/-- com/example/narrows/narrows/SplitMix64 -/
def k14 : Class := { plain "com/example/narrows/narrows/SplitMix64" (some 0) with
  accessFlags := 48
  interfaces := #[]
  cf := some (fileOf pool14 8 #[] #[{ accessFlags := 2, nameIndex := 5, descriptorIndex := 17, attributes := #[] }, { accessFlags := 8, nameIndex := 26, descriptorIndex := 27, attributes := #[] }, { accessFlags := 0, nameIndex := 28, descriptorIndex := 29, attributes := #[] }] 48 2 #[] #[{ accessFlags := 24, nameIndex := 22, descriptorIndex := 12, attributes := #[] }, { accessFlags := 2, nameIndex := 11, descriptorIndex := 12, attributes := #[] }])
  fields := #[{ name := "GAMMA", type := .long, accessFlags := 24, slot := 0, constantValue := 0 }, { name := "state", type := .long, accessFlags := 2, slot := 0, constantValue := 0 }]
  methods := #[k14m0, k14m1, k14m2]
  instanceTypes := #[.long]
  staticTypes := #[.long]
  resolved := Array.replicate 32 none
  statics := none }

def pool15 : Array CpInfo := pool [(1, .class_ 2), (0, u "java/lang/Long"), (232, .class_ 237), (1, u "java/lang/Long$LongCache"), (33, .class_ 272), (0, u "java/lang/Number"), (2, u "value"), (0, u "J"), (29, .long 18446744073709551615), (26, u "(JJ)J"), (27, u "TYPE"), (0, u "Ljava/lang/Class;"), (0, .class_ 364), (0, u "java/lang/Comparable"), (0, .class_ 366), (0, u "java/lang/constant/Constable"), (0, .class_ 368), (0, u "java/lang/constant/ConstantDesc"), (0, u "MIN_VALUE"), (1, u "MAX_VALUE"), (4, u "SIZE"), (0, u "I"), (1, u "BYTES"), (1, u "serialVersionUID"), (91, u "remainderUnsigned")] 50

def k15c0 : Code := { maxStack := 8, maxLocals := 8, code := jdk_35_method_45_code, exceptionTable := #[], attributes := #[] }
def k15m0 : Method := { name := "remainderUnsigned", desc := "(JJ)J", sig := { parameters := [.long, .long], returnType := some .long }, accessFlags := 9, code := some k15c0 }
/-- java/lang/Long -/
def k15 : Class := { plain "java/lang/Long" (some 5) with
  accessFlags := 49
  interfaces := #[6, 7, 8]
  cf := some (fileOf pool15 1 #[.nestMembers #[235]] #[{ accessFlags := 9, nameIndex := 473, descriptorIndex := 333, attributes := #[] }] 49 271 #[363, 365, 367] #[{ accessFlags := 25, nameIndex := 369, descriptorIndex := 276, attributes := #[] }, { accessFlags := 25, nameIndex := 371, descriptorIndex := 276, attributes := #[] }, { accessFlags := 25, nameIndex := 361, descriptorIndex := 362, attributes := #[] }, { accessFlags := 18, nameIndex := 275, descriptorIndex := 276, attributes := #[] }, { accessFlags := 25, nameIndex := 376, descriptorIndex := 377, attributes := #[] }, { accessFlags := 25, nameIndex := 379, descriptorIndex := 377, attributes := #[] }, { accessFlags := 26, nameIndex := 381, descriptorIndex := 276, attributes := #[] }])
  fields := #[{ name := "MIN_VALUE", type := .long, accessFlags := 25, slot := 0, constantValue := 0 }, { name := "MAX_VALUE", type := .long, accessFlags := 25, slot := 1, constantValue := 0 }, { name := "TYPE", type := (.object "java/lang/Class"), accessFlags := 25, slot := 2, constantValue := 0 }, { name := "value", type := .long, accessFlags := 18, slot := 0, constantValue := 0 }, { name := "SIZE", type := .int, accessFlags := 25, slot := 3, constantValue := 0 }, { name := "BYTES", type := .int, accessFlags := 25, slot := 4, constantValue := 0 }, { name := "serialVersionUID", type := .long, accessFlags := 26, slot := 5, constantValue := 0 }]
  methods := #[k15m0]
  instanceTypes := #[.long]
  staticTypes := #[.long, .long, (.object "java/lang/Class"), .int, .int, .long]
  resolved := Array.replicate 524 none
  statics := none }

def pool16 : Array CpInfo := pool [(2, .class_ 4), (1, u "java/lang/Object"), (0, u "<init>"), (0, u "()V"), (0, .methodref 8 9), (0, .class_ 10), (0, .nameAndType 11 12), (0, u "java/util/DualPivotQuicksort"), (0, u "sort"), (0, u "([IIII)V"), (1, .class_ 16), (1, u "java/util/Arrays"), (57, .class_ 76), (1, u "java/util/Arrays$NaturalOrder"), (32, u "()Ljava/lang/Object;"), (3, .class_ 115), (1, u "java/util/Arrays$LegacyMergeSort"), (1, u "Z"), (10, .nameAndType 129 109), (0, u "clone"), (20, .methodref 151 152), (0, .class_ 153), (0, .nameAndType 154 155), (0, u "java/lang/System"), (0, u "arraycopy"), (0, u "(Ljava/lang/Object;ILjava/lang/Object;II)V"), (146, u "copyOf"), (1, .methodref 305 306), (0, .class_ 307), (0, .nameAndType 308 309), (0, u "java/lang/Math"), (0, u "min"), (0, u "(II)I"), (6, .methodref 317 128), (0, .class_ 318), (0, u "[I"), (56, .class_ 376), (0, u "java/util/Arrays$ArrayList"), (68, u "$assertionsDisabled"), (269, u "MIN_ARRAY_SORT_GRAN"), (0, u "I"), (2, u "INSERTIONSORT_THRESHOLD"), (6, u "([I)V"), (144, u "([II)[I"), (103, .class_ 976), (0, u "java/util/Arrays$ArrayItr")] 52

def k16m0 : Method := { name := "<init>", desc := "()V", sig := { parameters := [], returnType := none }, accessFlags := 2, code := none }
def k16c1 : Code := { maxStack := 4, maxLocals := 1, code := jdk_65_method_2_code, exceptionTable := #[], attributes := #[] }
def k16m1 : Method := { name := "sort", desc := "([I)V", sig := { parameters := [(.array .int)], returnType := none }, accessFlags := 9, code := some k16c1 }
def k16c2 : Code := { maxStack := 6, maxLocals := 3, code := jdk_65_method_123_code, exceptionTable := #[], attributes := #[] }
def k16m2 : Method := { name := "copyOf", desc := "([II)[I", sig := { parameters := [(.array .int), .int], returnType := some (.array .int) }, accessFlags := 9, code := some k16c2 }
/-- java/util/Arrays -/
def k16 : Class := { plain "java/util/Arrays" (some 0) with
  accessFlags := 49
  interfaces := #[]
  cf := some (fileOf pool16 14 #[.nestMembers #[975, 375, 113, 74]] #[{ accessFlags := 2, nameIndex := 5, descriptorIndex := 6, attributes := #[] }, { accessFlags := 9, nameIndex := 11, descriptorIndex := 726, attributes := #[] }, { accessFlags := 9, nameIndex := 302, descriptorIndex := 871, attributes := #[] }] 49 2 #[] #[{ accessFlags := 26, nameIndex := 715, descriptorIndex := 716, attributes := #[] }, { accessFlags := 26, nameIndex := 719, descriptorIndex := 716, attributes := #[] }, { accessFlags := 4120, nameIndex := 445, descriptorIndex := 117, attributes := #[] }])
  fields := #[{ name := "MIN_ARRAY_SORT_GRAN", type := .int, accessFlags := 26, slot := 0, constantValue := 0 }, { name := "INSERTIONSORT_THRESHOLD", type := .int, accessFlags := 26, slot := 1, constantValue := 0 }, { name := "$assertionsDisabled", type := .boolean, accessFlags := 4120, slot := 2, constantValue := 0 }]
  methods := #[k16m0, k16m1, k16m2]
  instanceTypes := #[]
  staticTypes := #[.int, .int, .boolean]
  resolved := Array.replicate 1029 none
  statics := none }

def pool17 : Array CpInfo := pool [(1, .class_ 2), (0, u "java/util/DualPivotQuicksort"), (5, .class_ 10), (1, u "java/lang/Object"), (0, u "<init>"), (0, u "()V"), (4, .class_ 18), (0, u "java/util/DualPivotQuicksort$Sorter"), (7, .methodref 1 27), (0, .nameAndType 28 29), (0, u "sort"), (0, u "(Ljava/util/DualPivotQuicksort$Sorter;[IIII)V"), (3, u "([IIII)V"), (0, .methodref 1 35), (0, .nameAndType 36 37), (0, u "insertionSort"), (0, u "([III)V"), (30, u "I"), (4, .class_ 74), (0, u "java/util/DualPivotQuicksort$RunMerger"), (10, .class_ 86), (0, u "java/util/DualPivotQuicksort$Merger"), (127, u "MAX_MIXED_INSERTION_SORT_SIZE"), (2, u "MAX_INSERTION_SORT_SIZE"), (1, u "MIN_PARALLEL_SORT_SIZE"), (1, u "MIN_TRY_MERGE_SIZE"), (0, u "MIN_FIRST_RUN_SIZE"), (1, u "MIN_FIRST_RUNS_FACTOR"), (1, u "MAX_RUN_CAPACITY"), (1, u "MIN_RUN_COUNT"), (1, u "MIN_PARALLEL_MERGE_PARTS_SIZE"), (0, u "MIN_BYTE_COUNTING_SORT_SIZE"), (1, u "MIN_SHORT_OR_CHAR_COUNTING_SORT_SIZE"), (1, u "DELTA"), (1, u "MAX_RECURSION_DEPTH"), (1, u "NUM_BYTE_VALUES"), (1, u "MAX_BYTE_INDEX"), (0, u "NUM_CHAR_VALUES"), (0, u "NUM_SHORT_VALUES"), (0, u "MAX_SHORT_INDEX")] 86

def k17m0 : Method := { name := "<init>", desc := "()V", sig := { parameters := [], returnType := none }, accessFlags := 2, code := none }
def k17c1 : Code := { maxStack := 9, maxLocals := 7, code := jdk_2529_method_3_code, exceptionTable := #[], attributes := #[] }
def k17m1 : Method := { name := "sort", desc := "([IIII)V", sig := { parameters := [(.array .int), .int, .int, .int], returnType := none }, accessFlags := 8, code := some k17c1 }
def k17c2 : Code := { maxStack := 6, maxLocals := 21, code := jdk_2529_method_4_code, exceptionTable := #[], attributes := #[] }
def k17m2 : Method := { name := "sort", desc := "(Ljava/util/DualPivotQuicksort$Sorter;[IIII)V", sig := { parameters := [(.object "java/util/DualPivotQuicksort$Sorter"), (.array .int), .int, .int, .int], returnType := none }, accessFlags := 8, code := some k17c2 }
def k17c3 : Code := { maxStack := 4, maxLocals := 6, code := jdk_2529_method_6_code, exceptionTable := #[], attributes := #[] }
def k17m3 : Method := { name := "insertionSort", desc := "([III)V", sig := { parameters := [(.array .int), .int, .int], returnType := none }, accessFlags := 10, code := some k17c3 }
/-- java/util/DualPivotQuicksort -/
def k17 : Class := { plain "java/util/DualPivotQuicksort" (some 0) with
  accessFlags := 48
  interfaces := #[]
  cf := some (fileOf pool17 1 #[.nestMembers #[73, 85, 17]] #[{ accessFlags := 2, nameIndex := 11, descriptorIndex := 12, attributes := #[] }, { accessFlags := 8, nameIndex := 28, descriptorIndex := 33, attributes := #[] }, { accessFlags := 8, nameIndex := 28, descriptorIndex := 29, attributes := #[] }, { accessFlags := 10, nameIndex := 36, descriptorIndex := 37, attributes := #[] }] 48 8 #[] #[{ accessFlags := 26, nameIndex := 214, descriptorIndex := 68, attributes := #[] }, { accessFlags := 26, nameIndex := 217, descriptorIndex := 68, attributes := #[] }, { accessFlags := 26, nameIndex := 219, descriptorIndex := 68, attributes := #[] }, { accessFlags := 26, nameIndex := 221, descriptorIndex := 68, attributes := #[] }, { accessFlags := 26, nameIndex := 222, descriptorIndex := 68, attributes := #[] }, { accessFlags := 26, nameIndex := 224, descriptorIndex := 68, attributes := #[] }, { accessFlags := 26, nameIndex := 226, descriptorIndex := 68, attributes := #[] }, { accessFlags := 26, nameIndex := 228, descriptorIndex := 68, attributes := #[] }, { accessFlags := 26, nameIndex := 230, descriptorIndex := 68, attributes := #[] }, { accessFlags := 26, nameIndex := 231, descriptorIndex := 68, attributes := #[] }, { accessFlags := 26, nameIndex := 233, descriptorIndex := 68, attributes := #[] }, { accessFlags := 26, nameIndex := 235, descriptorIndex := 68, attributes := #[] }, { accessFlags := 26, nameIndex := 237, descriptorIndex := 68, attributes := #[] }, { accessFlags := 26, nameIndex := 239, descriptorIndex := 68, attributes := #[] }, { accessFlags := 26, nameIndex := 241, descriptorIndex := 68, attributes := #[] }, { accessFlags := 26, nameIndex := 242, descriptorIndex := 68, attributes := #[] }, { accessFlags := 26, nameIndex := 243, descriptorIndex := 68, attributes := #[] }, { accessFlags := 26, nameIndex := 244, descriptorIndex := 68, attributes := #[] }])
  fields := #[{ name := "MAX_MIXED_INSERTION_SORT_SIZE", type := .int, accessFlags := 26, slot := 0, constantValue := 0 }, { name := "MAX_INSERTION_SORT_SIZE", type := .int, accessFlags := 26, slot := 1, constantValue := 0 }, { name := "MIN_PARALLEL_SORT_SIZE", type := .int, accessFlags := 26, slot := 2, constantValue := 0 }, { name := "MIN_TRY_MERGE_SIZE", type := .int, accessFlags := 26, slot := 3, constantValue := 0 }, { name := "MIN_FIRST_RUN_SIZE", type := .int, accessFlags := 26, slot := 4, constantValue := 0 }, { name := "MIN_FIRST_RUNS_FACTOR", type := .int, accessFlags := 26, slot := 5, constantValue := 0 }, { name := "MAX_RUN_CAPACITY", type := .int, accessFlags := 26, slot := 6, constantValue := 0 }, { name := "MIN_RUN_COUNT", type := .int, accessFlags := 26, slot := 7, constantValue := 0 }, { name := "MIN_PARALLEL_MERGE_PARTS_SIZE", type := .int, accessFlags := 26, slot := 8, constantValue := 0 }, { name := "MIN_BYTE_COUNTING_SORT_SIZE", type := .int, accessFlags := 26, slot := 9, constantValue := 0 }, { name := "MIN_SHORT_OR_CHAR_COUNTING_SORT_SIZE", type := .int, accessFlags := 26, slot := 10, constantValue := 0 }, { name := "DELTA", type := .int, accessFlags := 26, slot := 11, constantValue := 0 }, { name := "MAX_RECURSION_DEPTH", type := .int, accessFlags := 26, slot := 12, constantValue := 0 }, { name := "NUM_BYTE_VALUES", type := .int, accessFlags := 26, slot := 13, constantValue := 0 }, { name := "MAX_BYTE_INDEX", type := .int, accessFlags := 26, slot := 14, constantValue := 0 }, { name := "NUM_CHAR_VALUES", type := .int, accessFlags := 26, slot := 15, constantValue := 0 }, { name := "NUM_SHORT_VALUES", type := .int, accessFlags := 26, slot := 16, constantValue := 0 }, { name := "MAX_SHORT_INDEX", type := .int, accessFlags := 26, slot := 17, constantValue := 0 }]
  methods := #[k17m0, k17m1, k17m2, k17m3]
  instanceTypes := #[]
  staticTypes := #[.int, .int, .int, .int, .int, .int, .int, .int, .int, .int, .int, .int, .int, .int, .int, .int, .int, .int]
  resolved := Array.replicate 331 none
  statics := none }

def pool18 : Array CpInfo := pool [(1, .methodref 2 3), (0, .class_ 4), (0, .nameAndType 5 6), (0, u "java/lang/Object"), (0, u "<init>"), (0, u "()V"), (0, .fieldref 8 9), (0, .class_ 10), (0, .nameAndType 11 12), (0, u "com/example/narrows/narrows/SubsetChange"), (0, u "added"), (0, u "[I"), (0, .fieldref 8 14), (0, .nameAndType 15 12), (0, u "removed"), (0, .methodref 8 17), (0, .nameAndType 18 19), (0, u "trimmed"), (0, u "([II)[I"), (0, .methodref 8 21), (0, .nameAndType 5 22), (0, u "([I[I)V"), (0, .fieldref 8 24), (0, .nameAndType 25 12), (0, u "NONE"), (0, .methodref 27 28), (0, .class_ 29), (0, .nameAndType 30 19), (0, u "java/util/Arrays"), (0, u "copyOf"), (15, u "between"), (0, u "([I[I)Lcom/example/narrows/narrows/SubsetChange;"), (2, u "removedCount"), (0, u "()I")] 19

def k18c0 : Code := { maxStack := 2, maxLocals := 3, code := prog_28_method_1_code, exceptionTable := #[], attributes := #[] }
def k18m0 : Method := { name := "<init>", desc := "([I[I)V", sig := { parameters := [(.array .int), (.array .int)], returnType := none }, accessFlags := 2, code := some k18c0 }
def k18c1 : Code := { maxStack := 5, maxLocals := 8, code := prog_28_method_2_code, exceptionTable := #[], attributes := #[] }
def k18m1 : Method := { name := "between", desc := "([I[I)Lcom/example/narrows/narrows/SubsetChange;", sig := { parameters := [(.array .int), (.array .int)], returnType := some (.object "com/example/narrows/narrows/SubsetChange") }, accessFlags := 8, code := some k18c1 }
def k18c2 : Code := { maxStack := 2, maxLocals := 2, code := prog_28_method_3_code, exceptionTable := #[], attributes := #[] }
def k18m2 : Method := { name := "trimmed", desc := "([II)[I", sig := { parameters := [(.array .int), .int], returnType := some (.array .int) }, accessFlags := 10, code := some k18c2 }
def k18c3 : Code := { maxStack := 1, maxLocals := 1, code := prog_28_method_6_code, exceptionTable := #[], attributes := #[] }
def k18m3 : Method := { name := "removedCount", desc := "()I", sig := { parameters := [], returnType := some .int }, accessFlags := 0, code := some k18c3 }
/-- com/example/narrows/narrows/SubsetChange -/
def k18 : Class := { plain "com/example/narrows/narrows/SubsetChange" (some 0) with
  accessFlags := 49
  interfaces := #[]
  cf := some (fileOf pool18 8 #[] #[{ accessFlags := 2, nameIndex := 5, descriptorIndex := 22, attributes := #[] }, { accessFlags := 8, nameIndex := 46, descriptorIndex := 47, attributes := #[] }, { accessFlags := 10, nameIndex := 18, descriptorIndex := 19, attributes := #[] }, { accessFlags := 0, nameIndex := 50, descriptorIndex := 51, attributes := #[] }] 49 2 #[] #[{ accessFlags := 26, nameIndex := 25, descriptorIndex := 12, attributes := #[] }, { accessFlags := 18, nameIndex := 11, descriptorIndex := 12, attributes := #[] }, { accessFlags := 18, nameIndex := 15, descriptorIndex := 12, attributes := #[] }])
  fields := #[{ name := "NONE", type := (.array .int), accessFlags := 26, slot := 0, constantValue := 0 }, { name := "added", type := (.array .int), accessFlags := 18, slot := 0, constantValue := 0 }, { name := "removed", type := (.array .int), accessFlags := 18, slot := 1, constantValue := 0 }]
  methods := #[k18m0, k18m1, k18m2, k18m3]
  instanceTypes := #[(.array .int), (.array .int)]
  staticTypes := #[(.array .int)]
  resolved := Array.replicate 71 none
  statics := some 2 }

def pool19 : Array CpInfo := pool [(2, .class_ 4), (1, u "java/lang/Object"), (0, u "<init>"), (0, u "()V"), (1, .class_ 10), (1, u "java/lang/System"), (0, u "allowSecurityManager"), (0, u "I"), (16, u "cons"), (0, u "Ljava/io/Console;"), (77, .class_ 110), (1, u "java/lang/System$CallersHolder"), (43, u "initialErrStream"), (0, u "Ljava/io/PrintStream;"), (19, u "security"), (0, u "Ljava/lang/SecurityManager;"), (31, .class_ 209), (0, u "java/lang/System$1"), (7, u "props"), (0, u "Ljava/util/Properties;"), (2, u "lineSeparator"), (0, u "Ljava/lang/String;"), (96, .class_ 321), (1, u "java/lang/System$LoggerFinder"), (5, .class_ 328), (0, u "java/lang/System$Logger"), (67, u "err"), (2, u "out"), (91, u "notSupportedJnuEncoding"), (15, u "in"), (17, u "initialIn"), (0, u "Ljava/io/InputStream;"), (35, u "bootLayer"), (0, u "Ljava/lang/ModuleLayer;"), (99, .class_ 664), (0, u "java/lang/System$2"), (9, u "NEVER"), (2, u "MAYBE"), (49, u "arraycopy"), (0, u "(Ljava/lang/Object;ILjava/lang/Object;II)V"), (72, .class_ 802), (0, u "java/lang/System$Logger$Level")] 31

def k19m0 : Method := { name := "<init>", desc := "()V", sig := { parameters := [], returnType := none }, accessFlags := 2, code := none }
def k19m1 : Method := { name := "arraycopy", desc := "(Ljava/lang/Object;ILjava/lang/Object;II)V", sig := { parameters := [(.object "java/lang/Object"), .int, (.object "java/lang/Object"), .int, .int], returnType := none }, accessFlags := 265, code := none }
/-- java/lang/System -/
def k19 : Class := { plain "java/lang/System" (some 0) with
  accessFlags := 49
  interfaces := #[]
  cf := some (fileOf pool19 8 #[.nestMembers #[319, 327, 801, 108, 663, 208]] #[{ accessFlags := 2, nameIndex := 5, descriptorIndex := 6, attributes := #[] }, { accessFlags := 265, nameIndex := 727, descriptorIndex := 728, attributes := #[] }] 49 2 #[] #[{ accessFlags := 25, nameIndex := 507, descriptorIndex := 526, attributes := #[] }, { accessFlags := 25, nameIndex := 399, descriptorIndex := 155, attributes := #[] }, { accessFlags := 25, nameIndex := 396, descriptorIndex := 155, attributes := #[] }, { accessFlags := 10, nameIndex := 525, descriptorIndex := 526, attributes := #[] }, { accessFlags := 26, nameIndex := 674, descriptorIndex := 12, attributes := #[] }, { accessFlags := 26, nameIndex := 677, descriptorIndex := 12, attributes := #[] }, { accessFlags := 10, nameIndex := 11, descriptorIndex := 12, attributes := #[] }, { accessFlags := 74, nameIndex := 175, descriptorIndex := 176, attributes := #[] }, { accessFlags := 10, nameIndex := 491, descriptorIndex := 222, attributes := #[] }, { accessFlags := 74, nameIndex := 29, descriptorIndex := 30, attributes := #[] }, { accessFlags := 74, nameIndex := 154, descriptorIndex := 155, attributes := #[] }, { accessFlags := 10, nameIndex := 217, descriptorIndex := 218, attributes := #[] }, { accessFlags := 10, nameIndex := 221, descriptorIndex := 222, attributes := #[] }, { accessFlags := 8, nameIndex := 562, descriptorIndex := 563, attributes := #[] }])
  fields := #[{ name := "in", type := (.object "java/io/InputStream"), accessFlags := 25, slot := 0, constantValue := 0 }, { name := "out", type := (.object "java/io/PrintStream"), accessFlags := 25, slot := 1, constantValue := 0 }, { name := "err", type := (.object "java/io/PrintStream"), accessFlags := 25, slot := 2, constantValue := 0 }, { name := "initialIn", type := (.object "java/io/InputStream"), accessFlags := 10, slot := 3, constantValue := 0 }, { name := "NEVER", type := .int, accessFlags := 26, slot := 4, constantValue := 0 }, { name := "MAYBE", type := .int, accessFlags := 26, slot := 5, constantValue := 0 }, { name := "allowSecurityManager", type := .int, accessFlags := 10, slot := 6, constantValue := 0 }, { name := "security", type := (.object "java/lang/SecurityManager"), accessFlags := 74, slot := 7, constantValue := 0 }, { name := "notSupportedJnuEncoding", type := (.object "java/lang/String"), accessFlags := 10, slot := 8, constantValue := 0 }, { name := "cons", type := (.object "java/io/Console"), accessFlags := 74, slot := 9, constantValue := 0 }, { name := "initialErrStream", type := (.object "java/io/PrintStream"), accessFlags := 74, slot := 10, constantValue := 0 }, { name := "props", type := (.object "java/util/Properties"), accessFlags := 10, slot := 11, constantValue := 0 }, { name := "lineSeparator", type := (.object "java/lang/String"), accessFlags := 10, slot := 12, constantValue := 0 }, { name := "bootLayer", type := (.object "java/lang/ModuleLayer"), accessFlags := 8, slot := 13, constantValue := 0 }]
  methods := #[k19m0, k19m1]
  instanceTypes := #[]
  staticTypes := #[(.object "java/io/InputStream"), (.object "java/io/PrintStream"), (.object "java/io/PrintStream"), (.object "java/io/InputStream"), .int, .int, .int, (.object "java/lang/SecurityManager"), (.object "java/lang/String"), (.object "java/io/Console"), (.object "java/io/PrintStream"), (.object "java/util/Properties"), (.object "java/lang/String"), (.object "java/lang/ModuleLayer")]
  resolved := Array.replicate 834 none
  statics := none }

/-- the primitive byte -/
def k20 : Class := { plain "byte" none with kind := .primitive 'B', accessFlags := 0x411 }
/-- [B -/
def k21 : Class := { plain "[B" (some 0) with kind := .array 20 .byte, interfaces := #[12, 4], accessFlags := 1041 }

/-- the primitive int -/
def k22 : Class := { plain "int" none with kind := .primitive 'I', accessFlags := 0x411 }
/-- [I -/
def k23 : Class := { plain "[I" (some 0) with kind := .array 22 .int, interfaces := #[12, 4], accessFlags := 1041 }

/-- the primitive long -/
def k24 : Class := { plain "long" none with kind := .primitive 'J', accessFlags := 0x411 }
/-- [J -/
def k25 : Class := { plain "[J" (some 0) with kind := .array 24 .long, interfaces := #[12, 4], accessFlags := 1041 }

def heap : Heap := #[{ cls := 3, slots := #[.int 0, .ref 3], vm := .statics 3 },
  { cls := 13, slots := #[.int 0, .int 0, .int 0, .long 0, .null, .long 0, .int 1], vm := .statics 13 },
  { cls := 18, slots := #[.ref 4], vm := .statics 18 },
  { cls := 23, slots := #[.int 0, .int 8, .int 2, .int 4, .int 6, .int 1, .int 9, .int 5, .int 3, .int 7], vm := .none },
  { cls := 23, slots := #[], vm := .none }]
def classes : Array Class := #[k0, k1, k2, k3, k4, k5, k6, k7, k8, k9, k10, k11, k12, k13, k14, k15, k16, k17, k18, k19, k20, k21, k22, k23, k24, k25]
def interned : List (Array UInt16 × Addr) := []
def slotsUsed : Nat := 20
def theMethod : MethodId := ⟨1, 1⟩
def args0 : Array Value := #[.int 5, .int 5, .int 5, .int 5, .int 5, .int 5]
def aboutOver (below : List Frame) : State where
  vm := { classes := classes, interned := interned.toArray }
  heap := heap
  slotsUsed := slotsUsed
  threads := #[{ frames := .invoking theMethod args0 :: below }]
def below0 : List Frame := [.native { method := ⟨0, 0⟩, args := #[] }]
def about1 : State := aboutOver below0
def p0 : Program := .bare "" "" ""
def e0 : Env := launch0.env 0 0 0
theorem w_frames : about1.frames = Frame.invoking theMethod args0 :: below0 := rfl
set_option maxRecDepth 65536 in
theorem w_args : argsFit about1.vm theMethod args0 = true := by decide +kernel
set_option maxRecDepth 65536 in
theorem w_heap : heapFits about1 = true := by decide +kernel
set_option maxRecDepth 65536 in
theorem w_runnable : about1.curStatus? = some .runnable := by decide +kernel
set_option maxRecDepth 65536 in
theorem w_alone : about1.alone = true := by decide +kernel
set_option maxRecDepth 65536 in
theorem w_named : about1.methodNamed? x = some theMethod := by decide +kernel
set_option maxRecDepth 65536 in
theorem w_hears : about1.hears theMethod below0 = true := by decide +kernel
set_option maxRecDepth 65536 in
theorem w_ripe : about1.ripe theMethod args0 below0 = true := by decide +kernel
theorem w_running : about1.status = .running := rfl
set_option maxRecDepth 65536 in
theorem w_room : about1.hasRoom e0.platform room_1 = true :=
  launch0.hasRoom_least _ room_1 (by decide +kernel) (by decide +kernel) (by decide +kernel) (by decide +kernel) (by decide +kernel) (by decide +kernel)
theorem allAtoms_all (ts : List Jvm.Cond) (a : Array Jvm.Value) (st : Jvm.State) : (allAtoms ts).before a st = ts.all (fun c => c.before a st) := by
  induction ts with
  | nil => rfl
  | cons c t ih =>
    show (Jvm.Cond.and c (allAtoms t)).before a st = _
    rw [Jvm.Cond.before_and, ih, List.all_cons]
def words1 : List Jvm.Cond := Jvm.Cond.code x code maxLocals ret :: tables_1
/-- a 'code' word, met by the world's own term for the bytes: nothing is compared byte by byte -/
theorem code_word {y : MethodName} {bytes : ByteArray} {mx : Nat} {rt : Option FieldType} {a : Array Value} {s : State} {m : MethodId} {meth : Method} {c : Code} (h1 : s.methodNamed? y = some m) (h2 : s.vm.method? m = some meth) (h3 : meth.code = some c) (h4 : c.code = bytes)
    (h5 : (c.maxLocals == mx && c.exceptionTable.isEmpty && decide (c.maxStack ≤ mostOperands) && decide (meth.sig.returnType = rt) && !meth.locks && decide (parseMethodDescriptor y.desc = some meth.sig)) = true) : (Jvm.Cond.code y bytes mx rt).before a s = true := by
  simp only [Bool.and_eq_true, beq_iff_eq, Bool.not_eq_true', decide_eq_true_eq] at h5
  obtain ⟨⟨⟨⟨⟨g1, g2⟩, g3⟩, g4⟩, g5⟩, g6⟩ := h5
  simp [Cond.before, Cond.holds, Cond.value, h1, h2, h3, h4, g1, g2, g3, g4, g5, g6]
def isCode : Jvm.Cond → Bool
  | .code _ _ _ _ => true
  | _ => false
theorem all_split {L : List Jvm.Cond} {P : Jvm.Cond → Bool} (h1 : L.all (fun c => isCode c || P c) = true) (h2 : ∀ c ∈ L.filter isCode, P c = true) : L.all P = true := by
  refine List.all_eq_true.mpr fun c hc => ?_
  have h := List.all_eq_true.mp h1 c hc
  rcases Bool.eq_false_or_eq_true (isCode c) with hi | hi
  · exact h2 c (List.mem_filter.mpr ⟨hc, hi⟩)
  · simpa [hi] using h
set_option maxRecDepth 65536 in
theorem w_c0 : (Jvm.Cond.code x code maxLocals ret).before args0 about1 = true := code_word (m := ⟨1, 1⟩) (meth := k1m1) (c := k1c1) (by decide +kernel) rfl rfl rfl (by decide +kernel)
set_option maxRecDepth 65536 in
theorem w_c1 : (Jvm.Cond.code ({ cls := "com/example/narrows/narrows/Churn", name := "<init>", desc := "(IIIIII)V" } : Jvm.MethodName) prog_7_method_1_code (17 : Nat) (Option.none : Option Jvm.ClassFile.FieldType)).before args0 about1 = true := code_word (m := ⟨2, 0⟩) (meth := k2m0) (c := k2c0) (by decide +kernel) rfl rfl rfl (by decide +kernel)
set_option maxRecDepth 65536 in
theorem w_c2 : (Jvm.Cond.code ({ cls := "java/lang/Object", name := "<init>", desc := "()V" } : Jvm.MethodName) object_method_1_code (1 : Nat) (Option.none : Option Jvm.ClassFile.FieldType)).before args0 about1 = true := code_word (m := ⟨0, 0⟩) (meth := k0m0) (c := k0c0) (by decide +kernel) rfl rfl rfl (by decide +kernel)
set_option maxRecDepth 65536 in
theorem w_c3 : (Jvm.Cond.code ({ cls := "com/example/narrows/narrows/Subsetter", name := "checkClients", desc := "(I)V" } : Jvm.MethodName) prog_29_method_15_code (1 : Nat) (Option.none : Option Jvm.ClassFile.FieldType)).before args0 about1 = true := code_word (m := ⟨3, 9⟩) (meth := k3m9) (c := k3c9) (by decide +kernel) rfl rfl rfl (by decide +kernel)
set_option maxRecDepth 65536 in
theorem w_c4 : (Jvm.Cond.code ({ cls := "com/example/narrows/narrows/Subsetter", name := "<init>", desc := "(II)V" } : Jvm.MethodName) prog_29_method_1_code (3 : Nat) (Option.none : Option Jvm.ClassFile.FieldType)).before args0 about1 = true := code_word (m := ⟨3, 0⟩) (meth := k3m0) (c := k3c0) (by decide +kernel) rfl rfl rfl (by decide +kernel)
set_option maxRecDepth 65536 in
theorem w_c5 : (Jvm.Cond.code ({ cls := "java/lang/Integer", name := "numberOfLeadingZeros", desc := "(I)I" } : Jvm.MethodName) jdk_33_method_47_code (2 : Nat) (Option.some Jvm.ClassFile.FieldType.int)).before args0 about1 = true := code_word (m := ⟨9, 1⟩) (meth := k9m1) (c := k9c1) (by decide +kernel) rfl rfl rfl (by decide +kernel)
set_option maxRecDepth 65536 in
theorem w_c6 : (Jvm.Cond.code ({ cls := "java/lang/Math", name := "max", desc := "(II)I" } : Jvm.MethodName) jdk_29_method_65_code (2 : Nat) (Option.some Jvm.ClassFile.FieldType.int)).before args0 about1 = true := code_word (m := ⟨10, 1⟩) (meth := k10m1) (c := k10c1) (by decide +kernel) rfl rfl rfl (by decide +kernel)
set_option maxRecDepth 65536 in
theorem w_c7 : (Jvm.Cond.code ({ cls := "java/lang/Math", name := "min", desc := "(II)I" } : Jvm.MethodName) jdk_29_method_69_code (2 : Nat) (Option.some Jvm.ClassFile.FieldType.int)).before args0 about1 = true := code_word (m := ⟨10, 2⟩) (meth := k10m2) (c := k10c2) (by decide +kernel) rfl rfl rfl (by decide +kernel)
set_option maxRecDepth 65536 in
theorem w_c8 : (Jvm.Cond.code ({ cls := "com/example/narrows/narrows/Subsetter", name := "subset", desc := "(I)[I" } : Jvm.MethodName) prog_29_method_2_code (5 : Nat) (Option.some (Jvm.ClassFile.FieldType.array Jvm.ClassFile.FieldType.int))).before args0 about1 = true := code_word (m := ⟨3, 1⟩) (meth := k3m1) (c := k3c1) (by decide +kernel) rfl rfl rfl (by decide +kernel)
set_option maxRecDepth 65536 in
theorem w_c9 : (Jvm.Cond.code ({ cls := "com/example/narrows/narrows/Subsetter", name := "sharedWalk", desc := "(I)[I" } : Jvm.MethodName) prog_29_method_5_code (11 : Nat) (Option.some (Jvm.ClassFile.FieldType.array Jvm.ClassFile.FieldType.int))).before args0 about1 = true := code_word (m := ⟨3, 2⟩) (meth := k3m2) (c := k3c2) (by decide +kernel) rfl rfl rfl (by decide +kernel)
set_option maxRecDepth 65536 in
theorem w_c10 : (Jvm.Cond.code ({ cls := "com/example/narrows/narrows/Subsetter", name := "walkOrder", desc := "(II)[I" } : Jvm.MethodName) prog_29_method_13_code (9 : Nat) (Option.some (Jvm.ClassFile.FieldType.array Jvm.ClassFile.FieldType.int))).before args0 about1 = true := code_word (m := ⟨3, 7⟩) (meth := k3m7) (c := k3c7) (by decide +kernel) rfl rfl rfl (by decide +kernel)
set_option maxRecDepth 65536 in
theorem w_c11 : (Jvm.Cond.code ({ cls := "com/example/narrows/narrows/Subsetter", name := "firstSlotAtOrAfter", desc := "(I)I" } : Jvm.MethodName) prog_29_method_17_code (5 : Nat) (Option.some Jvm.ClassFile.FieldType.int)).before args0 about1 = true := code_word (m := ⟨3, 10⟩) (meth := k3m10) (c := k3c10) (by decide +kernel) rfl rfl rfl (by decide +kernel)
set_option maxRecDepth 65536 in
theorem w_c12 : (Jvm.Cond.code ({ cls := "java/lang/Integer", name := "reverse", desc := "(I)I" } : Jvm.MethodName) jdk_33_method_52_code (1 : Nat) (Option.some Jvm.ClassFile.FieldType.int)).before args0 about1 = true := code_word (m := ⟨9, 2⟩) (meth := k9m2) (c := k9c2) (by decide +kernel) rfl rfl rfl (by decide +kernel)
set_option maxRecDepth 65536 in
theorem w_c13 : (Jvm.Cond.code ({ cls := "java/lang/Integer", name := "reverseBytes", desc := "(I)I" } : Jvm.MethodName) jdk_33_method_57_code (1 : Nat) (Option.some Jvm.ClassFile.FieldType.int)).before args0 about1 = true := code_word (m := ⟨9, 3⟩) (meth := k9m3) (c := k9c3) (by decide +kernel) rfl rfl rfl (by decide +kernel)
set_option maxRecDepth 65536 in
theorem w_c14 : (Jvm.Cond.code ({ cls := "java/lang/Integer", name := "toUnsignedLong", desc := "(I)J" } : Jvm.MethodName) jdk_33_method_42_code (1 : Nat) (Option.some Jvm.ClassFile.FieldType.long)).before args0 about1 = true := code_word (m := ⟨9, 0⟩) (meth := k9m0) (c := k9c0) (by decide +kernel) rfl rfl rfl (by decide +kernel)
set_option maxRecDepth 65536 in
theorem w_c15 : (Jvm.Cond.code ({ cls := "com/example/narrows/narrows/Subsetter", name := "lotAt", desc := "(I)I" } : Jvm.MethodName) prog_29_method_18_code (2 : Nat) (Option.some Jvm.ClassFile.FieldType.int)).before args0 about1 = true := code_word (m := ⟨3, 11⟩) (meth := k3m11) (c := k3c11) (by decide +kernel) rfl rfl rfl (by decide +kernel)
set_option maxRecDepth 65536 in
theorem w_c16 : (Jvm.Cond.code ({ cls := "com/example/narrows/narrows/Subsetter", name := "lotsHolding", desc := "([IJ)I" } : Jvm.MethodName) prog_29_method_11_code (8 : Nat) (Option.some Jvm.ClassFile.FieldType.int)).before args0 about1 = true := code_word (m := ⟨3, 5⟩) (meth := k3m5) (c := k3c5) (by decide +kernel) rfl rfl rfl (by decide +kernel)
set_option maxRecDepth 65536 in
theorem w_c17 : (Jvm.Cond.code ({ cls := "com/example/narrows/narrows/Subsetter$Stretch", name := "<init>", desc := "(JII)V" } : Jvm.MethodName) prog_30_method_1_code (5 : Nat) (Option.none : Option Jvm.ClassFile.FieldType)).before args0 about1 = true := code_word (m := ⟨11, 0⟩) (meth := k11m0) (c := k11c0) (by decide +kernel) rfl rfl rfl (by decide +kernel)
set_option maxRecDepth 65536 in
theorem w_c18 : (Jvm.Cond.code ({ cls := "java/util/BitSet", name := "<init>", desc := "(I)V" } : Jvm.MethodName) jdk_92_method_5_code (2 : Nat) (Option.none : Option Jvm.ClassFile.FieldType)).before args0 about1 = true := code_word (m := ⟨13, 3⟩) (meth := k13m3) (c := k13c3) (by decide +kernel) rfl rfl rfl (by decide +kernel)
set_option maxRecDepth 65536 in
theorem w_c19 : (Jvm.Cond.code ({ cls := "java/util/BitSet", name := "initWords", desc := "(I)V" } : Jvm.MethodName) jdk_92_method_6_code (2 : Nat) (Option.none : Option Jvm.ClassFile.FieldType)).before args0 about1 = true := code_word (m := ⟨13, 4⟩) (meth := k13m4) (c := k13c4) (by decide +kernel) rfl rfl rfl (by decide +kernel)
set_option maxRecDepth 65536 in
theorem w_c20 : (Jvm.Cond.code ({ cls := "java/util/BitSet", name := "wordIndex", desc := "(I)I" } : Jvm.MethodName) jdk_92_method_1_code (1 : Nat) (Option.some Jvm.ClassFile.FieldType.int)).before args0 about1 = true := code_word (m := ⟨13, 0⟩) (meth := k13m0) (c := k13c0) (by decide +kernel) rfl rfl rfl (by decide +kernel)
set_option maxRecDepth 65536 in
theorem w_c21 : (Jvm.Cond.code ({ cls := "com/example/narrows/narrows/Subsetter", name := "offerRows", desc := "([IILcom/example/narrows/narrows/Subsetter$Stretch;)Z" } : Jvm.MethodName) prog_29_method_10_code (10 : Nat) (Option.some Jvm.ClassFile.FieldType.boolean)).before args0 about1 = true := code_word (m := ⟨3, 4⟩) (meth := k3m4) (c := k3c4) (by decide +kernel) rfl rfl rfl (by decide +kernel)
set_option maxRecDepth 65536 in
theorem w_c22 : (Jvm.Cond.code ({ cls := "com/example/narrows/narrows/Subsetter", name := "backendAt", desc := "(III)I" } : Jvm.MethodName) prog_29_method_14_code (6 : Nat) (Option.some Jvm.ClassFile.FieldType.int)).before args0 about1 = true := code_word (m := ⟨3, 8⟩) (meth := k3m8) (c := k3c8) (by decide +kernel) rfl rfl rfl (by decide +kernel)
set_option maxRecDepth 65536 in
theorem w_c23 : (Jvm.Cond.code ({ cls := "com/example/narrows/narrows/Subsetter", name := "shuffle", desc := "(II)[I" } : Jvm.MethodName) prog_29_method_19_code (7 : Nat) (Option.some (Jvm.ClassFile.FieldType.array Jvm.ClassFile.FieldType.int))).before args0 about1 = true := code_word (m := ⟨3, 12⟩) (meth := k3m12) (c := k3c12) (by decide +kernel) rfl rfl rfl (by decide +kernel)
set_option maxRecDepth 65536 in
theorem w_c24 : (Jvm.Cond.code ({ cls := "com/example/narrows/narrows/SplitMix64", name := "afterDraws", desc := "(JJ)Lcom/example/narrows/narrows/SplitMix64;" } : Jvm.MethodName) prog_27_method_2_code (4 : Nat) (Option.some (Jvm.ClassFile.FieldType.object "com/example/narrows/narrows/SplitMix64"))).before args0 about1 = true := code_word (m := ⟨14, 1⟩) (meth := k14m1) (c := k14c1) (by decide +kernel) rfl rfl rfl (by decide +kernel)
set_option maxRecDepth 65536 in
theorem w_c25 : (Jvm.Cond.code ({ cls := "com/example/narrows/narrows/SplitMix64", name := "<init>", desc := "(J)V" } : Jvm.MethodName) prog_27_method_1_code (3 : Nat) (Option.none : Option Jvm.ClassFile.FieldType)).before args0 about1 = true := code_word (m := ⟨14, 0⟩) (meth := k14m0) (c := k14c0) (by decide +kernel) rfl rfl rfl (by decide +kernel)
set_option maxRecDepth 65536 in
theorem w_c26 : (Jvm.Cond.code ({ cls := "com/example/narrows/narrows/SplitMix64", name := "nextLong", desc := "()J" } : Jvm.MethodName) prog_27_method_3_code (3 : Nat) (Option.some Jvm.ClassFile.FieldType.long)).before args0 about1 = true := code_word (m := ⟨14, 2⟩) (meth := k14m2) (c := k14c2) (by decide +kernel) rfl rfl rfl (by decide +kernel)
set_option maxRecDepth 65536 in
theorem w_c27 : (Jvm.Cond.code ({ cls := "java/lang/Long", name := "remainderUnsigned", desc := "(JJ)J" } : Jvm.MethodName) jdk_35_method_45_code (8 : Nat) (Option.some Jvm.ClassFile.FieldType.long)).before args0 about1 = true := code_word (m := ⟨15, 0⟩) (meth := k15m0) (c := k15c0) (by decide +kernel) rfl rfl rfl (by decide +kernel)
set_option maxRecDepth 65536 in
theorem w_c28 : (Jvm.Cond.code ({ cls := "com/example/narrows/narrows/Subsetter$Stretch", name := "offer", desc := "(I)Z" } : Jvm.MethodName) prog_30_method_2_code (2 : Nat) (Option.some Jvm.ClassFile.FieldType.boolean)).before args0 about1 = true := code_word (m := ⟨11, 1⟩) (meth := k11m1) (c := k11c1) (by decide +kernel) rfl rfl rfl (by decide +kernel)
set_option maxRecDepth 65536 in
theorem w_c29 : (Jvm.Cond.code ({ cls := "java/util/BitSet", name := "get", desc := "(I)Z" } : Jvm.MethodName) jdk_92_method_26_code (3 : Nat) (Option.some Jvm.ClassFile.FieldType.boolean)).before args0 about1 = true := code_word (m := ⟨13, 8⟩) (meth := k13m8) (c := k13c8) (by decide +kernel) rfl rfl rfl (by decide +kernel)
set_option maxRecDepth 65536 in
theorem w_c30 : (Jvm.Cond.code ({ cls := "java/util/BitSet", name := "checkInvariants", desc := "()V" } : Jvm.MethodName) jdk_92_method_2_code (1 : Nat) (Option.none : Option Jvm.ClassFile.FieldType)).before args0 about1 = true := code_word (m := ⟨13, 1⟩) (meth := k13m1) (c := k13c1) (by decide +kernel) rfl rfl rfl (by decide +kernel)
set_option maxRecDepth 65536 in
theorem w_c31 : (Jvm.Cond.code ({ cls := "java/util/BitSet", name := "set", desc := "(I)V" } : Jvm.MethodName) jdk_92_method_19_code (3 : Nat) (Option.none : Option Jvm.ClassFile.FieldType)).before args0 about1 = true := code_word (m := ⟨13, 7⟩) (meth := k13m7) (c := k13c7) (by decide +kernel) rfl rfl rfl (by decide +kernel)
set_option maxRecDepth 65536 in
theorem w_c32 : (Jvm.Cond.code ({ cls := "java/util/BitSet", name := "expandTo", desc := "(I)V" } : Jvm.MethodName) jdk_92_method_15_code (3 : Nat) (Option.none : Option Jvm.ClassFile.FieldType)).before args0 about1 = true := code_word (m := ⟨13, 6⟩) (meth := k13m6) (c := k13c6) (by decide +kernel) rfl rfl rfl (by decide +kernel)
set_option maxRecDepth 65536 in
theorem w_c33 : (Jvm.Cond.code ({ cls := "java/util/BitSet", name := "ensureCapacity", desc := "(I)V" } : Jvm.MethodName) jdk_92_method_14_code (3 : Nat) (Option.none : Option Jvm.ClassFile.FieldType)).before args0 about1 = true := code_word (m := ⟨13, 5⟩) (meth := k13m5) (c := k13c5) (by decide +kernel) rfl rfl rfl (by decide +kernel)
set_option maxRecDepth 65536 in
theorem w_c34 : (Jvm.Cond.code ({ cls := "java/util/Arrays", name := "sort", desc := "([I)V" } : Jvm.MethodName) jdk_65_method_2_code (1 : Nat) (Option.none : Option Jvm.ClassFile.FieldType)).before args0 about1 = true := code_word (m := ⟨16, 1⟩) (meth := k16m1) (c := k16c1) (by decide +kernel) rfl rfl rfl (by decide +kernel)
set_option maxRecDepth 65536 in
theorem w_c35 : (Jvm.Cond.code ({ cls := "java/util/DualPivotQuicksort", name := "sort", desc := "([IIII)V" } : Jvm.MethodName) jdk_2529_method_3_code (7 : Nat) (Option.none : Option Jvm.ClassFile.FieldType)).before args0 about1 = true := code_word (m := ⟨17, 1⟩) (meth := k17m1) (c := k17c1) (by decide +kernel) rfl rfl rfl (by decide +kernel)
set_option maxRecDepth 65536 in
theorem w_c36 : (Jvm.Cond.code ({ cls := "java/util/DualPivotQuicksort", name := "sort", desc := "(Ljava/util/DualPivotQuicksort$Sorter;[IIII)V" } : Jvm.MethodName) jdk_2529_method_4_code (21 : Nat) (Option.none : Option Jvm.ClassFile.FieldType)).before args0 about1 = true := code_word (m := ⟨17, 2⟩) (meth := k17m2) (c := k17c2) (by decide +kernel) rfl rfl rfl (by decide +kernel)
set_option maxRecDepth 65536 in
theorem w_c37 : (Jvm.Cond.code ({ cls := "java/util/DualPivotQuicksort", name := "insertionSort", desc := "([III)V" } : Jvm.MethodName) jdk_2529_method_6_code (6 : Nat) (Option.none : Option Jvm.ClassFile.FieldType)).before args0 about1 = true := code_word (m := ⟨17, 3⟩) (meth := k17m3) (c := k17c3) (by decide +kernel) rfl rfl rfl (by decide +kernel)
set_option maxRecDepth 65536 in
theorem w_c38 : (Jvm.Cond.code ({ cls := "com/example/narrows/narrows/SubsetChange", name := "between", desc := "([I[I)Lcom/example/narrows/narrows/SubsetChange;" } : Jvm.MethodName) prog_28_method_2_code (8 : Nat) (Option.some (Jvm.ClassFile.FieldType.object "com/example/narrows/narrows/SubsetChange"))).before args0 about1 = true := code_word (m := ⟨18, 1⟩) (meth := k18m1) (c := k18c1) (by decide +kernel) rfl rfl rfl (by decide +kernel)
set_option maxRecDepth 65536 in
theorem w_c39 : (Jvm.Cond.code ({ cls := "com/example/narrows/narrows/SubsetChange", name := "trimmed", desc := "([II)[I" } : Jvm.MethodName) prog_28_method_3_code (2 : Nat) (Option.some (Jvm.ClassFile.FieldType.array Jvm.ClassFile.FieldType.int))).before args0 about1 = true := code_word (m := ⟨18, 2⟩) (meth := k18m2) (c := k18c2) (by decide +kernel) rfl rfl rfl (by decide +kernel)
set_option maxRecDepth 65536 in
theorem w_c40 : (Jvm.Cond.code ({ cls := "java/util/Arrays", name := "copyOf", desc := "([II)[I" } : Jvm.MethodName) jdk_65_method_123_code (3 : Nat) (Option.some (Jvm.ClassFile.FieldType.array Jvm.ClassFile.FieldType.int))).before args0 about1 = true := code_word (m := ⟨16, 2⟩) (meth := k16m2) (c := k16c2) (by decide +kernel) rfl rfl rfl (by decide +kernel)
set_option maxRecDepth 65536 in
theorem w_c41 : (Jvm.Cond.code ({ cls := "com/example/narrows/narrows/SubsetChange", name := "<init>", desc := "([I[I)V" } : Jvm.MethodName) prog_28_method_1_code (3 : Nat) (Option.none : Option Jvm.ClassFile.FieldType)).before args0 about1 = true := code_word (m := ⟨18, 0⟩) (meth := k18m0) (c := k18c0) (by decide +kernel) rfl rfl rfl (by decide +kernel)
set_option maxRecDepth 65536 in
theorem w_c42 : (Jvm.Cond.code ({ cls := "com/example/narrows/narrows/SubsetChange", name := "removedCount", desc := "()I" } : Jvm.MethodName) prog_28_method_6_code (1 : Nat) (Option.some Jvm.ClassFile.FieldType.int)).before args0 about1 = true := code_word (m := ⟨18, 3⟩) (meth := k18m3) (c := k18c3) (by decide +kernel) rfl rfl rfl (by decide +kernel)
set_option maxRecDepth 65536 in
theorem w_c43 : (Jvm.Cond.code ({ cls := "com/example/narrows/narrows/Churn", name := "connectionsAfter", desc := "()J" } : Jvm.MethodName) prog_7_method_9_code (1 : Nat) (Option.some Jvm.ClassFile.FieldType.long)).before args0 about1 = true := code_word (m := ⟨2, 1⟩) (meth := k2m1) (c := k2c1) (by decide +kernel) rfl rfl rfl (by decide +kernel)
set_option maxRecDepth 65536 in
theorem w_c44 : (Jvm.Cond.code ({ cls := "com/example/narrows/narrows/Subsetter", name := "walk", desc := "(II)[I" } : Jvm.MethodName) prog_29_method_12_code (7 : Nat) (Option.some (Jvm.ClassFile.FieldType.array Jvm.ClassFile.FieldType.int))).before args0 about1 = true := code_word (m := ⟨3, 6⟩) (meth := k3m6) (c := k3c6) (by decide +kernel) rfl rfl rfl (by decide +kernel)
set_option maxRecDepth 65536 in
theorem w_c45 : (Jvm.Cond.code ({ cls := "java/lang/Math", name := "min", desc := "(JJ)J" } : Jvm.MethodName) jdk_29_method_70_code (4 : Nat) (Option.some Jvm.ClassFile.FieldType.long)).before args0 about1 = true := code_word (m := ⟨10, 3⟩) (meth := k10m3) (c := k10c3) (by decide +kernel) rfl rfl rfl (by decide +kernel)
set_option maxRecDepth 65536 in
theorem w_c46 : (Jvm.Cond.code ({ cls := "com/example/narrows/narrows/Subsetter", name := "takeRow", desc := "(I[II[II)I" } : Jvm.MethodName) prog_29_method_9_code (9 : Nat) (Option.some Jvm.ClassFile.FieldType.int)).before args0 about1 = true := code_word (m := ⟨3, 3⟩) (meth := k3m3) (c := k3c3) (by decide +kernel) rfl rfl rfl (by decide +kernel)
def codes1 : List Jvm.Cond := [Jvm.Cond.code x code maxLocals ret, Jvm.Cond.code ({ cls := "com/example/narrows/narrows/Churn", name := "<init>", desc := "(IIIIII)V" } : Jvm.MethodName) prog_7_method_1_code (17 : Nat) (Option.none : Option Jvm.ClassFile.FieldType), Jvm.Cond.code ({ cls := "java/lang/Object", name := "<init>", desc := "()V" } : Jvm.MethodName) object_method_1_code (1 : Nat) (Option.none : Option Jvm.ClassFile.FieldType), Jvm.Cond.code ({ cls := "com/example/narrows/narrows/Subsetter", name := "checkClients", desc := "(I)V" } : Jvm.MethodName) prog_29_method_15_code (1 : Nat) (Option.none : Option Jvm.ClassFile.FieldType), Jvm.Cond.code ({ cls := "com/example/narrows/narrows/Subsetter", name := "<init>", desc := "(II)V" } : Jvm.MethodName) prog_29_method_1_code (3 : Nat) (Option.none : Option Jvm.ClassFile.FieldType), Jvm.Cond.code ({ cls := "java/lang/Integer", name := "numberOfLeadingZeros", desc := "(I)I" } : Jvm.MethodName) jdk_33_method_47_code (2 : Nat) (Option.some Jvm.ClassFile.FieldType.int), Jvm.Cond.code ({ cls := "java/lang/Math", name := "max", desc := "(II)I" } : Jvm.MethodName) jdk_29_method_65_code (2 : Nat) (Option.some Jvm.ClassFile.FieldType.int), Jvm.Cond.code ({ cls := "java/lang/Math", name := "min", desc := "(II)I" } : Jvm.MethodName) jdk_29_method_69_code (2 : Nat) (Option.some Jvm.ClassFile.FieldType.int), Jvm.Cond.code ({ cls := "com/example/narrows/narrows/Subsetter", name := "subset", desc := "(I)[I" } : Jvm.MethodName) prog_29_method_2_code (5 : Nat) (Option.some (Jvm.ClassFile.FieldType.array Jvm.ClassFile.FieldType.int)), Jvm.Cond.code ({ cls := "com/example/narrows/narrows/Subsetter", name := "sharedWalk", desc := "(I)[I" } : Jvm.MethodName) prog_29_method_5_code (11 : Nat) (Option.some (Jvm.ClassFile.FieldType.array Jvm.ClassFile.FieldType.int)), Jvm.Cond.code ({ cls := "com/example/narrows/narrows/Subsetter", name := "walkOrder", desc := "(II)[I" } : Jvm.MethodName) prog_29_method_13_code (9 : Nat) (Option.some (Jvm.ClassFile.FieldType.array Jvm.ClassFile.FieldType.int)), Jvm.Cond.code ({ cls := "com/example/narrows/narrows/Subsetter", name := "firstSlotAtOrAfter", desc := "(I)I" } : Jvm.MethodName) prog_29_method_17_code (5 : Nat) (Option.some Jvm.ClassFile.FieldType.int), Jvm.Cond.code ({ cls := "java/lang/Integer", name := "reverse", desc := "(I)I" } : Jvm.MethodName) jdk_33_method_52_code (1 : Nat) (Option.some Jvm.ClassFile.FieldType.int), Jvm.Cond.code ({ cls := "java/lang/Integer", name := "reverseBytes", desc := "(I)I" } : Jvm.MethodName) jdk_33_method_57_code (1 : Nat) (Option.some Jvm.ClassFile.FieldType.int), Jvm.Cond.code ({ cls := "java/lang/Integer", name := "toUnsignedLong", desc := "(I)J" } : Jvm.MethodName) jdk_33_method_42_code (1 : Nat) (Option.some Jvm.ClassFile.FieldType.long), Jvm.Cond.code ({ cls := "com/example/narrows/narrows/Subsetter", name := "lotAt", desc := "(I)I" } : Jvm.MethodName) prog_29_method_18_code (2 : Nat) (Option.some Jvm.ClassFile.FieldType.int), Jvm.Cond.code ({ cls := "com/example/narrows/narrows/Subsetter", name := "lotsHolding", desc := "([IJ)I" } : Jvm.MethodName) prog_29_method_11_code (8 : Nat) (Option.some Jvm.ClassFile.FieldType.int), Jvm.Cond.code ({ cls := "com/example/narrows/narrows/Subsetter$Stretch", name := "<init>", desc := "(JII)V" } : Jvm.MethodName) prog_30_method_1_code (5 : Nat) (Option.none : Option Jvm.ClassFile.FieldType), Jvm.Cond.code ({ cls := "java/util/BitSet", name := "<init>", desc := "(I)V" } : Jvm.MethodName) jdk_92_method_5_code (2 : Nat) (Option.none : Option Jvm.ClassFile.FieldType), Jvm.Cond.code ({ cls := "java/util/BitSet", name := "initWords", desc := "(I)V" } : Jvm.MethodName) jdk_92_method_6_code (2 : Nat) (Option.none : Option Jvm.ClassFile.FieldType), Jvm.Cond.code ({ cls := "java/util/BitSet", name := "wordIndex", desc := "(I)I" } : Jvm.MethodName) jdk_92_method_1_code (1 : Nat) (Option.some Jvm.ClassFile.FieldType.int), Jvm.Cond.code ({ cls := "com/example/narrows/narrows/Subsetter", name := "offerRows", desc := "([IILcom/example/narrows/narrows/Subsetter$Stretch;)Z" } : Jvm.MethodName) prog_29_method_10_code (10 : Nat) (Option.some Jvm.ClassFile.FieldType.boolean), Jvm.Cond.code ({ cls := "com/example/narrows/narrows/Subsetter", name := "backendAt", desc := "(III)I" } : Jvm.MethodName) prog_29_method_14_code (6 : Nat) (Option.some Jvm.ClassFile.FieldType.int), Jvm.Cond.code ({ cls := "com/example/narrows/narrows/Subsetter", name := "shuffle", desc := "(II)[I" } : Jvm.MethodName) prog_29_method_19_code (7 : Nat) (Option.some (Jvm.ClassFile.FieldType.array Jvm.ClassFile.FieldType.int)), Jvm.Cond.code ({ cls := "com/example/narrows/narrows/SplitMix64", name := "afterDraws", desc := "(JJ)Lcom/example/narrows/narrows/SplitMix64;" } : Jvm.MethodName) prog_27_method_2_code (4 : Nat) (Option.some (Jvm.ClassFile.FieldType.object "com/example/narrows/narrows/SplitMix64")), Jvm.Cond.code ({ cls := "com/example/narrows/narrows/SplitMix64", name := "<init>", desc := "(J)V" } : Jvm.MethodName) prog_27_method_1_code (3 : Nat) (Option.none : Option Jvm.ClassFile.FieldType), Jvm.Cond.code ({ cls := "com/example/narrows/narrows/SplitMix64", name := "nextLong", desc := "()J" } : Jvm.MethodName) prog_27_method_3_code (3 : Nat) (Option.some Jvm.ClassFile.FieldType.long), Jvm.Cond.code ({ cls := "java/lang/Long", name := "remainderUnsigned", desc := "(JJ)J" } : Jvm.MethodName) jdk_35_method_45_code (8 : Nat) (Option.some Jvm.ClassFile.FieldType.long), Jvm.Cond.code ({ cls := "com/example/narrows/narrows/Subsetter$Stretch", name := "offer", desc := "(I)Z" } : Jvm.MethodName) prog_30_method_2_code (2 : Nat) (Option.some Jvm.ClassFile.FieldType.boolean), Jvm.Cond.code ({ cls := "java/util/BitSet", name := "get", desc := "(I)Z" } : Jvm.MethodName) jdk_92_method_26_code (3 : Nat) (Option.some Jvm.ClassFile.FieldType.boolean), Jvm.Cond.code ({ cls := "java/util/BitSet", name := "checkInvariants", desc := "()V" } : Jvm.MethodName) jdk_92_method_2_code (1 : Nat) (Option.none : Option Jvm.ClassFile.FieldType), Jvm.Cond.code ({ cls := "java/util/BitSet", name := "set", desc := "(I)V" } : Jvm.MethodName) jdk_92_method_19_code (3 : Nat) (Option.none : Option Jvm.ClassFile.FieldType), Jvm.Cond.code ({ cls := "java/util/BitSet", name := "expandTo", desc := "(I)V" } : Jvm.MethodName) jdk_92_method_15_code (3 : Nat) (Option.none : Option Jvm.ClassFile.FieldType), Jvm.Cond.code ({ cls := "java/util/BitSet", name := "ensureCapacity", desc := "(I)V" } : Jvm.MethodName) jdk_92_method_14_code (3 : Nat) (Option.none : Option Jvm.ClassFile.FieldType), Jvm.Cond.code ({ cls := "java/util/Arrays", name := "sort", desc := "([I)V" } : Jvm.MethodName) jdk_65_method_2_code (1 : Nat) (Option.none : Option Jvm.ClassFile.FieldType), Jvm.Cond.code ({ cls := "java/util/DualPivotQuicksort", name := "sort", desc := "([IIII)V" } : Jvm.MethodName) jdk_2529_method_3_code (7 : Nat) (Option.none : Option Jvm.ClassFile.FieldType), Jvm.Cond.code ({ cls := "java/util/DualPivotQuicksort", name := "sort", desc := "(Ljava/util/DualPivotQuicksort$Sorter;[IIII)V" } : Jvm.MethodName) jdk_2529_method_4_code (21 : Nat) (Option.none : Option Jvm.ClassFile.FieldType), Jvm.Cond.code ({ cls := "java/util/DualPivotQuicksort", name := "insertionSort", desc := "([III)V" } : Jvm.MethodName) jdk_2529_method_6_code (6 : Nat) (Option.none : Option Jvm.ClassFile.FieldType), Jvm.Cond.code ({ cls := "com/example/narrows/narrows/SubsetChange", name := "between", desc := "([I[I)Lcom/example/narrows/narrows/SubsetChange;" } : Jvm.MethodName) prog_28_method_2_code (8 : Nat) (Option.some (Jvm.ClassFile.FieldType.object "com/example/narrows/narrows/SubsetChange")), Jvm.Cond.code ({ cls := "com/example/narrows/narrows/SubsetChange", name := "trimmed", desc := "([II)[I" } : Jvm.MethodName) prog_28_method_3_code (2 : Nat) (Option.some (Jvm.ClassFile.FieldType.array Jvm.ClassFile.FieldType.int)), Jvm.Cond.code ({ cls := "java/util/Arrays", name := "copyOf", desc := "([II)[I" } : Jvm.MethodName) jdk_65_method_123_code (3 : Nat) (Option.some (Jvm.ClassFile.FieldType.array Jvm.ClassFile.FieldType.int)), Jvm.Cond.code ({ cls := "com/example/narrows/narrows/SubsetChange", name := "<init>", desc := "([I[I)V" } : Jvm.MethodName) prog_28_method_1_code (3 : Nat) (Option.none : Option Jvm.ClassFile.FieldType), Jvm.Cond.code ({ cls := "com/example/narrows/narrows/SubsetChange", name := "removedCount", desc := "()I" } : Jvm.MethodName) prog_28_method_6_code (1 : Nat) (Option.some Jvm.ClassFile.FieldType.int), Jvm.Cond.code ({ cls := "com/example/narrows/narrows/Churn", name := "connectionsAfter", desc := "()J" } : Jvm.MethodName) prog_7_method_9_code (1 : Nat) (Option.some Jvm.ClassFile.FieldType.long), Jvm.Cond.code ({ cls := "com/example/narrows/narrows/Subsetter", name := "walk", desc := "(II)[I" } : Jvm.MethodName) prog_29_method_12_code (7 : Nat) (Option.some (Jvm.ClassFile.FieldType.array Jvm.ClassFile.FieldType.int)), Jvm.Cond.code ({ cls := "java/lang/Math", name := "min", desc := "(JJ)J" } : Jvm.MethodName) jdk_29_method_70_code (4 : Nat) (Option.some Jvm.ClassFile.FieldType.long), Jvm.Cond.code ({ cls := "com/example/narrows/narrows/Subsetter", name := "takeRow", desc := "(I[II[II)I" } : Jvm.MethodName) prog_29_method_9_code (9 : Nat) (Option.some Jvm.ClassFile.FieldType.int)]
set_option maxRecDepth 65536 in
theorem codes_eq : words1.filter isCode = codes1 := rfl
theorem w_codes : ∀ c ∈ words1.filter isCode, c.before args0 about1 = true := by
  rw [codes_eq]
  intro c hc
  simp only [codes1, List.mem_cons, List.not_mem_nil, or_false] at hc
  rcases hc with rfl | rfl | rfl | rfl | rfl | rfl | rfl | rfl | rfl | rfl | rfl | rfl | rfl | rfl | rfl | rfl | rfl | rfl | rfl | rfl | rfl | rfl | rfl | rfl | rfl | rfl | rfl | rfl | rfl | rfl | rfl | rfl | rfl | rfl | rfl | rfl | rfl | rfl | rfl | rfl | rfl | rfl | rfl | rfl | rfl | rfl | rfl
  · exact w_c0
  · exact w_c1
  · exact w_c2
  · exact w_c3
  · exact w_c4
  · exact w_c5
  · exact w_c6
  · exact w_c7
  · exact w_c8
  · exact w_c9
  · exact w_c10
  · exact w_c11
  · exact w_c12
  · exact w_c13
  · exact w_c14
  · exact w_c15
  · exact w_c16
  · exact w_c17
  · exact w_c18
  · exact w_c19
  · exact w_c20
  · exact w_c21
  · exact w_c22
  · exact w_c23
  · exact w_c24
  · exact w_c25
  · exact w_c26
  · exact w_c27
  · exact w_c28
  · exact w_c29
  · exact w_c30
  · exact w_c31
  · exact w_c32
  · exact w_c33
  · exact w_c34
  · exact w_c35
  · exact w_c36
  · exact w_c37
  · exact w_c38
  · exact w_c39
  · exact w_c40
  · exact w_c41
  · exact w_c42
  · exact w_c43
  · exact w_c44
  · exact w_c45
  · exact w_c46
set_option maxRecDepth 65536 in
theorem w_t1 : (words1.take 24).all (fun c => isCode c || c.before args0 about1) = true := by decide +kernel
set_option maxRecDepth 65536 in
theorem w_t2 : ((words1.drop 24).take 24).all (fun c => isCode c || c.before args0 about1) = true := by decide +kernel
set_option maxRecDepth 65536 in
theorem w_t3 : (((words1.drop 24).drop 24).take 24).all (fun c => isCode c || c.before args0 about1) = true := by decide +kernel
set_option maxRecDepth 65536 in
theorem w_t4 : ((((words1.drop 24).drop 24).drop 24).take 24).all (fun c => isCode c || c.before args0 about1) = true := by decide +kernel
set_option maxRecDepth 65536 in
theorem w_t5 : (((((words1.drop 24).drop 24).drop 24).drop 24).take 24).all (fun c => isCode c || c.before args0 about1) = true := by decide +kernel
set_option maxRecDepth 65536 in
theorem w_t6 : ((((((words1.drop 24).drop 24).drop 24).drop 24).drop 24).take 24).all (fun c => isCode c || c.before args0 about1) = true := by decide +kernel
set_option maxRecDepth 65536 in
theorem w_t7 : (((((((words1.drop 24).drop 24).drop 24).drop 24).drop 24).drop 24).take 24).all (fun c => isCode c || c.before args0 about1) = true := by decide +kernel
set_option maxRecDepth 65536 in
theorem w_t8 : ((((((((words1.drop 24).drop 24).drop 24).drop 24).drop 24).drop 24).drop 24).take 24).all (fun c => isCode c || c.before args0 about1) = true := by decide +kernel
set_option maxRecDepth 65536 in
theorem w_t9 : (((((((((words1.drop 24).drop 24).drop 24).drop 24).drop 24).drop 24).drop 24).drop 24).take 24).all (fun c => isCode c || c.before args0 about1) = true := by decide +kernel
set_option maxRecDepth 65536 in
theorem w_t10 : ((((((((((words1.drop 24).drop 24).drop 24).drop 24).drop 24).drop 24).drop 24).drop 24).drop 24).take 24).all (fun c => isCode c || c.before args0 about1) = true := by decide +kernel
set_option maxRecDepth 65536 in
theorem w_t11 : (((((((((((words1.drop 24).drop 24).drop 24).drop 24).drop 24).drop 24).drop 24).drop 24).drop 24).drop 24).take 24).all (fun c => isCode c || c.before args0 about1) = true := by decide +kernel
set_option maxRecDepth 65536 in
theorem w_t12 : (((((((((((words1.drop 24).drop 24).drop 24).drop 24).drop 24).drop 24).drop 24).drop 24).drop 24).drop 24).drop 24).all (fun c => isCode c || c.before args0 about1) = true := by decide +kernel
theorem w_tables : (allAtoms (Jvm.Cond.code x code maxLocals ret :: tables_1)).before args0 about1 = true := by
  rw [allAtoms_all]
  show words1.all (fun c => c.before args0 about1) = true
  refine all_split ?_ w_codes
  rw [← List.take_append_drop 24 words1, List.all_append, w_t1, ← List.take_append_drop 24 (words1.drop 24), List.all_append, w_t2, ← List.take_append_drop 24 ((words1.drop 24).drop 24), List.all_append, w_t3, ← List.take_append_drop 24 (((words1.drop 24).drop 24).drop 24), List.all_append, w_t4, ← List.take_append_drop 24 ((((words1.drop 24).drop 24).drop 24).drop 24), List.all_append, w_t5, ← List.take_append_drop 24 (((((words1.drop 24).drop 24).drop 24).drop 24).drop 24), List.all_append, w_t6, ← List.take_append_drop 24 ((((((words1.drop 24).drop 24).drop 24).drop 24).drop 24).drop 24), List.all_append, w_t7, ← List.take_append_drop 24 (((((((words1.drop 24).drop 24).drop 24).drop 24).drop 24).drop 24).drop 24), List.all_append, w_t8, ← List.take_append_drop 24 ((((((((words1.drop 24).drop 24).drop 24).drop 24).drop 24).drop 24).drop 24).drop 24), List.all_append, w_t9, ← List.take_append_drop 24 (((((((((words1.drop 24).drop 24).drop 24).drop 24).drop 24).drop 24).drop 24).drop 24).drop 24), List.all_append, w_t10, ← List.take_append_drop 24 ((((((((((words1.drop 24).drop 24).drop 24).drop 24).drop 24).drop 24).drop 24).drop 24).drop 24).drop 24), List.all_append, w_t11, w_t12]
  rfl
set_option maxRecDepth 65536 in
theorem w_rest : rest_1_c.before args0 about1 = true := by decide +kernel
set_option maxRecDepth 65536 in
theorem w_case : (Jvm.Cond.and given_1 narrow_1).before args0 about1 = true := by decide +kernel
theorem w_applies : (headSpec (Jvm.Cond.code x code maxLocals ret :: tables_1) room_1).applies x e0.platform about1 = true :=
  (Spec.applies_iff w_frames).mpr ⟨w_running, w_runnable, w_alone, w_named, w_hears, w_ripe, w_room, w_tables⟩
theorem atStart : AtStart classFile x code maxLocals ret World_1 tables_1 room_1 Calls_1 rest_1 Pre_1 launch0 p0 e0 about1 theMethod args0 below0 :=
  ⟨lists_1, trivial, launch0.admits_env _ _ _, launch0.least_env, fairChoices_fair.cas, fairChoices_fair.clock, w_frames, w_args, w_heap, w_applies, trivial, w_rest, w_case⟩
end start1
theorem witness_1 : WitnessClaimed_1 := ⟨start1.p0, start1.e0, start1.about1, start1.theMethod, start1.args0, start1.below0, start1.atStart⟩
end Jvm.Pilot.@@N@@
