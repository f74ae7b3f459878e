import JvmDerived
import JvmDerived.Pilot.@@N@@Statement
import JvmDerived.Pilot.@@N@@Code
set_option linter.unusedVariables false
set_option linter.unusedSimpArgs false
@@BLOCK:NumsL.lean.txt@@
namespace Jvm.RoadKit
open Sem ClassFile Op Lib Jvm.Stand Jvm.Free Jvm.LawKit
section New
variable {p : Program} {l : Launch} {e : Env} {R : Room} {s : State} {m : MethodId} {args : Array Value} {below : List Frame} {meth : Method} {c : Code} {T : State} {locs : List Loc} {cells slots : Nat}
theorem retI (X : Stand p l e R s m args below meth c T locs cells slots) (hx : p.tables.exec = Jvm.exec) {pc : Nat} {Ls : Array Slot} {z : Int32} {rest : List Value} (hret : meth.sig.returnType = some .int) (hd : decode c.code pc = .ok (.ireturn, 1)) {fs : List Frame}
    (hl : ∀ (f : JFrame) (acts : List Action), f.method = m → f.locked = none → f.entered = [] → (doReturn e (T.setTop f) acts (some (.int z))).1 = T.setFrames fs) : Steps p.tables e below (T.setTop (mkF m pc Ls (.int z :: rest))) (T.setFrames fs) := by
  have hm' : T.vm.method? m = some meth := X.method'
  have hn : narrow .int (.int z) = .int z := rfl
  show Steps p.tables e below (T.setTop { method := m, pc := pc, locals := Ls, stack := _ :: rest, locked := none }) _
  jvm_step X.here [X.here.top, hx, hd, hm', hret, hn]
  first | (intro acts; rw [hl _ acts rfl rfl rfl]) | rw [hl _ _ rfl rfl rfl]
  exact Steps.refl _
end New
end Jvm.RoadKit
namespace Jvm.Pilot.@@N@@
open Jvm Jvm.ClassFile Sem Op Lib Jvm.Free Jvm.Stand Jvm.LawKit Jvm.RoadKit Bundle Jvm.Pilot.@@N@@.Jvm.D
def own_QP (v0 : Option Value) (h0 : Heap) (n0 : Nat) (v : Option Value) (h : Heap) (L : List Loc) : Prop := v = v0 ∧ Fr n0 L ∧ h = h0
def own_QL (n0 : Nat) (v : Option Value) (h : Heap) (L : List Loc) : Prop := v = some (.int (1 : Int32)) ∧ Fr n0 L
theorem own_ext {h h' : Heap} (K : Keep h h' []) : Ext h h' := ⟨K.1, fun x c q => K.2.1 x c q (by simp)⟩
theorem own_sta_keep {Z : State} {h h' : Heap} {a : Addr} {C K n d : String} {w : Value} (S : Sta Z h C n d w) (k : Keep h h' [a]) (E : Exa Z h a K) : Sta Z h' C n d w := by
  obtain ⟨cf, i, kk, f, st, cell, h1, h2, h3, h4, h5, h6, h7⟩ := S
  refine ⟨cf, i, kk, f, st, cell, h1, h2, h3, h4, k.2.1 st cell h5 ?_, h6, h7⟩
  intro q
  cases List.mem_singleton.mp q
  obtain ⟨c2, _, g1, -, -, g4, -⟩ := E
  cases h5.symm.trans g1
  rw [g4] at h6
  cases h6
theorem own_fld_ne {Z : State} {h : Heap} {a b : Addr} {C n d : String} {v w : Value} (F : Fld Z h a C n d v) (G : Fld Z h b C n d w) (q : v ≠ w) : ¬ (a = b) := fun e => by
  subst e
  obtain ⟨c1, f1, k1, i1, g1, a1, a2, -, -, -, -, a7⟩ := F
  obtain ⟨c2, f2, k2, i2, g2, b1, b2, -, -, -, -, b7⟩ := G
  cases a1.symm.trans b1
  cases a2.symm.trans b2
  exact q (Option.some.inj (a7.symm.trans b7))
theorem own_eqI {t : Term} {args : Array Value} {s : State} {k : Int32} (h : (Cond.eq t (.int k)).value args s none s [] = some true) : t.eval args s none [] s = some (.int k) := by
  cases ht : t.eval args s none [] s with
  | none => simp [Cond.value, Term.eval, ht] at h
  | some v => cases v <;> simp [Cond.value, Term.eval, ht] at h ⊢; exact h
theorem own_eqL {t : Term} {args : Array Value} {s : State} {k : Int64} (h : (Cond.eq t (.long k)).value args s none s [] = some true) : t.eval args s none [] s = some (.long k) := by
  cases ht : t.eval args s none [] s with
  | none => simp [Cond.value, Term.eval, ht] at h
  | some v => cases v <;> simp [Cond.value, Term.eval, ht] at h ⊢; exact h
theorem own_mod6 (k : Int32) : ((k &&& (2147483647 : Int32)) % (6 : Int32)) = (0 : Int32) ∨ ((k &&& (2147483647 : Int32)) % (6 : Int32)) = (1 : Int32) ∨ ((k &&& (2147483647 : Int32)) % (6 : Int32)) = (2 : Int32) ∨ ((k &&& (2147483647 : Int32)) % (6 : Int32)) = (3 : Int32) ∨ ((k &&& (2147483647 : Int32)) % (6 : Int32)) = (4 : Int32) ∨ ((k &&& (2147483647 : Int32)) % (6 : Int32)) = (5 : Int32) := by
  have e1 : (k &&& (2147483647 : Int32)).toInt = k.toInt % 2 ^ 31 := Jvm.Kit.i32_mask k 2147483647 (k := 31) (by decide) (by decide)
  have e2 : ((k &&& (2147483647 : Int32)) % (6 : Int32)).toInt = (k &&& (2147483647 : Int32)).toInt % (6 : Int32).toInt := Jvm.Kit.i32_rem_nonneg (by rw [e1]; omega)
  have e3 : (6 : Int32).toInt = 6 := by decide
  rw [e3] at e2
  generalize ((k &&& (2147483647 : Int32)) % (6 : Int32)) = z at *
  have e4 : z.toInt = 0 ∨ z.toInt = 1 ∨ z.toInt = 2 ∨ z.toInt = 3 ∨ z.toInt = 4 ∨ z.toInt = 5 := by omega
  rcases e4 with q | q | q | q | q | q
  · exact Or.inl (Int32.toInt_inj.mp (q.trans (by decide)))
  · exact Or.inr (Or.inl (Int32.toInt_inj.mp (q.trans (by decide))))
  · exact Or.inr (Or.inr (Or.inl (Int32.toInt_inj.mp (q.trans (by decide)))))
  · exact Or.inr (Or.inr (Or.inr (Or.inl (Int32.toInt_inj.mp (q.trans (by decide))))))
  · exact Or.inr (Or.inr (Or.inr (Or.inr (Or.inl (Int32.toInt_inj.mp (q.trans (by decide)))))))
  · exact Or.inr (Or.inr (Or.inr (Or.inr (Or.inr ((Int32.toInt_inj.mp (q.trans (by decide))))))))
theorem d1_0 : decode prog_191_method_7_code 0 = .ok (.aload_n 0, 1) := by decide +kernel
theorem d1_1 : decode prog_191_method_7_code 1 = .ok (.getstatic 10, 3) := by decide +kernel
theorem d1_4 : decode prog_191_method_7_code 4 = .ok (.if_acmp .eq 10, 3) := by decide +kernel
theorem d1_7 : decode prog_191_method_7_code 7 = .ok (.aload_n 0, 1) := by decide +kernel
theorem d1_8 : decode prog_191_method_7_code 8 = .ok (.getstatic 3, 3) := by decide +kernel
theorem d1_11 : decode prog_191_method_7_code 11 = .ok (.if_acmp .ne 9, 3) := by decide +kernel
theorem d1_14 : decode prog_191_method_7_code 14 = .ok (.getstatic 3, 3) := by decide +kernel
theorem d1_17 : decode prog_191_method_7_code 17 = .ok (.goto 6, 3) := by decide +kernel
theorem d1_20 : decode prog_191_method_7_code 20 = .ok (.getstatic 7, 3) := by decide +kernel
theorem d1_23 : decode prog_191_method_7_code 23 = .ok (.areturn, 1) := by decide +kernel
theorem own_pn0 : plainName "com/example/palimpsest/palimpsest/tx/LockMode" = true := by first | (simp [plainName, overriddenIn]; done) | decide +kernel
theorem own_pn1 : plainName "com/example/palimpsest/palimpsest/tx/LockModeIntentionPinLaw" = true := by first | (simp [plainName, overriddenIn]; done) | decide +kernel
theorem own_pd0 : parseMethodDescriptor "()Lcom/example/palimpsest/palimpsest/tx/LockMode;" = some ⟨[], some (.object "com/example/palimpsest/palimpsest/tx/LockMode")⟩ := by decide +kernel
theorem own_ef0 (m : MethodId) (x0 : Addr) : entryFrame m #[(.ref x0)] 1 = mkF m 0 #[.val (.ref x0)] [] := by first | (simp [entryFrame, mkF, argsToLocals, Value.category]; done) | rfl
theorem own_ef1 (m : MethodId) (x0 : Int32) : entryFrame m #[(.int x0)] maxLocals = mkF m 0 #[.val (.int x0), .unset, .unset, .unset, .unset] [] := by first | (simp [entryFrame, mkF, argsToLocals, Value.category, maxLocals]; done) | rfl
set_option maxRecDepth 65536 in
set_option maxHeartbeats 40000000 in
theorem own_b1_ff (l : Launch) (Z : State) (a0 : Array Value) (hw : ∀ d ∈ tables_1, d.before a0 Z = true) (ws : List Jvm.Cond) (a0_ : Addr) (w_SHARED : Addr) (w_INTENTION_SHARED : Addr) (h0 : Heap) (n0 : Nat) (Z0 : n0 ≤ h0.size) (S_SHARED : Sta Z h0 "com/example/palimpsest/palimpsest/tx/LockMode" "SHARED" "Lcom/example/palimpsest/palimpsest/tx/LockMode;" (.ref w_SHARED)) (S_INTENTION_SHARED : Sta Z h0 "com/example/palimpsest/palimpsest/tx/LockMode" "INTENTION_SHARED" "Lcom/example/palimpsest/palimpsest/tx/LockMode;" (.ref w_INTENTION_SHARED)) (hf0 : ¬ (a0_ = w_SHARED)) (hf1 : a0_ = w_INTENTION_SHARED) :
    MetFree l (⟨"com/example/palimpsest/palimpsest/tx/LockMode", "intention", "()Lcom/example/palimpsest/palimpsest/tx/LockMode;"⟩ : MethodName) (head1 (Jvm.Cond.code (⟨"com/example/palimpsest/palimpsest/tx/LockMode", "intention", "()Lcom/example/palimpsest/palimpsest/tx/LockMode;"⟩ : MethodName) prog_191_method_7_code 1 (some (.object "com/example/palimpsest/palimpsest/tx/LockMode")) :: ws) ({ frames := 0, cells := 0, slots := 0, locals := 0 } : Room)) (fun a U => a = #[(.ref a0_)] ∧ Z.Warmed39 U.vm ∧ U.heap = h0) (fun _ _ _ _ _ => True) (fun _ U o U' => ∃ v L, o = .returned v ∧ own_QP (some (.ref w_INTENTION_SHARED)) h0 n0 v U'.heap L ∧ FrameEnd U o U' L ({ frames := 0, cells := 0, slots := 0, locals := 0 } : Room).cells ({ frames := 0, cells := 0, slots := 0, locals := 0 } : Room).slots) := by
  refine MetFree.of_bodySF (plainFor_of_name own_pn0) hisR ?_
  intro p e s m args below meth c s₁ Bd hml0 hP hK
  obtain ⟨rfl, hZ, hh⟩ := hP
  have hx := Bd.exec
  have hby := Bd.bytes
  have hml : c.maxLocals = 1 := hml0
  have hown : s.vm.findClass "com/example/palimpsest/palimpsest/tx/LockMode" = some m.cls := findClass_of_methodNamed Bd.named
  have hnm := (name_of_methodNamed Bd.named Bd.method).1
  have X0 : Stand p l e ({ frames := 0, cells := 0, slots := 0, locals := 0 } : Room) s m #[(.ref a0_)] below meth c s₁ [] 0 0 := Stand.of_body Bd
  have e0 : s₁.heap = h0 := by rw [← hh, Bd.state]; rfl
  have N0 := Fr.nil n0
  have pre0 : ∀ t, Steps p.tables e below (s₁.setTop (mkF m 0 #[.val (.ref a0_)] [])) t → Steps p.tables e below (s₁.setTop (entryFrame m #[(.ref a0_)] 1)) t := fun t k => castTop (own_ef0 m a0_) k
  obtain ⟨T1, X1, e1, st1⟩ := getS2 X0 hx hZ hown (host := "") (Or.inl (hw _ (List.mem_of_getElem? (i := 22) rfl))) Via.refl e0 S_SHARED (g := (mkF m 1 #[.val (.ref a0_)] [(.ref a0_)])) rfl (hb hby d1_1)
  obtain ⟨T2, X2, e2, st2⟩ := getS2 X1 hx hZ hown (host := "") (Or.inl (hw _ (List.mem_of_getElem? (i := 23) rfl))) Via.refl e1 S_INTENTION_SHARED (g := (mkF m 8 #[.val (.ref a0_)] [(.ref a0_)])) rfl (hb hby d1_8)
  obtain ⟨T3, X3, e3, st3⟩ := getS2 X2 hx hZ hown (host := "") (Or.inl (hw _ (List.mem_of_getElem? (i := 23) rfl))) Via.refl e2 S_INTENTION_SHARED (g := (mkF m 14 #[.val (.ref a0_)] [])) rfl (hb hby d1_14)
  obtain ⟨fs, hr, hrun, hended, hW, hsame⟩ := X3.leave (v := some (.ref w_INTENTION_SHARED)) (fun h => by rw [Bd.returns] at h; cases h)
  refine ⟨_, _, pre0 _ ?_, hrun, hended, _, _, rfl, ?_, ⟨_, rfl⟩, hW, hsame.mono (by decide) (by decide)⟩
  · show Steps p.tables e below (s₁.setTop (mkF m 0 #[.val (.ref a0_)] [])) _
    refine XS.aloadN X0.here hx rfl (hb hby d1_0) rfl rfl ?_
    show Steps p.tables e below (s₁.setTop (mkF m 1 #[.val (.ref a0_)] [(.ref a0_)])) _
    refine st1 _ ?_
    show Steps p.tables e below (T1.setTop (mkF m 4 #[.val (.ref a0_)] [(.ref w_SHARED), (.ref a0_)])) _
    refine Jvm.RoadKit.acmp (g := (mkF m 4 #[.val (.ref a0_)] [(.ref w_SHARED), (.ref a0_)])) X1 hx rfl rfl rfl (pc0 := 4) (pc' := 7) (same := false) rfl (hb hby d1_4) rfl (decide_eq_false fun q => hf0 (Value.ref.inj q)) (by decide) (by decide) ?_
    show Steps p.tables e below (T1.setTop (mkF m 7 #[.val (.ref a0_)] [])) _
    refine XS.aloadN X1.here hx rfl (hb hby d1_7) rfl rfl ?_
    show Steps p.tables e below (T1.setTop (mkF m 8 #[.val (.ref a0_)] [(.ref a0_)])) _
    refine st2 _ ?_
    show Steps p.tables e below (T2.setTop (mkF m 11 #[.val (.ref a0_)] [(.ref w_INTENTION_SHARED), (.ref a0_)])) _
    refine Jvm.RoadKit.acmp (g := (mkF m 11 #[.val (.ref a0_)] [(.ref w_INTENTION_SHARED), (.ref a0_)])) X2 hx rfl rfl rfl (pc0 := 11) (pc' := 14) (same := true) rfl (hb hby d1_11) rfl (decide_eq_true (congrArg Value.ref hf1)) (by decide) (by decide) ?_
    show Steps p.tables e below (T2.setTop (mkF m 14 #[.val (.ref a0_)] [])) _
    refine st3 _ ?_
    show Steps p.tables e below (T3.setTop (mkF m 17 #[.val (.ref a0_)] [(.ref w_INTENTION_SHARED)])) _
    refine XS.goto X3.here hx rfl (pc0 := 17) (pc' := 23) rfl (hb hby d1_17) (by decide) (by decide) ?_
    show Steps p.tables e below (T3.setTop (mkF m 23 #[.val (.ref a0_)] [(.ref w_INTENTION_SHARED)])) _
    jvm_step X3.here [X3.here.top, hx, (hb hby d1_23), X3.method', Bd.returns, Value.isRef, FieldType.isReference]
    first | (intro acts; rw [hr _ acts rfl rfl rfl]) | rw [hr _ _ rfl rfl rfl]
    exact Steps.refl _
  · show own_QP (some (.ref w_INTENTION_SHARED)) h0 n0 _ T3.heap _
    exact ⟨rfl, N0, e3⟩
set_option maxRecDepth 65536 in
set_option maxHeartbeats 40000000 in
theorem own_b1_ft (l : Launch) (Z : State) (a0 : Array Value) (hw : ∀ d ∈ tables_1, d.before a0 Z = true) (ws : List Jvm.Cond) (a0_ : Addr) (w_SHARED : Addr) (w_INTENTION_SHARED : Addr) (w_INTENTION_EXCLUSIVE : Addr) (h0 : Heap) (n0 : Nat) (Z0 : n0 ≤ h0.size) (S_SHARED : Sta Z h0 "com/example/palimpsest/palimpsest/tx/LockMode" "SHARED" "Lcom/example/palimpsest/palimpsest/tx/LockMode;" (.ref w_SHARED)) (S_INTENTION_SHARED : Sta Z h0 "com/example/palimpsest/palimpsest/tx/LockMode" "INTENTION_SHARED" "Lcom/example/palimpsest/palimpsest/tx/LockMode;" (.ref w_INTENTION_SHARED)) (S_INTENTION_EXCLUSIVE : Sta Z h0 "com/example/palimpsest/palimpsest/tx/LockMode" "INTENTION_EXCLUSIVE" "Lcom/example/palimpsest/palimpsest/tx/LockMode;" (.ref w_INTENTION_EXCLUSIVE)) (hf0 : ¬ (a0_ = w_SHARED)) (hf1 : ¬ (a0_ = w_INTENTION_SHARED)) :
    MetFree l (⟨"com/example/palimpsest/palimpsest/tx/LockMode", "intention", "()Lcom/example/palimpsest/palimpsest/tx/LockMode;"⟩ : MethodName) (head1 (Jvm.Cond.code (⟨"com/example/palimpsest/palimpsest/tx/LockMode", "intention", "()Lcom/example/palimpsest/palimpsest/tx/LockMode;"⟩ : MethodName) prog_191_method_7_code 1 (some (.object "com/example/palimpsest/palimpsest/tx/LockMode")) :: ws) ({ frames := 0, cells := 0, slots := 0, locals := 0 } : Room)) (fun a U => a = #[(.ref a0_)] ∧ Z.Warmed39 U.vm ∧ U.heap = h0) (fun _ _ _ _ _ => True) (fun _ U o U' => ∃ v L, o = .returned v ∧ own_QP (some (.ref w_INTENTION_EXCLUSIVE)) h0 n0 v U'.heap L ∧ FrameEnd U o U' L ({ frames := 0, cells := 0, slots := 0, locals := 0 } : Room).cells ({ frames := 0, cells := 0, slots := 0, locals := 0 } : Room).slots) := by
  refine MetFree.of_bodySF (plainFor_of_name own_pn0) hisR ?_
  intro p e s m args below meth c s₁ Bd hml0 hP hK
  obtain ⟨rfl, hZ, hh⟩ := hP
  have hx := Bd.exec
  have hby := Bd.bytes
  have hml : c.maxLocals = 1 := hml0
  have hown : s.vm.findClass "com/example/palimpsest/palimpsest/tx/LockMode" = some m.cls := findClass_of_methodNamed Bd.named
  have hnm := (name_of_methodNamed Bd.named Bd.method).1
  have X0 : Stand p l e ({ frames := 0, cells := 0, slots := 0, locals := 0 } : Room) s m #[(.ref a0_)] below meth c s₁ [] 0 0 := Stand.of_body Bd
  have e0 : s₁.heap = h0 := by rw [← hh, Bd.state]; rfl
  have N0 := Fr.nil n0
  have pre0 : ∀ t, Steps p.tables e below (s₁.setTop (mkF m 0 #[.val (.ref a0_)] [])) t → Steps p.tables e below (s₁.setTop (entryFrame m #[(.ref a0_)] 1)) t := fun t k => castTop (own_ef0 m a0_) k
  obtain ⟨T1, X1, e1, st1⟩ := getS2 X0 hx hZ hown (host := "") (Or.inl (hw _ (List.mem_of_getElem? (i := 22) rfl))) Via.refl e0 S_SHARED (g := (mkF m 1 #[.val (.ref a0_)] [(.ref a0_)])) rfl (hb hby d1_1)
  obtain ⟨T2, X2, e2, st2⟩ := getS2 X1 hx hZ hown (host := "") (Or.inl (hw _ (List.mem_of_getElem? (i := 23) rfl))) Via.refl e1 S_INTENTION_SHARED (g := (mkF m 8 #[.val (.ref a0_)] [(.ref a0_)])) rfl (hb hby d1_8)
  obtain ⟨T3, X3, e3, st3⟩ := getS2 X2 hx hZ hown (host := "") (Or.inl (hw _ (List.mem_of_getElem? (i := 24) rfl))) Via.refl e2 S_INTENTION_EXCLUSIVE (g := (mkF m 20 #[.val (.ref a0_)] [])) rfl (hb hby d1_20)
  obtain ⟨fs, hr, hrun, hended, hW, hsame⟩ := X3.leave (v := some (.ref w_INTENTION_EXCLUSIVE)) (fun h => by rw [Bd.returns] at h; cases h)
  refine ⟨_, _, pre0 _ ?_, hrun, hended, _, _, rfl, ?_, ⟨_, rfl⟩, hW, hsame.mono (by decide) (by decide)⟩
  · show Steps p.tables e below (s₁.setTop (mkF m 0 #[.val (.ref a0_)] [])) _
    refine XS.aloadN X0.here hx rfl (hb hby d1_0) rfl rfl ?_
    show Steps p.tables e below (s₁.setTop (mkF m 1 #[.val (.ref a0_)] [(.ref a0_)])) _
    refine st1 _ ?_
    show Steps p.tables e below (T1.setTop (mkF m 4 #[.val (.ref a0_)] [(.ref w_SHARED), (.ref a0_)])) _
    refine Jvm.RoadKit.acmp (g := (mkF m 4 #[.val (.ref a0_)] [(.ref w_SHARED), (.ref a0_)])) X1 hx rfl rfl rfl (pc0 := 4) (pc' := 7) (same := false) rfl (hb hby d1_4) rfl (decide_eq_false fun q => hf0 (Value.ref.inj q)) (by decide) (by decide) ?_
    show Steps p.tables e below (T1.setTop (mkF m 7 #[.val (.ref a0_)] [])) _
    refine XS.aloadN X1.here hx rfl (hb hby d1_7) rfl rfl ?_
    show Steps p.tables e below (T1.setTop (mkF m 8 #[.val (.ref a0_)] [(.ref a0_)])) _
    refine st2 _ ?_
    show Steps p.tables e below (T2.setTop (mkF m 11 #[.val (.ref a0_)] [(.ref w_INTENTION_SHARED), (.ref a0_)])) _
    refine Jvm.RoadKit.acmp (g := (mkF m 11 #[.val (.ref a0_)] [(.ref w_INTENTION_SHARED), (.ref a0_)])) X2 hx rfl rfl rfl (pc0 := 11) (pc' := 20) (same := false) rfl (hb hby d1_11) rfl (decide_eq_false fun q => hf1 (Value.ref.inj q)) (by decide) (by decide) ?_
    show Steps p.tables e below (T2.setTop (mkF m 20 #[.val (.ref a0_)] [])) _
    refine st3 _ ?_
    show Steps p.tables e below (T3.setTop (mkF m 23 #[.val (.ref a0_)] [(.ref w_INTENTION_EXCLUSIVE)])) _
    jvm_step X3.here [X3.here.top, hx, (hb hby d1_23), X3.method', Bd.returns, Value.isRef, FieldType.isReference]
    first | (intro acts; rw [hr _ acts rfl rfl rfl]) | rw [hr _ _ rfl rfl rfl]
    exact Steps.refl _
  · show own_QP (some (.ref w_INTENTION_EXCLUSIVE)) h0 n0 _ T3.heap _
    exact ⟨rfl, N0, e3⟩
set_option maxRecDepth 65536 in
set_option maxHeartbeats 40000000 in
theorem own_b1_t (l : Launch) (Z : State) (a0 : Array Value) (hw : ∀ d ∈ tables_1, d.before a0 Z = true) (ws : List Jvm.Cond) (a0_ : Addr) (w_SHARED : Addr) (w_INTENTION_SHARED : Addr) (h0 : Heap) (n0 : Nat) (Z0 : n0 ≤ h0.size) (S_SHARED : Sta Z h0 "com/example/palimpsest/palimpsest/tx/LockMode" "SHARED" "Lcom/example/palimpsest/palimpsest/tx/LockMode;" (.ref w_SHARED)) (S_INTENTION_SHARED : Sta Z h0 "com/example/palimpsest/palimpsest/tx/LockMode" "INTENTION_SHARED" "Lcom/example/palimpsest/palimpsest/tx/LockMode;" (.ref w_INTENTION_SHARED)) (hf0 : a0_ = w_SHARED) :
    MetFree l (⟨"com/example/palimpsest/palimpsest/tx/LockMode", "intention", "()Lcom/example/palimpsest/palimpsest/tx/LockMode;"⟩ : MethodName) (head1 (Jvm.Cond.code (⟨"com/example/palimpsest/palimpsest/tx/LockMode", "intention", "()Lcom/example/palimpsest/palimpsest/tx/LockMode;"⟩ : MethodName) prog_191_method_7_code 1 (some (.object "com/example/palimpsest/palimpsest/tx/LockMode")) :: ws) ({ frames := 0, cells := 0, slots := 0, locals := 0 } : Room)) (fun a U => a = #[(.ref a0_)] ∧ Z.Warmed39 U.vm ∧ U.heap = h0) (fun _ _ _ _ _ => True) (fun _ U o U' => ∃ v L, o = .returned v ∧ own_QP (some (.ref w_INTENTION_SHARED)) h0 n0 v U'.heap L ∧ FrameEnd U o U' L ({ frames := 0, cells := 0, slots := 0, locals := 0 } : Room).cells ({ frames := 0, cells := 0, slots := 0, locals := 0 } : Room).slots) := by
  refine MetFree.of_bodySF (plainFor_of_name own_pn0) hisR ?_
  intro p e s m args below meth c s₁ Bd hml0 hP hK
  obtain ⟨rfl, hZ, hh⟩ := hP
  have hx := Bd.exec
  have hby := Bd.bytes
  have hml : c.maxLocals = 1 := hml0
  have hown : s.vm.findClass "com/example/palimpsest/palimpsest/tx/LockMode" = some m.cls := findClass_of_methodNamed Bd.named
  have hnm := (name_of_methodNamed Bd.named Bd.method).1
  have X0 : Stand p l e ({ frames := 0, cells := 0, slots := 0, locals := 0 } : Room) s m #[(.ref a0_)] below meth c s₁ [] 0 0 := Stand.of_body Bd
  have e0 : s₁.heap = h0 := by rw [← hh, Bd.state]; rfl
  have N0 := Fr.nil n0
  have pre0 : ∀ t, Steps p.tables e below (s₁.setTop (mkF m 0 #[.val (.ref a0_)] [])) t → Steps p.tables e below (s₁.setTop (entryFrame m #[(.ref a0_)] 1)) t := fun t k => castTop (own_ef0 m a0_) k
  obtain ⟨T1, X1, e1, st1⟩ := getS2 X0 hx hZ hown (host := "") (Or.inl (hw _ (List.mem_of_getElem? (i := 22) rfl))) Via.refl e0 S_SHARED (g := (mkF m 1 #[.val (.ref a0_)] [(.ref a0_)])) rfl (hb hby d1_1)
  obtain ⟨T2, X2, e2, st2⟩ := getS2 X1 hx hZ hown (host := "") (Or.inl (hw _ (List.mem_of_getElem? (i := 23) rfl))) Via.refl e1 S_INTENTION_SHARED (g := (mkF m 14 #[.val (.ref a0_)] [])) rfl (hb hby d1_14)
  obtain ⟨fs, hr, hrun, hended, hW, hsame⟩ := X2.leave (v := some (.ref w_INTENTION_SHARED)) (fun h => by rw [Bd.returns] at h; cases h)
  refine ⟨_, _, pre0 _ ?_, hrun, hended, _, _, rfl, ?_, ⟨_, rfl⟩, hW, hsame.mono (by decide) (by decide)⟩
  · show Steps p.tables e below (s₁.setTop (mkF m 0 #[.val (.ref a0_)] [])) _
    refine XS.aloadN X0.here hx rfl (hb hby d1_0) rfl rfl ?_
    show Steps p.tables e below (s₁.setTop (mkF m 1 #[.val (.ref a0_)] [(.ref a0_)])) _
    refine st1 _ ?_
    show Steps p.tables e below (T1.setTop (mkF m 4 #[.val (.ref a0_)] [(.ref w_SHARED), (.ref a0_)])) _
    refine Jvm.RoadKit.acmp (g := (mkF m 4 #[.val (.ref a0_)] [(.ref w_SHARED), (.ref a0_)])) X1 hx rfl rfl rfl (pc0 := 4) (pc' := 14) (same := true) rfl (hb hby d1_4) rfl (decide_eq_true (congrArg Value.ref hf0)) (by decide) (by decide) ?_
    show Steps p.tables e below (T1.setTop (mkF m 14 #[.val (.ref a0_)] [])) _
    refine st2 _ ?_
    show Steps p.tables e below (T2.setTop (mkF m 17 #[.val (.ref a0_)] [(.ref w_INTENTION_SHARED)])) _
    refine XS.goto X2.here hx rfl (pc0 := 17) (pc' := 23) rfl (hb hby d1_17) (by decide) (by decide) ?_
    show Steps p.tables e below (T2.setTop (mkF m 23 #[.val (.ref a0_)] [(.ref w_INTENTION_SHARED)])) _
    jvm_step X2.here [X2.here.top, hx, (hb hby d1_23), X2.method', Bd.returns, Value.isRef, FieldType.isReference]
    first | (intro acts; rw [hr _ acts rfl rfl rfl]) | rw [hr _ _ rfl rfl rfl]
    exact Steps.refl _
  · show own_QP (some (.ref w_INTENTION_SHARED)) h0 n0 _ T2.heap _
    exact ⟨rfl, N0, e2⟩
set_option maxRecDepth 65536 in
set_option maxHeartbeats 40000000 in
theorem own_law0 (l : Launch) (Z : State) (a0 : Array Value) (hw : ∀ d ∈ tables_1, d.before a0 Z = true) (ws : List Jvm.Cond) (p0_ : Int32) (w_INTENTION_SHARED : Addr) (w_INTENTION_EXCLUSIVE : Addr) (w_SHARED : Addr) (w_SHARED_INTENTION_EXCLUSIVE : Addr) (w_WRITE : Addr) (w_EXCLUSIVE : Addr) (h0 : Heap) (n0 : Nat) (Z0 : n0 ≤ h0.size) (S_INTENTION_SHARED : Sta Z h0 "com/example/palimpsest/palimpsest/tx/LockMode" "INTENTION_SHARED" "Lcom/example/palimpsest/palimpsest/tx/LockMode;" (.ref w_INTENTION_SHARED)) (E_w_INTENTION_SHARED : Exa Z h0 w_INTENTION_SHARED "com/example/palimpsest/palimpsest/tx/LockMode") (S_INTENTION_EXCLUSIVE : Sta Z h0 "com/example/palimpsest/palimpsest/tx/LockMode" "INTENTION_EXCLUSIVE" "Lcom/example/palimpsest/palimpsest/tx/LockMode;" (.ref w_INTENTION_EXCLUSIVE)) (E_w_INTENTION_EXCLUSIVE : Exa Z h0 w_INTENTION_EXCLUSIVE "com/example/palimpsest/palimpsest/tx/LockMode") (S_SHARED : Sta Z h0 "com/example/palimpsest/palimpsest/tx/LockMode" "SHARED" "Lcom/example/palimpsest/palimpsest/tx/LockMode;" (.ref w_SHARED)) (E_w_SHARED : Exa Z h0 w_SHARED "com/example/palimpsest/palimpsest/tx/LockMode") (S_SHARED_INTENTION_EXCLUSIVE : Sta Z h0 "com/example/palimpsest/palimpsest/tx/LockMode" "SHARED_INTENTION_EXCLUSIVE" "Lcom/example/palimpsest/palimpsest/tx/LockMode;" (.ref w_SHARED_INTENTION_EXCLUSIVE)) (E_w_SHARED_INTENTION_EXCLUSIVE : Exa Z h0 w_SHARED_INTENTION_EXCLUSIVE "com/example/palimpsest/palimpsest/tx/LockMode") (S_WRITE : Sta Z h0 "com/example/palimpsest/palimpsest/tx/LockMode" "WRITE" "Lcom/example/palimpsest/palimpsest/tx/LockMode;" (.ref w_WRITE)) (E_w_WRITE : Exa Z h0 w_WRITE "com/example/palimpsest/palimpsest/tx/LockMode") (S_EXCLUSIVE : Sta Z h0 "com/example/palimpsest/palimpsest/tx/LockMode" "EXCLUSIVE" "Lcom/example/palimpsest/palimpsest/tx/LockMode;" (.ref w_EXCLUSIVE)) (E_w_EXCLUSIVE : Exa Z h0 w_EXCLUSIVE "com/example/palimpsest/palimpsest/tx/LockMode") (hf0 : ((p0_ &&& (2147483647 : Int32)) % (6 : Int32)) = (0 : Int32)) (hf1 : ¬ (w_INTENTION_SHARED = w_SHARED)) :
    MetFree l x (head1 (Jvm.Cond.code x code maxLocals ret :: ws) room_1) (fun a U => a = #[(.int p0_)] ∧ Z.Warmed39 U.vm ∧ U.heap = h0) (fun _ _ _ _ _ => True) (fun _ U o U' => ∃ v L, o = .returned v ∧ own_QL n0 v U'.heap L ∧ FrameEnd U o U' L room_1.cells room_1.slots) := by
  refine MetFree.of_bodySF (plainFor_of_name own_pn1) hisR ?_
  intro p e s m args below meth c s₁ Bd hml0 hP hK
  obtain ⟨rfl, hZ, hh⟩ := hP
  have hx := Bd.exec
  have hby := Bd.bytes
  have hml : c.maxLocals = 5 := hml0
  have hown : s.vm.findClass "com/example/palimpsest/palimpsest/tx/LockModeIntentionPinLaw" = some m.cls := findClass_of_methodNamed Bd.named
  have hnm := (name_of_methodNamed Bd.named Bd.method).1
  have X0 : Stand p l e room_1 s m #[(.int p0_)] below meth c s₁ [] 0 0 := Stand.of_body Bd
  have e0 : s₁.heap = h0 := by rw [← hh, Bd.state]; rfl
  have N0 := Fr.nil n0
  have pre0 : ∀ t, Steps p.tables e below (s₁.setTop (mkF m 0 #[.val (.int p0_), .unset, .unset, .unset, .unset] [])) t → Steps p.tables e below (s₁.setTop (entryFrame m #[(.int p0_)] maxLocals)) t := fun t k => castTop (own_ef1 m p0_) k
  obtain ⟨T1, h1, k1, X1, e1, E1, A1, O1, st1⟩ := newR X0 hx hZ hown (hw _ (List.mem_of_getElem? (i := 1) rfl)) (hw _ (List.mem_of_getElem? (i := 2) rfl)) e0 (g := (mkF m 10 #[.val (.int p0_), .val (.int (0 : Int32)), .unset, .unset, .unset] [(.int (6 : Int32))])) rfl (hb hby at_10) rfl (by decide) (cap := 6) (by decide) (by decide) (by decide) (by decide)
  obtain ⟨b1, g1⟩ : ∃ z, z = h0.size := ⟨_, rfl⟩
  rw [← g1] at A1 st1
  have V_b1_0 : Arv Z h1 b1 k1 (.object "com/example/palimpsest/palimpsest/tx/LockMode") (6 : Int32) [.null, .null, .null, .null, .null, .null] .null := (Arv.new A1 (by decide)).pad (pad_rep [] .null 6)
  have sz_b1 : h0.size ≤ b1 := Nat.le_trans (Keep.refl h0 []).1 (Nat.le_of_eq g1.symm)
  have g_b1 : n0 ≤ b1 := Nat.le_trans Z0 sz_b1
  have K1 : Keep h0 h1 [] := (Keep.refl h0 []).ext E1
  obtain ⟨T2, X2, e2, st2⟩ := getS2 X1 hx hZ hown (host := "") (Or.inl (hw _ (List.mem_of_getElem? (i := 3) rfl))) Via.refl e1 (S_INTENTION_SHARED.ext (own_ext K1)) (g := (mkF m 15 #[.val (.int p0_), .val (.int (0 : Int32)), .unset, .unset, .unset] [(.int (0 : Int32)), (.ref b1), (.ref b1)])) rfl (hb hby at_15)
  obtain ⟨c_18, A_18, q_18, S_18, N_18, H_18, G_18⟩ := V_b1_0
  have hin18 : ¬ ((0 : Int32) < 0 ∨ c_18.slots.size ≤ ((0 : Int32)).toNatClampNeg) := inb_of S_18 ⟨by decide, by decide⟩
  have Sto18 : Sto Z h1 b1 (.ref w_INTENTION_SHARED) := Sto.of A_18 (by rw [q_18]; exact O1) (Ins.self (E_w_INTENTION_SHARED.ext (own_ext K1)))
  obtain ⟨T3, h3, X3, e3, W3, st3⟩ := stR X2 hx hZ e2 A_18 (j := (0 : Int32)) hin18 rfl Sto18 (g := (mkF m 18 #[.val (.int p0_), .val (.int (0 : Int32)), .unset, .unset, .unset] [(.ref w_INTENTION_SHARED), (.int (0 : Int32)), (.ref b1), (.ref b1)])) rfl rfl (hb hby at_18)
  have V_b1_1 : Arv Z h3 b1 k1 (.object "com/example/palimpsest/palimpsest/tx/LockMode") (6 : Int32) [(.ref w_INTENTION_SHARED), .null, .null, .null, .null, .null] .null := Arv.set A_18 q_18 S_18 N_18 H_18 G_18 rfl W3 0 rfl (Nat.le_of_ble_eq_true rfl)
  have K3 : Keep h0 h3 [] := K1.wr W3 (Or.inr sz_b1)
  have N3 := Fr.snoc X3 N0 g_b1
  obtain ⟨T4, X4, e4, st4⟩ := getS2 X3 hx hZ hown (host := "") (Or.inl (hw _ (List.mem_of_getElem? (i := 7) rfl))) Via.refl e3 (S_INTENTION_EXCLUSIVE.ext (own_ext K3)) (g := (mkF m 21 #[.val (.int p0_), .val (.int (0 : Int32)), .unset, .unset, .unset] [(.int (1 : Int32)), (.ref b1), (.ref b1)])) rfl (hb hby at_21)
  obtain ⟨c_24, A_24, q_24, S_24, N_24, H_24, G_24⟩ := V_b1_1
  have hin24 : ¬ ((1 : Int32) < 0 ∨ c_24.slots.size ≤ ((1 : Int32)).toNatClampNeg) := inb_of S_24 ⟨by decide, by decide⟩
  have Sto24 : Sto Z h3 b1 (.ref w_INTENTION_EXCLUSIVE) := Sto.of A_24 (by rw [q_24]; exact O1) (Ins.self (E_w_INTENTION_EXCLUSIVE.ext (own_ext K3)))
  obtain ⟨T5, h5, X5, e5, W5, st5⟩ := stR X4 hx hZ e4 A_24 (j := (1 : Int32)) hin24 rfl Sto24 (g := (mkF m 24 #[.val (.int p0_), .val (.int (0 : Int32)), .unset, .unset, .unset] [(.ref w_INTENTION_EXCLUSIVE), (.int (1 : Int32)), (.ref b1), (.ref b1)])) rfl rfl (hb hby at_24)
  have V_b1_2 : Arv Z h5 b1 k1 (.object "com/example/palimpsest/palimpsest/tx/LockMode") (6 : Int32) [(.ref w_INTENTION_SHARED), (.ref w_INTENTION_EXCLUSIVE), .null, .null, .null, .null] .null := Arv.set A_24 q_24 S_24 N_24 H_24 G_24 rfl W5 1 rfl (Nat.le_of_ble_eq_true rfl)
  have K5 : Keep h0 h5 [] := K3.wr W5 (Or.inr sz_b1)
  have N5 := Fr.snoc X5 N3 g_b1
  obtain ⟨T6, X6, e6, st6⟩ := getS2 X5 hx hZ hown (host := "") (Or.inl (hw _ (List.mem_of_getElem? (i := 9) rfl))) Via.refl e5 (S_SHARED.ext (own_ext K5)) (g := (mkF m 27 #[.val (.int p0_), .val (.int (0 : Int32)), .unset, .unset, .unset] [(.int (2 : Int32)), (.ref b1), (.ref b1)])) rfl (hb hby at_27)
  obtain ⟨c_30, A_30, q_30, S_30, N_30, H_30, G_30⟩ := V_b1_2
  have hin30 : ¬ ((2 : Int32) < 0 ∨ c_30.slots.size ≤ ((2 : Int32)).toNatClampNeg) := inb_of S_30 ⟨by decide, by decide⟩
  have Sto30 : Sto Z h5 b1 (.ref w_SHARED) := Sto.of A_30 (by rw [q_30]; exact O1) (Ins.self (E_w_SHARED.ext (own_ext K5)))
  obtain ⟨T7, h7, X7, e7, W7, st7⟩ := stR X6 hx hZ e6 A_30 (j := (2 : Int32)) hin30 rfl Sto30 (g := (mkF m 30 #[.val (.int p0_), .val (.int (0 : Int32)), .unset, .unset, .unset] [(.ref w_SHARED), (.int (2 : Int32)), (.ref b1), (.ref b1)])) rfl rfl (hb hby at_30)
  have V_b1_3 : Arv Z h7 b1 k1 (.object "com/example/palimpsest/palimpsest/tx/LockMode") (6 : Int32) [(.ref w_INTENTION_SHARED), (.ref w_INTENTION_EXCLUSIVE), (.ref w_SHARED), .null, .null, .null] .null := Arv.set A_30 q_30 S_30 N_30 H_30 G_30 rfl W7 2 rfl (Nat.le_of_ble_eq_true rfl)
  have K7 : Keep h0 h7 [] := K5.wr W7 (Or.inr sz_b1)
  have N7 := Fr.snoc X7 N5 g_b1
  obtain ⟨T8, X8, e8, st8⟩ := getS2 X7 hx hZ hown (host := "") (Or.inl (hw _ (List.mem_of_getElem? (i := 11) rfl))) Via.refl e7 (S_SHARED_INTENTION_EXCLUSIVE.ext (own_ext K7)) (g := (mkF m 33 #[.val (.int p0_), .val (.int (0 : Int32)), .unset, .unset, .unset] [(.int (3 : Int32)), (.ref b1), (.ref b1)])) rfl (hb hby at_33)
  obtain ⟨c_36, A_36, q_36, S_36, N_36, H_36, G_36⟩ := V_b1_3
  have hin36 : ¬ ((3 : Int32) < 0 ∨ c_36.slots.size ≤ ((3 : Int32)).toNatClampNeg) := inb_of S_36 ⟨by decide, by decide⟩
  have Sto36 : Sto Z h7 b1 (.ref w_SHARED_INTENTION_EXCLUSIVE) := Sto.of A_36 (by rw [q_36]; exact O1) (Ins.self (E_w_SHARED_INTENTION_EXCLUSIVE.ext (own_ext K7)))
  obtain ⟨T9, h9, X9, e9, W9, st9⟩ := stR X8 hx hZ e8 A_36 (j := (3 : Int32)) hin36 rfl Sto36 (g := (mkF m 36 #[.val (.int p0_), .val (.int (0 : Int32)), .unset, .unset, .unset] [(.ref w_SHARED_INTENTION_EXCLUSIVE), (.int (3 : Int32)), (.ref b1), (.ref b1)])) rfl rfl (hb hby at_36)
  have V_b1_4 : Arv Z h9 b1 k1 (.object "com/example/palimpsest/palimpsest/tx/LockMode") (6 : Int32) [(.ref w_INTENTION_SHARED), (.ref w_INTENTION_EXCLUSIVE), (.ref w_SHARED), (.ref w_SHARED_INTENTION_EXCLUSIVE), .null, .null] .null := Arv.set A_36 q_36 S_36 N_36 H_36 G_36 rfl W9 3 rfl (Nat.le_of_ble_eq_true rfl)
  have K9 : Keep h0 h9 [] := K7.wr W9 (Or.inr sz_b1)
  have N9 := Fr.snoc X9 N7 g_b1
  obtain ⟨T10, X10, e10, st10⟩ := getS2 X9 hx hZ hown (host := "") (Or.inl (hw _ (List.mem_of_getElem? (i := 13) rfl))) Via.refl e9 (S_WRITE.ext (own_ext K9)) (g := (mkF m 39 #[.val (.int p0_), .val (.int (0 : Int32)), .unset, .unset, .unset] [(.int (4 : Int32)), (.ref b1), (.ref b1)])) rfl (hb hby at_39)
  obtain ⟨c_42, A_42, q_42, S_42, N_42, H_42, G_42⟩ := V_b1_4
  have hin42 : ¬ ((4 : Int32) < 0 ∨ c_42.slots.size ≤ ((4 : Int32)).toNatClampNeg) := inb_of S_42 ⟨by decide, by decide⟩
  have Sto42 : Sto Z h9 b1 (.ref w_WRITE) := Sto.of A_42 (by rw [q_42]; exact O1) (Ins.self (E_w_WRITE.ext (own_ext K9)))
  obtain ⟨T11, h11, X11, e11, W11, st11⟩ := stR X10 hx hZ e10 A_42 (j := (4 : Int32)) hin42 rfl Sto42 (g := (mkF m 42 #[.val (.int p0_), .val (.int (0 : Int32)), .unset, .unset, .unset] [(.ref w_WRITE), (.int (4 : Int32)), (.ref b1), (.ref b1)])) rfl rfl (hb hby at_42)
  have V_b1_5 : Arv Z h11 b1 k1 (.object "com/example/palimpsest/palimpsest/tx/LockMode") (6 : Int32) [(.ref w_INTENTION_SHARED), (.ref w_INTENTION_EXCLUSIVE), (.ref w_SHARED), (.ref w_SHARED_INTENTION_EXCLUSIVE), (.ref w_WRITE), .null] .null := Arv.set A_42 q_42 S_42 N_42 H_42 G_42 rfl W11 4 rfl (Nat.le_of_ble_eq_true rfl)
  have K11 : Keep h0 h11 [] := K9.wr W11 (Or.inr sz_b1)
  have N11 := Fr.snoc X11 N9 g_b1
  obtain ⟨T12, X12, e12, st12⟩ := getS2 X11 hx hZ hown (host := "") (Or.inl (hw _ (List.mem_of_getElem? (i := 15) rfl))) Via.refl e11 (S_EXCLUSIVE.ext (own_ext K11)) (g := (mkF m 45 #[.val (.int p0_), .val (.int (0 : Int32)), .unset, .unset, .unset] [(.int (5 : Int32)), (.ref b1), (.ref b1)])) rfl (hb hby at_45)
  obtain ⟨c_48, A_48, q_48, S_48, N_48, H_48, G_48⟩ := V_b1_5
  have hin48 : ¬ ((5 : Int32) < 0 ∨ c_48.slots.size ≤ ((5 : Int32)).toNatClampNeg) := inb_of S_48 ⟨by decide, by decide⟩
  have Sto48 : Sto Z h11 b1 (.ref w_EXCLUSIVE) := Sto.of A_48 (by rw [q_48]; exact O1) (Ins.self (E_w_EXCLUSIVE.ext (own_ext K11)))
  obtain ⟨T13, h13, X13, e13, W13, st13⟩ := stR X12 hx hZ e12 A_48 (j := (5 : Int32)) hin48 rfl Sto48 (g := (mkF m 48 #[.val (.int p0_), .val (.int (0 : Int32)), .unset, .unset, .unset] [(.ref w_EXCLUSIVE), (.int (5 : Int32)), (.ref b1), (.ref b1)])) rfl rfl (hb hby at_48)
  have V_b1_6 : Arv Z h13 b1 k1 (.object "com/example/palimpsest/palimpsest/tx/LockMode") (6 : Int32) [(.ref w_INTENTION_SHARED), (.ref w_INTENTION_EXCLUSIVE), (.ref w_SHARED), (.ref w_SHARED_INTENTION_EXCLUSIVE), (.ref w_WRITE), (.ref w_EXCLUSIVE)] .null := Arv.set A_48 q_48 S_48 N_48 H_48 G_48 rfl W13 5 rfl (Nat.le_of_ble_eq_true rfl)
  have K13 : Keep h0 h13 [] := K11.wr W13 (Or.inr sz_b1)
  have N13 := Fr.snoc X13 N11 g_b1
  obtain ⟨T14, h14, k14, X14, e14, E14, A14, O14, st14⟩ := newR X13 hx hZ hown (hw _ (List.mem_of_getElem? (i := 1) rfl)) (hw _ (List.mem_of_getElem? (i := 2) rfl)) e13 (g := (mkF m 52 #[.val (.int p0_), .val (.int (0 : Int32)), .val (.ref b1), .unset, .unset] [(.int (6 : Int32))])) rfl (hb hby at_52) rfl (by decide) (cap := 6) (by decide) (by decide) (by decide) (by decide)
  obtain ⟨b14, g14⟩ : ∃ z, z = h13.size := ⟨_, rfl⟩
  rw [← g14] at A14 st14
  have V_b14_0 : Arv Z h14 b14 k14 (.object "com/example/palimpsest/palimpsest/tx/LockMode") (6 : Int32) [.null, .null, .null, .null, .null, .null] .null := (Arv.new A14 (by decide)).pad (pad_rep [] .null 6)
  have sz_b14 : h0.size ≤ b14 := Nat.le_trans K13.1 (Nat.le_of_eq g14.symm)
  have g_b14 : n0 ≤ b14 := Nat.le_trans Z0 sz_b14
  have K14 : Keep h0 h14 [] := K13.ext E14
  have ne_b1_b14 : b1 ≠ b14 := Nat.ne_of_lt (Nat.lt_of_lt_of_le V_b1_6.lt (Nat.le_of_eq g14.symm))
  have V_b1_7 := V_b1_6.ext E14
  obtain ⟨T15, X15, e15, st15⟩ := getS2 X14 hx hZ hown (host := "") (Or.inl (hw _ (List.mem_of_getElem? (i := 3) rfl))) Via.refl e14 (S_INTENTION_SHARED.ext (own_ext K14)) (g := (mkF m 57 #[.val (.int p0_), .val (.int (0 : Int32)), .val (.ref b1), .unset, .unset] [(.int (0 : Int32)), (.ref b14), (.ref b14)])) rfl (hb hby at_57)
  obtain ⟨c_60, A_60, q_60, S_60, N_60, H_60, G_60⟩ := V_b14_0
  have hin60 : ¬ ((0 : Int32) < 0 ∨ c_60.slots.size ≤ ((0 : Int32)).toNatClampNeg) := inb_of S_60 ⟨by decide, by decide⟩
  have Sto60 : Sto Z h14 b14 (.ref w_INTENTION_SHARED) := Sto.of A_60 (by rw [q_60]; exact O14) (Ins.self (E_w_INTENTION_SHARED.ext (own_ext K14)))
  obtain ⟨T16, h16, X16, e16, W16, st16⟩ := stR X15 hx hZ e15 A_60 (j := (0 : Int32)) hin60 rfl Sto60 (g := (mkF m 60 #[.val (.int p0_), .val (.int (0 : Int32)), .val (.ref b1), .unset, .unset] [(.ref w_INTENTION_SHARED), (.int (0 : Int32)), (.ref b14), (.ref b14)])) rfl rfl (hb hby at_60)
  have V_b14_1 : Arv Z h16 b14 k14 (.object "com/example/palimpsest/palimpsest/tx/LockMode") (6 : Int32) [(.ref w_INTENTION_SHARED), .null, .null, .null, .null, .null] .null := Arv.set A_60 q_60 S_60 N_60 H_60 G_60 rfl W16 0 rfl (Nat.le_of_ble_eq_true rfl)
  have V_b1_8 := V_b1_7.other W16 ne_b1_b14
  have K16 : Keep h0 h16 [] := K14.wr W16 (Or.inr sz_b14)
  have N16 := Fr.snoc X16 N13 g_b14
  obtain ⟨T17, X17, e17, st17⟩ := getS2 X16 hx hZ hown (host := "") (Or.inl (hw _ (List.mem_of_getElem? (i := 7) rfl))) Via.refl e16 (S_INTENTION_EXCLUSIVE.ext (own_ext K16)) (g := (mkF m 63 #[.val (.int p0_), .val (.int (0 : Int32)), .val (.ref b1), .unset, .unset] [(.int (1 : Int32)), (.ref b14), (.ref b14)])) rfl (hb hby at_63)
  obtain ⟨c_66, A_66, q_66, S_66, N_66, H_66, G_66⟩ := V_b14_1
  have hin66 : ¬ ((1 : Int32) < 0 ∨ c_66.slots.size ≤ ((1 : Int32)).toNatClampNeg) := inb_of S_66 ⟨by decide, by decide⟩
  have Sto66 : Sto Z h16 b14 (.ref w_INTENTION_EXCLUSIVE) := Sto.of A_66 (by rw [q_66]; exact O14) (Ins.self (E_w_INTENTION_EXCLUSIVE.ext (own_ext K16)))
  obtain ⟨T18, h18, X18, e18, W18, st18⟩ := stR X17 hx hZ e17 A_66 (j := (1 : Int32)) hin66 rfl Sto66 (g := (mkF m 66 #[.val (.int p0_), .val (.int (0 : Int32)), .val (.ref b1), .unset, .unset] [(.ref w_INTENTION_EXCLUSIVE), (.int (1 : Int32)), (.ref b14), (.ref b14)])) rfl rfl (hb hby at_66)
  have V_b14_2 : Arv Z h18 b14 k14 (.object "com/example/palimpsest/palimpsest/tx/LockMode") (6 : Int32) [(.ref w_INTENTION_SHARED), (.ref w_INTENTION_EXCLUSIVE), .null, .null, .null, .null] .null := Arv.set A_66 q_66 S_66 N_66 H_66 G_66 rfl W18 1 rfl (Nat.le_of_ble_eq_true rfl)
  have V_b1_9 := V_b1_8.other W18 ne_b1_b14
  have K18 : Keep h0 h18 [] := K16.wr W18 (Or.inr sz_b14)
  have N18 := Fr.snoc X18 N16 g_b14
  obtain ⟨T19, X19, e19, st19⟩ := getS2 X18 hx hZ hown (host := "") (Or.inl (hw _ (List.mem_of_getElem? (i := 3) rfl))) Via.refl e18 (S_INTENTION_SHARED.ext (own_ext K18)) (g := (mkF m 69 #[.val (.int p0_), .val (.int (0 : Int32)), .val (.ref b1), .unset, .unset] [(.int (2 : Int32)), (.ref b14), (.ref b14)])) rfl (hb hby at_69)
  obtain ⟨c_72, A_72, q_72, S_72, N_72, H_72, G_72⟩ := V_b14_2
  have hin72 : ¬ ((2 : Int32) < 0 ∨ c_72.slots.size ≤ ((2 : Int32)).toNatClampNeg) := inb_of S_72 ⟨by decide, by decide⟩
  have Sto72 : Sto Z h18 b14 (.ref w_INTENTION_SHARED) := Sto.of A_72 (by rw [q_72]; exact O14) (Ins.self (E_w_INTENTION_SHARED.ext (own_ext K18)))
  obtain ⟨T20, h20, X20, e20, W20, st20⟩ := stR X19 hx hZ e19 A_72 (j := (2 : Int32)) hin72 rfl Sto72 (g := (mkF m 72 #[.val (.int p0_), .val (.int (0 : Int32)), .val (.ref b1), .unset, .unset] [(.ref w_INTENTION_SHARED), (.int (2 : Int32)), (.ref b14), (.ref b14)])) rfl rfl (hb hby at_72)
  have V_b14_3 : Arv Z h20 b14 k14 (.object "com/example/palimpsest/palimpsest/tx/LockMode") (6 : Int32) [(.ref w_INTENTION_SHARED), (.ref w_INTENTION_EXCLUSIVE), (.ref w_INTENTION_SHARED), .null, .null, .null] .null := Arv.set A_72 q_72 S_72 N_72 H_72 G_72 rfl W20 2 rfl (Nat.le_of_ble_eq_true rfl)
  have V_b1_10 := V_b1_9.other W20 ne_b1_b14
  have K20 : Keep h0 h20 [] := K18.wr W20 (Or.inr sz_b14)
  have N20 := Fr.snoc X20 N18 g_b14
  obtain ⟨T21, X21, e21, st21⟩ := getS2 X20 hx hZ hown (host := "") (Or.inl (hw _ (List.mem_of_getElem? (i := 7) rfl))) Via.refl e20 (S_INTENTION_EXCLUSIVE.ext (own_ext K20)) (g := (mkF m 75 #[.val (.int p0_), .val (.int (0 : Int32)), .val (.ref b1), .unset, .unset] [(.int (3 : Int32)), (.ref b14), (.ref b14)])) rfl (hb hby at_75)
  obtain ⟨c_78, A_78, q_78, S_78, N_78, H_78, G_78⟩ := V_b14_3
  have hin78 : ¬ ((3 : Int32) < 0 ∨ c_78.slots.size ≤ ((3 : Int32)).toNatClampNeg) := inb_of S_78 ⟨by decide, by decide⟩
  have Sto78 : Sto Z h20 b14 (.ref w_INTENTION_EXCLUSIVE) := Sto.of A_78 (by rw [q_78]; exact O14) (Ins.self (E_w_INTENTION_EXCLUSIVE.ext (own_ext K20)))
  obtain ⟨T22, h22, X22, e22, W22, st22⟩ := stR X21 hx hZ e21 A_78 (j := (3 : Int32)) hin78 rfl Sto78 (g := (mkF m 78 #[.val (.int p0_), .val (.int (0 : Int32)), .val (.ref b1), .unset, .unset] [(.ref w_INTENTION_EXCLUSIVE), (.int (3 : Int32)), (.ref b14), (.ref b14)])) rfl rfl (hb hby at_78)
  have V_b14_4 : Arv Z h22 b14 k14 (.object "com/example/palimpsest/palimpsest/tx/LockMode") (6 : Int32) [(.ref w_INTENTION_SHARED), (.ref w_INTENTION_EXCLUSIVE), (.ref w_INTENTION_SHARED), (.ref w_INTENTION_EXCLUSIVE), .null, .null] .null := Arv.set A_78 q_78 S_78 N_78 H_78 G_78 rfl W22 3 rfl (Nat.le_of_ble_eq_true rfl)
  have V_b1_11 := V_b1_10.other W22 ne_b1_b14
  have K22 : Keep h0 h22 [] := K20.wr W22 (Or.inr sz_b14)
  have N22 := Fr.snoc X22 N20 g_b14
  obtain ⟨T23, X23, e23, st23⟩ := getS2 X22 hx hZ hown (host := "") (Or.inl (hw _ (List.mem_of_getElem? (i := 7) rfl))) Via.refl e22 (S_INTENTION_EXCLUSIVE.ext (own_ext K22)) (g := (mkF m 81 #[.val (.int p0_), .val (.int (0 : Int32)), .val (.ref b1), .unset, .unset] [(.int (4 : Int32)), (.ref b14), (.ref b14)])) rfl (hb hby at_81)
  obtain ⟨c_84, A_84, q_84, S_84, N_84, H_84, G_84⟩ := V_b14_4
  have hin84 : ¬ ((4 : Int32) < 0 ∨ c_84.slots.size ≤ ((4 : Int32)).toNatClampNeg) := inb_of S_84 ⟨by decide, by decide⟩
  have Sto84 : Sto Z h22 b14 (.ref w_INTENTION_EXCLUSIVE) := Sto.of A_84 (by rw [q_84]; exact O14) (Ins.self (E_w_INTENTION_EXCLUSIVE.ext (own_ext K22)))
  obtain ⟨T24, h24, X24, e24, W24, st24⟩ := stR X23 hx hZ e23 A_84 (j := (4 : Int32)) hin84 rfl Sto84 (g := (mkF m 84 #[.val (.int p0_), .val (.int (0 : Int32)), .val (.ref b1), .unset, .unset] [(.ref w_INTENTION_EXCLUSIVE), (.int (4 : Int32)), (.ref b14), (.ref b14)])) rfl rfl (hb hby at_84)
  have V_b14_5 : Arv Z h24 b14 k14 (.object "com/example/palimpsest/palimpsest/tx/LockMode") (6 : Int32) [(.ref w_INTENTION_SHARED), (.ref w_INTENTION_EXCLUSIVE), (.ref w_INTENTION_SHARED), (.ref w_INTENTION_EXCLUSIVE), (.ref w_INTENTION_EXCLUSIVE), .null] .null := Arv.set A_84 q_84 S_84 N_84 H_84 G_84 rfl W24 4 rfl (Nat.le_of_ble_eq_true rfl)
  have V_b1_12 := V_b1_11.other W24 ne_b1_b14
  have K24 : Keep h0 h24 [] := K22.wr W24 (Or.inr sz_b14)
  have N24 := Fr.snoc X24 N22 g_b14
  obtain ⟨T25, X25, e25, st25⟩ := getS2 X24 hx hZ hown (host := "") (Or.inl (hw _ (List.mem_of_getElem? (i := 7) rfl))) Via.refl e24 (S_INTENTION_EXCLUSIVE.ext (own_ext K24)) (g := (mkF m 87 #[.val (.int p0_), .val (.int (0 : Int32)), .val (.ref b1), .unset, .unset] [(.int (5 : Int32)), (.ref b14), (.ref b14)])) rfl (hb hby at_87)
  obtain ⟨c_90, A_90, q_90, S_90, N_90, H_90, G_90⟩ := V_b14_5
  have hin90 : ¬ ((5 : Int32) < 0 ∨ c_90.slots.size ≤ ((5 : Int32)).toNatClampNeg) := inb_of S_90 ⟨by decide, by decide⟩
  have Sto90 : Sto Z h24 b14 (.ref w_INTENTION_EXCLUSIVE) := Sto.of A_90 (by rw [q_90]; exact O14) (Ins.self (E_w_INTENTION_EXCLUSIVE.ext (own_ext K24)))
  obtain ⟨T26, h26, X26, e26, W26, st26⟩ := stR X25 hx hZ e25 A_90 (j := (5 : Int32)) hin90 rfl Sto90 (g := (mkF m 90 #[.val (.int p0_), .val (.int (0 : Int32)), .val (.ref b1), .unset, .unset] [(.ref w_INTENTION_EXCLUSIVE), (.int (5 : Int32)), (.ref b14), (.ref b14)])) rfl rfl (hb hby at_90)
  have V_b14_6 : Arv Z h26 b14 k14 (.object "com/example/palimpsest/palimpsest/tx/LockMode") (6 : Int32) [(.ref w_INTENTION_SHARED), (.ref w_INTENTION_EXCLUSIVE), (.ref w_INTENTION_SHARED), (.ref w_INTENTION_EXCLUSIVE), (.ref w_INTENTION_EXCLUSIVE), (.ref w_INTENTION_EXCLUSIVE)] .null := Arv.set A_90 q_90 S_90 N_90 H_90 G_90 rfl W26 5 rfl (Nat.le_of_ble_eq_true rfl)
  have V_b1_13 := V_b1_12.other W26 ne_b1_b14
  have K26 : Keep h0 h26 [] := K24.wr W26 (Or.inr sz_b14)
  have N26 := Fr.snoc X26 N24 g_b14
  obtain ⟨c_94, A_94, q_94, S_94, N_94, H_94, G_94⟩ := V_b1_13
  have hin94 : ¬ ((0 : Int32) < 0 ∨ c_94.slots.size ≤ ((0 : Int32)).toNatClampNeg) := inb_of S_94 ⟨by decide, by decide⟩
  have hat94 : c_94.slots[((0 : Int32)).toNatClampNeg]? = some (.ref w_INTENTION_SHARED) := H_94 _ (Nat.lt_of_not_le fun q => hin94 (Or.inr q))
  obtain ⟨cq27, kq27, q27a, q27b, q27c⟩ := isOf hZ e26 (E_w_INTENTION_SHARED.ext (own_ext K26))
  obtain ⟨_, _, ⟨T27, L27, k27, n27⟩, -, X27, ⟨Lc27, hQ27, l27, y27, z27⟩, st27⟩ := X26.virtualBack hx (y := (⟨"com/example/palimpsest/palimpsest/tx/LockMode", "intention", "()Lcom/example/palimpsest/palimpsest/tx/LockMode;"⟩ : MethodName)) (z := (⟨"com/example/palimpsest/palimpsest/tx/LockMode", "intention", "()Lcom/example/palimpsest/palimpsest/tx/LockMode;"⟩ : MethodName)) hown (mvT hZ (hw _ (List.mem_of_getElem? (i := 17) rfl))) (mvT hZ (hw _ (List.mem_of_getElem? (i := 18) rfl))) (notFace_of_selects (args := #[]) (mvT hZ (hw _ (List.mem_of_getElem? (i := 20) rfl)))) (mvT hZ (hw _ (List.mem_of_getElem? (i := 20) rfl))) (mvT hZ (hw _ (List.mem_of_getElem? (i := 19) rfl))) (by decide) (backOf (W := 0) (own_b1_ff l Z a0 hw [] w_INTENTION_SHARED w_SHARED w_INTENTION_SHARED h26 n0 (Nat.le_trans Z0 (own_ext K26).1) (S_SHARED.ext (own_ext K26)) (S_INTENTION_SHARED.ext (own_ext K26)) hf1 rfl) hZ (hw _ (List.mem_of_getElem? (i := 21) rfl)) (hw _ (List.mem_of_getElem? (i := 4) rfl)) (by decide) (by decide)) q27a q27c (g := (mkF m 95 #[.val (.int p0_), .val (.int (0 : Int32)), .val (.ref b1), .val (.ref b14), .unset] [(.ref w_INTENTION_SHARED)])) rfl (by rw [hml]; rfl) (Steps.refl _) (argsL := []) (rest := []) (lenOf own_pd0 rfl) rfl (by show 2 * 0 + _ ≤ _; exact Nat.le_of_eq rfl) (hb hby at_95) (fun _ _ => ⟨rfl, e26, (by decide : 2 + 0 ≤ _), (by decide : 12 + 0 ≤ _)⟩)
  dsimp only [Pt.U, Pt.locs, Pt.cells, Pt.slots] at X27 l27 y27 z27 st27 hQ27
  subst l27 y27 z27
  obtain ⟨rfl, N27q, e27⟩ := hQ27
  have N27 := Fr.app N26 N27q
  obtain ⟨c_104, A_104, q_104, S_104, N_104, H_104, G_104⟩ := V_b14_6
  have hin104 : ¬ ((0 : Int32) < 0 ∨ c_104.slots.size ≤ ((0 : Int32)).toNatClampNeg) := inb_of S_104 ⟨by decide, by decide⟩
  have hat104 : c_104.slots[((0 : Int32)).toNatClampNeg]? = some (.ref w_INTENTION_SHARED) := H_104 _ (Nat.lt_of_not_le fun q => hin104 (Or.inr q))
  obtain ⟨fs, hr, hrun, hended, hW, hsame⟩ := X27.leave (v := some (.int (1 : Int32))) (fun h => by rw [Bd.returns] at h; cases h)
  refine ⟨_, _, pre0 _ ?_, hrun, hended, _, _, rfl, ?_, ⟨_, rfl⟩, hW, hsame.mono (by decide) (by decide)⟩
  · show Steps p.tables e below (s₁.setTop (mkF m 0 #[.val (.int p0_), .unset, .unset, .unset, .unset] [])) _
    refine XS.iloadN X0.here hx rfl (hb hby at_0) rfl ?_
    show Steps p.tables e below (s₁.setTop (mkF m 1 #[.val (.int p0_), .unset, .unset, .unset, .unset] [(.int p0_)])) _
    refine X0.ldcInt hx hown (mvT hZ (hw _ (List.mem_of_getElem? (i := 0) rfl))) (g := (mkF m 1 #[.val (.int p0_), .unset, .unset, .unset, .unset] [(.int p0_)])) rfl (hb hby at_1) _ ?_
    show Steps p.tables e below (s₁.setTop (mkF m 3 #[.val (.int p0_), .unset, .unset, .unset, .unset] [(.int (2147483647 : Int32)), (.int p0_)])) _
    refine XS.iand X0.here hx rfl (hb hby at_3) rfl ?_
    show Steps p.tables e below (s₁.setTop (mkF m 4 #[.val (.int p0_), .unset, .unset, .unset, .unset] [(.int (p0_ &&& (2147483647 : Int32)))])) _
    refine XS.bipush X0.here hx rfl (hb hby at_4) ?_
    show Steps p.tables e below (s₁.setTop (mkF m 6 #[.val (.int p0_), .unset, .unset, .unset, .unset] [(.int (6 : Int32)), (.int (p0_ &&& (2147483647 : Int32)))])) _
    refine iremM X0 hx rfl (hb hby at_6) rfl (by decide) ?_
    show Steps p.tables e below (s₁.setTop (mkF m 7 #[.val (.int p0_), .unset, .unset, .unset, .unset] [(.int ((p0_ &&& (2147483647 : Int32)) % (6 : Int32)))])) _
    rw [hf0]
    show Steps p.tables e below (s₁.setTop (mkF m 7 #[.val (.int p0_), .unset, .unset, .unset, .unset] [(.int (0 : Int32))])) _
    refine XS.istoreN X0.here hx rfl (hb hby at_7) rfl (l' := #[.val (.int p0_), .val (.int (0 : Int32)), .unset, .unset, .unset]) rfl ?_
    show Steps p.tables e below (s₁.setTop (mkF m 8 #[.val (.int p0_), .val (.int (0 : Int32)), .unset, .unset, .unset] [])) _
    refine XS.bipush X0.here hx rfl (hb hby at_8) ?_
    show Steps p.tables e below (s₁.setTop (mkF m 10 #[.val (.int p0_), .val (.int (0 : Int32)), .unset, .unset, .unset] [(.int (6 : Int32))])) _
    refine st1 _ ?_
    show Steps p.tables e below (T1.setTop (mkF m 13 #[.val (.int p0_), .val (.int (0 : Int32)), .unset, .unset, .unset] [(.ref b1)])) _
    refine XS.dup X1.here hx rfl (hb hby at_13) rfl rfl ?_
    show Steps p.tables e below (T1.setTop (mkF m 14 #[.val (.int p0_), .val (.int (0 : Int32)), .unset, .unset, .unset] [(.ref b1), (.ref b1)])) _
    refine XS.iconst X1.here hx rfl (hb hby at_14) ?_
    show Steps p.tables e below (T1.setTop (mkF m 15 #[.val (.int p0_), .val (.int (0 : Int32)), .unset, .unset, .unset] [(.int (0 : Int32)), (.ref b1), (.ref b1)])) _
    refine st2 _ ?_
    show Steps p.tables e below (T2.setTop (mkF m 18 #[.val (.int p0_), .val (.int (0 : Int32)), .unset, .unset, .unset] [(.ref w_INTENTION_SHARED), (.int (0 : Int32)), (.ref b1), (.ref b1)])) _
    refine st3 _ ?_
    show Steps p.tables e below (T3.setTop (mkF m 19 #[.val (.int p0_), .val (.int (0 : Int32)), .unset, .unset, .unset] [(.ref b1)])) _
    refine XS.dup X3.here hx rfl (hb hby at_19) rfl rfl ?_
    show Steps p.tables e below (T3.setTop (mkF m 20 #[.val (.int p0_), .val (.int (0 : Int32)), .unset, .unset, .unset] [(.ref b1), (.ref b1)])) _
    refine XS.iconst X3.here hx rfl (hb hby at_20) ?_
    show Steps p.tables e below (T3.setTop (mkF m 21 #[.val (.int p0_), .val (.int (0 : Int32)), .unset, .unset, .unset] [(.int (1 : Int32)), (.ref b1), (.ref b1)])) _
    refine st4 _ ?_
    show Steps p.tables e below (T4.setTop (mkF m 24 #[.val (.int p0_), .val (.int (0 : Int32)), .unset, .unset, .unset] [(.ref w_INTENTION_EXCLUSIVE), (.int (1 : Int32)), (.ref b1), (.ref b1)])) _
    refine st5 _ ?_
    show Steps p.tables e below (T5.setTop (mkF m 25 #[.val (.int p0_), .val (.int (0 : Int32)), .unset, .unset, .unset] [(.ref b1)])) _
    refine XS.dup X5.here hx rfl (hb hby at_25) rfl rfl ?_
    show Steps p.tables e below (T5.setTop (mkF m 26 #[.val (.int p0_), .val (.int (0 : Int32)), .unset, .unset, .unset] [(.ref b1), (.ref b1)])) _
    refine XS.iconst X5.here hx rfl (hb hby at_26) ?_
    show Steps p.tables e below (T5.setTop (mkF m 27 #[.val (.int p0_), .val (.int (0 : Int32)), .unset, .unset, .unset] [(.int (2 : Int32)), (.ref b1), (.ref b1)])) _
    refine st6 _ ?_
    show Steps p.tables e below (T6.setTop (mkF m 30 #[.val (.int p0_), .val (.int (0 : Int32)), .unset, .unset, .unset] [(.ref w_SHARED), (.int (2 : Int32)), (.ref b1), (.ref b1)])) _
    refine st7 _ ?_
    show Steps p.tables e below (T7.setTop (mkF m 31 #[.val (.int p0_), .val (.int (0 : Int32)), .unset, .unset, .unset] [(.ref b1)])) _
    refine XS.dup X7.here hx rfl (hb hby at_31) rfl rfl ?_
    show Steps p.tables e below (T7.setTop (mkF m 32 #[.val (.int p0_), .val (.int (0 : Int32)), .unset, .unset, .unset] [(.ref b1), (.ref b1)])) _
    refine XS.iconst X7.here hx rfl (hb hby at_32) ?_
    show Steps p.tables e below (T7.setTop (mkF m 33 #[.val (.int p0_), .val (.int (0 : Int32)), .unset, .unset, .unset] [(.int (3 : Int32)), (.ref b1), (.ref b1)])) _
    refine st8 _ ?_
    show Steps p.tables e below (T8.setTop (mkF m 36 #[.val (.int p0_), .val (.int (0 : Int32)), .unset, .unset, .unset] [(.ref w_SHARED_INTENTION_EXCLUSIVE), (.int (3 : Int32)), (.ref b1), (.ref b1)])) _
    refine st9 _ ?_
    show Steps p.tables e below (T9.setTop (mkF m 37 #[.val (.int p0_), .val (.int (0 : Int32)), .unset, .unset, .unset] [(.ref b1)])) _
    refine XS.dup X9.here hx rfl (hb hby at_37) rfl rfl ?_
    show Steps p.tables e below (T9.setTop (mkF m 38 #[.val (.int p0_), .val (.int (0 : Int32)), .unset, .unset, .unset] [(.ref b1), (.ref b1)])) _
    refine XS.iconst X9.here hx rfl (hb hby at_38) ?_
    show Steps p.tables e below (T9.setTop (mkF m 39 #[.val (.int p0_), .val (.int (0 : Int32)), .unset, .unset, .unset] [(.int (4 : Int32)), (.ref b1), (.ref b1)])) _
    refine st10 _ ?_
    show Steps p.tables e below (T10.setTop (mkF m 42 #[.val (.int p0_), .val (.int (0 : Int32)), .unset, .unset, .unset] [(.ref w_WRITE), (.int (4 : Int32)), (.ref b1), (.ref b1)])) _
    refine st11 _ ?_
    show Steps p.tables e below (T11.setTop (mkF m 43 #[.val (.int p0_), .val (.int (0 : Int32)), .unset, .unset, .unset] [(.ref b1)])) _
    refine XS.dup X11.here hx rfl (hb hby at_43) rfl rfl ?_
    show Steps p.tables e below (T11.setTop (mkF m 44 #[.val (.int p0_), .val (.int (0 : Int32)), .unset, .unset, .unset] [(.ref b1), (.ref b1)])) _
    refine XS.iconst X11.here hx rfl (hb hby at_44) ?_
    show Steps p.tables e below (T11.setTop (mkF m 45 #[.val (.int p0_), .val (.int (0 : Int32)), .unset, .unset, .unset] [(.int (5 : Int32)), (.ref b1), (.ref b1)])) _
    refine st12 _ ?_
    show Steps p.tables e below (T12.setTop (mkF m 48 #[.val (.int p0_), .val (.int (0 : Int32)), .unset, .unset, .unset] [(.ref w_EXCLUSIVE), (.int (5 : Int32)), (.ref b1), (.ref b1)])) _
    refine st13 _ ?_
    show Steps p.tables e below (T13.setTop (mkF m 49 #[.val (.int p0_), .val (.int (0 : Int32)), .unset, .unset, .unset] [(.ref b1)])) _
    refine XS.astoreN X13.here hx rfl (hb hby at_49) rfl rfl (l' := #[.val (.int p0_), .val (.int (0 : Int32)), .val (.ref b1), .unset, .unset]) rfl ?_
    show Steps p.tables e below (T13.setTop (mkF m 50 #[.val (.int p0_), .val (.int (0 : Int32)), .val (.ref b1), .unset, .unset] [])) _
    refine XS.bipush X13.here hx rfl (hb hby at_50) ?_
    show Steps p.tables e below (T13.setTop (mkF m 52 #[.val (.int p0_), .val (.int (0 : Int32)), .val (.ref b1), .unset, .unset] [(.int (6 : Int32))])) _
    refine st14 _ ?_
    show Steps p.tables e below (T14.setTop (mkF m 55 #[.val (.int p0_), .val (.int (0 : Int32)), .val (.ref b1), .unset, .unset] [(.ref b14)])) _
    refine XS.dup X14.here hx rfl (hb hby at_55) rfl rfl ?_
    show Steps p.tables e below (T14.setTop (mkF m 56 #[.val (.int p0_), .val (.int (0 : Int32)), .val (.ref b1), .unset, .unset] [(.ref b14), (.ref b14)])) _
    refine XS.iconst X14.here hx rfl (hb hby at_56) ?_
    show Steps p.tables e below (T14.setTop (mkF m 57 #[.val (.int p0_), .val (.int (0 : Int32)), .val (.ref b1), .unset, .unset] [(.int (0 : Int32)), (.ref b14), (.ref b14)])) _
    refine st15 _ ?_
    show Steps p.tables e below (T15.setTop (mkF m 60 #[.val (.int p0_), .val (.int (0 : Int32)), .val (.ref b1), .unset, .unset] [(.ref w_INTENTION_SHARED), (.int (0 : Int32)), (.ref b14), (.ref b14)])) _
    refine st16 _ ?_
    show Steps p.tables e below (T16.setTop (mkF m 61 #[.val (.int p0_), .val (.int (0 : Int32)), .val (.ref b1), .unset, .unset] [(.ref b14)])) _
    refine XS.dup X16.here hx rfl (hb hby at_61) rfl rfl ?_
    show Steps p.tables e below (T16.setTop (mkF m 62 #[.val (.int p0_), .val (.int (0 : Int32)), .val (.ref b1), .unset, .unset] [(.ref b14), (.ref b14)])) _
    refine XS.iconst X16.here hx rfl (hb hby at_62) ?_
    show Steps p.tables e below (T16.setTop (mkF m 63 #[.val (.int p0_), .val (.int (0 : Int32)), .val (.ref b1), .unset, .unset] [(.int (1 : Int32)), (.ref b14), (.ref b14)])) _
    refine st17 _ ?_
    show Steps p.tables e below (T17.setTop (mkF m 66 #[.val (.int p0_), .val (.int (0 : Int32)), .val (.ref b1), .unset, .unset] [(.ref w_INTENTION_EXCLUSIVE), (.int (1 : Int32)), (.ref b14), (.ref b14)])) _
    refine st18 _ ?_
    show Steps p.tables e below (T18.setTop (mkF m 67 #[.val (.int p0_), .val (.int (0 : Int32)), .val (.ref b1), .unset, .unset] [(.ref b14)])) _
    refine XS.dup X18.here hx rfl (hb hby at_67) rfl rfl ?_
    show Steps p.tables e below (T18.setTop (mkF m 68 #[.val (.int p0_), .val (.int (0 : Int32)), .val (.ref b1), .unset, .unset] [(.ref b14), (.ref b14)])) _
    refine XS.iconst X18.here hx rfl (hb hby at_68) ?_
    show Steps p.tables e below (T18.setTop (mkF m 69 #[.val (.int p0_), .val (.int (0 : Int32)), .val (.ref b1), .unset, .unset] [(.int (2 : Int32)), (.ref b14), (.ref b14)])) _
    refine st19 _ ?_
    show Steps p.tables e below (T19.setTop (mkF m 72 #[.val (.int p0_), .val (.int (0 : Int32)), .val (.ref b1), .unset, .unset] [(.ref w_INTENTION_SHARED), (.int (2 : Int32)), (.ref b14), (.ref b14)])) _
    refine st20 _ ?_
    show Steps p.tables e below (T20.setTop (mkF m 73 #[.val (.int p0_), .val (.int (0 : Int32)), .val (.ref b1), .unset, .unset] [(.ref b14)])) _
    refine XS.dup X20.here hx rfl (hb hby at_73) rfl rfl ?_
    show Steps p.tables e below (T20.setTop (mkF m 74 #[.val (.int p0_), .val (.int (0 : Int32)), .val (.ref b1), .unset, .unset] [(.ref b14), (.ref b14)])) _
    refine XS.iconst X20.here hx rfl (hb hby at_74) ?_
    show Steps p.tables e below (T20.setTop (mkF m 75 #[.val (.int p0_), .val (.int (0 : Int32)), .val (.ref b1), .unset, .unset] [(.int (3 : Int32)), (.ref b14), (.ref b14)])) _
    refine st21 _ ?_
    show Steps p.tables e below (T21.setTop (mkF m 78 #[.val (.int p0_), .val (.int (0 : Int32)), .val (.ref b1), .unset, .unset] [(.ref w_INTENTION_EXCLUSIVE), (.int (3 : Int32)), (.ref b14), (.ref b14)])) _
    refine st22 _ ?_
    show Steps p.tables e below (T22.setTop (mkF m 79 #[.val (.int p0_), .val (.int (0 : Int32)), .val (.ref b1), .unset, .unset] [(.ref b14)])) _
    refine XS.dup X22.here hx rfl (hb hby at_79) rfl rfl ?_
    show Steps p.tables e below (T22.setTop (mkF m 80 #[.val (.int p0_), .val (.int (0 : Int32)), .val (.ref b1), .unset, .unset] [(.ref b14), (.ref b14)])) _
    refine XS.iconst X22.here hx rfl (hb hby at_80) ?_
    show Steps p.tables e below (T22.setTop (mkF m 81 #[.val (.int p0_), .val (.int (0 : Int32)), .val (.ref b1), .unset, .unset] [(.int (4 : Int32)), (.ref b14), (.ref b14)])) _
    refine st23 _ ?_
    show Steps p.tables e below (T23.setTop (mkF m 84 #[.val (.int p0_), .val (.int (0 : Int32)), .val (.ref b1), .unset, .unset] [(.ref w_INTENTION_EXCLUSIVE), (.int (4 : Int32)), (.ref b14), (.ref b14)])) _
    refine st24 _ ?_
    show Steps p.tables e below (T24.setTop (mkF m 85 #[.val (.int p0_), .val (.int (0 : Int32)), .val (.ref b1), .unset, .unset] [(.ref b14)])) _
    refine XS.dup X24.here hx rfl (hb hby at_85) rfl rfl ?_
    show Steps p.tables e below (T24.setTop (mkF m 86 #[.val (.int p0_), .val (.int (0 : Int32)), .val (.ref b1), .unset, .unset] [(.ref b14), (.ref b14)])) _
    refine XS.iconst X24.here hx rfl (hb hby at_86) ?_
    show Steps p.tables e below (T24.setTop (mkF m 87 #[.val (.int p0_), .val (.int (0 : Int32)), .val (.ref b1), .unset, .unset] [(.int (5 : Int32)), (.ref b14), (.ref b14)])) _
    refine st25 _ ?_
    show Steps p.tables e below (T25.setTop (mkF m 90 #[.val (.int p0_), .val (.int (0 : Int32)), .val (.ref b1), .unset, .unset] [(.ref w_INTENTION_EXCLUSIVE), (.int (5 : Int32)), (.ref b14), (.ref b14)])) _
    refine st26 _ ?_
    show Steps p.tables e below (T26.setTop (mkF m 91 #[.val (.int p0_), .val (.int (0 : Int32)), .val (.ref b1), .unset, .unset] [(.ref b14)])) _
    refine XS.astoreN X26.here hx rfl (hb hby at_91) rfl rfl (l' := #[.val (.int p0_), .val (.int (0 : Int32)), .val (.ref b1), .val (.ref b14), .unset]) rfl ?_
    show Steps p.tables e below (T26.setTop (mkF m 92 #[.val (.int p0_), .val (.int (0 : Int32)), .val (.ref b1), .val (.ref b14), .unset] [])) _
    refine XS.aloadN X26.here hx rfl (hb hby at_92) rfl rfl ?_
    show Steps p.tables e below (T26.setTop (mkF m 93 #[.val (.int p0_), .val (.int (0 : Int32)), .val (.ref b1), .val (.ref b14), .unset] [(.ref b1)])) _
    refine XS.iloadN X26.here hx rfl (hb hby at_93) rfl ?_
    show Steps p.tables e below (T26.setTop (mkF m 94 #[.val (.int p0_), .val (.int (0 : Int32)), .val (.ref b1), .val (.ref b14), .unset] [(.int (0 : Int32)), (.ref b1)])) _
    refine X26.aaload hx (j := (0 : Int32)) (v := (.ref w_INTENTION_SHARED)) (by rw [e26]; exact A_94.1) (State.isArrayOf_alike hZ.alike A_94.2.1) rfl A_94.2.2 hin94 hat94 (g := (mkF m 94 #[.val (.int p0_), .val (.int (0 : Int32)), .val (.ref b1), .val (.ref b14), .unset] [(.int (0 : Int32)), (.ref b1)])) rfl rfl (hb hby at_94) _ ?_
    show Steps p.tables e below (T26.setTop (mkF m 95 #[.val (.int p0_), .val (.int (0 : Int32)), .val (.ref b1), .val (.ref b14), .unset] [(.ref w_INTENTION_SHARED)])) _
    refine st27.trans ?_
    show Steps p.tables e below (T27.setTop (mkF m 98 #[.val (.int p0_), .val (.int (0 : Int32)), .val (.ref b1), .val (.ref b14), .unset] [(.ref w_INTENTION_SHARED)])) _
    refine XS.astore X27.here hx rfl (hb hby at_98) rfl rfl (l' := #[.val (.int p0_), .val (.int (0 : Int32)), .val (.ref b1), .val (.ref b14), .val (.ref w_INTENTION_SHARED)]) rfl ?_
    show Steps p.tables e below (T27.setTop (mkF m 100 #[.val (.int p0_), .val (.int (0 : Int32)), .val (.ref b1), .val (.ref b14), .val (.ref w_INTENTION_SHARED)] [])) _
    refine XS.aload X27.here hx rfl (hb hby at_100) rfl rfl ?_
    show Steps p.tables e below (T27.setTop (mkF m 102 #[.val (.int p0_), .val (.int (0 : Int32)), .val (.ref b1), .val (.ref b14), .val (.ref w_INTENTION_SHARED)] [(.ref w_INTENTION_SHARED)])) _
    refine XS.aloadN X27.here hx rfl (hb hby at_102) rfl rfl ?_
    show Steps p.tables e below (T27.setTop (mkF m 103 #[.val (.int p0_), .val (.int (0 : Int32)), .val (.ref b1), .val (.ref b14), .val (.ref w_INTENTION_SHARED)] [(.ref b14), (.ref w_INTENTION_SHARED)])) _
    refine XS.iloadN X27.here hx rfl (hb hby at_103) rfl ?_
    show Steps p.tables e below (T27.setTop (mkF m 104 #[.val (.int p0_), .val (.int (0 : Int32)), .val (.ref b1), .val (.ref b14), .val (.ref w_INTENTION_SHARED)] [(.int (0 : Int32)), (.ref b14), (.ref w_INTENTION_SHARED)])) _
    refine X27.aaload hx (j := (0 : Int32)) (v := (.ref w_INTENTION_SHARED)) (by rw [e27]; exact A_104.1) (State.isArrayOf_alike hZ.alike A_104.2.1) rfl A_104.2.2 hin104 hat104 (g := (mkF m 104 #[.val (.int p0_), .val (.int (0 : Int32)), .val (.ref b1), .val (.ref b14), .val (.ref w_INTENTION_SHARED)] [(.int (0 : Int32)), (.ref b14), (.ref w_INTENTION_SHARED)])) rfl rfl (hb hby at_104) _ ?_
    show Steps p.tables e below (T27.setTop (mkF m 105 #[.val (.int p0_), .val (.int (0 : Int32)), .val (.ref b1), .val (.ref b14), .val (.ref w_INTENTION_SHARED)] [(.ref w_INTENTION_SHARED), (.ref w_INTENTION_SHARED)])) _
    refine Jvm.RoadKit.acmp (g := (mkF m 105 #[.val (.int p0_), .val (.int (0 : Int32)), .val (.ref b1), .val (.ref b14), .val (.ref w_INTENTION_SHARED)] [(.ref w_INTENTION_SHARED), (.ref w_INTENTION_SHARED)])) X27 hx rfl rfl rfl (pc0 := 105) (pc' := 108) (same := true) rfl (hb hby at_105) rfl (decide_eq_true rfl) (by decide) (by decide) ?_
    show Steps p.tables e below (T27.setTop (mkF m 108 #[.val (.int p0_), .val (.int (0 : Int32)), .val (.ref b1), .val (.ref b14), .val (.ref w_INTENTION_SHARED)] [])) _
    refine XS.iconst X27.here hx rfl (hb hby at_108) ?_
    show Steps p.tables e below (T27.setTop (mkF m 109 #[.val (.int p0_), .val (.int (0 : Int32)), .val (.ref b1), .val (.ref b14), .val (.ref w_INTENTION_SHARED)] [(.int (1 : Int32))])) _
    refine XS.goto X27.here hx rfl (pc0 := 109) (pc' := 113) rfl (hb hby at_109) (by decide) (by decide) ?_
    show Steps p.tables e below (T27.setTop (mkF m 113 #[.val (.int p0_), .val (.int (0 : Int32)), .val (.ref b1), .val (.ref b14), .val (.ref w_INTENTION_SHARED)] [(.int (1 : Int32))])) _
    exact retN X27 hx (t := .boolean) Bd.returns (by simp) (hb hby at_113) hr
  · show own_QL n0 _ T27.heap _
    exact ⟨rfl, N27⟩
set_option maxRecDepth 65536 in
set_option maxHeartbeats 40000000 in
theorem own_law1 (l : Launch) (Z : State) (a0 : Array Value) (hw : ∀ d ∈ tables_1, d.before a0 Z = true) (ws : List Jvm.Cond) (p0_ : Int32) (w_INTENTION_SHARED : Addr) (w_INTENTION_EXCLUSIVE : Addr) (w_SHARED : Addr) (w_SHARED_INTENTION_EXCLUSIVE : Addr) (w_WRITE : Addr) (w_EXCLUSIVE : Addr) (h0 : Heap) (n0 : Nat) (Z0 : n0 ≤ h0.size) (S_INTENTION_SHARED : Sta Z h0 "com/example/palimpsest/palimpsest/tx/LockMode" "INTENTION_SHARED" "Lcom/example/palimpsest/palimpsest/tx/LockMode;" (.ref w_INTENTION_SHARED)) (E_w_INTENTION_SHARED : Exa Z h0 w_INTENTION_SHARED "com/example/palimpsest/palimpsest/tx/LockMode") (S_INTENTION_EXCLUSIVE : Sta Z h0 "com/example/palimpsest/palimpsest/tx/LockMode" "INTENTION_EXCLUSIVE" "Lcom/example/palimpsest/palimpsest/tx/LockMode;" (.ref w_INTENTION_EXCLUSIVE)) (E_w_INTENTION_EXCLUSIVE : Exa Z h0 w_INTENTION_EXCLUSIVE "com/example/palimpsest/palimpsest/tx/LockMode") (S_SHARED : Sta Z h0 "com/example/palimpsest/palimpsest/tx/LockMode" "SHARED" "Lcom/example/palimpsest/palimpsest/tx/LockMode;" (.ref w_SHARED)) (E_w_SHARED : Exa Z h0 w_SHARED "com/example/palimpsest/palimpsest/tx/LockMode") (S_SHARED_INTENTION_EXCLUSIVE : Sta Z h0 "com/example/palimpsest/palimpsest/tx/LockMode" "SHARED_INTENTION_EXCLUSIVE" "Lcom/example/palimpsest/palimpsest/tx/LockMode;" (.ref w_SHARED_INTENTION_EXCLUSIVE)) (E_w_SHARED_INTENTION_EXCLUSIVE : Exa Z h0 w_SHARED_INTENTION_EXCLUSIVE "com/example/palimpsest/palimpsest/tx/LockMode") (S_WRITE : Sta Z h0 "com/example/palimpsest/palimpsest/tx/LockMode" "WRITE" "Lcom/example/palimpsest/palimpsest/tx/LockMode;" (.ref w_WRITE)) (E_w_WRITE : Exa Z h0 w_WRITE "com/example/palimpsest/palimpsest/tx/LockMode") (S_EXCLUSIVE : Sta Z h0 "com/example/palimpsest/palimpsest/tx/LockMode" "EXCLUSIVE" "Lcom/example/palimpsest/palimpsest/tx/LockMode;" (.ref w_EXCLUSIVE)) (E_w_EXCLUSIVE : Exa Z h0 w_EXCLUSIVE "com/example/palimpsest/palimpsest/tx/LockMode") (hf0 : ((p0_ &&& (2147483647 : Int32)) % (6 : Int32)) = (1 : Int32)) (hf1 : ¬ (w_INTENTION_EXCLUSIVE = w_SHARED)) (hf2 : ¬ (w_INTENTION_EXCLUSIVE = w_INTENTION_SHARED)) :
    MetFree l x (head1 (Jvm.Cond.code x code maxLocals ret :: ws) room_1) (fun a U => a = #[(.int p0_)] ∧ Z.Warmed39 U.vm ∧ U.heap = h0) (fun _ _ _ _ _ => True) (fun _ U o U' => ∃ v L, o = .returned v ∧ own_QL n0 v U'.heap L ∧ FrameEnd U o U' L room_1.cells room_1.slots) := by
  refine MetFree.of_bodySF (plainFor_of_name own_pn1) hisR ?_
  intro p e s m args below meth c s₁ Bd hml0 hP hK
  obtain ⟨rfl, hZ, hh⟩ := hP
  have hx := Bd.exec
  have hby := Bd.bytes
  have hml : c.maxLocals = 5 := hml0
  have hown : s.vm.findClass "com/example/palimpsest/palimpsest/tx/LockModeIntentionPinLaw" = some m.cls := findClass_of_methodNamed Bd.named
  have hnm := (name_of_methodNamed Bd.named Bd.method).1
  have X0 : Stand p l e room_1 s m #[(.int p0_)] below meth c s₁ [] 0 0 := Stand.of_body Bd
  have e0 : s₁.heap = h0 := by rw [← hh, Bd.state]; rfl
  have N0 := Fr.nil n0
  have pre0 : ∀ t, Steps p.tables e below (s₁.setTop (mkF m 0 #[.val (.int p0_), .unset, .unset, .unset, .unset] [])) t → Steps p.tables e below (s₁.setTop (entryFrame m #[(.int p0_)] maxLocals)) t := fun t k => castTop (own_ef1 m p0_) k
  obtain ⟨T1, h1, k1, X1, e1, E1, A1, O1, st1⟩ := newR X0 hx hZ hown (hw _ (List.mem_of_getElem? (i := 1) rfl)) (hw _ (List.mem_of_getElem? (i := 2) rfl)) e0 (g := (mkF m 10 #[.val (.int p0_), .val (.int (1 : Int32)), .unset, .unset, .unset] [(.int (6 : Int32))])) rfl (hb hby at_10) rfl (by decide) (cap := 6) (by decide) (by decide) (by decide) (by decide)
  obtain ⟨b1, g1⟩ : ∃ z, z = h0.size := ⟨_, rfl⟩
  rw [← g1] at A1 st1
  have V_b1_0 : Arv Z h1 b1 k1 (.object "com/example/palimpsest/palimpsest/tx/LockMode") (6 : Int32) [.null, .null, .null, .null, .null, .null] .null := (Arv.new A1 (by decide)).pad (pad_rep [] .null 6)
  have sz_b1 : h0.size ≤ b1 := Nat.le_trans (Keep.refl h0 []).1 (Nat.le_of_eq g1.symm)
  have g_b1 : n0 ≤ b1 := Nat.le_trans Z0 sz_b1
  have K1 : Keep h0 h1 [] := (Keep.refl h0 []).ext E1
  obtain ⟨T2, X2, e2, st2⟩ := getS2 X1 hx hZ hown (host := "") (Or.inl (hw _ (List.mem_of_getElem? (i := 3) rfl))) Via.refl e1 (S_INTENTION_SHARED.ext (own_ext K1)) (g := (mkF m 15 #[.val (.int p0_), .val (.int (1 : Int32)), .unset, .unset, .unset] [(.int (0 : Int32)), (.ref b1), (.ref b1)])) rfl (hb hby at_15)
  obtain ⟨c_18, A_18, q_18, S_18, N_18, H_18, G_18⟩ := V_b1_0
  have hin18 : ¬ ((0 : Int32) < 0 ∨ c_18.slots.size ≤ ((0 : Int32)).toNatClampNeg) := inb_of S_18 ⟨by decide, by decide⟩
  have Sto18 : Sto Z h1 b1 (.ref w_INTENTION_SHARED) := Sto.of A_18 (by rw [q_18]; exact O1) (Ins.self (E_w_INTENTION_SHARED.ext (own_ext K1)))
  obtain ⟨T3, h3, X3, e3, W3, st3⟩ := stR X2 hx hZ e2 A_18 (j := (0 : Int32)) hin18 rfl Sto18 (g := (mkF m 18 #[.val (.int p0_), .val (.int (1 : Int32)), .unset, .unset, .unset] [(.ref w_INTENTION_SHARED), (.int (0 : Int32)), (.ref b1), (.ref b1)])) rfl rfl (hb hby at_18)
  have V_b1_1 : Arv Z h3 b1 k1 (.object "com/example/palimpsest/palimpsest/tx/LockMode") (6 : Int32) [(.ref w_INTENTION_SHARED), .null, .null, .null, .null, .null] .null := Arv.set A_18 q_18 S_18 N_18 H_18 G_18 rfl W3 0 rfl (Nat.le_of_ble_eq_true rfl)
  have K3 : Keep h0 h3 [] := K1.wr W3 (Or.inr sz_b1)
  have N3 := Fr.snoc X3 N0 g_b1
  obtain ⟨T4, X4, e4, st4⟩ := getS2 X3 hx hZ hown (host := "") (Or.inl (hw _ (List.mem_of_getElem? (i := 7) rfl))) Via.refl e3 (S_INTENTION_EXCLUSIVE.ext (own_ext K3)) (g := (mkF m 21 #[.val (.int p0_), .val (.int (1 : Int32)), .unset, .unset, .unset] [(.int (1 : Int32)), (.ref b1), (.ref b1)])) rfl (hb hby at_21)
  obtain ⟨c_24, A_24, q_24, S_24, N_24, H_24, G_24⟩ := V_b1_1
  have hin24 : ¬ ((1 : Int32) < 0 ∨ c_24.slots.size ≤ ((1 : Int32)).toNatClampNeg) := inb_of S_24 ⟨by decide, by decide⟩
  have Sto24 : Sto Z h3 b1 (.ref w_INTENTION_EXCLUSIVE) := Sto.of A_24 (by rw [q_24]; exact O1) (Ins.self (E_w_INTENTION_EXCLUSIVE.ext (own_ext K3)))
  obtain ⟨T5, h5, X5, e5, W5, st5⟩ := stR X4 hx hZ e4 A_24 (j := (1 : Int32)) hin24 rfl Sto24 (g := (mkF m 24 #[.val (.int p0_), .val (.int (1 : Int32)), .unset, .unset, .unset] [(.ref w_INTENTION_EXCLUSIVE), (.int (1 : Int32)), (.ref b1), (.ref b1)])) rfl rfl (hb hby at_24)
  have V_b1_2 : Arv Z h5 b1 k1 (.object "com/example/palimpsest/palimpsest/tx/LockMode") (6 : Int32) [(.ref w_INTENTION_SHARED), (.ref w_INTENTION_EXCLUSIVE), .null, .null, .null, .null] .null := Arv.set A_24 q_24 S_24 N_24 H_24 G_24 rfl W5 1 rfl (Nat.le_of_ble_eq_true rfl)
  have K5 : Keep h0 h5 [] := K3.wr W5 (Or.inr sz_b1)
  have N5 := Fr.snoc X5 N3 g_b1
  obtain ⟨T6, X6, e6, st6⟩ := getS2 X5 hx hZ hown (host := "") (Or.inl (hw _ (List.mem_of_getElem? (i := 9) rfl))) Via.refl e5 (S_SHARED.ext (own_ext K5)) (g := (mkF m 27 #[.val (.int p0_), .val (.int (1 : Int32)), .unset, .unset, .unset] [(.int (2 : Int32)), (.ref b1), (.ref b1)])) rfl (hb hby at_27)
  obtain ⟨c_30, A_30, q_30, S_30, N_30, H_30, G_30⟩ := V_b1_2
  have hin30 : ¬ ((2 : Int32) < 0 ∨ c_30.slots.size ≤ ((2 : Int32)).toNatClampNeg) := inb_of S_30 ⟨by decide, by decide⟩
  have Sto30 : Sto Z h5 b1 (.ref w_SHARED) := Sto.of A_30 (by rw [q_30]; exact O1) (Ins.self (E_w_SHARED.ext (own_ext K5)))
  obtain ⟨T7, h7, X7, e7, W7, st7⟩ := stR X6 hx hZ e6 A_30 (j := (2 : Int32)) hin30 rfl Sto30 (g := (mkF m 30 #[.val (.int p0_), .val (.int (1 : Int32)), .unset, .unset, .unset] [(.ref w_SHARED), (.int (2 : Int32)), (.ref b1), (.ref b1)])) rfl rfl (hb hby at_30)
  have V_b1_3 : Arv Z h7 b1 k1 (.object "com/example/palimpsest/palimpsest/tx/LockMode") (6 : Int32) [(.ref w_INTENTION_SHARED), (.ref w_INTENTION_EXCLUSIVE), (.ref w_SHARED), .null, .null, .null] .null := Arv.set A_30 q_30 S_30 N_30 H_30 G_30 rfl W7 2 rfl (Nat.le_of_ble_eq_true rfl)
  have K7 : Keep h0 h7 [] := K5.wr W7 (Or.inr sz_b1)
  have N7 := Fr.snoc X7 N5 g_b1
  obtain ⟨T8, X8, e8, st8⟩ := getS2 X7 hx hZ hown (host := "") (Or.inl (hw _ (List.mem_of_getElem? (i := 11) rfl))) Via.refl e7 (S_SHARED_INTENTION_EXCLUSIVE.ext (own_ext K7)) (g := (mkF m 33 #[.val (.int p0_), .val (.int (1 : Int32)), .unset, .unset, .unset] [(.int (3 : Int32)), (.ref b1), (.ref b1)])) rfl (hb hby at_33)
  obtain ⟨c_36, A_36, q_36, S_36, N_36, H_36, G_36⟩ := V_b1_3
  have hin36 : ¬ ((3 : Int32) < 0 ∨ c_36.slots.size ≤ ((3 : Int32)).toNatClampNeg) := inb_of S_36 ⟨by decide, by decide⟩
  have Sto36 : Sto Z h7 b1 (.ref w_SHARED_INTENTION_EXCLUSIVE) := Sto.of A_36 (by rw [q_36]; exact O1) (Ins.self (E_w_SHARED_INTENTION_EXCLUSIVE.ext (own_ext K7)))
  obtain ⟨T9, h9, X9, e9, W9, st9⟩ := stR X8 hx hZ e8 A_36 (j := (3 : Int32)) hin36 rfl Sto36 (g := (mkF m 36 #[.val (.int p0_), .val (.int (1 : Int32)), .unset, .unset, .unset] [(.ref w_SHARED_INTENTION_EXCLUSIVE), (.int (3 : Int32)), (.ref b1), (.ref b1)])) rfl rfl (hb hby at_36)
  have V_b1_4 : Arv Z h9 b1 k1 (.object "com/example/palimpsest/palimpsest/tx/LockMode") (6 : Int32) [(.ref w_INTENTION_SHARED), (.ref w_INTENTION_EXCLUSIVE), (.ref w_SHARED), (.ref w_SHARED_INTENTION_EXCLUSIVE), .null, .null] .null := Arv.set A_36 q_36 S_36 N_36 H_36 G_36 rfl W9 3 rfl (Nat.le_of_ble_eq_true rfl)
  have K9 : Keep h0 h9 [] := K7.wr W9 (Or.inr sz_b1)
  have N9 := Fr.snoc X9 N7 g_b1
  obtain ⟨T10, X10, e10, st10⟩ := getS2 X9 hx hZ hown (host := "") (Or.inl (hw _ (List.mem_of_getElem? (i := 13) rfl))) Via.refl e9 (S_WRITE.ext (own_ext K9)) (g := (mkF m 39 #[.val (.int p0_), .val (.int (1 : Int32)), .unset, .unset, .unset] [(.int (4 : Int32)), (.ref b1), (.ref b1)])) rfl (hb hby at_39)
  obtain ⟨c_42, A_42, q_42, S_42, N_42, H_42, G_42⟩ := V_b1_4
  have hin42 : ¬ ((4 : Int32) < 0 ∨ c_42.slots.size ≤ ((4 : Int32)).toNatClampNeg) := inb_of S_42 ⟨by decide, by decide⟩
  have Sto42 : Sto Z h9 b1 (.ref w_WRITE) := Sto.of A_42 (by rw [q_42]; exact O1) (Ins.self (E_w_WRITE.ext (own_ext K9)))
  obtain ⟨T11, h11, X11, e11, W11, st11⟩ := stR X10 hx hZ e10 A_42 (j := (4 : Int32)) hin42 rfl Sto42 (g := (mkF m 42 #[.val (.int p0_), .val (.int (1 : Int32)), .unset, .unset, .unset] [(.ref w_WRITE), (.int (4 : Int32)), (.ref b1), (.ref b1)])) rfl rfl (hb hby at_42)
  have V_b1_5 : Arv Z h11 b1 k1 (.object "com/example/palimpsest/palimpsest/tx/LockMode") (6 : Int32) [(.ref w_INTENTION_SHARED), (.ref w_INTENTION_EXCLUSIVE), (.ref w_SHARED), (.ref w_SHARED_INTENTION_EXCLUSIVE), (.ref w_WRITE), .null] .null := Arv.set A_42 q_42 S_42 N_42 H_42 G_42 rfl W11 4 rfl (Nat.le_of_ble_eq_true rfl)
  have K11 : Keep h0 h11 [] := K9.wr W11 (Or.inr sz_b1)
  have N11 := Fr.snoc X11 N9 g_b1
  obtain ⟨T12, X12, e12, st12⟩ := getS2 X11 hx hZ hown (host := "") (Or.inl (hw _ (List.mem_of_getElem? (i := 15) rfl))) Via.refl e11 (S_EXCLUSIVE.ext (own_ext K11)) (g := (mkF m 45 #[.val (.int p0_), .val (.int (1 : Int32)), .unset, .unset, .unset] [(.int (5 : Int32)), (.ref b1), (.ref b1)])) rfl (hb hby at_45)
  obtain ⟨c_48, A_48, q_48, S_48, N_48, H_48, G_48⟩ := V_b1_5
  have hin48 : ¬ ((5 : Int32) < 0 ∨ c_48.slots.size ≤ ((5 : Int32)).toNatClampNeg) := inb_of S_48 ⟨by decide, by decide⟩
  have Sto48 : Sto Z h11 b1 (.ref w_EXCLUSIVE) := Sto.of A_48 (by rw [q_48]; exact O1) (Ins.self (E_w_EXCLUSIVE.ext (own_ext K11)))
  obtain ⟨T13, h13, X13, e13, W13, st13⟩ := stR X12 hx hZ e12 A_48 (j := (5 : Int32)) hin48 rfl Sto48 (g := (mkF m 48 #[.val (.int p0_), .val (.int (1 : Int32)), .unset, .unset, .unset] [(.ref w_EXCLUSIVE), (.int (5 : Int32)), (.ref b1), (.ref b1)])) rfl rfl (hb hby at_48)
  have V_b1_6 : Arv Z h13 b1 k1 (.object "com/example/palimpsest/palimpsest/tx/LockMode") (6 : Int32) [(.ref w_INTENTION_SHARED), (.ref w_INTENTION_EXCLUSIVE), (.ref w_SHARED), (.ref w_SHARED_INTENTION_EXCLUSIVE), (.ref w_WRITE), (.ref w_EXCLUSIVE)] .null := Arv.set A_48 q_48 S_48 N_48 H_48 G_48 rfl W13 5 rfl (Nat.le_of_ble_eq_true rfl)
  have K13 : Keep h0 h13 [] := K11.wr W13 (Or.inr sz_b1)
  have N13 := Fr.snoc X13 N11 g_b1
  obtain ⟨T14, h14, k14, X14, e14, E14, A14, O14, st14⟩ := newR X13 hx hZ hown (hw _ (List.mem_of_getElem? (i := 1) rfl)) (hw _ (List.mem_of_getElem? (i := 2) rfl)) e13 (g := (mkF m 52 #[.val (.int p0_), .val (.int (1 : Int32)), .val (.ref b1), .unset, .unset] [(.int (6 : Int32))])) rfl (hb hby at_52) rfl (by decide) (cap := 6) (by decide) (by decide) (by decide) (by decide)
  obtain ⟨b14, g14⟩ : ∃ z, z = h13.size := ⟨_, rfl⟩
  rw [← g14] at A14 st14
  have V_b14_0 : Arv Z h14 b14 k14 (.object "com/example/palimpsest/palimpsest/tx/LockMode") (6 : Int32) [.null, .null, .null, .null, .null, .null] .null := (Arv.new A14 (by decide)).pad (pad_rep [] .null 6)
  have sz_b14 : h0.size ≤ b14 := Nat.le_trans K13.1 (Nat.le_of_eq g14.symm)
  have g_b14 : n0 ≤ b14 := Nat.le_trans Z0 sz_b14
  have K14 : Keep h0 h14 [] := K13.ext E14
  have ne_b1_b14 : b1 ≠ b14 := Nat.ne_of_lt (Nat.lt_of_lt_of_le V_b1_6.lt (Nat.le_of_eq g14.symm))
  have V_b1_7 := V_b1_6.ext E14
  obtain ⟨T15, X15, e15, st15⟩ := getS2 X14 hx hZ hown (host := "") (Or.inl (hw _ (List.mem_of_getElem? (i := 3) rfl))) Via.refl e14 (S_INTENTION_SHARED.ext (own_ext K14)) (g := (mkF m 57 #[.val (.int p0_), .val (.int (1 : Int32)), .val (.ref b1), .unset, .unset] [(.int (0 : Int32)), (.ref b14), (.ref b14)])) rfl (hb hby at_57)
  obtain ⟨c_60, A_60, q_60, S_60, N_60, H_60, G_60⟩ := V_b14_0
  have hin60 : ¬ ((0 : Int32) < 0 ∨ c_60.slots.size ≤ ((0 : Int32)).toNatClampNeg) := inb_of S_60 ⟨by decide, by decide⟩
  have Sto60 : Sto Z h14 b14 (.ref w_INTENTION_SHARED) := Sto.of A_60 (by rw [q_60]; exact O14) (Ins.self (E_w_INTENTION_SHARED.ext (own_ext K14)))
  obtain ⟨T16, h16, X16, e16, W16, st16⟩ := stR X15 hx hZ e15 A_60 (j := (0 : Int32)) hin60 rfl Sto60 (g := (mkF m 60 #[.val (.int p0_), .val (.int (1 : Int32)), .val (.ref b1), .unset, .unset] [(.ref w_INTENTION_SHARED), (.int (0 : Int32)), (.ref b14), (.ref b14)])) rfl rfl (hb hby at_60)
  have V_b14_1 : Arv Z h16 b14 k14 (.object "com/example/palimpsest/palimpsest/tx/LockMode") (6 : Int32) [(.ref w_INTENTION_SHARED), .null, .null, .null, .null, .null] .null := Arv.set A_60 q_60 S_60 N_60 H_60 G_60 rfl W16 0 rfl (Nat.le_of_ble_eq_true rfl)
  have V_b1_8 := V_b1_7.other W16 ne_b1_b14
  have K16 : Keep h0 h16 [] := K14.wr W16 (Or.inr sz_b14)
  have N16 := Fr.snoc X16 N13 g_b14
  obtain ⟨T17, X17, e17, st17⟩ := getS2 X16 hx hZ hown (host := "") (Or.inl (hw _ (List.mem_of_getElem? (i := 7) rfl))) Via.refl e16 (S_INTENTION_EXCLUSIVE.ext (own_ext K16)) (g := (mkF m 63 #[.val (.int p0_), .val (.int (1 : Int32)), .val (.ref b1), .unset, .unset] [(.int (1 : Int32)), (.ref b14), (.ref b14)])) rfl (hb hby at_63)
  obtain ⟨c_66, A_66, q_66, S_66, N_66, H_66, G_66⟩ := V_b14_1
  have hin66 : ¬ ((1 : Int32) < 0 ∨ c_66.slots.size ≤ ((1 : Int32)).toNatClampNeg) := inb_of S_66 ⟨by decide, by decide⟩
  have Sto66 : Sto Z h16 b14 (.ref w_INTENTION_EXCLUSIVE) := Sto.of A_66 (by rw [q_66]; exact O14) (Ins.self (E_w_INTENTION_EXCLUSIVE.ext (own_ext K16)))
  obtain ⟨T18, h18, X18, e18, W18, st18⟩ := stR X17 hx hZ e17 A_66 (j := (1 : Int32)) hin66 rfl Sto66 (g := (mkF m 66 #[.val (.int p0_), .val (.int (1 : Int32)), .val (.ref b1), .unset, .unset] [(.ref w_INTENTION_EXCLUSIVE), (.int (1 : Int32)), (.ref b14), (.ref b14)])) rfl rfl (hb hby at_66)
  have V_b14_2 : Arv Z h18 b14 k14 (.object "com/example/palimpsest/palimpsest/tx/LockMode") (6 : Int32) [(.ref w_INTENTION_SHARED), (.ref w_INTENTION_EXCLUSIVE), .null, .null, .null, .null] .null := Arv.set A_66 q_66 S_66 N_66 H_66 G_66 rfl W18 1 rfl (Nat.le_of_ble_eq_true rfl)
  have V_b1_9 := V_b1_8.other W18 ne_b1_b14
  have K18 : Keep h0 h18 [] := K16.wr W18 (Or.inr sz_b14)
  have N18 := Fr.snoc X18 N16 g_b14
  obtain ⟨T19, X19, e19, st19⟩ := getS2 X18 hx hZ hown (host := "") (Or.inl (hw _ (List.mem_of_getElem? (i := 3) rfl))) Via.refl e18 (S_INTENTION_SHARED.ext (own_ext K18)) (g := (mkF m 69 #[.val (.int p0_), .val (.int (1 : Int32)), .val (.ref b1), .unset, .unset] [(.int (2 : Int32)), (.ref b14), (.ref b14)])) rfl (hb hby at_69)
  obtain ⟨c_72, A_72, q_72, S_72, N_72, H_72, G_72⟩ := V_b14_2
  have hin72 : ¬ ((2 : Int32) < 0 ∨ c_72.slots.size ≤ ((2 : Int32)).toNatClampNeg) := inb_of S_72 ⟨by decide, by decide⟩
  have Sto72 : Sto Z h18 b14 (.ref w_INTENTION_SHARED) := Sto.of A_72 (by rw [q_72]; exact O14) (Ins.self (E_w_INTENTION_SHARED.ext (own_ext K18)))
  obtain ⟨T20, h20, X20, e20, W20, st20⟩ := stR X19 hx hZ e19 A_72 (j := (2 : Int32)) hin72 rfl Sto72 (g := (mkF m 72 #[.val (.int p0_), .val (.int (1 : Int32)), .val (.ref b1), .unset, .unset] [(.ref w_INTENTION_SHARED), (.int (2 : Int32)), (.ref b14), (.ref b14)])) rfl rfl (hb hby at_72)
  have V_b14_3 : Arv Z h20 b14 k14 (.object "com/example/palimpsest/palimpsest/tx/LockMode") (6 : Int32) [(.ref w_INTENTION_SHARED), (.ref w_INTENTION_EXCLUSIVE), (.ref w_INTENTION_SHARED), .null, .null, .null] .null := Arv.set A_72 q_72 S_72 N_72 H_72 G_72 rfl W20 2 rfl (Nat.le_of_ble_eq_true rfl)
  have V_b1_10 := V_b1_9.other W20 ne_b1_b14
  have K20 : Keep h0 h20 [] := K18.wr W20 (Or.inr sz_b14)
  have N20 := Fr.snoc X20 N18 g_b14
  obtain ⟨T21, X21, e21, st21⟩ := getS2 X20 hx hZ hown (host := "") (Or.inl (hw _ (List.mem_of_getElem? (i := 7) rfl))) Via.refl e20 (S_INTENTION_EXCLUSIVE.ext (own_ext K20)) (g := (mkF m 75 #[.val (.int p0_), .val (.int (1 : Int32)), .val (.ref b1), .unset, .unset] [(.int (3 : Int32)), (.ref b14), (.ref b14)])) rfl (hb hby at_75)
  obtain ⟨c_78, A_78, q_78, S_78, N_78, H_78, G_78⟩ := V_b14_3
  have hin78 : ¬ ((3 : Int32) < 0 ∨ c_78.slots.size ≤ ((3 : Int32)).toNatClampNeg) := inb_of S_78 ⟨by decide, by decide⟩
  have Sto78 : Sto Z h20 b14 (.ref w_INTENTION_EXCLUSIVE) := Sto.of A_78 (by rw [q_78]; exact O14) (Ins.self (E_w_INTENTION_EXCLUSIVE.ext (own_ext K20)))
  obtain ⟨T22, h22, X22, e22, W22, st22⟩ := stR X21 hx hZ e21 A_78 (j := (3 : Int32)) hin78 rfl Sto78 (g := (mkF m 78 #[.val (.int p0_), .val (.int (1 : Int32)), .val (.ref b1), .unset, .unset] [(.ref w_INTENTION_EXCLUSIVE), (.int (3 : Int32)), (.ref b14), (.ref b14)])) rfl rfl (hb hby at_78)
  have V_b14_4 : Arv Z h22 b14 k14 (.object "com/example/palimpsest/palimpsest/tx/LockMode") (6 : Int32) [(.ref w_INTENTION_SHARED), (.ref w_INTENTION_EXCLUSIVE), (.ref w_INTENTION_SHARED), (.ref w_INTENTION_EXCLUSIVE), .null, .null] .null := Arv.set A_78 q_78 S_78 N_78 H_78 G_78 rfl W22 3 rfl (Nat.le_of_ble_eq_true rfl)
  have V_b1_11 := V_b1_10.other W22 ne_b1_b14
  have K22 : Keep h0 h22 [] := K20.wr W22 (Or.inr sz_b14)
  have N22 := Fr.snoc X22 N20 g_b14
  obtain ⟨T23, X23, e23, st23⟩ := getS2 X22 hx hZ hown (host := "") (Or.inl (hw _ (List.mem_of_getElem? (i := 7) rfl))) Via.refl e22 (S_INTENTION_EXCLUSIVE.ext (own_ext K22)) (g := (mkF m 81 #[.val (.int p0_), .val (.int (1 : Int32)), .val (.ref b1), .unset, .unset] [(.int (4 : Int32)), (.ref b14), (.ref b14)])) rfl (hb hby at_81)
  obtain ⟨c_84, A_84, q_84, S_84, N_84, H_84, G_84⟩ := V_b14_4
  have hin84 : ¬ ((4 : Int32) < 0 ∨ c_84.slots.size ≤ ((4 : Int32)).toNatClampNeg) := inb_of S_84 ⟨by decide, by decide⟩
  have Sto84 : Sto Z h22 b14 (.ref w_INTENTION_EXCLUSIVE) := Sto.of A_84 (by rw [q_84]; exact O14) (Ins.self (E_w_INTENTION_EXCLUSIVE.ext (own_ext K22)))
  obtain ⟨T24, h24, X24, e24, W24, st24⟩ := stR X23 hx hZ e23 A_84 (j := (4 : Int32)) hin84 rfl Sto84 (g := (mkF m 84 #[.val (.int p0_), .val (.int (1 : Int32)), .val (.ref b1), .unset, .unset] [(.ref w_INTENTION_EXCLUSIVE), (.int (4 : Int32)), (.ref b14), (.ref b14)])) rfl rfl (hb hby at_84)
  have V_b14_5 : Arv Z h24 b14 k14 (.object "com/example/palimpsest/palimpsest/tx/LockMode") (6 : Int32) [(.ref w_INTENTION_SHARED), (.ref w_INTENTION_EXCLUSIVE), (.ref w_INTENTION_SHARED), (.ref w_INTENTION_EXCLUSIVE), (.ref w_INTENTION_EXCLUSIVE), .null] .null := Arv.set A_84 q_84 S_84 N_84 H_84 G_84 rfl W24 4 rfl (Nat.le_of_ble_eq_true rfl)
  have V_b1_12 := V_b1_11.other W24 ne_b1_b14
  have K24 : Keep h0 h24 [] := K22.wr W24 (Or.inr sz_b14)
  have N24 := Fr.snoc X24 N22 g_b14
  obtain ⟨T25, X25, e25, st25⟩ := getS2 X24 hx hZ hown (host := "") (Or.inl (hw _ (List.mem_of_getElem? (i := 7) rfl))) Via.refl e24 (S_INTENTION_EXCLUSIVE.ext (own_ext K24)) (g := (mkF m 87 #[.val (.int p0_), .val (.int (1 : Int32)), .val (.ref b1), .unset, .unset] [(.int (5 : Int32)), (.ref b14), (.ref b14)])) rfl (hb hby at_87)
  obtain ⟨c_90, A_90, q_90, S_90, N_90, H_90, G_90⟩ := V_b14_5
  have hin90 : ¬ ((5 : Int32) < 0 ∨ c_90.slots.size ≤ ((5 : Int32)).toNatClampNeg) := inb_of S_90 ⟨by decide, by decide⟩
  have Sto90 : Sto Z h24 b14 (.ref w_INTENTION_EXCLUSIVE) := Sto.of A_90 (by rw [q_90]; exact O14) (Ins.self (E_w_INTENTION_EXCLUSIVE.ext (own_ext K24)))
  obtain ⟨T26, h26, X26, e26, W26, st26⟩ := stR X25 hx hZ e25 A_90 (j := (5 : Int32)) hin90 rfl Sto90 (g := (mkF m 90 #[.val (.int p0_), .val (.int (1 : Int32)), .val (.ref b1), .unset, .unset] [(.ref w_INTENTION_EXCLUSIVE), (.int (5 : Int32)), (.ref b14), (.ref b14)])) rfl rfl (hb hby at_90)
  have V_b14_6 : Arv Z h26 b14 k14 (.object "com/example/palimpsest/palimpsest/tx/LockMode") (6 : Int32) [(.ref w_INTENTION_SHARED), (.ref w_INTENTION_EXCLUSIVE), (.ref w_INTENTION_SHARED), (.ref w_INTENTION_EXCLUSIVE), (.ref w_INTENTION_EXCLUSIVE), (.ref w_INTENTION_EXCLUSIVE)] .null := Arv.set A_90 q_90 S_90 N_90 H_90 G_90 rfl W26 5 rfl (Nat.le_of_ble_eq_true rfl)
  have V_b1_13 := V_b1_12.other W26 ne_b1_b14
  have K26 : Keep h0 h26 [] := K24.wr W26 (Or.inr sz_b14)
  have N26 := Fr.snoc X26 N24 g_b14
  obtain ⟨c_94, A_94, q_94, S_94, N_94, H_94, G_94⟩ := V_b1_13
  have hin94 : ¬ ((1 : Int32) < 0 ∨ c_94.slots.size ≤ ((1 : Int32)).toNatClampNeg) := inb_of S_94 ⟨by decide, by decide⟩
  have hat94 : c_94.slots[((1 : Int32)).toNatClampNeg]? = some (.ref w_INTENTION_EXCLUSIVE) := H_94 _ (Nat.lt_of_not_le fun q => hin94 (Or.inr q))
  obtain ⟨cq27, kq27, q27a, q27b, q27c⟩ := isOf hZ e26 (E_w_INTENTION_EXCLUSIVE.ext (own_ext K26))
  obtain ⟨_, _, ⟨T27, L27, k27, n27⟩, -, X27, ⟨Lc27, hQ27, l27, y27, z27⟩, st27⟩ := X26.virtualBack hx (y := (⟨"com/example/palimpsest/palimpsest/tx/LockMode", "intention", "()Lcom/example/palimpsest/palimpsest/tx/LockMode;"⟩ : MethodName)) (z := (⟨"com/example/palimpsest/palimpsest/tx/LockMode", "intention", "()Lcom/example/palimpsest/palimpsest/tx/LockMode;"⟩ : MethodName)) hown (mvT hZ (hw _ (List.mem_of_getElem? (i := 17) rfl))) (mvT hZ (hw _ (List.mem_of_getElem? (i := 18) rfl))) (notFace_of_selects (args := #[]) (mvT hZ (hw _ (List.mem_of_getElem? (i := 20) rfl)))) (mvT hZ (hw _ (List.mem_of_getElem? (i := 20) rfl))) (mvT hZ (hw _ (List.mem_of_getElem? (i := 19) rfl))) (by decide) (backOf (W := 0) (own_b1_ft l Z a0 hw [] w_INTENTION_EXCLUSIVE w_SHARED w_INTENTION_SHARED w_INTENTION_EXCLUSIVE h26 n0 (Nat.le_trans Z0 (own_ext K26).1) (S_SHARED.ext (own_ext K26)) (S_INTENTION_SHARED.ext (own_ext K26)) (S_INTENTION_EXCLUSIVE.ext (own_ext K26)) hf1 hf2) hZ (hw _ (List.mem_of_getElem? (i := 21) rfl)) (hw _ (List.mem_of_getElem? (i := 4) rfl)) (by decide) (by decide)) q27a q27c (g := (mkF m 95 #[.val (.int p0_), .val (.int (1 : Int32)), .val (.ref b1), .val (.ref b14), .unset] [(.ref w_INTENTION_EXCLUSIVE)])) rfl (by rw [hml]; rfl) (Steps.refl _) (argsL := []) (rest := []) (lenOf own_pd0 rfl) rfl (by show 2 * 0 + _ ≤ _; exact Nat.le_of_eq rfl) (hb hby at_95) (fun _ _ => ⟨rfl, e26, (by decide : 2 + 0 ≤ _), (by decide : 12 + 0 ≤ _)⟩)
  dsimp only [Pt.U, Pt.locs, Pt.cells, Pt.slots] at X27 l27 y27 z27 st27 hQ27
  subst l27 y27 z27
  obtain ⟨rfl, N27q, e27⟩ := hQ27
  have N27 := Fr.app N26 N27q
  obtain ⟨c_104, A_104, q_104, S_104, N_104, H_104, G_104⟩ := V_b14_6
  have hin104 : ¬ ((1 : Int32) < 0 ∨ c_104.slots.size ≤ ((1 : Int32)).toNatClampNeg) := inb_of S_104 ⟨by decide, by decide⟩
  have hat104 : c_104.slots[((1 : Int32)).toNatClampNeg]? = some (.ref w_INTENTION_EXCLUSIVE) := H_104 _ (Nat.lt_of_not_le fun q => hin104 (Or.inr q))
  obtain ⟨fs, hr, hrun, hended, hW, hsame⟩ := X27.leave (v := some (.int (1 : Int32))) (fun h => by rw [Bd.returns] at h; cases h)
  refine ⟨_, _, pre0 _ ?_, hrun, hended, _, _, rfl, ?_, ⟨_, rfl⟩, hW, hsame.mono (by decide) (by decide)⟩
  · show Steps p.tables e below (s₁.setTop (mkF m 0 #[.val (.int p0_), .unset, .unset, .unset, .unset] [])) _
    refine XS.iloadN X0.here hx rfl (hb hby at_0) rfl ?_
    show Steps p.tables e below (s₁.setTop (mkF m 1 #[.val (.int p0_), .unset, .unset, .unset, .unset] [(.int p0_)])) _
    refine X0.ldcInt hx hown (mvT hZ (hw _ (List.mem_of_getElem? (i := 0) rfl))) (g := (mkF m 1 #[.val (.int p0_), .unset, .unset, .unset, .unset] [(.int p0_)])) rfl (hb hby at_1) _ ?_
    show Steps p.tables e below (s₁.setTop (mkF m 3 #[.val (.int p0_), .unset, .unset, .unset, .unset] [(.int (2147483647 : Int32)), (.int p0_)])) _
    refine XS.iand X0.here hx rfl (hb hby at_3) rfl ?_
    show Steps p.tables e below (s₁.setTop (mkF m 4 #[.val (.int p0_), .unset, .unset, .unset, .unset] [(.int (p0_ &&& (2147483647 : Int32)))])) _
    refine XS.bipush X0.here hx rfl (hb hby at_4) ?_
    show Steps p.tables e below (s₁.setTop (mkF m 6 #[.val (.int p0_), .unset, .unset, .unset, .unset] [(.int (6 : Int32)), (.int (p0_ &&& (2147483647 : Int32)))])) _
    refine iremM X0 hx rfl (hb hby at_6) rfl (by decide) ?_
    show Steps p.tables e below (s₁.setTop (mkF m 7 #[.val (.int p0_), .unset, .unset, .unset, .unset] [(.int ((p0_ &&& (2147483647 : Int32)) % (6 : Int32)))])) _
    rw [hf0]
    show Steps p.tables e below (s₁.setTop (mkF m 7 #[.val (.int p0_), .unset, .unset, .unset, .unset] [(.int (1 : Int32))])) _
    refine XS.istoreN X0.here hx rfl (hb hby at_7) rfl (l' := #[.val (.int p0_), .val (.int (1 : Int32)), .unset, .unset, .unset]) rfl ?_
    show Steps p.tables e below (s₁.setTop (mkF m 8 #[.val (.int p0_), .val (.int (1 : Int32)), .unset, .unset, .unset] [])) _
    refine XS.bipush X0.here hx rfl (hb hby at_8) ?_
    show Steps p.tables e below (s₁.setTop (mkF m 10 #[.val (.int p0_), .val (.int (1 : Int32)), .unset, .unset, .unset] [(.int (6 : Int32))])) _
    refine st1 _ ?_
    show Steps p.tables e below (T1.setTop (mkF m 13 #[.val (.int p0_), .val (.int (1 : Int32)), .unset, .unset, .unset] [(.ref b1)])) _
    refine XS.dup X1.here hx rfl (hb hby at_13) rfl rfl ?_
    show Steps p.tables e below (T1.setTop (mkF m 14 #[.val (.int p0_), .val (.int (1 : Int32)), .unset, .unset, .unset] [(.ref b1), (.ref b1)])) _
    refine XS.iconst X1.here hx rfl (hb hby at_14) ?_
    show Steps p.tables e below (T1.setTop (mkF m 15 #[.val (.int p0_), .val (.int (1 : Int32)), .unset, .unset, .unset] [(.int (0 : Int32)), (.ref b1), (.ref b1)])) _
    refine st2 _ ?_
    show Steps p.tables e below (T2.setTop (mkF m 18 #[.val (.int p0_), .val (.int (1 : Int32)), .unset, .unset, .unset] [(.ref w_INTENTION_SHARED), (.int (0 : Int32)), (.ref b1), (.ref b1)])) _
    refine st3 _ ?_
    show Steps p.tables e below (T3.setTop (mkF m 19 #[.val (.int p0_), .val (.int (1 : Int32)), .unset, .unset, .unset] [(.ref b1)])) _
    refine XS.dup X3.here hx rfl (hb hby at_19) rfl rfl ?_
    show Steps p.tables e below (T3.setTop (mkF m 20 #[.val (.int p0_), .val (.int (1 : Int32)), .unset, .unset, .unset] [(.ref b1), (.ref b1)])) _
    refine XS.iconst X3.here hx rfl (hb hby at_20) ?_
    show Steps p.tables e below (T3.setTop (mkF m 21 #[.val (.int p0_), .val (.int (1 : Int32)), .unset, .unset, .unset] [(.int (1 : Int32)), (.ref b1), (.ref b1)])) _
    refine st4 _ ?_
    show Steps p.tables e below (T4.setTop (mkF m 24 #[.val (.int p0_), .val (.int (1 : Int32)), .unset, .unset, .unset] [(.ref w_INTENTION_EXCLUSIVE), (.int (1 : Int32)), (.ref b1), (.ref b1)])) _
    refine st5 _ ?_
    show Steps p.tables e below (T5.setTop (mkF m 25 #[.val (.int p0_), .val (.int (1 : Int32)), .unset, .unset, .unset] [(.ref b1)])) _
    refine XS.dup X5.here hx rfl (hb hby at_25) rfl rfl ?_
    show Steps p.tables e below (T5.setTop (mkF m 26 #[.val (.int p0_), .val (.int (1 : Int32)), .unset, .unset, .unset] [(.ref b1), (.ref b1)])) _
    refine XS.iconst X5.here hx rfl (hb hby at_26) ?_
    show Steps p.tables e below (T5.setTop (mkF m 27 #[.val (.int p0_), .val (.int (1 : Int32)), .unset, .unset, .unset] [(.int (2 : Int32)), (.ref b1), (.ref b1)])) _
    refine st6 _ ?_
    show Steps p.tables e below (T6.setTop (mkF m 30 #[.val (.int p0_), .val (.int (1 : Int32)), .unset, .unset, .unset] [(.ref w_SHARED), (.int (2 : Int32)), (.ref b1), (.ref b1)])) _
    refine st7 _ ?_
    show Steps p.tables e below (T7.setTop (mkF m 31 #[.val (.int p0_), .val (.int (1 : Int32)), .unset, .unset, .unset] [(.ref b1)])) _
    refine XS.dup X7.here hx rfl (hb hby at_31) rfl rfl ?_
    show Steps p.tables e below (T7.setTop (mkF m 32 #[.val (.int p0_), .val (.int (1 : Int32)), .unset, .unset, .unset] [(.ref b1), (.ref b1)])) _
    refine XS.iconst X7.here hx rfl (hb hby at_32) ?_
    show Steps p.tables e below (T7.setTop (mkF m 33 #[.val (.int p0_), .val (.int (1 : Int32)), .unset, .unset, .unset] [(.int (3 : Int32)), (.ref b1), (.ref b1)])) _
    refine st8 _ ?_
    show Steps p.tables e below (T8.setTop (mkF m 36 #[.val (.int p0_), .val (.int (1 : Int32)), .unset, .unset, .unset] [(.ref w_SHARED_INTENTION_EXCLUSIVE), (.int (3 : Int32)), (.ref b1), (.ref b1)])) _
    refine st9 _ ?_
    show Steps p.tables e below (T9.setTop (mkF m 37 #[.val (.int p0_), .val (.int (1 : Int32)), .unset, .unset, .unset] [(.ref b1)])) _
    refine XS.dup X9.here hx rfl (hb hby at_37) rfl rfl ?_
    show Steps p.tables e below (T9.setTop (mkF m 38 #[.val (.int p0_), .val (.int (1 : Int32)), .unset, .unset, .unset] [(.ref b1), (.ref b1)])) _
    refine XS.iconst X9.here hx rfl (hb hby at_38) ?_
    show Steps p.tables e below (T9.setTop (mkF m 39 #[.val (.int p0_), .val (.int (1 : Int32)), .unset, .unset, .unset] [(.int (4 : Int32)), (.ref b1), (.ref b1)])) _
    refine st10 _ ?_
    show Steps p.tables e below (T10.setTop (mkF m 42 #[.val (.int p0_), .val (.int (1 : Int32)), .unset, .unset, .unset] [(.ref w_WRITE), (.int (4 : Int32)), (.ref b1), (.ref b1)])) _
    refine st11 _ ?_
    show Steps p.tables e below (T11.setTop (mkF m 43 #[.val (.int p0_), .val (.int (1 : Int32)), .unset, .unset, .unset] [(.ref b1)])) _
    refine XS.dup X11.here hx rfl (hb hby at_43) rfl rfl ?_
    show Steps p.tables e below (T11.setTop (mkF m 44 #[.val (.int p0_), .val (.int (1 : Int32)), .unset, .unset, .unset] [(.ref b1), (.ref b1)])) _
    refine XS.iconst X11.here hx rfl (hb hby at_44) ?_
    show Steps p.tables e below (T11.setTop (mkF m 45 #[.val (.int p0_), .val (.int (1 : Int32)), .unset, .unset, .unset] [(.int (5 : Int32)), (.ref b1), (.ref b1)])) _
    refine st12 _ ?_
    show Steps p.tables e below (T12.setTop (mkF m 48 #[.val (.int p0_), .val (.int (1 : Int32)), .unset, .unset, .unset] [(.ref w_EXCLUSIVE), (.int (5 : Int32)), (.ref b1), (.ref b1)])) _
    refine st13 _ ?_
    show Steps p.tables e below (T13.setTop (mkF m 49 #[.val (.int p0_), .val (.int (1 : Int32)), .unset, .unset, .unset] [(.ref b1)])) _
    refine XS.astoreN X13.here hx rfl (hb hby at_49) rfl rfl (l' := #[.val (.int p0_), .val (.int (1 : Int32)), .val (.ref b1), .unset, .unset]) rfl ?_
    show Steps p.tables e below (T13.setTop (mkF m 50 #[.val (.int p0_), .val (.int (1 : Int32)), .val (.ref b1), .unset, .unset] [])) _
    refine XS.bipush X13.here hx rfl (hb hby at_50) ?_
    show Steps p.tables e below (T13.setTop (mkF m 52 #[.val (.int p0_), .val (.int (1 : Int32)), .val (.ref b1), .unset, .unset] [(.int (6 : Int32))])) _
    refine st14 _ ?_
    show Steps p.tables e below (T14.setTop (mkF m 55 #[.val (.int p0_), .val (.int (1 : Int32)), .val (.ref b1), .unset, .unset] [(.ref b14)])) _
    refine XS.dup X14.here hx rfl (hb hby at_55) rfl rfl ?_
    show Steps p.tables e below (T14.setTop (mkF m 56 #[.val (.int p0_), .val (.int (1 : Int32)), .val (.ref b1), .unset, .unset] [(.ref b14), (.ref b14)])) _
    refine XS.iconst X14.here hx rfl (hb hby at_56) ?_
    show Steps p.tables e below (T14.setTop (mkF m 57 #[.val (.int p0_), .val (.int (1 : Int32)), .val (.ref b1), .unset, .unset] [(.int (0 : Int32)), (.ref b14), (.ref b14)])) _
    refine st15 _ ?_
    show Steps p.tables e below (T15.setTop (mkF m 60 #[.val (.int p0_), .val (.int (1 : Int32)), .val (.ref b1), .unset, .unset] [(.ref w_INTENTION_SHARED), (.int (0 : Int32)), (.ref b14), (.ref b14)])) _
    refine st16 _ ?_
    show Steps p.tables e below (T16.setTop (mkF m 61 #[.val (.int p0_), .val (.int (1 : Int32)), .val (.ref b1), .unset, .unset] [(.ref b14)])) _
    refine XS.dup X16.here hx rfl (hb hby at_61) rfl rfl ?_
    show Steps p.tables e below (T16.setTop (mkF m 62 #[.val (.int p0_), .val (.int (1 : Int32)), .val (.ref b1), .unset, .unset] [(.ref b14), (.ref b14)])) _
    refine XS.iconst X16.here hx rfl (hb hby at_62) ?_
    show Steps p.tables e below (T16.setTop (mkF m 63 #[.val (.int p0_), .val (.int (1 : Int32)), .val (.ref b1), .unset, .unset] [(.int (1 : Int32)), (.ref b14), (.ref b14)])) _
    refine st17 _ ?_
    show Steps p.tables e below (T17.setTop (mkF m 66 #[.val (.int p0_), .val (.int (1 : Int32)), .val (.ref b1), .unset, .unset] [(.ref w_INTENTION_EXCLUSIVE), (.int (1 : Int32)), (.ref b14), (.ref b14)])) _
    refine st18 _ ?_
    show Steps p.tables e below (T18.setTop (mkF m 67 #[.val (.int p0_), .val (.int (1 : Int32)), .val (.ref b1), .unset, .unset] [(.ref b14)])) _
    refine XS.dup X18.here hx rfl (hb hby at_67) rfl rfl ?_
    show Steps p.tables e below (T18.setTop (mkF m 68 #[.val (.int p0_), .val (.int (1 : Int32)), .val (.ref b1), .unset, .unset] [(.ref b14), (.ref b14)])) _
    refine XS.iconst X18.here hx rfl (hb hby at_68) ?_
    show Steps p.tables e below (T18.setTop (mkF m 69 #[.val (.int p0_), .val (.int (1 : Int32)), .val (.ref b1), .unset, .unset] [(.int (2 : Int32)), (.ref b14), (.ref b14)])) _
    refine st19 _ ?_
    show Steps p.tables e below (T19.setTop (mkF m 72 #[.val (.int p0_), .val (.int (1 : Int32)), .val (.ref b1), .unset, .unset] [(.ref w_INTENTION_SHARED), (.int (2 : Int32)), (.ref b14), (.ref b14)])) _
    refine st20 _ ?_
    show Steps p.tables e below (T20.setTop (mkF m 73 #[.val (.int p0_), .val (.int (1 : Int32)), .val (.ref b1), .unset, .unset] [(.ref b14)])) _
    refine XS.dup X20.here hx rfl (hb hby at_73) rfl rfl ?_
    show Steps p.tables e below (T20.setTop (mkF m 74 #[.val (.int p0_), .val (.int (1 : Int32)), .val (.ref b1), .unset, .unset] [(.ref b14), (.ref b14)])) _
    refine XS.iconst X20.here hx rfl (hb hby at_74) ?_
    show Steps p.tables e below (T20.setTop (mkF m 75 #[.val (.int p0_), .val (.int (1 : Int32)), .val (.ref b1), .unset, .unset] [(.int (3 : Int32)), (.ref b14), (.ref b14)])) _
    refine st21 _ ?_
    show Steps p.tables e below (T21.setTop (mkF m 78 #[.val (.int p0_), .val (.int (1 : Int32)), .val (.ref b1), .unset, .unset] [(.ref w_INTENTION_EXCLUSIVE), (.int (3 : Int32)), (.ref b14), (.ref b14)])) _
    refine st22 _ ?_
    show Steps p.tables e below (T22.setTop (mkF m 79 #[.val (.int p0_), .val (.int (1 : Int32)), .val (.ref b1), .unset, .unset] [(.ref b14)])) _
    refine XS.dup X22.here hx rfl (hb hby at_79) rfl rfl ?_
    show Steps p.tables e below (T22.setTop (mkF m 80 #[.val (.int p0_), .val (.int (1 : Int32)), .val (.ref b1), .unset, .unset] [(.ref b14), (.ref b14)])) _
    refine XS.iconst X22.here hx rfl (hb hby at_80) ?_
    show Steps p.tables e below (T22.setTop (mkF m 81 #[.val (.int p0_), .val (.int (1 : Int32)), .val (.ref b1), .unset, .unset] [(.int (4 : Int32)), (.ref b14), (.ref b14)])) _
    refine st23 _ ?_
    show Steps p.tables e below (T23.setTop (mkF m 84 #[.val (.int p0_), .val (.int (1 : Int32)), .val (.ref b1), .unset, .unset] [(.ref w_INTENTION_EXCLUSIVE), (.int (4 : Int32)), (.ref b14), (.ref b14)])) _
    refine st24 _ ?_
    show Steps p.tables e below (T24.setTop (mkF m 85 #[.val (.int p0_), .val (.int (1 : Int32)), .val (.ref b1), .unset, .unset] [(.ref b14)])) _
    refine XS.dup X24.here hx rfl (hb hby at_85) rfl rfl ?_
    show Steps p.tables e below (T24.setTop (mkF m 86 #[.val (.int p0_), .val (.int (1 : Int32)), .val (.ref b1), .unset, .unset] [(.ref b14), (.ref b14)])) _
    refine XS.iconst X24.here hx rfl (hb hby at_86) ?_
    show Steps p.tables e below (T24.setTop (mkF m 87 #[.val (.int p0_), .val (.int (1 : Int32)), .val (.ref b1), .unset, .unset] [(.int (5 : Int32)), (.ref b14), (.ref b14)])) _
    refine st25 _ ?_
    show Steps p.tables e below (T25.setTop (mkF m 90 #[.val (.int p0_), .val (.int (1 : Int32)), .val (.ref b1), .unset, .unset] [(.ref w_INTENTION_EXCLUSIVE), (.int (5 : Int32)), (.ref b14), (.ref b14)])) _
    refine st26 _ ?_
    show Steps p.tables e below (T26.setTop (mkF m 91 #[.val (.int p0_), .val (.int (1 : Int32)), .val (.ref b1), .unset, .unset] [(.ref b14)])) _
    refine XS.astoreN X26.here hx rfl (hb hby at_91) rfl rfl (l' := #[.val (.int p0_), .val (.int (1 : Int32)), .val (.ref b1), .val (.ref b14), .unset]) rfl ?_
    show Steps p.tables e below (T26.setTop (mkF m 92 #[.val (.int p0_), .val (.int (1 : Int32)), .val (.ref b1), .val (.ref b14), .unset] [])) _
    refine XS.aloadN X26.here hx rfl (hb hby at_92) rfl rfl ?_
    show Steps p.tables e below (T26.setTop (mkF m 93 #[.val (.int p0_), .val (.int (1 : Int32)), .val (.ref b1), .val (.ref b14), .unset] [(.ref b1)])) _
    refine XS.iloadN X26.here hx rfl (hb hby at_93) rfl ?_
    show Steps p.tables e below (T26.setTop (mkF m 94 #[.val (.int p0_), .val (.int (1 : Int32)), .val (.ref b1), .val (.ref b14), .unset] [(.int (1 : Int32)), (.ref b1)])) _
    refine X26.aaload hx (j := (1 : Int32)) (v := (.ref w_INTENTION_EXCLUSIVE)) (by rw [e26]; exact A_94.1) (State.isArrayOf_alike hZ.alike A_94.2.1) rfl A_94.2.2 hin94 hat94 (g := (mkF m 94 #[.val (.int p0_), .val (.int (1 : Int32)), .val (.ref b1), .val (.ref b14), .unset] [(.int (1 : Int32)), (.ref b1)])) rfl rfl (hb hby at_94) _ ?_
    show Steps p.tables e below (T26.setTop (mkF m 95 #[.val (.int p0_), .val (.int (1 : Int32)), .val (.ref b1), .val (.ref b14), .unset] [(.ref w_INTENTION_EXCLUSIVE)])) _
    refine st27.trans ?_
    show Steps p.tables e below (T27.setTop (mkF m 98 #[.val (.int p0_), .val (.int (1 : Int32)), .val (.ref b1), .val (.ref b14), .unset] [(.ref w_INTENTION_EXCLUSIVE)])) _
    refine XS.astore X27.here hx rfl (hb hby at_98) rfl rfl (l' := #[.val (.int p0_), .val (.int (1 : Int32)), .val (.ref b1), .val (.ref b14), .val (.ref w_INTENTION_EXCLUSIVE)]) rfl ?_
    show Steps p.tables e below (T27.setTop (mkF m 100 #[.val (.int p0_), .val (.int (1 : Int32)), .val (.ref b1), .val (.ref b14), .val (.ref w_INTENTION_EXCLUSIVE)] [])) _
    refine XS.aload X27.here hx rfl (hb hby at_100) rfl rfl ?_
    show Steps p.tables e below (T27.setTop (mkF m 102 #[.val (.int p0_), .val (.int (1 : Int32)), .val (.ref b1), .val (.ref b14), .val (.ref w_INTENTION_EXCLUSIVE)] [(.ref w_INTENTION_EXCLUSIVE)])) _
    refine XS.aloadN X27.here hx rfl (hb hby at_102) rfl rfl ?_
    show Steps p.tables e below (T27.setTop (mkF m 103 #[.val (.int p0_), .val (.int (1 : Int32)), .val (.ref b1), .val (.ref b14), .val (.ref w_INTENTION_EXCLUSIVE)] [(.ref b14), (.ref w_INTENTION_EXCLUSIVE)])) _
    refine XS.iloadN X27.here hx rfl (hb hby at_103) rfl ?_
    show Steps p.tables e below (T27.setTop (mkF m 104 #[.val (.int p0_), .val (.int (1 : Int32)), .val (.ref b1), .val (.ref b14), .val (.ref w_INTENTION_EXCLUSIVE)] [(.int (1 : Int32)), (.ref b14), (.ref w_INTENTION_EXCLUSIVE)])) _
    refine X27.aaload hx (j := (1 : Int32)) (v := (.ref w_INTENTION_EXCLUSIVE)) (by rw [e27]; exact A_104.1) (State.isArrayOf_alike hZ.alike A_104.2.1) rfl A_104.2.2 hin104 hat104 (g := (mkF m 104 #[.val (.int p0_), .val (.int (1 : Int32)), .val (.ref b1), .val (.ref b14), .val (.ref w_INTENTION_EXCLUSIVE)] [(.int (1 : Int32)), (.ref b14), (.ref w_INTENTION_EXCLUSIVE)])) rfl rfl (hb hby at_104) _ ?_
    show Steps p.tables e below (T27.setTop (mkF m 105 #[.val (.int p0_), .val (.int (1 : Int32)), .val (.ref b1), .val (.ref b14), .val (.ref w_INTENTION_EXCLUSIVE)] [(.ref w_INTENTION_EXCLUSIVE), (.ref w_INTENTION_EXCLUSIVE)])) _
    refine Jvm.RoadKit.acmp (g := (mkF m 105 #[.val (.int p0_), .val (.int (1 : Int32)), .val (.ref b1), .val (.ref b14), .val (.ref w_INTENTION_EXCLUSIVE)] [(.ref w_INTENTION_EXCLUSIVE), (.ref w_INTENTION_EXCLUSIVE)])) X27 hx rfl rfl rfl (pc0 := 105) (pc' := 108) (same := true) rfl (hb hby at_105) rfl (decide_eq_true rfl) (by decide) (by decide) ?_
    show Steps p.tables e below (T27.setTop (mkF m 108 #[.val (.int p0_), .val (.int (1 : Int32)), .val (.ref b1), .val (.ref b14), .val (.ref w_INTENTION_EXCLUSIVE)] [])) _
    refine XS.iconst X27.here hx rfl (hb hby at_108) ?_
    show Steps p.tables e below (T27.setTop (mkF m 109 #[.val (.int p0_), .val (.int (1 : Int32)), .val (.ref b1), .val (.ref b14), .val (.ref w_INTENTION_EXCLUSIVE)] [(.int (1 : Int32))])) _
    refine XS.goto X27.here hx rfl (pc0 := 109) (pc' := 113) rfl (hb hby at_109) (by decide) (by decide) ?_
    show Steps p.tables e below (T27.setTop (mkF m 113 #[.val (.int p0_), .val (.int (1 : Int32)), .val (.ref b1), .val (.ref b14), .val (.ref w_INTENTION_EXCLUSIVE)] [(.int (1 : Int32))])) _
    exact retN X27 hx (t := .boolean) Bd.returns (by simp) (hb hby at_113) hr
  · show own_QL n0 _ T27.heap _
    exact ⟨rfl, N27⟩
set_option maxRecDepth 65536 in
set_option maxHeartbeats 40000000 in
theorem own_law2 (l : Launch) (Z : State) (a0 : Array Value) (hw : ∀ d ∈ tables_1, d.before a0 Z = true) (ws : List Jvm.Cond) (p0_ : Int32) (w_INTENTION_SHARED : Addr) (w_INTENTION_EXCLUSIVE : Addr) (w_SHARED : Addr) (w_SHARED_INTENTION_EXCLUSIVE : Addr) (w_WRITE : Addr) (w_EXCLUSIVE : Addr) (h0 : Heap) (n0 : Nat) (Z0 : n0 ≤ h0.size) (S_INTENTION_SHARED : Sta Z h0 "com/example/palimpsest/palimpsest/tx/LockMode" "INTENTION_SHARED" "Lcom/example/palimpsest/palimpsest/tx/LockMode;" (.ref w_INTENTION_SHARED)) (E_w_INTENTION_SHARED : Exa Z h0 w_INTENTION_SHARED "com/example/palimpsest/palimpsest/tx/LockMode") (S_INTENTION_EXCLUSIVE : Sta Z h0 "com/example/palimpsest/palimpsest/tx/LockMode" "INTENTION_EXCLUSIVE" "Lcom/example/palimpsest/palimpsest/tx/LockMode;" (.ref w_INTENTION_EXCLUSIVE)) (E_w_INTENTION_EXCLUSIVE : Exa Z h0 w_INTENTION_EXCLUSIVE "com/example/palimpsest/palimpsest/tx/LockMode") (S_SHARED : Sta Z h0 "com/example/palimpsest/palimpsest/tx/LockMode" "SHARED" "Lcom/example/palimpsest/palimpsest/tx/LockMode;" (.ref w_SHARED)) (E_w_SHARED : Exa Z h0 w_SHARED "com/example/palimpsest/palimpsest/tx/LockMode") (S_SHARED_INTENTION_EXCLUSIVE : Sta Z h0 "com/example/palimpsest/palimpsest/tx/LockMode" "SHARED_INTENTION_EXCLUSIVE" "Lcom/example/palimpsest/palimpsest/tx/LockMode;" (.ref w_SHARED_INTENTION_EXCLUSIVE)) (E_w_SHARED_INTENTION_EXCLUSIVE : Exa Z h0 w_SHARED_INTENTION_EXCLUSIVE "com/example/palimpsest/palimpsest/tx/LockMode") (S_WRITE : Sta Z h0 "com/example/palimpsest/palimpsest/tx/LockMode" "WRITE" "Lcom/example/palimpsest/palimpsest/tx/LockMode;" (.ref w_WRITE)) (E_w_WRITE : Exa Z h0 w_WRITE "com/example/palimpsest/palimpsest/tx/LockMode") (S_EXCLUSIVE : Sta Z h0 "com/example/palimpsest/palimpsest/tx/LockMode" "EXCLUSIVE" "Lcom/example/palimpsest/palimpsest/tx/LockMode;" (.ref w_EXCLUSIVE)) (E_w_EXCLUSIVE : Exa Z h0 w_EXCLUSIVE "com/example/palimpsest/palimpsest/tx/LockMode") (hf0 : ((p0_ &&& (2147483647 : Int32)) % (6 : Int32)) = (2 : Int32)) :
    MetFree l x (head1 (Jvm.Cond.code x code maxLocals ret :: ws) room_1) (fun a U => a = #[(.int p0_)] ∧ Z.Warmed39 U.vm ∧ U.heap = h0) (fun _ _ _ _ _ => True) (fun _ U o U' => ∃ v L, o = .returned v ∧ own_QL n0 v U'.heap L ∧ FrameEnd U o U' L room_1.cells room_1.slots) := by
  refine MetFree.of_bodySF (plainFor_of_name own_pn1) hisR ?_
  intro p e s m args below meth c s₁ Bd hml0 hP hK
  obtain ⟨rfl, hZ, hh⟩ := hP
  have hx := Bd.exec
  have hby := Bd.bytes
  have hml : c.maxLocals = 5 := hml0
  have hown : s.vm.findClass "com/example/palimpsest/palimpsest/tx/LockModeIntentionPinLaw" = some m.cls := findClass_of_methodNamed Bd.named
  have hnm := (name_of_methodNamed Bd.named Bd.method).1
  have X0 : Stand p l e room_1 s m #[(.int p0_)] below meth c s₁ [] 0 0 := Stand.of_body Bd
  have e0 : s₁.heap = h0 := by rw [← hh, Bd.state]; rfl
  have N0 := Fr.nil n0
  have pre0 : ∀ t, Steps p.tables e below (s₁.setTop (mkF m 0 #[.val (.int p0_), .unset, .unset, .unset, .unset] [])) t → Steps p.tables e below (s₁.setTop (entryFrame m #[(.int p0_)] maxLocals)) t := fun t k => castTop (own_ef1 m p0_) k
  obtain ⟨T1, h1, k1, X1, e1, E1, A1, O1, st1⟩ := newR X0 hx hZ hown (hw _ (List.mem_of_getElem? (i := 1) rfl)) (hw _ (List.mem_of_getElem? (i := 2) rfl)) e0 (g := (mkF m 10 #[.val (.int p0_), .val (.int (2 : Int32)), .unset, .unset, .unset] [(.int (6 : Int32))])) rfl (hb hby at_10) rfl (by decide) (cap := 6) (by decide) (by decide) (by decide) (by decide)
  obtain ⟨b1, g1⟩ : ∃ z, z = h0.size := ⟨_, rfl⟩
  rw [← g1] at A1 st1
  have V_b1_0 : Arv Z h1 b1 k1 (.object "com/example/palimpsest/palimpsest/tx/LockMode") (6 : Int32) [.null, .null, .null, .null, .null, .null] .null := (Arv.new A1 (by decide)).pad (pad_rep [] .null 6)
  have sz_b1 : h0.size ≤ b1 := Nat.le_trans (Keep.refl h0 []).1 (Nat.le_of_eq g1.symm)
  have g_b1 : n0 ≤ b1 := Nat.le_trans Z0 sz_b1
  have K1 : Keep h0 h1 [] := (Keep.refl h0 []).ext E1
  obtain ⟨T2, X2, e2, st2⟩ := getS2 X1 hx hZ hown (host := "") (Or.inl (hw _ (List.mem_of_getElem? (i := 3) rfl))) Via.refl e1 (S_INTENTION_SHARED.ext (own_ext K1)) (g := (mkF m 15 #[.val (.int p0_), .val (.int (2 : Int32)), .unset, .unset, .unset] [(.int (0 : Int32)), (.ref b1), (.ref b1)])) rfl (hb hby at_15)
  obtain ⟨c_18, A_18, q_18, S_18, N_18, H_18, G_18⟩ := V_b1_0
  have hin18 : ¬ ((0 : Int32) < 0 ∨ c_18.slots.size ≤ ((0 : Int32)).toNatClampNeg) := inb_of S_18 ⟨by decide, by decide⟩
  have Sto18 : Sto Z h1 b1 (.ref w_INTENTION_SHARED) := Sto.of A_18 (by rw [q_18]; exact O1) (Ins.self (E_w_INTENTION_SHARED.ext (own_ext K1)))
  obtain ⟨T3, h3, X3, e3, W3, st3⟩ := stR X2 hx hZ e2 A_18 (j := (0 : Int32)) hin18 rfl Sto18 (g := (mkF m 18 #[.val (.int p0_), .val (.int (2 : Int32)), .unset, .unset, .unset] [(.ref w_INTENTION_SHARED), (.int (0 : Int32)), (.ref b1), (.ref b1)])) rfl rfl (hb hby at_18)
  have V_b1_1 : Arv Z h3 b1 k1 (.object "com/example/palimpsest/palimpsest/tx/LockMode") (6 : Int32) [(.ref w_INTENTION_SHARED), .null, .null, .null, .null, .null] .null := Arv.set A_18 q_18 S_18 N_18 H_18 G_18 rfl W3 0 rfl (Nat.le_of_ble_eq_true rfl)
  have K3 : Keep h0 h3 [] := K1.wr W3 (Or.inr sz_b1)
  have N3 := Fr.snoc X3 N0 g_b1
  obtain ⟨T4, X4, e4, st4⟩ := getS2 X3 hx hZ hown (host := "") (Or.inl (hw _ (List.mem_of_getElem? (i := 7) rfl))) Via.refl e3 (S_INTENTION_EXCLUSIVE.ext (own_ext K3)) (g := (mkF m 21 #[.val (.int p0_), .val (.int (2 : Int32)), .unset, .unset, .unset] [(.int (1 : Int32)), (.ref b1), (.ref b1)])) rfl (hb hby at_21)
  obtain ⟨c_24, A_24, q_24, S_24, N_24, H_24, G_24⟩ := V_b1_1
  have hin24 : ¬ ((1 : Int32) < 0 ∨ c_24.slots.size ≤ ((1 : Int32)).toNatClampNeg) := inb_of S_24 ⟨by decide, by decide⟩
  have Sto24 : Sto Z h3 b1 (.ref w_INTENTION_EXCLUSIVE) := Sto.of A_24 (by rw [q_24]; exact O1) (Ins.self (E_w_INTENTION_EXCLUSIVE.ext (own_ext K3)))
  obtain ⟨T5, h5, X5, e5, W5, st5⟩ := stR X4 hx hZ e4 A_24 (j := (1 : Int32)) hin24 rfl Sto24 (g := (mkF m 24 #[.val (.int p0_), .val (.int (2 : Int32)), .unset, .unset, .unset] [(.ref w_INTENTION_EXCLUSIVE), (.int (1 : Int32)), (.ref b1), (.ref b1)])) rfl rfl (hb hby at_24)
  have V_b1_2 : Arv Z h5 b1 k1 (.object "com/example/palimpsest/palimpsest/tx/LockMode") (6 : Int32) [(.ref w_INTENTION_SHARED), (.ref w_INTENTION_EXCLUSIVE), .null, .null, .null, .null] .null := Arv.set A_24 q_24 S_24 N_24 H_24 G_24 rfl W5 1 rfl (Nat.le_of_ble_eq_true rfl)
  have K5 : Keep h0 h5 [] := K3.wr W5 (Or.inr sz_b1)
  have N5 := Fr.snoc X5 N3 g_b1
  obtain ⟨T6, X6, e6, st6⟩ := getS2 X5 hx hZ hown (host := "") (Or.inl (hw _ (List.mem_of_getElem? (i := 9) rfl))) Via.refl e5 (S_SHARED.ext (own_ext K5)) (g := (mkF m 27 #[.val (.int p0_), .val (.int (2 : Int32)), .unset, .unset, .unset] [(.int (2 : Int32)), (.ref b1), (.ref b1)])) rfl (hb hby at_27)
  obtain ⟨c_30, A_30, q_30, S_30, N_30, H_30, G_30⟩ := V_b1_2
  have hin30 : ¬ ((2 : Int32) < 0 ∨ c_30.slots.size ≤ ((2 : Int32)).toNatClampNeg) := inb_of S_30 ⟨by decide, by decide⟩
  have Sto30 : Sto Z h5 b1 (.ref w_SHARED) := Sto.of A_30 (by rw [q_30]; exact O1) (Ins.self (E_w_SHARED.ext (own_ext K5)))
  obtain ⟨T7, h7, X7, e7, W7, st7⟩ := stR X6 hx hZ e6 A_30 (j := (2 : Int32)) hin30 rfl Sto30 (g := (mkF m 30 #[.val (.int p0_), .val (.int (2 : Int32)), .unset, .unset, .unset] [(.ref w_SHARED), (.int (2 : Int32)), (.ref b1), (.ref b1)])) rfl rfl (hb hby at_30)
  have V_b1_3 : Arv Z h7 b1 k1 (.object "com/example/palimpsest/palimpsest/tx/LockMode") (6 : Int32) [(.ref w_INTENTION_SHARED), (.ref w_INTENTION_EXCLUSIVE), (.ref w_SHARED), .null, .null, .null] .null := Arv.set A_30 q_30 S_30 N_30 H_30 G_30 rfl W7 2 rfl (Nat.le_of_ble_eq_true rfl)
  have K7 : Keep h0 h7 [] := K5.wr W7 (Or.inr sz_b1)
  have N7 := Fr.snoc X7 N5 g_b1
  obtain ⟨T8, X8, e8, st8⟩ := getS2 X7 hx hZ hown (host := "") (Or.inl (hw _ (List.mem_of_getElem? (i := 11) rfl))) Via.refl e7 (S_SHARED_INTENTION_EXCLUSIVE.ext (own_ext K7)) (g := (mkF m 33 #[.val (.int p0_), .val (.int (2 : Int32)), .unset, .unset, .unset] [(.int (3 : Int32)), (.ref b1), (.ref b1)])) rfl (hb hby at_33)
  obtain ⟨c_36, A_36, q_36, S_36, N_36, H_36, G_36⟩ := V_b1_3
  have hin36 : ¬ ((3 : Int32) < 0 ∨ c_36.slots.size ≤ ((3 : Int32)).toNatClampNeg) := inb_of S_36 ⟨by decide, by decide⟩
  have Sto36 : Sto Z h7 b1 (.ref w_SHARED_INTENTION_EXCLUSIVE) := Sto.of A_36 (by rw [q_36]; exact O1) (Ins.self (E_w_SHARED_INTENTION_EXCLUSIVE.ext (own_ext K7)))
  obtain ⟨T9, h9, X9, e9, W9, st9⟩ := stR X8 hx hZ e8 A_36 (j := (3 : Int32)) hin36 rfl Sto36 (g := (mkF m 36 #[.val (.int p0_), .val (.int (2 : Int32)), .unset, .unset, .unset] [(.ref w_SHARED_INTENTION_EXCLUSIVE), (.int (3 : Int32)), (.ref b1), (.ref b1)])) rfl rfl (hb hby at_36)
  have V_b1_4 : Arv Z h9 b1 k1 (.object "com/example/palimpsest/palimpsest/tx/LockMode") (6 : Int32) [(.ref w_INTENTION_SHARED), (.ref w_INTENTION_EXCLUSIVE), (.ref w_SHARED), (.ref w_SHARED_INTENTION_EXCLUSIVE), .null, .null] .null := Arv.set A_36 q_36 S_36 N_36 H_36 G_36 rfl W9 3 rfl (Nat.le_of_ble_eq_true rfl)
  have K9 : Keep h0 h9 [] := K7.wr W9 (Or.inr sz_b1)
  have N9 := Fr.snoc X9 N7 g_b1
  obtain ⟨T10, X10, e10, st10⟩ := getS2 X9 hx hZ hown (host := "") (Or.inl (hw _ (List.mem_of_getElem? (i := 13) rfl))) Via.refl e9 (S_WRITE.ext (own_ext K9)) (g := (mkF m 39 #[.val (.int p0_), .val (.int (2 : Int32)), .unset, .unset, .unset] [(.int (4 : Int32)), (.ref b1), (.ref b1)])) rfl (hb hby at_39)
  obtain ⟨c_42, A_42, q_42, S_42, N_42, H_42, G_42⟩ := V_b1_4
  have hin42 : ¬ ((4 : Int32) < 0 ∨ c_42.slots.size ≤ ((4 : Int32)).toNatClampNeg) := inb_of S_42 ⟨by decide, by decide⟩
  have Sto42 : Sto Z h9 b1 (.ref w_WRITE) := Sto.of A_42 (by rw [q_42]; exact O1) (Ins.self (E_w_WRITE.ext (own_ext K9)))
  obtain ⟨T11, h11, X11, e11, W11, st11⟩ := stR X10 hx hZ e10 A_42 (j := (4 : Int32)) hin42 rfl Sto42 (g := (mkF m 42 #[.val (.int p0_), .val (.int (2 : Int32)), .unset, .unset, .unset] [(.ref w_WRITE), (.int (4 : Int32)), (.ref b1), (.ref b1)])) rfl rfl (hb hby at_42)
  have V_b1_5 : Arv Z h11 b1 k1 (.object "com/example/palimpsest/palimpsest/tx/LockMode") (6 : Int32) [(.ref w_INTENTION_SHARED), (.ref w_INTENTION_EXCLUSIVE), (.ref w_SHARED), (.ref w_SHARED_INTENTION_EXCLUSIVE), (.ref w_WRITE), .null] .null := Arv.set A_42 q_42 S_42 N_42 H_42 G_42 rfl W11 4 rfl (Nat.le_of_ble_eq_true rfl)
  have K11 : Keep h0 h11 [] := K9.wr W11 (Or.inr sz_b1)
  have N11 := Fr.snoc X11 N9 g_b1
  obtain ⟨T12, X12, e12, st12⟩ := getS2 X11 hx hZ hown (host := "") (Or.inl (hw _ (List.mem_of_getElem? (i := 15) rfl))) Via.refl e11 (S_EXCLUSIVE.ext (own_ext K11)) (g := (mkF m 45 #[.val (.int p0_), .val (.int (2 : Int32)), .unset, .unset, .unset] [(.int (5 : Int32)), (.ref b1), (.ref b1)])) rfl (hb hby at_45)
  obtain ⟨c_48, A_48, q_48, S_48, N_48, H_48, G_48⟩ := V_b1_5
  have hin48 : ¬ ((5 : Int32) < 0 ∨ c_48.slots.size ≤ ((5 : Int32)).toNatClampNeg) := inb_of S_48 ⟨by decide, by decide⟩
  have Sto48 : Sto Z h11 b1 (.ref w_EXCLUSIVE) := Sto.of A_48 (by rw [q_48]; exact O1) (Ins.self (E_w_EXCLUSIVE.ext (own_ext K11)))
  obtain ⟨T13, h13, X13, e13, W13, st13⟩ := stR X12 hx hZ e12 A_48 (j := (5 : Int32)) hin48 rfl Sto48 (g := (mkF m 48 #[.val (.int p0_), .val (.int (2 : Int32)), .unset, .unset, .unset] [(.ref w_EXCLUSIVE), (.int (5 : Int32)), (.ref b1), (.ref b1)])) rfl rfl (hb hby at_48)
  have V_b1_6 : Arv Z h13 b1 k1 (.object "com/example/palimpsest/palimpsest/tx/LockMode") (6 : Int32) [(.ref w_INTENTION_SHARED), (.ref w_INTENTION_EXCLUSIVE), (.ref w_SHARED), (.ref w_SHARED_INTENTION_EXCLUSIVE), (.ref w_WRITE), (.ref w_EXCLUSIVE)] .null := Arv.set A_48 q_48 S_48 N_48 H_48 G_48 rfl W13 5 rfl (Nat.le_of_ble_eq_true rfl)
  have K13 : Keep h0 h13 [] := K11.wr W13 (Or.inr sz_b1)
  have N13 := Fr.snoc X13 N11 g_b1
  obtain ⟨T14, h14, k14, X14, e14, E14, A14, O14, st14⟩ := newR X13 hx hZ hown (hw _ (List.mem_of_getElem? (i := 1) rfl)) (hw _ (List.mem_of_getElem? (i := 2) rfl)) e13 (g := (mkF m 52 #[.val (.int p0_), .val (.int (2 : Int32)), .val (.ref b1), .unset, .unset] [(.int (6 : Int32))])) rfl (hb hby at_52) rfl (by decide) (cap := 6) (by decide) (by decide) (by decide) (by decide)
  obtain ⟨b14, g14⟩ : ∃ z, z = h13.size := ⟨_, rfl⟩
  rw [← g14] at A14 st14
  have V_b14_0 : Arv Z h14 b14 k14 (.object "com/example/palimpsest/palimpsest/tx/LockMode") (6 : Int32) [.null, .null, .null, .null, .null, .null] .null := (Arv.new A14 (by decide)).pad (pad_rep [] .null 6)
  have sz_b14 : h0.size ≤ b14 := Nat.le_trans K13.1 (Nat.le_of_eq g14.symm)
  have g_b14 : n0 ≤ b14 := Nat.le_trans Z0 sz_b14
  have K14 : Keep h0 h14 [] := K13.ext E14
  have ne_b1_b14 : b1 ≠ b14 := Nat.ne_of_lt (Nat.lt_of_lt_of_le V_b1_6.lt (Nat.le_of_eq g14.symm))
  have V_b1_7 := V_b1_6.ext E14
  obtain ⟨T15, X15, e15, st15⟩ := getS2 X14 hx hZ hown (host := "") (Or.inl (hw _ (List.mem_of_getElem? (i := 3) rfl))) Via.refl e14 (S_INTENTION_SHARED.ext (own_ext K14)) (g := (mkF m 57 #[.val (.int p0_), .val (.int (2 : Int32)), .val (.ref b1), .unset, .unset] [(.int (0 : Int32)), (.ref b14), (.ref b14)])) rfl (hb hby at_57)
  obtain ⟨c_60, A_60, q_60, S_60, N_60, H_60, G_60⟩ := V_b14_0
  have hin60 : ¬ ((0 : Int32) < 0 ∨ c_60.slots.size ≤ ((0 : Int32)).toNatClampNeg) := inb_of S_60 ⟨by decide, by decide⟩
  have Sto60 : Sto Z h14 b14 (.ref w_INTENTION_SHARED) := Sto.of A_60 (by rw [q_60]; exact O14) (Ins.self (E_w_INTENTION_SHARED.ext (own_ext K14)))
  obtain ⟨T16, h16, X16, e16, W16, st16⟩ := stR X15 hx hZ e15 A_60 (j := (0 : Int32)) hin60 rfl Sto60 (g := (mkF m 60 #[.val (.int p0_), .val (.int (2 : Int32)), .val (.ref b1), .unset, .unset] [(.ref w_INTENTION_SHARED), (.int (0 : Int32)), (.ref b14), (.ref b14)])) rfl rfl (hb hby at_60)
  have V_b14_1 : Arv Z h16 b14 k14 (.object "com/example/palimpsest/palimpsest/tx/LockMode") (6 : Int32) [(.ref w_INTENTION_SHARED), .null, .null, .null, .null, .null] .null := Arv.set A_60 q_60 S_60 N_60 H_60 G_60 rfl W16 0 rfl (Nat.le_of_ble_eq_true rfl)
  have V_b1_8 := V_b1_7.other W16 ne_b1_b14
  have K16 : Keep h0 h16 [] := K14.wr W16 (Or.inr sz_b14)
  have N16 := Fr.snoc X16 N13 g_b14
  obtain ⟨T17, X17, e17, st17⟩ := getS2 X16 hx hZ hown (host := "") (Or.inl (hw _ (List.mem_of_getElem? (i := 7) rfl))) Via.refl e16 (S_INTENTION_EXCLUSIVE.ext (own_ext K16)) (g := (mkF m 63 #[.val (.int p0_), .val (.int (2 : Int32)), .val (.ref b1), .unset, .unset] [(.int (1 : Int32)), (.ref b14), (.ref b14)])) rfl (hb hby at_63)
  obtain ⟨c_66, A_66, q_66, S_66, N_66, H_66, G_66⟩ := V_b14_1
  have hin66 : ¬ ((1 : Int32) < 0 ∨ c_66.slots.size ≤ ((1 : Int32)).toNatClampNeg) := inb_of S_66 ⟨by decide, by decide⟩
  have Sto66 : Sto Z h16 b14 (.ref w_INTENTION_EXCLUSIVE) := Sto.of A_66 (by rw [q_66]; exact O14) (Ins.self (E_w_INTENTION_EXCLUSIVE.ext (own_ext K16)))
  obtain ⟨T18, h18, X18, e18, W18, st18⟩ := stR X17 hx hZ e17 A_66 (j := (1 : Int32)) hin66 rfl Sto66 (g := (mkF m 66 #[.val (.int p0_), .val (.int (2 : Int32)), .val (.ref b1), .unset, .unset] [(.ref w_INTENTION_EXCLUSIVE), (.int (1 : Int32)), (.ref b14), (.ref b14)])) rfl rfl (hb hby at_66)
  have V_b14_2 : Arv Z h18 b14 k14 (.object "com/example/palimpsest/palimpsest/tx/LockMode") (6 : Int32) [(.ref w_INTENTION_SHARED), (.ref w_INTENTION_EXCLUSIVE), .null, .null, .null, .null] .null := Arv.set A_66 q_66 S_66 N_66 H_66 G_66 rfl W18 1 rfl (Nat.le_of_ble_eq_true rfl)
  have V_b1_9 := V_b1_8.other W18 ne_b1_b14
  have K18 : Keep h0 h18 [] := K16.wr W18 (Or.inr sz_b14)
  have N18 := Fr.snoc X18 N16 g_b14
  obtain ⟨T19, X19, e19, st19⟩ := getS2 X18 hx hZ hown (host := "") (Or.inl (hw _ (List.mem_of_getElem? (i := 3) rfl))) Via.refl e18 (S_INTENTION_SHARED.ext (own_ext K18)) (g := (mkF m 69 #[.val (.int p0_), .val (.int (2 : Int32)), .val (.ref b1), .unset, .unset] [(.int (2 : Int32)), (.ref b14), (.ref b14)])) rfl (hb hby at_69)
  obtain ⟨c_72, A_72, q_72, S_72, N_72, H_72, G_72⟩ := V_b14_2
  have hin72 : ¬ ((2 : Int32) < 0 ∨ c_72.slots.size ≤ ((2 : Int32)).toNatClampNeg) := inb_of S_72 ⟨by decide, by decide⟩
  have Sto72 : Sto Z h18 b14 (.ref w_INTENTION_SHARED) := Sto.of A_72 (by rw [q_72]; exact O14) (Ins.self (E_w_INTENTION_SHARED.ext (own_ext K18)))
  obtain ⟨T20, h20, X20, e20, W20, st20⟩ := stR X19 hx hZ e19 A_72 (j := (2 : Int32)) hin72 rfl Sto72 (g := (mkF m 72 #[.val (.int p0_), .val (.int (2 : Int32)), .val (.ref b1), .unset, .unset] [(.ref w_INTENTION_SHARED), (.int (2 : Int32)), (.ref b14), (.ref b14)])) rfl rfl (hb hby at_72)
  have V_b14_3 : Arv Z h20 b14 k14 (.object "com/example/palimpsest/palimpsest/tx/LockMode") (6 : Int32) [(.ref w_INTENTION_SHARED), (.ref w_INTENTION_EXCLUSIVE), (.ref w_INTENTION_SHARED), .null, .null, .null] .null := Arv.set A_72 q_72 S_72 N_72 H_72 G_72 rfl W20 2 rfl (Nat.le_of_ble_eq_true rfl)
  have V_b1_10 := V_b1_9.other W20 ne_b1_b14
  have K20 : Keep h0 h20 [] := K18.wr W20 (Or.inr sz_b14)
  have N20 := Fr.snoc X20 N18 g_b14
  obtain ⟨T21, X21, e21, st21⟩ := getS2 X20 hx hZ hown (host := "") (Or.inl (hw _ (List.mem_of_getElem? (i := 7) rfl))) Via.refl e20 (S_INTENTION_EXCLUSIVE.ext (own_ext K20)) (g := (mkF m 75 #[.val (.int p0_), .val (.int (2 : Int32)), .val (.ref b1), .unset, .unset] [(.int (3 : Int32)), (.ref b14), (.ref b14)])) rfl (hb hby at_75)
  obtain ⟨c_78, A_78, q_78, S_78, N_78, H_78, G_78⟩ := V_b14_3
  have hin78 : ¬ ((3 : Int32) < 0 ∨ c_78.slots.size ≤ ((3 : Int32)).toNatClampNeg) := inb_of S_78 ⟨by decide, by decide⟩
  have Sto78 : Sto Z h20 b14 (.ref w_INTENTION_EXCLUSIVE) := Sto.of A_78 (by rw [q_78]; exact O14) (Ins.self (E_w_INTENTION_EXCLUSIVE.ext (own_ext K20)))
  obtain ⟨T22, h22, X22, e22, W22, st22⟩ := stR X21 hx hZ e21 A_78 (j := (3 : Int32)) hin78 rfl Sto78 (g := (mkF m 78 #[.val (.int p0_), .val (.int (2 : Int32)), .val (.ref b1), .unset, .unset] [(.ref w_INTENTION_EXCLUSIVE), (.int (3 : Int32)), (.ref b14), (.ref b14)])) rfl rfl (hb hby at_78)
  have V_b14_4 : Arv Z h22 b14 k14 (.object "com/example/palimpsest/palimpsest/tx/LockMode") (6 : Int32) [(.ref w_INTENTION_SHARED), (.ref w_INTENTION_EXCLUSIVE), (.ref w_INTENTION_SHARED), (.ref w_INTENTION_EXCLUSIVE), .null, .null] .null := Arv.set A_78 q_78 S_78 N_78 H_78 G_78 rfl W22 3 rfl (Nat.le_of_ble_eq_true rfl)
  have V_b1_11 := V_b1_10.other W22 ne_b1_b14
  have K22 : Keep h0 h22 [] := K20.wr W22 (Or.inr sz_b14)
  have N22 := Fr.snoc X22 N20 g_b14
  obtain ⟨T23, X23, e23, st23⟩ := getS2 X22 hx hZ hown (host := "") (Or.inl (hw _ (List.mem_of_getElem? (i := 7) rfl))) Via.refl e22 (S_INTENTION_EXCLUSIVE.ext (own_ext K22)) (g := (mkF m 81 #[.val (.int p0_), .val (.int (2 : Int32)), .val (.ref b1), .unset, .unset] [(.int (4 : Int32)), (.ref b14), (.ref b14)])) rfl (hb hby at_81)
  obtain ⟨c_84, A_84, q_84, S_84, N_84, H_84, G_84⟩ := V_b14_4
  have hin84 : ¬ ((4 : Int32) < 0 ∨ c_84.slots.size ≤ ((4 : Int32)).toNatClampNeg) := inb_of S_84 ⟨by decide, by decide⟩
  have Sto84 : Sto Z h22 b14 (.ref w_INTENTION_EXCLUSIVE) := Sto.of A_84 (by rw [q_84]; exact O14) (Ins.self (E_w_INTENTION_EXCLUSIVE.ext (own_ext K22)))
  obtain ⟨T24, h24, X24, e24, W24, st24⟩ := stR X23 hx hZ e23 A_84 (j := (4 : Int32)) hin84 rfl Sto84 (g := (mkF m 84 #[.val (.int p0_), .val (.int (2 : Int32)), .val (.ref b1), .unset, .unset] [(.ref w_INTENTION_EXCLUSIVE), (.int (4 : Int32)), (.ref b14), (.ref b14)])) rfl rfl (hb hby at_84)
  have V_b14_5 : Arv Z h24 b14 k14 (.object "com/example/palimpsest/palimpsest/tx/LockMode") (6 : Int32) [(.ref w_INTENTION_SHARED), (.ref w_INTENTION_EXCLUSIVE), (.ref w_INTENTION_SHARED), (.ref w_INTENTION_EXCLUSIVE), (.ref w_INTENTION_EXCLUSIVE), .null] .null := Arv.set A_84 q_84 S_84 N_84 H_84 G_84 rfl W24 4 rfl (Nat.le_of_ble_eq_true rfl)
  have V_b1_12 := V_b1_11.other W24 ne_b1_b14
  have K24 : Keep h0 h24 [] := K22.wr W24 (Or.inr sz_b14)
  have N24 := Fr.snoc X24 N22 g_b14
  obtain ⟨T25, X25, e25, st25⟩ := getS2 X24 hx hZ hown (host := "") (Or.inl (hw _ (List.mem_of_getElem? (i := 7) rfl))) Via.refl e24 (S_INTENTION_EXCLUSIVE.ext (own_ext K24)) (g := (mkF m 87 #[.val (.int p0_), .val (.int (2 : Int32)), .val (.ref b1), .unset, .unset] [(.int (5 : Int32)), (.ref b14), (.ref b14)])) rfl (hb hby at_87)
  obtain ⟨c_90, A_90, q_90, S_90, N_90, H_90, G_90⟩ := V_b14_5
  have hin90 : ¬ ((5 : Int32) < 0 ∨ c_90.slots.size ≤ ((5 : Int32)).toNatClampNeg) := inb_of S_90 ⟨by decide, by decide⟩
  have Sto90 : Sto Z h24 b14 (.ref w_INTENTION_EXCLUSIVE) := Sto.of A_90 (by rw [q_90]; exact O14) (Ins.self (E_w_INTENTION_EXCLUSIVE.ext (own_ext K24)))
  obtain ⟨T26, h26, X26, e26, W26, st26⟩ := stR X25 hx hZ e25 A_90 (j := (5 : Int32)) hin90 rfl Sto90 (g := (mkF m 90 #[.val (.int p0_), .val (.int (2 : Int32)), .val (.ref b1), .unset, .unset] [(.ref w_INTENTION_EXCLUSIVE), (.int (5 : Int32)), (.ref b14), (.ref b14)])) rfl rfl (hb hby at_90)
  have V_b14_6 : Arv Z h26 b14 k14 (.object "com/example/palimpsest/palimpsest/tx/LockMode") (6 : Int32) [(.ref w_INTENTION_SHARED), (.ref w_INTENTION_EXCLUSIVE), (.ref w_INTENTION_SHARED), (.ref w_INTENTION_EXCLUSIVE), (.ref w_INTENTION_EXCLUSIVE), (.ref w_INTENTION_EXCLUSIVE)] .null := Arv.set A_90 q_90 S_90 N_90 H_90 G_90 rfl W26 5 rfl (Nat.le_of_ble_eq_true rfl)
  have V_b1_13 := V_b1_12.other W26 ne_b1_b14
  have K26 : Keep h0 h26 [] := K24.wr W26 (Or.inr sz_b14)
  have N26 := Fr.snoc X26 N24 g_b14
  obtain ⟨c_94, A_94, q_94, S_94, N_94, H_94, G_94⟩ := V_b1_13
  have hin94 : ¬ ((2 : Int32) < 0 ∨ c_94.slots.size ≤ ((2 : Int32)).toNatClampNeg) := inb_of S_94 ⟨by decide, by decide⟩
  have hat94 : c_94.slots[((2 : Int32)).toNatClampNeg]? = some (.ref w_SHARED) := H_94 _ (Nat.lt_of_not_le fun q => hin94 (Or.inr q))
  obtain ⟨cq27, kq27, q27a, q27b, q27c⟩ := isOf hZ e26 (E_w_SHARED.ext (own_ext K26))
  obtain ⟨_, _, ⟨T27, L27, k27, n27⟩, -, X27, ⟨Lc27, hQ27, l27, y27, z27⟩, st27⟩ := X26.virtualBack hx (y := (⟨"com/example/palimpsest/palimpsest/tx/LockMode", "intention", "()Lcom/example/palimpsest/palimpsest/tx/LockMode;"⟩ : MethodName)) (z := (⟨"com/example/palimpsest/palimpsest/tx/LockMode", "intention", "()Lcom/example/palimpsest/palimpsest/tx/LockMode;"⟩ : MethodName)) hown (mvT hZ (hw _ (List.mem_of_getElem? (i := 17) rfl))) (mvT hZ (hw _ (List.mem_of_getElem? (i := 18) rfl))) (notFace_of_selects (args := #[]) (mvT hZ (hw _ (List.mem_of_getElem? (i := 20) rfl)))) (mvT hZ (hw _ (List.mem_of_getElem? (i := 20) rfl))) (mvT hZ (hw _ (List.mem_of_getElem? (i := 19) rfl))) (by decide) (backOf (W := 0) (own_b1_t l Z a0 hw [] w_SHARED w_SHARED w_INTENTION_SHARED h26 n0 (Nat.le_trans Z0 (own_ext K26).1) (S_SHARED.ext (own_ext K26)) (S_INTENTION_SHARED.ext (own_ext K26)) rfl) hZ (hw _ (List.mem_of_getElem? (i := 21) rfl)) (hw _ (List.mem_of_getElem? (i := 4) rfl)) (by decide) (by decide)) q27a q27c (g := (mkF m 95 #[.val (.int p0_), .val (.int (2 : Int32)), .val (.ref b1), .val (.ref b14), .unset] [(.ref w_SHARED)])) rfl (by rw [hml]; rfl) (Steps.refl _) (argsL := []) (rest := []) (lenOf own_pd0 rfl) rfl (by show 2 * 0 + _ ≤ _; exact Nat.le_of_eq rfl) (hb hby at_95) (fun _ _ => ⟨rfl, e26, (by decide : 2 + 0 ≤ _), (by decide : 12 + 0 ≤ _)⟩)
  dsimp only [Pt.U, Pt.locs, Pt.cells, Pt.slots] at X27 l27 y27 z27 st27 hQ27
  subst l27 y27 z27
  obtain ⟨rfl, N27q, e27⟩ := hQ27
  have N27 := Fr.app N26 N27q
  obtain ⟨c_104, A_104, q_104, S_104, N_104, H_104, G_104⟩ := V_b14_6
  have hin104 : ¬ ((2 : Int32) < 0 ∨ c_104.slots.size ≤ ((2 : Int32)).toNatClampNeg) := inb_of S_104 ⟨by decide, by decide⟩
  have hat104 : c_104.slots[((2 : Int32)).toNatClampNeg]? = some (.ref w_INTENTION_SHARED) := H_104 _ (Nat.lt_of_not_le fun q => hin104 (Or.inr q))
  obtain ⟨fs, hr, hrun, hended, hW, hsame⟩ := X27.leave (v := some (.int (1 : Int32))) (fun h => by rw [Bd.returns] at h; cases h)
  refine ⟨_, _, pre0 _ ?_, hrun, hended, _, _, rfl, ?_, ⟨_, rfl⟩, hW, hsame.mono (by decide) (by decide)⟩
  · show Steps p.tables e below (s₁.setTop (mkF m 0 #[.val (.int p0_), .unset, .unset, .unset, .unset] [])) _
    refine XS.iloadN X0.here hx rfl (hb hby at_0) rfl ?_
    show Steps p.tables e below (s₁.setTop (mkF m 1 #[.val (.int p0_), .unset, .unset, .unset, .unset] [(.int p0_)])) _
    refine X0.ldcInt hx hown (mvT hZ (hw _ (List.mem_of_getElem? (i := 0) rfl))) (g := (mkF m 1 #[.val (.int p0_), .unset, .unset, .unset, .unset] [(.int p0_)])) rfl (hb hby at_1) _ ?_
    show Steps p.tables e below (s₁.setTop (mkF m 3 #[.val (.int p0_), .unset, .unset, .unset, .unset] [(.int (2147483647 : Int32)), (.int p0_)])) _
    refine XS.iand X0.here hx rfl (hb hby at_3) rfl ?_
    show Steps p.tables e below (s₁.setTop (mkF m 4 #[.val (.int p0_), .unset, .unset, .unset, .unset] [(.int (p0_ &&& (2147483647 : Int32)))])) _
    refine XS.bipush X0.here hx rfl (hb hby at_4) ?_
    show Steps p.tables e below (s₁.setTop (mkF m 6 #[.val (.int p0_), .unset, .unset, .unset, .unset] [(.int (6 : Int32)), (.int (p0_ &&& (2147483647 : Int32)))])) _
    refine iremM X0 hx rfl (hb hby at_6) rfl (by decide) ?_
    show Steps p.tables e below (s₁.setTop (mkF m 7 #[.val (.int p0_), .unset, .unset, .unset, .unset] [(.int ((p0_ &&& (2147483647 : Int32)) % (6 : Int32)))])) _
    rw [hf0]
    show Steps p.tables e below (s₁.setTop (mkF m 7 #[.val (.int p0_), .unset, .unset, .unset, .unset] [(.int (2 : Int32))])) _
    refine XS.istoreN X0.here hx rfl (hb hby at_7) rfl (l' := #[.val (.int p0_), .val (.int (2 : Int32)), .unset, .unset, .unset]) rfl ?_
    show Steps p.tables e below (s₁.setTop (mkF m 8 #[.val (.int p0_), .val (.int (2 : Int32)), .unset, .unset, .unset] [])) _
    refine XS.bipush X0.here hx rfl (hb hby at_8) ?_
    show Steps p.tables e below (s₁.setTop (mkF m 10 #[.val (.int p0_), .val (.int (2 : Int32)), .unset, .unset, .unset] [(.int (6 : Int32))])) _
    refine st1 _ ?_
    show Steps p.tables e below (T1.setTop (mkF m 13 #[.val (.int p0_), .val (.int (2 : Int32)), .unset, .unset, .unset] [(.ref b1)])) _
    refine XS.dup X1.here hx rfl (hb hby at_13) rfl rfl ?_
    show Steps p.tables e below (T1.setTop (mkF m 14 #[.val (.int p0_), .val (.int (2 : Int32)), .unset, .unset, .unset] [(.ref b1), (.ref b1)])) _
    refine XS.iconst X1.here hx rfl (hb hby at_14) ?_
    show Steps p.tables e below (T1.setTop (mkF m 15 #[.val (.int p0_), .val (.int (2 : Int32)), .unset, .unset, .unset] [(.int (0 : Int32)), (.ref b1), (.ref b1)])) _
    refine st2 _ ?_
    show Steps p.tables e below (T2.setTop (mkF m 18 #[.val (.int p0_), .val (.int (2 : Int32)), .unset, .unset, .unset] [(.ref w_INTENTION_SHARED), (.int (0 : Int32)), (.ref b1), (.ref b1)])) _
    refine st3 _ ?_
    show Steps p.tables e below (T3.setTop (mkF m 19 #[.val (.int p0_), .val (.int (2 : Int32)), .unset, .unset, .unset] [(.ref b1)])) _
    refine XS.dup X3.here hx rfl (hb hby at_19) rfl rfl ?_
    show Steps p.tables e below (T3.setTop (mkF m 20 #[.val (.int p0_), .val (.int (2 : Int32)), .unset, .unset, .unset] [(.ref b1), (.ref b1)])) _
    refine XS.iconst X3.here hx rfl (hb hby at_20) ?_
    show Steps p.tables e below (T3.setTop (mkF m 21 #[.val (.int p0_), .val (.int (2 : Int32)), .unset, .unset, .unset] [(.int (1 : Int32)), (.ref b1), (.ref b1)])) _
    refine st4 _ ?_
    show Steps p.tables e below (T4.setTop (mkF m 24 #[.val (.int p0_), .val (.int (2 : Int32)), .unset, .unset, .unset] [(.ref w_INTENTION_EXCLUSIVE), (.int (1 : Int32)), (.ref b1), (.ref b1)])) _
    refine st5 _ ?_
    show Steps p.tables e below (T5.setTop (mkF m 25 #[.val (.int p0_), .val (.int (2 : Int32)), .unset, .unset, .unset] [(.ref b1)])) _
    refine XS.dup X5.here hx rfl (hb hby at_25) rfl rfl ?_
    show Steps p.tables e below (T5.setTop (mkF m 26 #[.val (.int p0_), .val (.int (2 : Int32)), .unset, .unset, .unset] [(.ref b1), (.ref b1)])) _
    refine XS.iconst X5.here hx rfl (hb hby at_26) ?_
    show Steps p.tables e below (T5.setTop (mkF m 27 #[.val (.int p0_), .val (.int (2 : Int32)), .unset, .unset, .unset] [(.int (2 : Int32)), (.ref b1), (.ref b1)])) _
    refine st6 _ ?_
    show Steps p.tables e below (T6.setTop (mkF m 30 #[.val (.int p0_), .val (.int (2 : Int32)), .unset, .unset, .unset] [(.ref w_SHARED), (.int (2 : Int32)), (.ref b1), (.ref b1)])) _
    refine st7 _ ?_
    show Steps p.tables e below (T7.setTop (mkF m 31 #[.val (.int p0_), .val (.int (2 : Int32)), .unset, .unset, .unset] [(.ref b1)])) _
    refine XS.dup X7.here hx rfl (hb hby at_31) rfl rfl ?_
    show Steps p.tables e below (T7.setTop (mkF m 32 #[.val (.int p0_), .val (.int (2 : Int32)), .unset, .unset, .unset] [(.ref b1), (.ref b1)])) _
    refine XS.iconst X7.here hx rfl (hb hby at_32) ?_
    show Steps p.tables e below (T7.setTop (mkF m 33 #[.val (.int p0_), .val (.int (2 : Int32)), .unset, .unset, .unset] [(.int (3 : Int32)), (.ref b1), (.ref b1)])) _
    refine st8 _ ?_
    show Steps p.tables e below (T8.setTop (mkF m 36 #[.val (.int p0_), .val (.int (2 : Int32)), .unset, .unset, .unset] [(.ref w_SHARED_INTENTION_EXCLUSIVE), (.int (3 : Int32)), (.ref b1), (.ref b1)])) _
    refine st9 _ ?_
    show Steps p.tables e below (T9.setTop (mkF m 37 #[.val (.int p0_), .val (.int (2 : Int32)), .unset, .unset, .unset] [(.ref b1)])) _
    refine XS.dup X9.here hx rfl (hb hby at_37) rfl rfl ?_
    show Steps p.tables e below (T9.setTop (mkF m 38 #[.val (.int p0_), .val (.int (2 : Int32)), .unset, .unset, .unset] [(.ref b1), (.ref b1)])) _
    refine XS.iconst X9.here hx rfl (hb hby at_38) ?_
    show Steps p.tables e below (T9.setTop (mkF m 39 #[.val (.int p0_), .val (.int (2 : Int32)), .unset, .unset, .unset] [(.int (4 : Int32)), (.ref b1), (.ref b1)])) _
    refine st10 _ ?_
    show Steps p.tables e below (T10.setTop (mkF m 42 #[.val (.int p0_), .val (.int (2 : Int32)), .unset, .unset, .unset] [(.ref w_WRITE), (.int (4 : Int32)), (.ref b1), (.ref b1)])) _
    refine st11 _ ?_
    show Steps p.tables e below (T11.setTop (mkF m 43 #[.val (.int p0_), .val (.int (2 : Int32)), .unset, .unset, .unset] [(.ref b1)])) _
    refine XS.dup X11.here hx rfl (hb hby at_43) rfl rfl ?_
    show Steps p.tables e below (T11.setTop (mkF m 44 #[.val (.int p0_), .val (.int (2 : Int32)), .unset, .unset, .unset] [(.ref b1), (.ref b1)])) _
    refine XS.iconst X11.here hx rfl (hb hby at_44) ?_
    show Steps p.tables e below (T11.setTop (mkF m 45 #[.val (.int p0_), .val (.int (2 : Int32)), .unset, .unset, .unset] [(.int (5 : Int32)), (.ref b1), (.ref b1)])) _
    refine st12 _ ?_
    show Steps p.tables e below (T12.setTop (mkF m 48 #[.val (.int p0_), .val (.int (2 : Int32)), .unset, .unset, .unset] [(.ref w_EXCLUSIVE), (.int (5 : Int32)), (.ref b1), (.ref b1)])) _
    refine st13 _ ?_
    show Steps p.tables e below (T13.setTop (mkF m 49 #[.val (.int p0_), .val (.int (2 : Int32)), .unset, .unset, .unset] [(.ref b1)])) _
    refine XS.astoreN X13.here hx rfl (hb hby at_49) rfl rfl (l' := #[.val (.int p0_), .val (.int (2 : Int32)), .val (.ref b1), .unset, .unset]) rfl ?_
    show Steps p.tables e below (T13.setTop (mkF m 50 #[.val (.int p0_), .val (.int (2 : Int32)), .val (.ref b1), .unset, .unset] [])) _
    refine XS.bipush X13.here hx rfl (hb hby at_50) ?_
    show Steps p.tables e below (T13.setTop (mkF m 52 #[.val (.int p0_), .val (.int (2 : Int32)), .val (.ref b1), .unset, .unset] [(.int (6 : Int32))])) _
    refine st14 _ ?_
    show Steps p.tables e below (T14.setTop (mkF m 55 #[.val (.int p0_), .val (.int (2 : Int32)), .val (.ref b1), .unset, .unset] [(.ref b14)])) _
    refine XS.dup X14.here hx rfl (hb hby at_55) rfl rfl ?_
    show Steps p.tables e below (T14.setTop (mkF m 56 #[.val (.int p0_), .val (.int (2 : Int32)), .val (.ref b1), .unset, .unset] [(.ref b14), (.ref b14)])) _
    refine XS.iconst X14.here hx rfl (hb hby at_56) ?_
    show Steps p.tables e below (T14.setTop (mkF m 57 #[.val (.int p0_), .val (.int (2 : Int32)), .val (.ref b1), .unset, .unset] [(.int (0 : Int32)), (.ref b14), (.ref b14)])) _
    refine st15 _ ?_
    show Steps p.tables e below (T15.setTop (mkF m 60 #[.val (.int p0_), .val (.int (2 : Int32)), .val (.ref b1), .unset, .unset] [(.ref w_INTENTION_SHARED), (.int (0 : Int32)), (.ref b14), (.ref b14)])) _
    refine st16 _ ?_
    show Steps p.tables e below (T16.setTop (mkF m 61 #[.val (.int p0_), .val (.int (2 : Int32)), .val (.ref b1), .unset, .unset] [(.ref b14)])) _
    refine XS.dup X16.here hx rfl (hb hby at_61) rfl rfl ?_
    show Steps p.tables e below (T16.setTop (mkF m 62 #[.val (.int p0_), .val (.int (2 : Int32)), .val (.ref b1), .unset, .unset] [(.ref b14), (.ref b14)])) _
    refine XS.iconst X16.here hx rfl (hb hby at_62) ?_
    show Steps p.tables e below (T16.setTop (mkF m 63 #[.val (.int p0_), .val (.int (2 : Int32)), .val (.ref b1), .unset, .unset] [(.int (1 : Int32)), (.ref b14), (.ref b14)])) _
    refine st17 _ ?_
    show Steps p.tables e below (T17.setTop (mkF m 66 #[.val (.int p0_), .val (.int (2 : Int32)), .val (.ref b1), .unset, .unset] [(.ref w_INTENTION_EXCLUSIVE), (.int (1 : Int32)), (.ref b14), (.ref b14)])) _
    refine st18 _ ?_
    show Steps p.tables e below (T18.setTop (mkF m 67 #[.val (.int p0_), .val (.int (2 : Int32)), .val (.ref b1), .unset, .unset] [(.ref b14)])) _
    refine XS.dup X18.here hx rfl (hb hby at_67) rfl rfl ?_
    show Steps p.tables e below (T18.setTop (mkF m 68 #[.val (.int p0_), .val (.int (2 : Int32)), .val (.ref b1), .unset, .unset] [(.ref b14), (.ref b14)])) _
    refine XS.iconst X18.here hx rfl (hb hby at_68) ?_
    show Steps p.tables e below (T18.setTop (mkF m 69 #[.val (.int p0_), .val (.int (2 : Int32)), .val (.ref b1), .unset, .unset] [(.int (2 : Int32)), (.ref b14), (.ref b14)])) _
    refine st19 _ ?_
    show Steps p.tables e below (T19.setTop (mkF m 72 #[.val (.int p0_), .val (.int (2 : Int32)), .val (.ref b1), .unset, .unset] [(.ref w_INTENTION_SHARED), (.int (2 : Int32)), (.ref b14), (.ref b14)])) _
    refine st20 _ ?_
    show Steps p.tables e below (T20.setTop (mkF m 73 #[.val (.int p0_), .val (.int (2 : Int32)), .val (.ref b1), .unset, .unset] [(.ref b14)])) _
    refine XS.dup X20.here hx rfl (hb hby at_73) rfl rfl ?_
    show Steps p.tables e below (T20.setTop (mkF m 74 #[.val (.int p0_), .val (.int (2 : Int32)), .val (.ref b1), .unset, .unset] [(.ref b14), (.ref b14)])) _
    refine XS.iconst X20.here hx rfl (hb hby at_74) ?_
    show Steps p.tables e below (T20.setTop (mkF m 75 #[.val (.int p0_), .val (.int (2 : Int32)), .val (.ref b1), .unset, .unset] [(.int (3 : Int32)), (.ref b14), (.ref b14)])) _
    refine st21 _ ?_
    show Steps p.tables e below (T21.setTop (mkF m 78 #[.val (.int p0_), .val (.int (2 : Int32)), .val (.ref b1), .unset, .unset] [(.ref w_INTENTION_EXCLUSIVE), (.int (3 : Int32)), (.ref b14), (.ref b14)])) _
    refine st22 _ ?_
    show Steps p.tables e below (T22.setTop (mkF m 79 #[.val (.int p0_), .val (.int (2 : Int32)), .val (.ref b1), .unset, .unset] [(.ref b14)])) _
    refine XS.dup X22.here hx rfl (hb hby at_79) rfl rfl ?_
    show Steps p.tables e below (T22.setTop (mkF m 80 #[.val (.int p0_), .val (.int (2 : Int32)), .val (.ref b1), .unset, .unset] [(.ref b14), (.ref b14)])) _
    refine XS.iconst X22.here hx rfl (hb hby at_80) ?_
    show Steps p.tables e below (T22.setTop (mkF m 81 #[.val (.int p0_), .val (.int (2 : Int32)), .val (.ref b1), .unset, .unset] [(.int (4 : Int32)), (.ref b14), (.ref b14)])) _
    refine st23 _ ?_
    show Steps p.tables e below (T23.setTop (mkF m 84 #[.val (.int p0_), .val (.int (2 : Int32)), .val (.ref b1), .unset, .unset] [(.ref w_INTENTION_EXCLUSIVE), (.int (4 : Int32)), (.ref b14), (.ref b14)])) _
    refine st24 _ ?_
    show Steps p.tables e below (T24.setTop (mkF m 85 #[.val (.int p0_), .val (.int (2 : Int32)), .val (.ref b1), .unset, .unset] [(.ref b14)])) _
    refine XS.dup X24.here hx rfl (hb hby at_85) rfl rfl ?_
    show Steps p.tables e below (T24.setTop (mkF m 86 #[.val (.int p0_), .val (.int (2 : Int32)), .val (.ref b1), .unset, .unset] [(.ref b14), (.ref b14)])) _
    refine XS.iconst X24.here hx rfl (hb hby at_86) ?_
    show Steps p.tables e below (T24.setTop (mkF m 87 #[.val (.int p0_), .val (.int (2 : Int32)), .val (.ref b1), .unset, .unset] [(.int (5 : Int32)), (.ref b14), (.ref b14)])) _
    refine st25 _ ?_
    show Steps p.tables e below (T25.setTop (mkF m 90 #[.val (.int p0_), .val (.int (2 : Int32)), .val (.ref b1), .unset, .unset] [(.ref w_INTENTION_EXCLUSIVE), (.int (5 : Int32)), (.ref b14), (.ref b14)])) _
    refine st26 _ ?_
    show Steps p.tables e below (T26.setTop (mkF m 91 #[.val (.int p0_), .val (.int (2 : Int32)), .val (.ref b1), .unset, .unset] [(.ref b14)])) _
    refine XS.astoreN X26.here hx rfl (hb hby at_91) rfl rfl (l' := #[.val (.int p0_), .val (.int (2 : Int32)), .val (.ref b1), .val (.ref b14), .unset]) rfl ?_
    show Steps p.tables e below (T26.setTop (mkF m 92 #[.val (.int p0_), .val (.int (2 : Int32)), .val (.ref b1), .val (.ref b14), .unset] [])) _
    refine XS.aloadN X26.here hx rfl (hb hby at_92) rfl rfl ?_
    show Steps p.tables e below (T26.setTop (mkF m 93 #[.val (.int p0_), .val (.int (2 : Int32)), .val (.ref b1), .val (.ref b14), .unset] [(.ref b1)])) _
    refine XS.iloadN X26.here hx rfl (hb hby at_93) rfl ?_
    show Steps p.tables e below (T26.setTop (mkF m 94 #[.val (.int p0_), .val (.int (2 : Int32)), .val (.ref b1), .val (.ref b14), .unset] [(.int (2 : Int32)), (.ref b1)])) _
    refine X26.aaload hx (j := (2 : Int32)) (v := (.ref w_SHARED)) (by rw [e26]; exact A_94.1) (State.isArrayOf_alike hZ.alike A_94.2.1) rfl A_94.2.2 hin94 hat94 (g := (mkF m 94 #[.val (.int p0_), .val (.int (2 : Int32)), .val (.ref b1), .val (.ref b14), .unset] [(.int (2 : Int32)), (.ref b1)])) rfl rfl (hb hby at_94) _ ?_
    show Steps p.tables e below (T26.setTop (mkF m 95 #[.val (.int p0_), .val (.int (2 : Int32)), .val (.ref b1), .val (.ref b14), .unset] [(.ref w_SHARED)])) _
    refine st27.trans ?_
    show Steps p.tables e below (T27.setTop (mkF m 98 #[.val (.int p0_), .val (.int (2 : Int32)), .val (.ref b1), .val (.ref b14), .unset] [(.ref w_INTENTION_SHARED)])) _
    refine XS.astore X27.here hx rfl (hb hby at_98) rfl rfl (l' := #[.val (.int p0_), .val (.int (2 : Int32)), .val (.ref b1), .val (.ref b14), .val (.ref w_INTENTION_SHARED)]) rfl ?_
    show Steps p.tables e below (T27.setTop (mkF m 100 #[.val (.int p0_), .val (.int (2 : Int32)), .val (.ref b1), .val (.ref b14), .val (.ref w_INTENTION_SHARED)] [])) _
    refine XS.aload X27.here hx rfl (hb hby at_100) rfl rfl ?_
    show Steps p.tables e below (T27.setTop (mkF m 102 #[.val (.int p0_), .val (.int (2 : Int32)), .val (.ref b1), .val (.ref b14), .val (.ref w_INTENTION_SHARED)] [(.ref w_INTENTION_SHARED)])) _
    refine XS.aloadN X27.here hx rfl (hb hby at_102) rfl rfl ?_
    show Steps p.tables e below (T27.setTop (mkF m 103 #[.val (.int p0_), .val (.int (2 : Int32)), .val (.ref b1), .val (.ref b14), .val (.ref w_INTENTION_SHARED)] [(.ref b14), (.ref w_INTENTION_SHARED)])) _
    refine XS.iloadN X27.here hx rfl (hb hby at_103) rfl ?_
    show Steps p.tables e below (T27.setTop (mkF m 104 #[.val (.int p0_), .val (.int (2 : Int32)), .val (.ref b1), .val (.ref b14), .val (.ref w_INTENTION_SHARED)] [(.int (2 : Int32)), (.ref b14), (.ref w_INTENTION_SHARED)])) _
    refine X27.aaload hx (j := (2 : Int32)) (v := (.ref w_INTENTION_SHARED)) (by rw [e27]; exact A_104.1) (State.isArrayOf_alike hZ.alike A_104.2.1) rfl A_104.2.2 hin104 hat104 (g := (mkF m 104 #[.val (.int p0_), .val (.int (2 : Int32)), .val (.ref b1), .val (.ref b14), .val (.ref w_INTENTION_SHARED)] [(.int (2 : Int32)), (.ref b14), (.ref w_INTENTION_SHARED)])) rfl rfl (hb hby at_104) _ ?_
    show Steps p.tables e below (T27.setTop (mkF m 105 #[.val (.int p0_), .val (.int (2 : Int32)), .val (.ref b1), .val (.ref b14), .val (.ref w_INTENTION_SHARED)] [(.ref w_INTENTION_SHARED), (.ref w_INTENTION_SHARED)])) _
    refine Jvm.RoadKit.acmp (g := (mkF m 105 #[.val (.int p0_), .val (.int (2 : Int32)), .val (.ref b1), .val (.ref b14), .val (.ref w_INTENTION_SHARED)] [(.ref w_INTENTION_SHARED), (.ref w_INTENTION_SHARED)])) X27 hx rfl rfl rfl (pc0 := 105) (pc' := 108) (same := true) rfl (hb hby at_105) rfl (decide_eq_true rfl) (by decide) (by decide) ?_
    show Steps p.tables e below (T27.setTop (mkF m 108 #[.val (.int p0_), .val (.int (2 : Int32)), .val (.ref b1), .val (.ref b14), .val (.ref w_INTENTION_SHARED)] [])) _
    refine XS.iconst X27.here hx rfl (hb hby at_108) ?_
    show Steps p.tables e below (T27.setTop (mkF m 109 #[.val (.int p0_), .val (.int (2 : Int32)), .val (.ref b1), .val (.ref b14), .val (.ref w_INTENTION_SHARED)] [(.int (1 : Int32))])) _
    refine XS.goto X27.here hx rfl (pc0 := 109) (pc' := 113) rfl (hb hby at_109) (by decide) (by decide) ?_
    show Steps p.tables e below (T27.setTop (mkF m 113 #[.val (.int p0_), .val (.int (2 : Int32)), .val (.ref b1), .val (.ref b14), .val (.ref w_INTENTION_SHARED)] [(.int (1 : Int32))])) _
    exact retN X27 hx (t := .boolean) Bd.returns (by simp) (hb hby at_113) hr
  · show own_QL n0 _ T27.heap _
    exact ⟨rfl, N27⟩
set_option maxRecDepth 65536 in
set_option maxHeartbeats 40000000 in
theorem own_law3 (l : Launch) (Z : State) (a0 : Array Value) (hw : ∀ d ∈ tables_1, d.before a0 Z = true) (ws : List Jvm.Cond) (p0_ : Int32) (w_INTENTION_SHARED : Addr) (w_INTENTION_EXCLUSIVE : Addr) (w_SHARED : Addr) (w_SHARED_INTENTION_EXCLUSIVE : Addr) (w_WRITE : Addr) (w_EXCLUSIVE : Addr) (h0 : Heap) (n0 : Nat) (Z0 : n0 ≤ h0.size) (S_INTENTION_SHARED : Sta Z h0 "com/example/palimpsest/palimpsest/tx/LockMode" "INTENTION_SHARED" "Lcom/example/palimpsest/palimpsest/tx/LockMode;" (.ref w_INTENTION_SHARED)) (E_w_INTENTION_SHARED : Exa Z h0 w_INTENTION_SHARED "com/example/palimpsest/palimpsest/tx/LockMode") (S_INTENTION_EXCLUSIVE : Sta Z h0 "com/example/palimpsest/palimpsest/tx/LockMode" "INTENTION_EXCLUSIVE" "Lcom/example/palimpsest/palimpsest/tx/LockMode;" (.ref w_INTENTION_EXCLUSIVE)) (E_w_INTENTION_EXCLUSIVE : Exa Z h0 w_INTENTION_EXCLUSIVE "com/example/palimpsest/palimpsest/tx/LockMode") (S_SHARED : Sta Z h0 "com/example/palimpsest/palimpsest/tx/LockMode" "SHARED" "Lcom/example/palimpsest/palimpsest/tx/LockMode;" (.ref w_SHARED)) (E_w_SHARED : Exa Z h0 w_SHARED "com/example/palimpsest/palimpsest/tx/LockMode") (S_SHARED_INTENTION_EXCLUSIVE : Sta Z h0 "com/example/palimpsest/palimpsest/tx/LockMode" "SHARED_INTENTION_EXCLUSIVE" "Lcom/example/palimpsest/palimpsest/tx/LockMode;" (.ref w_SHARED_INTENTION_EXCLUSIVE)) (E_w_SHARED_INTENTION_EXCLUSIVE : Exa Z h0 w_SHARED_INTENTION_EXCLUSIVE "com/example/palimpsest/palimpsest/tx/LockMode") (S_WRITE : Sta Z h0 "com/example/palimpsest/palimpsest/tx/LockMode" "WRITE" "Lcom/example/palimpsest/palimpsest/tx/LockMode;" (.ref w_WRITE)) (E_w_WRITE : Exa Z h0 w_WRITE "com/example/palimpsest/palimpsest/tx/LockMode") (S_EXCLUSIVE : Sta Z h0 "com/example/palimpsest/palimpsest/tx/LockMode" "EXCLUSIVE" "Lcom/example/palimpsest/palimpsest/tx/LockMode;" (.ref w_EXCLUSIVE)) (E_w_EXCLUSIVE : Exa Z h0 w_EXCLUSIVE "com/example/palimpsest/palimpsest/tx/LockMode") (hf0 : ((p0_ &&& (2147483647 : Int32)) % (6 : Int32)) = (3 : Int32)) (hf1 : ¬ (w_SHARED_INTENTION_EXCLUSIVE = w_SHARED)) (hf2 : ¬ (w_SHARED_INTENTION_EXCLUSIVE = w_INTENTION_SHARED)) :
    MetFree l x (head1 (Jvm.Cond.code x code maxLocals ret :: ws) room_1) (fun a U => a = #[(.int p0_)] ∧ Z.Warmed39 U.vm ∧ U.heap = h0) (fun _ _ _ _ _ => True) (fun _ U o U' => ∃ v L, o = .returned v ∧ own_QL n0 v U'.heap L ∧ FrameEnd U o U' L room_1.cells room_1.slots) := by
  refine MetFree.of_bodySF (plainFor_of_name own_pn1) hisR ?_
  intro p e s m args below meth c s₁ Bd hml0 hP hK
  obtain ⟨rfl, hZ, hh⟩ := hP
  have hx := Bd.exec
  have hby := Bd.bytes
  have hml : c.maxLocals = 5 := hml0
  have hown : s.vm.findClass "com/example/palimpsest/palimpsest/tx/LockModeIntentionPinLaw" = some m.cls := findClass_of_methodNamed Bd.named
  have hnm := (name_of_methodNamed Bd.named Bd.method).1
  have X0 : Stand p l e room_1 s m #[(.int p0_)] below meth c s₁ [] 0 0 := Stand.of_body Bd
  have e0 : s₁.heap = h0 := by rw [← hh, Bd.state]; rfl
  have N0 := Fr.nil n0
  have pre0 : ∀ t, Steps p.tables e below (s₁.setTop (mkF m 0 #[.val (.int p0_), .unset, .unset, .unset, .unset] [])) t → Steps p.tables e below (s₁.setTop (entryFrame m #[(.int p0_)] maxLocals)) t := fun t k => castTop (own_ef1 m p0_) k
  obtain ⟨T1, h1, k1, X1, e1, E1, A1, O1, st1⟩ := newR X0 hx hZ hown (hw _ (List.mem_of_getElem? (i := 1) rfl)) (hw _ (List.mem_of_getElem? (i := 2) rfl)) e0 (g := (mkF m 10 #[.val (.int p0_), .val (.int (3 : Int32)), .unset, .unset, .unset] [(.int (6 : Int32))])) rfl (hb hby at_10) rfl (by decide) (cap := 6) (by decide) (by decide) (by decide) (by decide)
  obtain ⟨b1, g1⟩ : ∃ z, z = h0.size := ⟨_, rfl⟩
  rw [← g1] at A1 st1
  have V_b1_0 : Arv Z h1 b1 k1 (.object "com/example/palimpsest/palimpsest/tx/LockMode") (6 : Int32) [.null, .null, .null, .null, .null, .null] .null := (Arv.new A1 (by decide)).pad (pad_rep [] .null 6)
  have sz_b1 : h0.size ≤ b1 := Nat.le_trans (Keep.refl h0 []).1 (Nat.le_of_eq g1.symm)
  have g_b1 : n0 ≤ b1 := Nat.le_trans Z0 sz_b1
  have K1 : Keep h0 h1 [] := (Keep.refl h0 []).ext E1
  obtain ⟨T2, X2, e2, st2⟩ := getS2 X1 hx hZ hown (host := "") (Or.inl (hw _ (List.mem_of_getElem? (i := 3) rfl))) Via.refl e1 (S_INTENTION_SHARED.ext (own_ext K1)) (g := (mkF m 15 #[.val (.int p0_), .val (.int (3 : Int32)), .unset, .unset, .unset] [(.int (0 : Int32)), (.ref b1), (.ref b1)])) rfl (hb hby at_15)
  obtain ⟨c_18, A_18, q_18, S_18, N_18, H_18, G_18⟩ := V_b1_0
  have hin18 : ¬ ((0 : Int32) < 0 ∨ c_18.slots.size ≤ ((0 : Int32)).toNatClampNeg) := inb_of S_18 ⟨by decide, by decide⟩
  have Sto18 : Sto Z h1 b1 (.ref w_INTENTION_SHARED) := Sto.of A_18 (by rw [q_18]; exact O1) (Ins.self (E_w_INTENTION_SHARED.ext (own_ext K1)))
  obtain ⟨T3, h3, X3, e3, W3, st3⟩ := stR X2 hx hZ e2 A_18 (j := (0 : Int32)) hin18 rfl Sto18 (g := (mkF m 18 #[.val (.int p0_), .val (.int (3 : Int32)), .unset, .unset, .unset] [(.ref w_INTENTION_SHARED), (.int (0 : Int32)), (.ref b1), (.ref b1)])) rfl rfl (hb hby at_18)
  have V_b1_1 : Arv Z h3 b1 k1 (.object "com/example/palimpsest/palimpsest/tx/LockMode") (6 : Int32) [(.ref w_INTENTION_SHARED), .null, .null, .null, .null, .null] .null := Arv.set A_18 q_18 S_18 N_18 H_18 G_18 rfl W3 0 rfl (Nat.le_of_ble_eq_true rfl)
  have K3 : Keep h0 h3 [] := K1.wr W3 (Or.inr sz_b1)
  have N3 := Fr.snoc X3 N0 g_b1
  obtain ⟨T4, X4, e4, st4⟩ := getS2 X3 hx hZ hown (host := "") (Or.inl (hw _ (List.mem_of_getElem? (i := 7) rfl))) Via.refl e3 (S_INTENTION_EXCLUSIVE.ext (own_ext K3)) (g := (mkF m 21 #[.val (.int p0_), .val (.int (3 : Int32)), .unset, .unset, .unset] [(.int (1 : Int32)), (.ref b1), (.ref b1)])) rfl (hb hby at_21)
  obtain ⟨c_24, A_24, q_24, S_24, N_24, H_24, G_24⟩ := V_b1_1
  have hin24 : ¬ ((1 : Int32) < 0 ∨ c_24.slots.size ≤ ((1 : Int32)).toNatClampNeg) := inb_of S_24 ⟨by decide, by decide⟩
  have Sto24 : Sto Z h3 b1 (.ref w_INTENTION_EXCLUSIVE) := Sto.of A_24 (by rw [q_24]; exact O1) (Ins.self (E_w_INTENTION_EXCLUSIVE.ext (own_ext K3)))
  obtain ⟨T5, h5, X5, e5, W5, st5⟩ := stR X4 hx hZ e4 A_24 (j := (1 : Int32)) hin24 rfl Sto24 (g := (mkF m 24 #[.val (.int p0_), .val (.int (3 : Int32)), .unset, .unset, .unset] [(.ref w_INTENTION_EXCLUSIVE), (.int (1 : Int32)), (.ref b1), (.ref b1)])) rfl rfl (hb hby at_24)
  have V_b1_2 : Arv Z h5 b1 k1 (.object "com/example/palimpsest/palimpsest/tx/LockMode") (6 : Int32) [(.ref w_INTENTION_SHARED), (.ref w_INTENTION_EXCLUSIVE), .null, .null, .null, .null] .null := Arv.set A_24 q_24 S_24 N_24 H_24 G_24 rfl W5 1 rfl (Nat.le_of_ble_eq_true rfl)
  have K5 : Keep h0 h5 [] := K3.wr W5 (Or.inr sz_b1)
  have N5 := Fr.snoc X5 N3 g_b1
  obtain ⟨T6, X6, e6, st6⟩ := getS2 X5 hx hZ hown (host := "") (Or.inl (hw _ (List.mem_of_getElem? (i := 9) rfl))) Via.refl e5 (S_SHARED.ext (own_ext K5)) (g := (mkF m 27 #[.val (.int p0_), .val (.int (3 : Int32)), .unset, .unset, .unset] [(.int (2 : Int32)), (.ref b1), (.ref b1)])) rfl (hb hby at_27)
  obtain ⟨c_30, A_30, q_30, S_30, N_30, H_30, G_30⟩ := V_b1_2
  have hin30 : ¬ ((2 : Int32) < 0 ∨ c_30.slots.size ≤ ((2 : Int32)).toNatClampNeg) := inb_of S_30 ⟨by decide, by decide⟩
  have Sto30 : Sto Z h5 b1 (.ref w_SHARED) := Sto.of A_30 (by rw [q_30]; exact O1) (Ins.self (E_w_SHARED.ext (own_ext K5)))
  obtain ⟨T7, h7, X7, e7, W7, st7⟩ := stR X6 hx hZ e6 A_30 (j := (2 : Int32)) hin30 rfl Sto30 (g := (mkF m 30 #[.val (.int p0_), .val (.int (3 : Int32)), .unset, .unset, .unset] [(.ref w_SHARED), (.int (2 : Int32)), (.ref b1), (.ref b1)])) rfl rfl (hb hby at_30)
  have V_b1_3 : Arv Z h7 b1 k1 (.object "com/example/palimpsest/palimpsest/tx/LockMode") (6 : Int32) [(.ref w_INTENTION_SHARED), (.ref w_INTENTION_EXCLUSIVE), (.ref w_SHARED), .null, .null, .null] .null := Arv.set A_30 q_30 S_30 N_30 H_30 G_30 rfl W7 2 rfl (Nat.le_of_ble_eq_true rfl)
  have K7 : Keep h0 h7 [] := K5.wr W7 (Or.inr sz_b1)
  have N7 := Fr.snoc X7 N5 g_b1
  obtain ⟨T8, X8, e8, st8⟩ := getS2 X7 hx hZ hown (host := "") (Or.inl (hw _ (List.mem_of_getElem? (i := 11) rfl))) Via.refl e7 (S_SHARED_INTENTION_EXCLUSIVE.ext (own_ext K7)) (g := (mkF m 33 #[.val (.int p0_), .val (.int (3 : Int32)), .unset, .unset, .unset] [(.int (3 : Int32)), (.ref b1), (.ref b1)])) rfl (hb hby at_33)
  obtain ⟨c_36, A_36, q_36, S_36, N_36, H_36, G_36⟩ := V_b1_3
  have hin36 : ¬ ((3 : Int32) < 0 ∨ c_36.slots.size ≤ ((3 : Int32)).toNatClampNeg) := inb_of S_36 ⟨by decide, by decide⟩
  have Sto36 : Sto Z h7 b1 (.ref w_SHARED_INTENTION_EXCLUSIVE) := Sto.of A_36 (by rw [q_36]; exact O1) (Ins.self (E_w_SHARED_INTENTION_EXCLUSIVE.ext (own_ext K7)))
  obtain ⟨T9, h9, X9, e9, W9, st9⟩ := stR X8 hx hZ e8 A_36 (j := (3 : Int32)) hin36 rfl Sto36 (g := (mkF m 36 #[.val (.int p0_), .val (.int (3 : Int32)), .unset, .unset, .unset] [(.ref w_SHARED_INTENTION_EXCLUSIVE), (.int (3 : Int32)), (.ref b1), (.ref b1)])) rfl rfl (hb hby at_36)
  have V_b1_4 : Arv Z h9 b1 k1 (.object "com/example/palimpsest/palimpsest/tx/LockMode") (6 : Int32) [(.ref w_INTENTION_SHARED), (.ref w_INTENTION_EXCLUSIVE), (.ref w_SHARED), (.ref w_SHARED_INTENTION_EXCLUSIVE), .null, .null] .null := Arv.set A_36 q_36 S_36 N_36 H_36 G_36 rfl W9 3 rfl (Nat.le_of_ble_eq_true rfl)
  have K9 : Keep h0 h9 [] := K7.wr W9 (Or.inr sz_b1)
  have N9 := Fr.snoc X9 N7 g_b1
  obtain ⟨T10, X10, e10, st10⟩ := getS2 X9 hx hZ hown (host := "") (Or.inl (hw _ (List.mem_of_getElem? (i := 13) rfl))) Via.refl e9 (S_WRITE.ext (own_ext K9)) (g := (mkF m 39 #[.val (.int p0_), .val (.int (3 : Int32)), .unset, .unset, .unset] [(.int (4 : Int32)), (.ref b1), (.ref b1)])) rfl (hb hby at_39)
  obtain ⟨c_42, A_42, q_42, S_42, N_42, H_42, G_42⟩ := V_b1_4
  have hin42 : ¬ ((4 : Int32) < 0 ∨ c_42.slots.size ≤ ((4 : Int32)).toNatClampNeg) := inb_of S_42 ⟨by decide, by decide⟩
  have Sto42 : Sto Z h9 b1 (.ref w_WRITE) := Sto.of A_42 (by rw [q_42]; exact O1) (Ins.self (E_w_WRITE.ext (own_ext K9)))
  obtain ⟨T11, h11, X11, e11, W11, st11⟩ := stR X10 hx hZ e10 A_42 (j := (4 : Int32)) hin42 rfl Sto42 (g := (mkF m 42 #[.val (.int p0_), .val (.int (3 : Int32)), .unset, .unset, .unset] [(.ref w_WRITE), (.int (4 : Int32)), (.ref b1), (.ref b1)])) rfl rfl (hb hby at_42)
  have V_b1_5 : Arv Z h11 b1 k1 (.object "com/example/palimpsest/palimpsest/tx/LockMode") (6 : Int32) [(.ref w_INTENTION_SHARED), (.ref w_INTENTION_EXCLUSIVE), (.ref w_SHARED), (.ref w_SHARED_INTENTION_EXCLUSIVE), (.ref w_WRITE), .null] .null := Arv.set A_42 q_42 S_42 N_42 H_42 G_42 rfl W11 4 rfl (Nat.le_of_ble_eq_true rfl)
  have K11 : Keep h0 h11 [] := K9.wr W11 (Or.inr sz_b1)
  have N11 := Fr.snoc X11 N9 g_b1
  obtain ⟨T12, X12, e12, st12⟩ := getS2 X11 hx hZ hown (host := "") (Or.inl (hw _ (List.mem_of_getElem? (i := 15) rfl))) Via.refl e11 (S_EXCLUSIVE.ext (own_ext K11)) (g := (mkF m 45 #[.val (.int p0_), .val (.int (3 : Int32)), .unset, .unset, .unset] [(.int (5 : Int32)), (.ref b1), (.ref b1)])) rfl (hb hby at_45)
  obtain ⟨c_48, A_48, q_48, S_48, N_48, H_48, G_48⟩ := V_b1_5
  have hin48 : ¬ ((5 : Int32) < 0 ∨ c_48.slots.size ≤ ((5 : Int32)).toNatClampNeg) := inb_of S_48 ⟨by decide, by decide⟩
  have Sto48 : Sto Z h11 b1 (.ref w_EXCLUSIVE) := Sto.of A_48 (by rw [q_48]; exact O1) (Ins.self (E_w_EXCLUSIVE.ext (own_ext K11)))
  obtain ⟨T13, h13, X13, e13, W13, st13⟩ := stR X12 hx hZ e12 A_48 (j := (5 : Int32)) hin48 rfl Sto48 (g := (mkF m 48 #[.val (.int p0_), .val (.int (3 : Int32)), .unset, .unset, .unset] [(.ref w_EXCLUSIVE), (.int (5 : Int32)), (.ref b1), (.ref b1)])) rfl rfl (hb hby at_48)
  have V_b1_6 : Arv Z h13 b1 k1 (.object "com/example/palimpsest/palimpsest/tx/LockMode") (6 : Int32) [(.ref w_INTENTION_SHARED), (.ref w_INTENTION_EXCLUSIVE), (.ref w_SHARED), (.ref w_SHARED_INTENTION_EXCLUSIVE), (.ref w_WRITE), (.ref w_EXCLUSIVE)] .null := Arv.set A_48 q_48 S_48 N_48 H_48 G_48 rfl W13 5 rfl (Nat.le_of_ble_eq_true rfl)
  have K13 : Keep h0 h13 [] := K11.wr W13 (Or.inr sz_b1)
  have N13 := Fr.snoc X13 N11 g_b1
  obtain ⟨T14, h14, k14, X14, e14, E14, A14, O14, st14⟩ := newR X13 hx hZ hown (hw _ (List.mem_of_getElem? (i := 1) rfl)) (hw _ (List.mem_of_getElem? (i := 2) rfl)) e13 (g := (mkF m 52 #[.val (.int p0_), .val (.int (3 : Int32)), .val (.ref b1), .unset, .unset] [(.int (6 : Int32))])) rfl (hb hby at_52) rfl (by decide) (cap := 6) (by decide) (by decide) (by decide) (by decide)
  obtain ⟨b14, g14⟩ : ∃ z, z = h13.size := ⟨_, rfl⟩
  rw [← g14] at A14 st14
  have V_b14_0 : Arv Z h14 b14 k14 (.object "com/example/palimpsest/palimpsest/tx/LockMode") (6 : Int32) [.null, .null, .null, .null, .null, .null] .null := (Arv.new A14 (by decide)).pad (pad_rep [] .null 6)
  have sz_b14 : h0.size ≤ b14 := Nat.le_trans K13.1 (Nat.le_of_eq g14.symm)
  have g_b14 : n0 ≤ b14 := Nat.le_trans Z0 sz_b14
  have K14 : Keep h0 h14 [] := K13.ext E14
  have ne_b1_b14 : b1 ≠ b14 := Nat.ne_of_lt (Nat.lt_of_lt_of_le V_b1_6.lt (Nat.le_of_eq g14.symm))
  have V_b1_7 := V_b1_6.ext E14
  obtain ⟨T15, X15, e15, st15⟩ := getS2 X14 hx hZ hown (host := "") (Or.inl (hw _ (List.mem_of_getElem? (i := 3) rfl))) Via.refl e14 (S_INTENTION_SHARED.ext (own_ext K14)) (g := (mkF m 57 #[.val (.int p0_), .val (.int (3 : Int32)), .val (.ref b1), .unset, .unset] [(.int (0 : Int32)), (.ref b14), (.ref b14)])) rfl (hb hby at_57)
  obtain ⟨c_60, A_60, q_60, S_60, N_60, H_60, G_60⟩ := V_b14_0
  have hin60 : ¬ ((0 : Int32) < 0 ∨ c_60.slots.size ≤ ((0 : Int32)).toNatClampNeg) := inb_of S_60 ⟨by decide, by decide⟩
  have Sto60 : Sto Z h14 b14 (.ref w_INTENTION_SHARED) := Sto.of A_60 (by rw [q_60]; exact O14) (Ins.self (E_w_INTENTION_SHARED.ext (own_ext K14)))
  obtain ⟨T16, h16, X16, e16, W16, st16⟩ := stR X15 hx hZ e15 A_60 (j := (0 : Int32)) hin60 rfl Sto60 (g := (mkF m 60 #[.val (.int p0_), .val (.int (3 : Int32)), .val (.ref b1), .unset, .unset] [(.ref w_INTENTION_SHARED), (.int (0 : Int32)), (.ref b14), (.ref b14)])) rfl rfl (hb hby at_60)
  have V_b14_1 : Arv Z h16 b14 k14 (.object "com/example/palimpsest/palimpsest/tx/LockMode") (6 : Int32) [(.ref w_INTENTION_SHARED), .null, .null, .null, .null, .null] .null := Arv.set A_60 q_60 S_60 N_60 H_60 G_60 rfl W16 0 rfl (Nat.le_of_ble_eq_true rfl)
  have V_b1_8 := V_b1_7.other W16 ne_b1_b14
  have K16 : Keep h0 h16 [] := K14.wr W16 (Or.inr sz_b14)
  have N16 := Fr.snoc X16 N13 g_b14
  obtain ⟨T17, X17, e17, st17⟩ := getS2 X16 hx hZ hown (host := "") (Or.inl (hw _ (List.mem_of_getElem? (i := 7) rfl))) Via.refl e16 (S_INTENTION_EXCLUSIVE.ext (own_ext K16)) (g := (mkF m 63 #[.val (.int p0_), .val (.int (3 : Int32)), .val (.ref b1), .unset, .unset] [(.int (1 : Int32)), (.ref b14), (.ref b14)])) rfl (hb hby at_63)
  obtain ⟨c_66, A_66, q_66, S_66, N_66, H_66, G_66⟩ := V_b14_1
  have hin66 : ¬ ((1 : Int32) < 0 ∨ c_66.slots.size ≤ ((1 : Int32)).toNatClampNeg) := inb_of S_66 ⟨by decide, by decide⟩
  have Sto66 : Sto Z h16 b14 (.ref w_INTENTION_EXCLUSIVE) := Sto.of A_66 (by rw [q_66]; exact O14) (Ins.self (E_w_INTENTION_EXCLUSIVE.ext (own_ext K16)))
  obtain ⟨T18, h18, X18, e18, W18, st18⟩ := stR X17 hx hZ e17 A_66 (j := (1 : Int32)) hin66 rfl Sto66 (g := (mkF m 66 #[.val (.int p0_), .val (.int (3 : Int32)), .val (.ref b1), .unset, .unset] [(.ref w_INTENTION_EXCLUSIVE), (.int (1 : Int32)), (.ref b14), (.ref b14)])) rfl rfl (hb hby at_66)
  have V_b14_2 : Arv Z h18 b14 k14 (.object "com/example/palimpsest/palimpsest/tx/LockMode") (6 : Int32) [(.ref w_INTENTION_SHARED), (.ref w_INTENTION_EXCLUSIVE), .null, .null, .null, .null] .null := Arv.set A_66 q_66 S_66 N_66 H_66 G_66 rfl W18 1 rfl (Nat.le_of_ble_eq_true rfl)
  have V_b1_9 := V_b1_8.other W18 ne_b1_b14
  have K18 : Keep h0 h18 [] := K16.wr W18 (Or.inr sz_b14)
  have N18 := Fr.snoc X18 N16 g_b14
  obtain ⟨T19, X19, e19, st19⟩ := getS2 X18 hx hZ hown (host := "") (Or.inl (hw _ (List.mem_of_getElem? (i := 3) rfl))) Via.refl e18 (S_INTENTION_SHARED.ext (own_ext K18)) (g := (mkF m 69 #[.val (.int p0_), .val (.int (3 : Int32)), .val (.ref b1), .unset, .unset] [(.int (2 : Int32)), (.ref b14), (.ref b14)])) rfl (hb hby at_69)
  obtain ⟨c_72, A_72, q_72, S_72, N_72, H_72, G_72⟩ := V_b14_2
  have hin72 : ¬ ((2 : Int32) < 0 ∨ c_72.slots.size ≤ ((2 : Int32)).toNatClampNeg) := inb_of S_72 ⟨by decide, by decide⟩
  have Sto72 : Sto Z h18 b14 (.ref w_INTENTION_SHARED) := Sto.of A_72 (by rw [q_72]; exact O14) (Ins.self (E_w_INTENTION_SHARED.ext (own_ext K18)))
  obtain ⟨T20, h20, X20, e20, W20, st20⟩ := stR X19 hx hZ e19 A_72 (j := (2 : Int32)) hin72 rfl Sto72 (g := (mkF m 72 #[.val (.int p0_), .val (.int (3 : Int32)), .val (.ref b1), .unset, .unset] [(.ref w_INTENTION_SHARED), (.int (2 : Int32)), (.ref b14), (.ref b14)])) rfl rfl (hb hby at_72)
  have V_b14_3 : Arv Z h20 b14 k14 (.object "com/example/palimpsest/palimpsest/tx/LockMode") (6 : Int32) [(.ref w_INTENTION_SHARED), (.ref w_INTENTION_EXCLUSIVE), (.ref w_INTENTION_SHARED), .null, .null, .null] .null := Arv.set A_72 q_72 S_72 N_72 H_72 G_72 rfl W20 2 rfl (Nat.le_of_ble_eq_true rfl)
  have V_b1_10 := V_b1_9.other W20 ne_b1_b14
  have K20 : Keep h0 h20 [] := K18.wr W20 (Or.inr sz_b14)
  have N20 := Fr.snoc X20 N18 g_b14
  obtain ⟨T21, X21, e21, st21⟩ := getS2 X20 hx hZ hown (host := "") (Or.inl (hw _ (List.mem_of_getElem? (i := 7) rfl))) Via.refl e20 (S_INTENTION_EXCLUSIVE.ext (own_ext K20)) (g := (mkF m 75 #[.val (.int p0_), .val (.int (3 : Int32)), .val (.ref b1), .unset, .unset] [(.int (3 : Int32)), (.ref b14), (.ref b14)])) rfl (hb hby at_75)
  obtain ⟨c_78, A_78, q_78, S_78, N_78, H_78, G_78⟩ := V_b14_3
  have hin78 : ¬ ((3 : Int32) < 0 ∨ c_78.slots.size ≤ ((3 : Int32)).toNatClampNeg) := inb_of S_78 ⟨by decide, by decide⟩
  have Sto78 : Sto Z h20 b14 (.ref w_INTENTION_EXCLUSIVE) := Sto.of A_78 (by rw [q_78]; exact O14) (Ins.self (E_w_INTENTION_EXCLUSIVE.ext (own_ext K20)))
  obtain ⟨T22, h22, X22, e22, W22, st22⟩ := stR X21 hx hZ e21 A_78 (j := (3 : Int32)) hin78 rfl Sto78 (g := (mkF m 78 #[.val (.int p0_), .val (.int (3 : Int32)), .val (.ref b1), .unset, .unset] [(.ref w_INTENTION_EXCLUSIVE), (.int (3 : Int32)), (.ref b14), (.ref b14)])) rfl rfl (hb hby at_78)
  have V_b14_4 : Arv Z h22 b14 k14 (.object "com/example/palimpsest/palimpsest/tx/LockMode") (6 : Int32) [(.ref w_INTENTION_SHARED), (.ref w_INTENTION_EXCLUSIVE), (.ref w_INTENTION_SHARED), (.ref w_INTENTION_EXCLUSIVE), .null, .null] .null := Arv.set A_78 q_78 S_78 N_78 H_78 G_78 rfl W22 3 rfl (Nat.le_of_ble_eq_true rfl)
  have V_b1_11 := V_b1_10.other W22 ne_b1_b14
  have K22 : Keep h0 h22 [] := K20.wr W22 (Or.inr sz_b14)
  have N22 := Fr.snoc X22 N20 g_b14
  obtain ⟨T23, X23, e23, st23⟩ := getS2 X22 hx hZ hown (host := "") (Or.inl (hw _ (List.mem_of_getElem? (i := 7) rfl))) Via.refl e22 (S_INTENTION_EXCLUSIVE.ext (own_ext K22)) (g := (mkF m 81 #[.val (.int p0_), .val (.int (3 : Int32)), .val (.ref b1), .unset, .unset] [(.int (4 : Int32)), (.ref b14), (.ref b14)])) rfl (hb hby at_81)
  obtain ⟨c_84, A_84, q_84, S_84, N_84, H_84, G_84⟩ := V_b14_4
  have hin84 : ¬ ((4 : Int32) < 0 ∨ c_84.slots.size ≤ ((4 : Int32)).toNatClampNeg) := inb_of S_84 ⟨by decide, by decide⟩
  have Sto84 : Sto Z h22 b14 (.ref w_INTENTION_EXCLUSIVE) := Sto.of A_84 (by rw [q_84]; exact O14) (Ins.self (E_w_INTENTION_EXCLUSIVE.ext (own_ext K22)))
  obtain ⟨T24, h24, X24, e24, W24, st24⟩ := stR X23 hx hZ e23 A_84 (j := (4 : Int32)) hin84 rfl Sto84 (g := (mkF m 84 #[.val (.int p0_), .val (.int (3 : Int32)), .val (.ref b1), .unset, .unset] [(.ref w_INTENTION_EXCLUSIVE), (.int (4 : Int32)), (.ref b14), (.ref b14)])) rfl rfl (hb hby at_84)
  have V_b14_5 : Arv Z h24 b14 k14 (.object "com/example/palimpsest/palimpsest/tx/LockMode") (6 : Int32) [(.ref w_INTENTION_SHARED), (.ref w_INTENTION_EXCLUSIVE), (.ref w_INTENTION_SHARED), (.ref w_INTENTION_EXCLUSIVE), (.ref w_INTENTION_EXCLUSIVE), .null] .null := Arv.set A_84 q_84 S_84 N_84 H_84 G_84 rfl W24 4 rfl (Nat.le_of_ble_eq_true rfl)
  have V_b1_12 := V_b1_11.other W24 ne_b1_b14
  have K24 : Keep h0 h24 [] := K22.wr W24 (Or.inr sz_b14)
  have N24 := Fr.snoc X24 N22 g_b14
  obtain ⟨T25, X25, e25, st25⟩ := getS2 X24 hx hZ hown (host := "") (Or.inl (hw _ (List.mem_of_getElem? (i := 7) rfl))) Via.refl e24 (S_INTENTION_EXCLUSIVE.ext (own_ext K24)) (g := (mkF m 87 #[.val (.int p0_), .val (.int (3 : Int32)), .val (.ref b1), .unset, .unset] [(.int (5 : Int32)), (.ref b14), (.ref b14)])) rfl (hb hby at_87)
  obtain ⟨c_90, A_90, q_90, S_90, N_90, H_90, G_90⟩ := V_b14_5
  have hin90 : ¬ ((5 : Int32) < 0 ∨ c_90.slots.size ≤ ((5 : Int32)).toNatClampNeg) := inb_of S_90 ⟨by decide, by decide⟩
  have Sto90 : Sto Z h24 b14 (.ref w_INTENTION_EXCLUSIVE) := Sto.of A_90 (by rw [q_90]; exact O14) (Ins.self (E_w_INTENTION_EXCLUSIVE.ext (own_ext K24)))
  obtain ⟨T26, h26, X26, e26, W26, st26⟩ := stR X25 hx hZ e25 A_90 (j := (5 : Int32)) hin90 rfl Sto90 (g := (mkF m 90 #[.val (.int p0_), .val (.int (3 : Int32)), .val (.ref b1), .unset, .unset] [(.ref w_INTENTION_EXCLUSIVE), (.int (5 : Int32)), (.ref b14), (.ref b14)])) rfl rfl (hb hby at_90)
  have V_b14_6 : Arv Z h26 b14 k14 (.object "com/example/palimpsest/palimpsest/tx/LockMode") (6 : Int32) [(.ref w_INTENTION_SHARED), (.ref w_INTENTION_EXCLUSIVE), (.ref w_INTENTION_SHARED), (.ref w_INTENTION_EXCLUSIVE), (.ref w_INTENTION_EXCLUSIVE), (.ref w_INTENTION_EXCLUSIVE)] .null := Arv.set A_90 q_90 S_90 N_90 H_90 G_90 rfl W26 5 rfl (Nat.le_of_ble_eq_true rfl)
  have V_b1_13 := V_b1_12.other W26 ne_b1_b14
  have K26 : Keep h0 h26 [] := K24.wr W26 (Or.inr sz_b14)
  have N26 := Fr.snoc X26 N24 g_b14
  obtain ⟨c_94, A_94, q_94, S_94, N_94, H_94, G_94⟩ := V_b1_13
  have hin94 : ¬ ((3 : Int32) < 0 ∨ c_94.slots.size ≤ ((3 : Int32)).toNatClampNeg) := inb_of S_94 ⟨by decide, by decide⟩
  have hat94 : c_94.slots[((3 : Int32)).toNatClampNeg]? = some (.ref w_SHARED_INTENTION_EXCLUSIVE) := H_94 _ (Nat.lt_of_not_le fun q => hin94 (Or.inr q))
  obtain ⟨cq27, kq27, q27a, q27b, q27c⟩ := isOf hZ e26 (E_w_SHARED_INTENTION_EXCLUSIVE.ext (own_ext K26))
  obtain ⟨_, _, ⟨T27, L27, k27, n27⟩, -, X27, ⟨Lc27, hQ27, l27, y27, z27⟩, st27⟩ := X26.virtualBack hx (y := (⟨"com/example/palimpsest/palimpsest/tx/LockMode", "intention", "()Lcom/example/palimpsest/palimpsest/tx/LockMode;"⟩ : MethodName)) (z := (⟨"com/example/palimpsest/palimpsest/tx/LockMode", "intention", "()Lcom/example/palimpsest/palimpsest/tx/LockMode;"⟩ : MethodName)) hown (mvT hZ (hw _ (List.mem_of_getElem? (i := 17) rfl))) (mvT hZ (hw _ (List.mem_of_getElem? (i := 18) rfl))) (notFace_of_selects (args := #[]) (mvT hZ (hw _ (List.mem_of_getElem? (i := 20) rfl)))) (mvT hZ (hw _ (List.mem_of_getElem? (i := 20) rfl))) (mvT hZ (hw _ (List.mem_of_getElem? (i := 19) rfl))) (by decide) (backOf (W := 0) (own_b1_ft l Z a0 hw [] w_SHARED_INTENTION_EXCLUSIVE w_SHARED w_INTENTION_SHARED w_INTENTION_EXCLUSIVE h26 n0 (Nat.le_trans Z0 (own_ext K26).1) (S_SHARED.ext (own_ext K26)) (S_INTENTION_SHARED.ext (own_ext K26)) (S_INTENTION_EXCLUSIVE.ext (own_ext K26)) hf1 hf2) hZ (hw _ (List.mem_of_getElem? (i := 21) rfl)) (hw _ (List.mem_of_getElem? (i := 4) rfl)) (by decide) (by decide)) q27a q27c (g := (mkF m 95 #[.val (.int p0_), .val (.int (3 : Int32)), .val (.ref b1), .val (.ref b14), .unset] [(.ref w_SHARED_INTENTION_EXCLUSIVE)])) rfl (by rw [hml]; rfl) (Steps.refl _) (argsL := []) (rest := []) (lenOf own_pd0 rfl) rfl (by show 2 * 0 + _ ≤ _; exact Nat.le_of_eq rfl) (hb hby at_95) (fun _ _ => ⟨rfl, e26, (by decide : 2 + 0 ≤ _), (by decide : 12 + 0 ≤ _)⟩)
  dsimp only [Pt.U, Pt.locs, Pt.cells, Pt.slots] at X27 l27 y27 z27 st27 hQ27
  subst l27 y27 z27
  obtain ⟨rfl, N27q, e27⟩ := hQ27
  have N27 := Fr.app N26 N27q
  obtain ⟨c_104, A_104, q_104, S_104, N_104, H_104, G_104⟩ := V_b14_6
  have hin104 : ¬ ((3 : Int32) < 0 ∨ c_104.slots.size ≤ ((3 : Int32)).toNatClampNeg) := inb_of S_104 ⟨by decide, by decide⟩
  have hat104 : c_104.slots[((3 : Int32)).toNatClampNeg]? = some (.ref w_INTENTION_EXCLUSIVE) := H_104 _ (Nat.lt_of_not_le fun q => hin104 (Or.inr q))
  obtain ⟨fs, hr, hrun, hended, hW, hsame⟩ := X27.leave (v := some (.int (1 : Int32))) (fun h => by rw [Bd.returns] at h; cases h)
  refine ⟨_, _, pre0 _ ?_, hrun, hended, _, _, rfl, ?_, ⟨_, rfl⟩, hW, hsame.mono (by decide) (by decide)⟩
  · show Steps p.tables e below (s₁.setTop (mkF m 0 #[.val (.int p0_), .unset, .unset, .unset, .unset] [])) _
    refine XS.iloadN X0.here hx rfl (hb hby at_0) rfl ?_
    show Steps p.tables e below (s₁.setTop (mkF m 1 #[.val (.int p0_), .unset, .unset, .unset, .unset] [(.int p0_)])) _
    refine X0.ldcInt hx hown (mvT hZ (hw _ (List.mem_of_getElem? (i := 0) rfl))) (g := (mkF m 1 #[.val (.int p0_), .unset, .unset, .unset, .unset] [(.int p0_)])) rfl (hb hby at_1) _ ?_
    show Steps p.tables e below (s₁.setTop (mkF m 3 #[.val (.int p0_), .unset, .unset, .unset, .unset] [(.int (2147483647 : Int32)), (.int p0_)])) _
    refine XS.iand X0.here hx rfl (hb hby at_3) rfl ?_
    show Steps p.tables e below (s₁.setTop (mkF m 4 #[.val (.int p0_), .unset, .unset, .unset, .unset] [(.int (p0_ &&& (2147483647 : Int32)))])) _
    refine XS.bipush X0.here hx rfl (hb hby at_4) ?_
    show Steps p.tables e below (s₁.setTop (mkF m 6 #[.val (.int p0_), .unset, .unset, .unset, .unset] [(.int (6 : Int32)), (.int (p0_ &&& (2147483647 : Int32)))])) _
    refine iremM X0 hx rfl (hb hby at_6) rfl (by decide) ?_
    show Steps p.tables e below (s₁.setTop (mkF m 7 #[.val (.int p0_), .unset, .unset, .unset, .unset] [(.int ((p0_ &&& (2147483647 : Int32)) % (6 : Int32)))])) _
    rw [hf0]
    show Steps p.tables e below (s₁.setTop (mkF m 7 #[.val (.int p0_), .unset, .unset, .unset, .unset] [(.int (3 : Int32))])) _
    refine XS.istoreN X0.here hx rfl (hb hby at_7) rfl (l' := #[.val (.int p0_), .val (.int (3 : Int32)), .unset, .unset, .unset]) rfl ?_
    show Steps p.tables e below (s₁.setTop (mkF m 8 #[.val (.int p0_), .val (.int (3 : Int32)), .unset, .unset, .unset] [])) _
    refine XS.bipush X0.here hx rfl (hb hby at_8) ?_
    show Steps p.tables e below (s₁.setTop (mkF m 10 #[.val (.int p0_), .val (.int (3 : Int32)), .unset, .unset, .unset] [(.int (6 : Int32))])) _
    refine st1 _ ?_
    show Steps p.tables e below (T1.setTop (mkF m 13 #[.val (.int p0_), .val (.int (3 : Int32)), .unset, .unset, .unset] [(.ref b1)])) _
    refine XS.dup X1.here hx rfl (hb hby at_13) rfl rfl ?_
    show Steps p.tables e below (T1.setTop (mkF m 14 #[.val (.int p0_), .val (.int (3 : Int32)), .unset, .unset, .unset] [(.ref b1), (.ref b1)])) _
    refine XS.iconst X1.here hx rfl (hb hby at_14) ?_
    show Steps p.tables e below (T1.setTop (mkF m 15 #[.val (.int p0_), .val (.int (3 : Int32)), .unset, .unset, .unset] [(.int (0 : Int32)), (.ref b1), (.ref b1)])) _
    refine st2 _ ?_
    show Steps p.tables e below (T2.setTop (mkF m 18 #[.val (.int p0_), .val (.int (3 : Int32)), .unset, .unset, .unset] [(.ref w_INTENTION_SHARED), (.int (0 : Int32)), (.ref b1), (.ref b1)])) _
    refine st3 _ ?_
    show Steps p.tables e below (T3.setTop (mkF m 19 #[.val (.int p0_), .val (.int (3 : Int32)), .unset, .unset, .unset] [(.ref b1)])) _
    refine XS.dup X3.here hx rfl (hb hby at_19) rfl rfl ?_
    show Steps p.tables e below (T3.setTop (mkF m 20 #[.val (.int p0_), .val (.int (3 : Int32)), .unset, .unset, .unset] [(.ref b1), (.ref b1)])) _
    refine XS.iconst X3.here hx rfl (hb hby at_20) ?_
    show Steps p.tables e below (T3.setTop (mkF m 21 #[.val (.int p0_), .val (.int (3 : Int32)), .unset, .unset, .unset] [(.int (1 : Int32)), (.ref b1), (.ref b1)])) _
    refine st4 _ ?_
    show Steps p.tables e below (T4.setTop (mkF m 24 #[.val (.int p0_), .val (.int (3 : Int32)), .unset, .unset, .unset] [(.ref w_INTENTION_EXCLUSIVE), (.int (1 : Int32)), (.ref b1), (.ref b1)])) _
    refine st5 _ ?_
    show Steps p.tables e below (T5.setTop (mkF m 25 #[.val (.int p0_), .val (.int (3 : Int32)), .unset, .unset, .unset] [(.ref b1)])) _
    refine XS.dup X5.here hx rfl (hb hby at_25) rfl rfl ?_
    show Steps p.tables e below (T5.setTop (mkF m 26 #[.val (.int p0_), .val (.int (3 : Int32)), .unset, .unset, .unset] [(.ref b1), (.ref b1)])) _
    refine XS.iconst X5.here hx rfl (hb hby at_26) ?_
    show Steps p.tables e below (T5.setTop (mkF m 27 #[.val (.int p0_), .val (.int (3 : Int32)), .unset, .unset, .unset] [(.int (2 : Int32)), (.ref b1), (.ref b1)])) _
    refine st6 _ ?_
    show Steps p.tables e below (T6.setTop (mkF m 30 #[.val (.int p0_), .val (.int (3 : Int32)), .unset, .unset, .unset] [(.ref w_SHARED), (.int (2 : Int32)), (.ref b1), (.ref b1)])) _
    refine st7 _ ?_
    show Steps p.tables e below (T7.setTop (mkF m 31 #[.val (.int p0_), .val (.int (3 : Int32)), .unset, .unset, .unset] [(.ref b1)])) _
    refine XS.dup X7.here hx rfl (hb hby at_31) rfl rfl ?_
    show Steps p.tables e below (T7.setTop (mkF m 32 #[.val (.int p0_), .val (.int (3 : Int32)), .unset, .unset, .unset] [(.ref b1), (.ref b1)])) _
    refine XS.iconst X7.here hx rfl (hb hby at_32) ?_
    show Steps p.tables e below (T7.setTop (mkF m 33 #[.val (.int p0_), .val (.int (3 : Int32)), .unset, .unset, .unset] [(.int (3 : Int32)), (.ref b1), (.ref b1)])) _
    refine st8 _ ?_
    show Steps p.tables e below (T8.setTop (mkF m 36 #[.val (.int p0_), .val (.int (3 : Int32)), .unset, .unset, .unset] [(.ref w_SHARED_INTENTION_EXCLUSIVE), (.int (3 : Int32)), (.ref b1), (.ref b1)])) _
    refine st9 _ ?_
    show Steps p.tables e below (T9.setTop (mkF m 37 #[.val (.int p0_), .val (.int (3 : Int32)), .unset, .unset, .unset] [(.ref b1)])) _
    refine XS.dup X9.here hx rfl (hb hby at_37) rfl rfl ?_
    show Steps p.tables e below (T9.setTop (mkF m 38 #[.val (.int p0_), .val (.int (3 : Int32)), .unset, .unset, .unset] [(.ref b1), (.ref b1)])) _
    refine XS.iconst X9.here hx rfl (hb hby at_38) ?_
    show Steps p.tables e below (T9.setTop (mkF m 39 #[.val (.int p0_), .val (.int (3 : Int32)), .unset, .unset, .unset] [(.int (4 : Int32)), (.ref b1), (.ref b1)])) _
    refine st10 _ ?_
    show Steps p.tables e below (T10.setTop (mkF m 42 #[.val (.int p0_), .val (.int (3 : Int32)), .unset, .unset, .unset] [(.ref w_WRITE), (.int (4 : Int32)), (.ref b1), (.ref b1)])) _
    refine st11 _ ?_
    show Steps p.tables e below (T11.setTop (mkF m 43 #[.val (.int p0_), .val (.int (3 : Int32)), .unset, .unset, .unset] [(.ref b1)])) _
    refine XS.dup X11.here hx rfl (hb hby at_43) rfl rfl ?_
    show Steps p.tables e below (T11.setTop (mkF m 44 #[.val (.int p0_), .val (.int (3 : Int32)), .unset, .unset, .unset] [(.ref b1), (.ref b1)])) _
    refine XS.iconst X11.here hx rfl (hb hby at_44) ?_
    show Steps p.tables e below (T11.setTop (mkF m 45 #[.val (.int p0_), .val (.int (3 : Int32)), .unset, .unset, .unset] [(.int (5 : Int32)), (.ref b1), (.ref b1)])) _
    refine st12 _ ?_
    show Steps p.tables e below (T12.setTop (mkF m 48 #[.val (.int p0_), .val (.int (3 : Int32)), .unset, .unset, .unset] [(.ref w_EXCLUSIVE), (.int (5 : Int32)), (.ref b1), (.ref b1)])) _
    refine st13 _ ?_
    show Steps p.tables e below (T13.setTop (mkF m 49 #[.val (.int p0_), .val (.int (3 : Int32)), .unset, .unset, .unset] [(.ref b1)])) _
    refine XS.astoreN X13.here hx rfl (hb hby at_49) rfl rfl (l' := #[.val (.int p0_), .val (.int (3 : Int32)), .val (.ref b1), .unset, .unset]) rfl ?_
    show Steps p.tables e below (T13.setTop (mkF m 50 #[.val (.int p0_), .val (.int (3 : Int32)), .val (.ref b1), .unset, .unset] [])) _
    refine XS.bipush X13.here hx rfl (hb hby at_50) ?_
    show Steps p.tables e below (T13.setTop (mkF m 52 #[.val (.int p0_), .val (.int (3 : Int32)), .val (.ref b1), .unset, .unset] [(.int (6 : Int32))])) _
    refine st14 _ ?_
    show Steps p.tables e below (T14.setTop (mkF m 55 #[.val (.int p0_), .val (.int (3 : Int32)), .val (.ref b1), .unset, .unset] [(.ref b14)])) _
    refine XS.dup X14.here hx rfl (hb hby at_55) rfl rfl ?_
    show Steps p.tables e below (T14.setTop (mkF m 56 #[.val (.int p0_), .val (.int (3 : Int32)), .val (.ref b1), .unset, .unset] [(.ref b14), (.ref b14)])) _
    refine XS.iconst X14.here hx rfl (hb hby at_56) ?_
    show Steps p.tables e below (T14.setTop (mkF m 57 #[.val (.int p0_), .val (.int (3 : Int32)), .val (.ref b1), .unset, .unset] [(.int (0 : Int32)), (.ref b14), (.ref b14)])) _
    refine st15 _ ?_
    show Steps p.tables e below (T15.setTop (mkF m 60 #[.val (.int p0_), .val (.int (3 : Int32)), .val (.ref b1), .unset, .unset] [(.ref w_INTENTION_SHARED), (.int (0 : Int32)), (.ref b14), (.ref b14)])) _
    refine st16 _ ?_
    show Steps p.tables e below (T16.setTop (mkF m 61 #[.val (.int p0_), .val (.int (3 : Int32)), .val (.ref b1), .unset, .unset] [(.ref b14)])) _
    refine XS.dup X16.here hx rfl (hb hby at_61) rfl rfl ?_
    show Steps p.tables e below (T16.setTop (mkF m 62 #[.val (.int p0_), .val (.int (3 : Int32)), .val (.ref b1), .unset, .unset] [(.ref b14), (.ref b14)])) _
    refine XS.iconst X16.here hx rfl (hb hby at_62) ?_
    show Steps p.tables e below (T16.setTop (mkF m 63 #[.val (.int p0_), .val (.int (3 : Int32)), .val (.ref b1), .unset, .unset] [(.int (1 : Int32)), (.ref b14), (.ref b14)])) _
    refine st17 _ ?_
    show Steps p.tables e below (T17.setTop (mkF m 66 #[.val (.int p0_), .val (.int (3 : Int32)), .val (.ref b1), .unset, .unset] [(.ref w_INTENTION_EXCLUSIVE), (.int (1 : Int32)), (.ref b14), (.ref b14)])) _
    refine st18 _ ?_
    show Steps p.tables e below (T18.setTop (mkF m 67 #[.val (.int p0_), .val (.int (3 : Int32)), .val (.ref b1), .unset, .unset] [(.ref b14)])) _
    refine XS.dup X18.here hx rfl (hb hby at_67) rfl rfl ?_
    show Steps p.tables e below (T18.setTop (mkF m 68 #[.val (.int p0_), .val (.int (3 : Int32)), .val (.ref b1), .unset, .unset] [(.ref b14), (.ref b14)])) _
    refine XS.iconst X18.here hx rfl (hb hby at_68) ?_
    show Steps p.tables e below (T18.setTop (mkF m 69 #[.val (.int p0_), .val (.int (3 : Int32)), .val (.ref b1), .unset, .unset] [(.int (2 : Int32)), (.ref b14), (.ref b14)])) _
    refine st19 _ ?_
    show Steps p.tables e below (T19.setTop (mkF m 72 #[.val (.int p0_), .val (.int (3 : Int32)), .val (.ref b1), .unset, .unset] [(.ref w_INTENTION_SHARED), (.int (2 : Int32)), (.ref b14), (.ref b14)])) _
    refine st20 _ ?_
    show Steps p.tables e below (T20.setTop (mkF m 73 #[.val (.int p0_), .val (.int (3 : Int32)), .val (.ref b1), .unset, .unset] [(.ref b14)])) _
    refine XS.dup X20.here hx rfl (hb hby at_73) rfl rfl ?_
    show Steps p.tables e below (T20.setTop (mkF m 74 #[.val (.int p0_), .val (.int (3 : Int32)), .val (.ref b1), .unset, .unset] [(.ref b14), (.ref b14)])) _
    refine XS.iconst X20.here hx rfl (hb hby at_74) ?_
    show Steps p.tables e below (T20.setTop (mkF m 75 #[.val (.int p0_), .val (.int (3 : Int32)), .val (.ref b1), .unset, .unset] [(.int (3 : Int32)), (.ref b14), (.ref b14)])) _
    refine st21 _ ?_
    show Steps p.tables e below (T21.setTop (mkF m 78 #[.val (.int p0_), .val (.int (3 : Int32)), .val (.ref b1), .unset, .unset] [(.ref w_INTENTION_EXCLUSIVE), (.int (3 : Int32)), (.ref b14), (.ref b14)])) _
    refine st22 _ ?_
    show Steps p.tables e below (T22.setTop (mkF m 79 #[.val (.int p0_), .val (.int (3 : Int32)), .val (.ref b1), .unset, .unset] [(.ref b14)])) _
    refine XS.dup X22.here hx rfl (hb hby at_79) rfl rfl ?_
    show Steps p.tables e below (T22.setTop (mkF m 80 #[.val (.int p0_), .val (.int (3 : Int32)), .val (.ref b1), .unset, .unset] [(.ref b14), (.ref b14)])) _
    refine XS.iconst X22.here hx rfl (hb hby at_80) ?_
    show Steps p.tables e below (T22.setTop (mkF m 81 #[.val (.int p0_), .val (.int (3 : Int32)), .val (.ref b1), .unset, .unset] [(.int (4 : Int32)), (.ref b14), (.ref b14)])) _
    refine st23 _ ?_
    show Steps p.tables e below (T23.setTop (mkF m 84 #[.val (.int p0_), .val (.int (3 : Int32)), .val (.ref b1), .unset, .unset] [(.ref w_INTENTION_EXCLUSIVE), (.int (4 : Int32)), (.ref b14), (.ref b14)])) _
    refine st24 _ ?_
    show Steps p.tables e below (T24.setTop (mkF m 85 #[.val (.int p0_), .val (.int (3 : Int32)), .val (.ref b1), .unset, .unset] [(.ref b14)])) _
    refine XS.dup X24.here hx rfl (hb hby at_85) rfl rfl ?_
    show Steps p.tables e below (T24.setTop (mkF m 86 #[.val (.int p0_), .val (.int (3 : Int32)), .val (.ref b1), .unset, .unset] [(.ref b14), (.ref b14)])) _
    refine XS.iconst X24.here hx rfl (hb hby at_86) ?_
    show Steps p.tables e below (T24.setTop (mkF m 87 #[.val (.int p0_), .val (.int (3 : Int32)), .val (.ref b1), .unset, .unset] [(.int (5 : Int32)), (.ref b14), (.ref b14)])) _
    refine st25 _ ?_
    show Steps p.tables e below (T25.setTop (mkF m 90 #[.val (.int p0_), .val (.int (3 : Int32)), .val (.ref b1), .unset, .unset] [(.ref w_INTENTION_EXCLUSIVE), (.int (5 : Int32)), (.ref b14), (.ref b14)])) _
    refine st26 _ ?_
    show Steps p.tables e below (T26.setTop (mkF m 91 #[.val (.int p0_), .val (.int (3 : Int32)), .val (.ref b1), .unset, .unset] [(.ref b14)])) _
    refine XS.astoreN X26.here hx rfl (hb hby at_91) rfl rfl (l' := #[.val (.int p0_), .val (.int (3 : Int32)), .val (.ref b1), .val (.ref b14), .unset]) rfl ?_
    show Steps p.tables e below (T26.setTop (mkF m 92 #[.val (.int p0_), .val (.int (3 : Int32)), .val (.ref b1), .val (.ref b14), .unset] [])) _
    refine XS.aloadN X26.here hx rfl (hb hby at_92) rfl rfl ?_
    show Steps p.tables e below (T26.setTop (mkF m 93 #[.val (.int p0_), .val (.int (3 : Int32)), .val (.ref b1), .val (.ref b14), .unset] [(.ref b1)])) _
    refine XS.iloadN X26.here hx rfl (hb hby at_93) rfl ?_
    show Steps p.tables e below (T26.setTop (mkF m 94 #[.val (.int p0_), .val (.int (3 : Int32)), .val (.ref b1), .val (.ref b14), .unset] [(.int (3 : Int32)), (.ref b1)])) _
    refine X26.aaload hx (j := (3 : Int32)) (v := (.ref w_SHARED_INTENTION_EXCLUSIVE)) (by rw [e26]; exact A_94.1) (State.isArrayOf_alike hZ.alike A_94.2.1) rfl A_94.2.2 hin94 hat94 (g := (mkF m 94 #[.val (.int p0_), .val (.int (3 : Int32)), .val (.ref b1), .val (.ref b14), .unset] [(.int (3 : Int32)), (.ref b1)])) rfl rfl (hb hby at_94) _ ?_
    show Steps p.tables e below (T26.setTop (mkF m 95 #[.val (.int p0_), .val (.int (3 : Int32)), .val (.ref b1), .val (.ref b14), .unset] [(.ref w_SHARED_INTENTION_EXCLUSIVE)])) _
    refine st27.trans ?_
    show Steps p.tables e below (T27.setTop (mkF m 98 #[.val (.int p0_), .val (.int (3 : Int32)), .val (.ref b1), .val (.ref b14), .unset] [(.ref w_INTENTION_EXCLUSIVE)])) _
    refine XS.astore X27.here hx rfl (hb hby at_98) rfl rfl (l' := #[.val (.int p0_), .val (.int (3 : Int32)), .val (.ref b1), .val (.ref b14), .val (.ref w_INTENTION_EXCLUSIVE)]) rfl ?_
    show Steps p.tables e below (T27.setTop (mkF m 100 #[.val (.int p0_), .val (.int (3 : Int32)), .val (.ref b1), .val (.ref b14), .val (.ref w_INTENTION_EXCLUSIVE)] [])) _
    refine XS.aload X27.here hx rfl (hb hby at_100) rfl rfl ?_
    show Steps p.tables e below (T27.setTop (mkF m 102 #[.val (.int p0_), .val (.int (3 : Int32)), .val (.ref b1), .val (.ref b14), .val (.ref w_INTENTION_EXCLUSIVE)] [(.ref w_INTENTION_EXCLUSIVE)])) _
    refine XS.aloadN X27.here hx rfl (hb hby at_102) rfl rfl ?_
    show Steps p.tables e below (T27.setTop (mkF m 103 #[.val (.int p0_), .val (.int (3 : Int32)), .val (.ref b1), .val (.ref b14), .val (.ref w_INTENTION_EXCLUSIVE)] [(.ref b14), (.ref w_INTENTION_EXCLUSIVE)])) _
    refine XS.iloadN X27.here hx rfl (hb hby at_103) rfl ?_
    show Steps p.tables e below (T27.setTop (mkF m 104 #[.val (.int p0_), .val (.int (3 : Int32)), .val (.ref b1), .val (.ref b14), .val (.ref w_INTENTION_EXCLUSIVE)] [(.int (3 : Int32)), (.ref b14), (.ref w_INTENTION_EXCLUSIVE)])) _
    refine X27.aaload hx (j := (3 : Int32)) (v := (.ref w_INTENTION_EXCLUSIVE)) (by rw [e27]; exact A_104.1) (State.isArrayOf_alike hZ.alike A_104.2.1) rfl A_104.2.2 hin104 hat104 (g := (mkF m 104 #[.val (.int p0_), .val (.int (3 : Int32)), .val (.ref b1), .val (.ref b14), .val (.ref w_INTENTION_EXCLUSIVE)] [(.int (3 : Int32)), (.ref b14), (.ref w_INTENTION_EXCLUSIVE)])) rfl rfl (hb hby at_104) _ ?_
    show Steps p.tables e below (T27.setTop (mkF m 105 #[.val (.int p0_), .val (.int (3 : Int32)), .val (.ref b1), .val (.ref b14), .val (.ref w_INTENTION_EXCLUSIVE)] [(.ref w_INTENTION_EXCLUSIVE), (.ref w_INTENTION_EXCLUSIVE)])) _
    refine Jvm.RoadKit.acmp (g := (mkF m 105 #[.val (.int p0_), .val (.int (3 : Int32)), .val (.ref b1), .val (.ref b14), .val (.ref w_INTENTION_EXCLUSIVE)] [(.ref w_INTENTION_EXCLUSIVE), (.ref w_INTENTION_EXCLUSIVE)])) X27 hx rfl rfl rfl (pc0 := 105) (pc' := 108) (same := true) rfl (hb hby at_105) rfl (decide_eq_true rfl) (by decide) (by decide) ?_
    show Steps p.tables e below (T27.setTop (mkF m 108 #[.val (.int p0_), .val (.int (3 : Int32)), .val (.ref b1), .val (.ref b14), .val (.ref w_INTENTION_EXCLUSIVE)] [])) _
    refine XS.iconst X27.here hx rfl (hb hby at_108) ?_
    show Steps p.tables e below (T27.setTop (mkF m 109 #[.val (.int p0_), .val (.int (3 : Int32)), .val (.ref b1), .val (.ref b14), .val (.ref w_INTENTION_EXCLUSIVE)] [(.int (1 : Int32))])) _
    refine XS.goto X27.here hx rfl (pc0 := 109) (pc' := 113) rfl (hb hby at_109) (by decide) (by decide) ?_
    show Steps p.tables e below (T27.setTop (mkF m 113 #[.val (.int p0_), .val (.int (3 : Int32)), .val (.ref b1), .val (.ref b14), .val (.ref w_INTENTION_EXCLUSIVE)] [(.int (1 : Int32))])) _
    exact retN X27 hx (t := .boolean) Bd.returns (by simp) (hb hby at_113) hr
  · show own_QL n0 _ T27.heap _
    exact ⟨rfl, N27⟩
set_option maxRecDepth 65536 in
set_option maxHeartbeats 40000000 in
theorem own_law4 (l : Launch) (Z : State) (a0 : Array Value) (hw : ∀ d ∈ tables_1, d.before a0 Z = true) (ws : List Jvm.Cond) (p0_ : Int32) (w_INTENTION_SHARED : Addr) (w_INTENTION_EXCLUSIVE : Addr) (w_SHARED : Addr) (w_SHARED_INTENTION_EXCLUSIVE : Addr) (w_WRITE : Addr) (w_EXCLUSIVE : Addr) (h0 : Heap) (n0 : Nat) (Z0 : n0 ≤ h0.size) (S_INTENTION_SHARED : Sta Z h0 "com/example/palimpsest/palimpsest/tx/LockMode" "INTENTION_SHARED" "Lcom/example/palimpsest/palimpsest/tx/LockMode;" (.ref w_INTENTION_SHARED)) (E_w_INTENTION_SHARED : Exa Z h0 w_INTENTION_SHARED "com/example/palimpsest/palimpsest/tx/LockMode") (S_INTENTION_EXCLUSIVE : Sta Z h0 "com/example/palimpsest/palimpsest/tx/LockMode" "INTENTION_EXCLUSIVE" "Lcom/example/palimpsest/palimpsest/tx/LockMode;" (.ref w_INTENTION_EXCLUSIVE)) (E_w_INTENTION_EXCLUSIVE : Exa Z h0 w_INTENTION_EXCLUSIVE "com/example/palimpsest/palimpsest/tx/LockMode") (S_SHARED : Sta Z h0 "com/example/palimpsest/palimpsest/tx/LockMode" "SHARED" "Lcom/example/palimpsest/palimpsest/tx/LockMode;" (.ref w_SHARED)) (E_w_SHARED : Exa Z h0 w_SHARED "com/example/palimpsest/palimpsest/tx/LockMode") (S_SHARED_INTENTION_EXCLUSIVE : Sta Z h0 "com/example/palimpsest/palimpsest/tx/LockMode" "SHARED_INTENTION_EXCLUSIVE" "Lcom/example/palimpsest/palimpsest/tx/LockMode;" (.ref w_SHARED_INTENTION_EXCLUSIVE)) (E_w_SHARED_INTENTION_EXCLUSIVE : Exa Z h0 w_SHARED_INTENTION_EXCLUSIVE "com/example/palimpsest/palimpsest/tx/LockMode") (S_WRITE : Sta Z h0 "com/example/palimpsest/palimpsest/tx/LockMode" "WRITE" "Lcom/example/palimpsest/palimpsest/tx/LockMode;" (.ref w_WRITE)) (E_w_WRITE : Exa Z h0 w_WRITE "com/example/palimpsest/palimpsest/tx/LockMode") (S_EXCLUSIVE : Sta Z h0 "com/example/palimpsest/palimpsest/tx/LockMode" "EXCLUSIVE" "Lcom/example/palimpsest/palimpsest/tx/LockMode;" (.ref w_EXCLUSIVE)) (E_w_EXCLUSIVE : Exa Z h0 w_EXCLUSIVE "com/example/palimpsest/palimpsest/tx/LockMode") (hf0 : ((p0_ &&& (2147483647 : Int32)) % (6 : Int32)) = (4 : Int32)) (hf1 : ¬ (w_WRITE = w_SHARED)) (hf2 : ¬ (w_WRITE = w_INTENTION_SHARED)) :
    MetFree l x (head1 (Jvm.Cond.code x code maxLocals ret :: ws) room_1) (fun a U => a = #[(.int p0_)] ∧ Z.Warmed39 U.vm ∧ U.heap = h0) (fun _ _ _ _ _ => True) (fun _ U o U' => ∃ v L, o = .returned v ∧ own_QL n0 v U'.heap L ∧ FrameEnd U o U' L room_1.cells room_1.slots) := by
  refine MetFree.of_bodySF (plainFor_of_name own_pn1) hisR ?_
  intro p e s m args below meth c s₁ Bd hml0 hP hK
  obtain ⟨rfl, hZ, hh⟩ := hP
  have hx := Bd.exec
  have hby := Bd.bytes
  have hml : c.maxLocals = 5 := hml0
  have hown : s.vm.findClass "com/example/palimpsest/palimpsest/tx/LockModeIntentionPinLaw" = some m.cls := findClass_of_methodNamed Bd.named
  have hnm := (name_of_methodNamed Bd.named Bd.method).1
  have X0 : Stand p l e room_1 s m #[(.int p0_)] below meth c s₁ [] 0 0 := Stand.of_body Bd
  have e0 : s₁.heap = h0 := by rw [← hh, Bd.state]; rfl
  have N0 := Fr.nil n0
  have pre0 : ∀ t, Steps p.tables e below (s₁.setTop (mkF m 0 #[.val (.int p0_), .unset, .unset, .unset, .unset] [])) t → Steps p.tables e below (s₁.setTop (entryFrame m #[(.int p0_)] maxLocals)) t := fun t k => castTop (own_ef1 m p0_) k
  obtain ⟨T1, h1, k1, X1, e1, E1, A1, O1, st1⟩ := newR X0 hx hZ hown (hw _ (List.mem_of_getElem? (i := 1) rfl)) (hw _ (List.mem_of_getElem? (i := 2) rfl)) e0 (g := (mkF m 10 #[.val (.int p0_), .val (.int (4 : Int32)), .unset, .unset, .unset] [(.int (6 : Int32))])) rfl (hb hby at_10) rfl (by decide) (cap := 6) (by decide) (by decide) (by decide) (by decide)
  obtain ⟨b1, g1⟩ : ∃ z, z = h0.size := ⟨_, rfl⟩
  rw [← g1] at A1 st1
  have V_b1_0 : Arv Z h1 b1 k1 (.object "com/example/palimpsest/palimpsest/tx/LockMode") (6 : Int32) [.null, .null, .null, .null, .null, .null] .null := (Arv.new A1 (by decide)).pad (pad_rep [] .null 6)
  have sz_b1 : h0.size ≤ b1 := Nat.le_trans (Keep.refl h0 []).1 (Nat.le_of_eq g1.symm)
  have g_b1 : n0 ≤ b1 := Nat.le_trans Z0 sz_b1
  have K1 : Keep h0 h1 [] := (Keep.refl h0 []).ext E1
  obtain ⟨T2, X2, e2, st2⟩ := getS2 X1 hx hZ hown (host := "") (Or.inl (hw _ (List.mem_of_getElem? (i := 3) rfl))) Via.refl e1 (S_INTENTION_SHARED.ext (own_ext K1)) (g := (mkF m 15 #[.val (.int p0_), .val (.int (4 : Int32)), .unset, .unset, .unset] [(.int (0 : Int32)), (.ref b1), (.ref b1)])) rfl (hb hby at_15)
  obtain ⟨c_18, A_18, q_18, S_18, N_18, H_18, G_18⟩ := V_b1_0
  have hin18 : ¬ ((0 : Int32) < 0 ∨ c_18.slots.size ≤ ((0 : Int32)).toNatClampNeg) := inb_of S_18 ⟨by decide, by decide⟩
  have Sto18 : Sto Z h1 b1 (.ref w_INTENTION_SHARED) := Sto.of A_18 (by rw [q_18]; exact O1) (Ins.self (E_w_INTENTION_SHARED.ext (own_ext K1)))
  obtain ⟨T3, h3, X3, e3, W3, st3⟩ := stR X2 hx hZ e2 A_18 (j := (0 : Int32)) hin18 rfl Sto18 (g := (mkF m 18 #[.val (.int p0_), .val (.int (4 : Int32)), .unset, .unset, .unset] [(.ref w_INTENTION_SHARED), (.int (0 : Int32)), (.ref b1), (.ref b1)])) rfl rfl (hb hby at_18)
  have V_b1_1 : Arv Z h3 b1 k1 (.object "com/example/palimpsest/palimpsest/tx/LockMode") (6 : Int32) [(.ref w_INTENTION_SHARED), .null, .null, .null, .null, .null] .null := Arv.set A_18 q_18 S_18 N_18 H_18 G_18 rfl W3 0 rfl (Nat.le_of_ble_eq_true rfl)
  have K3 : Keep h0 h3 [] := K1.wr W3 (Or.inr sz_b1)
  have N3 := Fr.snoc X3 N0 g_b1
  obtain ⟨T4, X4, e4, st4⟩ := getS2 X3 hx hZ hown (host := "") (Or.inl (hw _ (List.mem_of_getElem? (i := 7) rfl))) Via.refl e3 (S_INTENTION_EXCLUSIVE.ext (own_ext K3)) (g := (mkF m 21 #[.val (.int p0_), .val (.int (4 : Int32)), .unset, .unset, .unset] [(.int (1 : Int32)), (.ref b1), (.ref b1)])) rfl (hb hby at_21)
  obtain ⟨c_24, A_24, q_24, S_24, N_24, H_24, G_24⟩ := V_b1_1
  have hin24 : ¬ ((1 : Int32) < 0 ∨ c_24.slots.size ≤ ((1 : Int32)).toNatClampNeg) := inb_of S_24 ⟨by decide, by decide⟩
  have Sto24 : Sto Z h3 b1 (.ref w_INTENTION_EXCLUSIVE) := Sto.of A_24 (by rw [q_24]; exact O1) (Ins.self (E_w_INTENTION_EXCLUSIVE.ext (own_ext K3)))
  obtain ⟨T5, h5, X5, e5, W5, st5⟩ := stR X4 hx hZ e4 A_24 (j := (1 : Int32)) hin24 rfl Sto24 (g := (mkF m 24 #[.val (.int p0_), .val (.int (4 : Int32)), .unset, .unset, .unset] [(.ref w_INTENTION_EXCLUSIVE), (.int (1 : Int32)), (.ref b1), (.ref b1)])) rfl rfl (hb hby at_24)
  have V_b1_2 : Arv Z h5 b1 k1 (.object "com/example/palimpsest/palimpsest/tx/LockMode") (6 : Int32) [(.ref w_INTENTION_SHARED), (.ref w_INTENTION_EXCLUSIVE), .null, .null, .null, .null] .null := Arv.set A_24 q_24 S_24 N_24 H_24 G_24 rfl W5 1 rfl (Nat.le_of_ble_eq_true rfl)
  have K5 : Keep h0 h5 [] := K3.wr W5 (Or.inr sz_b1)
  have N5 := Fr.snoc X5 N3 g_b1
  obtain ⟨T6, X6, e6, st6⟩ := getS2 X5 hx hZ hown (host := "") (Or.inl (hw _ (List.mem_of_getElem? (i := 9) rfl))) Via.refl e5 (S_SHARED.ext (own_ext K5)) (g := (mkF m 27 #[.val (.int p0_), .val (.int (4 : Int32)), .unset, .unset, .unset] [(.int (2 : Int32)), (.ref b1), (.ref b1)])) rfl (hb hby at_27)
  obtain ⟨c_30, A_30, q_30, S_30, N_30, H_30, G_30⟩ := V_b1_2
  have hin30 : ¬ ((2 : Int32) < 0 ∨ c_30.slots.size ≤ ((2 : Int32)).toNatClampNeg) := inb_of S_30 ⟨by decide, by decide⟩
  have Sto30 : Sto Z h5 b1 (.ref w_SHARED) := Sto.of A_30 (by rw [q_30]; exact O1) (Ins.self (E_w_SHARED.ext (own_ext K5)))
  obtain ⟨T7, h7, X7, e7, W7, st7⟩ := stR X6 hx hZ e6 A_30 (j := (2 : Int32)) hin30 rfl Sto30 (g := (mkF m 30 #[.val (.int p0_), .val (.int (4 : Int32)), .unset, .unset, .unset] [(.ref w_SHARED), (.int (2 : Int32)), (.ref b1), (.ref b1)])) rfl rfl (hb hby at_30)
  have V_b1_3 : Arv Z h7 b1 k1 (.object "com/example/palimpsest/palimpsest/tx/LockMode") (6 : Int32) [(.ref w_INTENTION_SHARED), (.ref w_INTENTION_EXCLUSIVE), (.ref w_SHARED), .null, .null, .null] .null := Arv.set A_30 q_30 S_30 N_30 H_30 G_30 rfl W7 2 rfl (Nat.le_of_ble_eq_true rfl)
  have K7 : Keep h0 h7 [] := K5.wr W7 (Or.inr sz_b1)
  have N7 := Fr.snoc X7 N5 g_b1
  obtain ⟨T8, X8, e8, st8⟩ := getS2 X7 hx hZ hown (host := "") (Or.inl (hw _ (List.mem_of_getElem? (i := 11) rfl))) Via.refl e7 (S_SHARED_INTENTION_EXCLUSIVE.ext (own_ext K7)) (g := (mkF m 33 #[.val (.int p0_), .val (.int (4 : Int32)), .unset, .unset, .unset] [(.int (3 : Int32)), (.ref b1), (.ref b1)])) rfl (hb hby at_33)
  obtain ⟨c_36, A_36, q_36, S_36, N_36, H_36, G_36⟩ := V_b1_3
  have hin36 : ¬ ((3 : Int32) < 0 ∨ c_36.slots.size ≤ ((3 : Int32)).toNatClampNeg) := inb_of S_36 ⟨by decide, by decide⟩
  have Sto36 : Sto Z h7 b1 (.ref w_SHARED_INTENTION_EXCLUSIVE) := Sto.of A_36 (by rw [q_36]; exact O1) (Ins.self (E_w_SHARED_INTENTION_EXCLUSIVE.ext (own_ext K7)))
  obtain ⟨T9, h9, X9, e9, W9, st9⟩ := stR X8 hx hZ e8 A_36 (j := (3 : Int32)) hin36 rfl Sto36 (g := (mkF m 36 #[.val (.int p0_), .val (.int (4 : Int32)), .unset, .unset, .unset] [(.ref w_SHARED_INTENTION_EXCLUSIVE), (.int (3 : Int32)), (.ref b1), (.ref b1)])) rfl rfl (hb hby at_36)
  have V_b1_4 : Arv Z h9 b1 k1 (.object "com/example/palimpsest/palimpsest/tx/LockMode") (6 : Int32) [(.ref w_INTENTION_SHARED), (.ref w_INTENTION_EXCLUSIVE), (.ref w_SHARED), (.ref w_SHARED_INTENTION_EXCLUSIVE), .null, .null] .null := Arv.set A_36 q_36 S_36 N_36 H_36 G_36 rfl W9 3 rfl (Nat.le_of_ble_eq_true rfl)
  have K9 : Keep h0 h9 [] := K7.wr W9 (Or.inr sz_b1)
  have N9 := Fr.snoc X9 N7 g_b1
  obtain ⟨T10, X10, e10, st10⟩ := getS2 X9 hx hZ hown (host := "") (Or.inl (hw _ (List.mem_of_getElem? (i := 13) rfl))) Via.refl e9 (S_WRITE.ext (own_ext K9)) (g := (mkF m 39 #[.val (.int p0_), .val (.int (4 : Int32)), .unset, .unset, .unset] [(.int (4 : Int32)), (.ref b1), (.ref b1)])) rfl (hb hby at_39)
  obtain ⟨c_42, A_42, q_42, S_42, N_42, H_42, G_42⟩ := V_b1_4
  have hin42 : ¬ ((4 : Int32) < 0 ∨ c_42.slots.size ≤ ((4 : Int32)).toNatClampNeg) := inb_of S_42 ⟨by decide, by decide⟩
  have Sto42 : Sto Z h9 b1 (.ref w_WRITE) := Sto.of A_42 (by rw [q_42]; exact O1) (Ins.self (E_w_WRITE.ext (own_ext K9)))
  obtain ⟨T11, h11, X11, e11, W11, st11⟩ := stR X10 hx hZ e10 A_42 (j := (4 : Int32)) hin42 rfl Sto42 (g := (mkF m 42 #[.val (.int p0_), .val (.int (4 : Int32)), .unset, .unset, .unset] [(.ref w_WRITE), (.int (4 : Int32)), (.ref b1), (.ref b1)])) rfl rfl (hb hby at_42)
  have V_b1_5 : Arv Z h11 b1 k1 (.object "com/example/palimpsest/palimpsest/tx/LockMode") (6 : Int32) [(.ref w_INTENTION_SHARED), (.ref w_INTENTION_EXCLUSIVE), (.ref w_SHARED), (.ref w_SHARED_INTENTION_EXCLUSIVE), (.ref w_WRITE), .null] .null := Arv.set A_42 q_42 S_42 N_42 H_42 G_42 rfl W11 4 rfl (Nat.le_of_ble_eq_true rfl)
  have K11 : Keep h0 h11 [] := K9.wr W11 (Or.inr sz_b1)
  have N11 := Fr.snoc X11 N9 g_b1
  obtain ⟨T12, X12, e12, st12⟩ := getS2 X11 hx hZ hown (host := "") (Or.inl (hw _ (List.mem_of_getElem? (i := 15) rfl))) Via.refl e11 (S_EXCLUSIVE.ext (own_ext K11)) (g := (mkF m 45 #[.val (.int p0_), .val (.int (4 : Int32)), .unset, .unset, .unset] [(.int (5 : Int32)), (.ref b1), (.ref b1)])) rfl (hb hby at_45)
  obtain ⟨c_48, A_48, q_48, S_48, N_48, H_48, G_48⟩ := V_b1_5
  have hin48 : ¬ ((5 : Int32) < 0 ∨ c_48.slots.size ≤ ((5 : Int32)).toNatClampNeg) := inb_of S_48 ⟨by decide, by decide⟩
  have Sto48 : Sto Z h11 b1 (.ref w_EXCLUSIVE) := Sto.of A_48 (by rw [q_48]; exact O1) (Ins.self (E_w_EXCLUSIVE.ext (own_ext K11)))
  obtain ⟨T13, h13, X13, e13, W13, st13⟩ := stR X12 hx hZ e12 A_48 (j := (5 : Int32)) hin48 rfl Sto48 (g := (mkF m 48 #[.val (.int p0_), .val (.int (4 : Int32)), .unset, .unset, .unset] [(.ref w_EXCLUSIVE), (.int (5 : Int32)), (.ref b1), (.ref b1)])) rfl rfl (hb hby at_48)
  have V_b1_6 : Arv Z h13 b1 k1 (.object "com/example/palimpsest/palimpsest/tx/LockMode") (6 : Int32) [(.ref w_INTENTION_SHARED), (.ref w_INTENTION_EXCLUSIVE), (.ref w_SHARED), (.ref w_SHARED_INTENTION_EXCLUSIVE), (.ref w_WRITE), (.ref w_EXCLUSIVE)] .null := Arv.set A_48 q_48 S_48 N_48 H_48 G_48 rfl W13 5 rfl (Nat.le_of_ble_eq_true rfl)
  have K13 : Keep h0 h13 [] := K11.wr W13 (Or.inr sz_b1)
  have N13 := Fr.snoc X13 N11 g_b1
  obtain ⟨T14, h14, k14, X14, e14, E14, A14, O14, st14⟩ := newR X13 hx hZ hown (hw _ (List.mem_of_getElem? (i := 1) rfl)) (hw _ (List.mem_of_getElem? (i := 2) rfl)) e13 (g := (mkF m 52 #[.val (.int p0_), .val (.int (4 : Int32)), .val (.ref b1), .unset, .unset] [(.int (6 : Int32))])) rfl (hb hby at_52) rfl (by decide) (cap := 6) (by decide) (by decide) (by decide) (by decide)
  obtain ⟨b14, g14⟩ : ∃ z, z = h13.size := ⟨_, rfl⟩
  rw [← g14] at A14 st14
  have V_b14_0 : Arv Z h14 b14 k14 (.object "com/example/palimpsest/palimpsest/tx/LockMode") (6 : Int32) [.null, .null, .null, .null, .null, .null] .null := (Arv.new A14 (by decide)).pad (pad_rep [] .null 6)
  have sz_b14 : h0.size ≤ b14 := Nat.le_trans K13.1 (Nat.le_of_eq g14.symm)
  have g_b14 : n0 ≤ b14 := Nat.le_trans Z0 sz_b14
  have K14 : Keep h0 h14 [] := K13.ext E14
  have ne_b1_b14 : b1 ≠ b14 := Nat.ne_of_lt (Nat.lt_of_lt_of_le V_b1_6.lt (Nat.le_of_eq g14.symm))
  have V_b1_7 := V_b1_6.ext E14
  obtain ⟨T15, X15, e15, st15⟩ := getS2 X14 hx hZ hown (host := "") (Or.inl (hw _ (List.mem_of_getElem? (i := 3) rfl))) Via.refl e14 (S_INTENTION_SHARED.ext (own_ext K14)) (g := (mkF m 57 #[.val (.int p0_), .val (.int (4 : Int32)), .val (.ref b1), .unset, .unset] [(.int (0 : Int32)), (.ref b14), (.ref b14)])) rfl (hb hby at_57)
  obtain ⟨c_60, A_60, q_60, S_60, N_60, H_60, G_60⟩ := V_b14_0
  have hin60 : ¬ ((0 : Int32) < 0 ∨ c_60.slots.size ≤ ((0 : Int32)).toNatClampNeg) := inb_of S_60 ⟨by decide, by decide⟩
  have Sto60 : Sto Z h14 b14 (.ref w_INTENTION_SHARED) := Sto.of A_60 (by rw [q_60]; exact O14) (Ins.self (E_w_INTENTION_SHARED.ext (own_ext K14)))
  obtain ⟨T16, h16, X16, e16, W16, st16⟩ := stR X15 hx hZ e15 A_60 (j := (0 : Int32)) hin60 rfl Sto60 (g := (mkF m 60 #[.val (.int p0_), .val (.int (4 : Int32)), .val (.ref b1), .unset, .unset] [(.ref w_INTENTION_SHARED), (.int (0 : Int32)), (.ref b14), (.ref b14)])) rfl rfl (hb hby at_60)
  have V_b14_1 : Arv Z h16 b14 k14 (.object "com/example/palimpsest/palimpsest/tx/LockMode") (6 : Int32) [(.ref w_INTENTION_SHARED), .null, .null, .null, .null, .null] .null := Arv.set A_60 q_60 S_60 N_60 H_60 G_60 rfl W16 0 rfl (Nat.le_of_ble_eq_true rfl)
  have V_b1_8 := V_b1_7.other W16 ne_b1_b14
  have K16 : Keep h0 h16 [] := K14.wr W16 (Or.inr sz_b14)
  have N16 := Fr.snoc X16 N13 g_b14
  obtain ⟨T17, X17, e17, st17⟩ := getS2 X16 hx hZ hown (host := "") (Or.inl (hw _ (List.mem_of_getElem? (i := 7) rfl))) Via.refl e16 (S_INTENTION_EXCLUSIVE.ext (own_ext K16)) (g := (mkF m 63 #[.val (.int p0_), .val (.int (4 : Int32)), .val (.ref b1), .unset, .unset] [(.int (1 : Int32)), (.ref b14), (.ref b14)])) rfl (hb hby at_63)
  obtain ⟨c_66, A_66, q_66, S_66, N_66, H_66, G_66⟩ := V_b14_1
  have hin66 : ¬ ((1 : Int32) < 0 ∨ c_66.slots.size ≤ ((1 : Int32)).toNatClampNeg) := inb_of S_66 ⟨by decide, by decide⟩
  have Sto66 : Sto Z h16 b14 (.ref w_INTENTION_EXCLUSIVE) := Sto.of A_66 (by rw [q_66]; exact O14) (Ins.self (E_w_INTENTION_EXCLUSIVE.ext (own_ext K16)))
  obtain ⟨T18, h18, X18, e18, W18, st18⟩ := stR X17 hx hZ e17 A_66 (j := (1 : Int32)) hin66 rfl Sto66 (g := (mkF m 66 #[.val (.int p0_), .val (.int (4 : Int32)), .val (.ref b1), .unset, .unset] [(.ref w_INTENTION_EXCLUSIVE), (.int (1 : Int32)), (.ref b14), (.ref b14)])) rfl rfl (hb hby at_66)
  have V_b14_2 : Arv Z h18 b14 k14 (.object "com/example/palimpsest/palimpsest/tx/LockMode") (6 : Int32) [(.ref w_INTENTION_SHARED), (.ref w_INTENTION_EXCLUSIVE), .null, .null, .null, .null] .null := Arv.set A_66 q_66 S_66 N_66 H_66 G_66 rfl W18 1 rfl (Nat.le_of_ble_eq_true rfl)
  have V_b1_9 := V_b1_8.other W18 ne_b1_b14
  have K18 : Keep h0 h18 [] := K16.wr W18 (Or.inr sz_b14)
  have N18 := Fr.snoc X18 N16 g_b14
  obtain ⟨T19, X19, e19, st19⟩ := getS2 X18 hx hZ hown (host := "") (Or.inl (hw _ (List.mem_of_getElem? (i := 3) rfl))) Via.refl e18 (S_INTENTION_SHARED.ext (own_ext K18)) (g := (mkF m 69 #[.val (.int p0_), .val (.int (4 : Int32)), .val (.ref b1), .unset, .unset] [(.int (2 : Int32)), (.ref b14), (.ref b14)])) rfl (hb hby at_69)
  obtain ⟨c_72, A_72, q_72, S_72, N_72, H_72, G_72⟩ := V_b14_2
  have hin72 : ¬ ((2 : Int32) < 0 ∨ c_72.slots.size ≤ ((2 : Int32)).toNatClampNeg) := inb_of S_72 ⟨by decide, by decide⟩
  have Sto72 : Sto Z h18 b14 (.ref w_INTENTION_SHARED) := Sto.of A_72 (by rw [q_72]; exact O14) (Ins.self (E_w_INTENTION_SHARED.ext (own_ext K18)))
  obtain ⟨T20, h20, X20, e20, W20, st20⟩ := stR X19 hx hZ e19 A_72 (j := (2 : Int32)) hin72 rfl Sto72 (g := (mkF m 72 #[.val (.int p0_), .val (.int (4 : Int32)), .val (.ref b1), .unset, .unset] [(.ref w_INTENTION_SHARED), (.int (2 : Int32)), (.ref b14), (.ref b14)])) rfl rfl (hb hby at_72)
  have V_b14_3 : Arv Z h20 b14 k14 (.object "com/example/palimpsest/palimpsest/tx/LockMode") (6 : Int32) [(.ref w_INTENTION_SHARED), (.ref w_INTENTION_EXCLUSIVE), (.ref w_INTENTION_SHARED), .null, .null, .null] .null := Arv.set A_72 q_72 S_72 N_72 H_72 G_72 rfl W20 2 rfl (Nat.le_of_ble_eq_true rfl)
  have V_b1_10 := V_b1_9.other W20 ne_b1_b14
  have K20 : Keep h0 h20 [] := K18.wr W20 (Or.inr sz_b14)
  have N20 := Fr.snoc X20 N18 g_b14
  obtain ⟨T21, X21, e21, st21⟩ := getS2 X20 hx hZ hown (host := "") (Or.inl (hw _ (List.mem_of_getElem? (i := 7) rfl))) Via.refl e20 (S_INTENTION_EXCLUSIVE.ext (own_ext K20)) (g := (mkF m 75 #[.val (.int p0_), .val (.int (4 : Int32)), .val (.ref b1), .unset, .unset] [(.int (3 : Int32)), (.ref b14), (.ref b14)])) rfl (hb hby at_75)
  obtain ⟨c_78, A_78, q_78, S_78, N_78, H_78, G_78⟩ := V_b14_3
  have hin78 : ¬ ((3 : Int32) < 0 ∨ c_78.slots.size ≤ ((3 : Int32)).toNatClampNeg) := inb_of S_78 ⟨by decide, by decide⟩
  have Sto78 : Sto Z h20 b14 (.ref w_INTENTION_EXCLUSIVE) := Sto.of A_78 (by rw [q_78]; exact O14) (Ins.self (E_w_INTENTION_EXCLUSIVE.ext (own_ext K20)))
  obtain ⟨T22, h22, X22, e22, W22, st22⟩ := stR X21 hx hZ e21 A_78 (j := (3 : Int32)) hin78 rfl Sto78 (g := (mkF m 78 #[.val (.int p0_), .val (.int (4 : Int32)), .val (.ref b1), .unset, .unset] [(.ref w_INTENTION_EXCLUSIVE), (.int (3 : Int32)), (.ref b14), (.ref b14)])) rfl rfl (hb hby at_78)
  have V_b14_4 : Arv Z h22 b14 k14 (.object "com/example/palimpsest/palimpsest/tx/LockMode") (6 : Int32) [(.ref w_INTENTION_SHARED), (.ref w_INTENTION_EXCLUSIVE), (.ref w_INTENTION_SHARED), (.ref w_INTENTION_EXCLUSIVE), .null, .null] .null := Arv.set A_78 q_78 S_78 N_78 H_78 G_78 rfl W22 3 rfl (Nat.le_of_ble_eq_true rfl)
  have V_b1_11 := V_b1_10.other W22 ne_b1_b14
  have K22 : Keep h0 h22 [] := K20.wr W22 (Or.inr sz_b14)
  have N22 := Fr.snoc X22 N20 g_b14
  obtain ⟨T23, X23, e23, st23⟩ := getS2 X22 hx hZ hown (host := "") (Or.inl (hw _ (List.mem_of_getElem? (i := 7) rfl))) Via.refl e22 (S_INTENTION_EXCLUSIVE.ext (own_ext K22)) (g := (mkF m 81 #[.val (.int p0_), .val (.int (4 : Int32)), .val (.ref b1), .unset, .unset] [(.int (4 : Int32)), (.ref b14), (.ref b14)])) rfl (hb hby at_81)
  obtain ⟨c_84, A_84, q_84, S_84, N_84, H_84, G_84⟩ := V_b14_4
  have hin84 : ¬ ((4 : Int32) < 0 ∨ c_84.slots.size ≤ ((4 : Int32)).toNatClampNeg) := inb_of S_84 ⟨by decide, by decide⟩
  have Sto84 : Sto Z h22 b14 (.ref w_INTENTION_EXCLUSIVE) := Sto.of A_84 (by rw [q_84]; exact O14) (Ins.self (E_w_INTENTION_EXCLUSIVE.ext (own_ext K22)))
  obtain ⟨T24, h24, X24, e24, W24, st24⟩ := stR X23 hx hZ e23 A_84 (j := (4 : Int32)) hin84 rfl Sto84 (g := (mkF m 84 #[.val (.int p0_), .val (.int (4 : Int32)), .val (.ref b1), .unset, .unset] [(.ref w_INTENTION_EXCLUSIVE), (.int (4 : Int32)), (.ref b14), (.ref b14)])) rfl rfl (hb hby at_84)
  have V_b14_5 : Arv Z h24 b14 k14 (.object "com/example/palimpsest/palimpsest/tx/LockMode") (6 : Int32) [(.ref w_INTENTION_SHARED), (.ref w_INTENTION_EXCLUSIVE), (.ref w_INTENTION_SHARED), (.ref w_INTENTION_EXCLUSIVE), (.ref w_INTENTION_EXCLUSIVE), .null] .null := Arv.set A_84 q_84 S_84 N_84 H_84 G_84 rfl W24 4 rfl (Nat.le_of_ble_eq_true rfl)
  have V_b1_12 := V_b1_11.other W24 ne_b1_b14
  have K24 : Keep h0 h24 [] := K22.wr W24 (Or.inr sz_b14)
  have N24 := Fr.snoc X24 N22 g_b14
  obtain ⟨T25, X25, e25, st25⟩ := getS2 X24 hx hZ hown (host := "") (Or.inl (hw _ (List.mem_of_getElem? (i := 7) rfl))) Via.refl e24 (S_INTENTION_EXCLUSIVE.ext (own_ext K24)) (g := (mkF m 87 #[.val (.int p0_), .val (.int (4 : Int32)), .val (.ref b1), .unset, .unset] [(.int (5 : Int32)), (.ref b14), (.ref b14)])) rfl (hb hby at_87)
  obtain ⟨c_90, A_90, q_90, S_90, N_90, H_90, G_90⟩ := V_b14_5
  have hin90 : ¬ ((5 : Int32) < 0 ∨ c_90.slots.size ≤ ((5 : Int32)).toNatClampNeg) := inb_of S_90 ⟨by decide, by decide⟩
  have Sto90 : Sto Z h24 b14 (.ref w_INTENTION_EXCLUSIVE) := Sto.of A_90 (by rw [q_90]; exact O14) (Ins.self (E_w_INTENTION_EXCLUSIVE.ext (own_ext K24)))
  obtain ⟨T26, h26, X26, e26, W26, st26⟩ := stR X25 hx hZ e25 A_90 (j := (5 : Int32)) hin90 rfl Sto90 (g := (mkF m 90 #[.val (.int p0_), .val (.int (4 : Int32)), .val (.ref b1), .unset, .unset] [(.ref w_INTENTION_EXCLUSIVE), (.int (5 : Int32)), (.ref b14), (.ref b14)])) rfl rfl (hb hby at_90)
  have V_b14_6 : Arv Z h26 b14 k14 (.object "com/example/palimpsest/palimpsest/tx/LockMode") (6 : Int32) [(.ref w_INTENTION_SHARED), (.ref w_INTENTION_EXCLUSIVE), (.ref w_INTENTION_SHARED), (.ref w_INTENTION_EXCLUSIVE), (.ref w_INTENTION_EXCLUSIVE), (.ref w_INTENTION_EXCLUSIVE)] .null := Arv.set A_90 q_90 S_90 N_90 H_90 G_90 rfl W26 5 rfl (Nat.le_of_ble_eq_true rfl)
  have V_b1_13 := V_b1_12.other W26 ne_b1_b14
  have K26 : Keep h0 h26 [] := K24.wr W26 (Or.inr sz_b14)
  have N26 := Fr.snoc X26 N24 g_b14
  obtain ⟨c_94, A_94, q_94, S_94, N_94, H_94, G_94⟩ := V_b1_13
  have hin94 : ¬ ((4 : Int32) < 0 ∨ c_94.slots.size ≤ ((4 : Int32)).toNatClampNeg) := inb_of S_94 ⟨by decide, by decide⟩
  have hat94 : c_94.slots[((4 : Int32)).toNatClampNeg]? = some (.ref w_WRITE) := H_94 _ (Nat.lt_of_not_le fun q => hin94 (Or.inr q))
  obtain ⟨cq27, kq27, q27a, q27b, q27c⟩ := isOf hZ e26 (E_w_WRITE.ext (own_ext K26))
  obtain ⟨_, _, ⟨T27, L27, k27, n27⟩, -, X27, ⟨Lc27, hQ27, l27, y27, z27⟩, st27⟩ := X26.virtualBack hx (y := (⟨"com/example/palimpsest/palimpsest/tx/LockMode", "intention", "()Lcom/example/palimpsest/palimpsest/tx/LockMode;"⟩ : MethodName)) (z := (⟨"com/example/palimpsest/palimpsest/tx/LockMode", "intention", "()Lcom/example/palimpsest/palimpsest/tx/LockMode;"⟩ : MethodName)) hown (mvT hZ (hw _ (List.mem_of_getElem? (i := 17) rfl))) (mvT hZ (hw _ (List.mem_of_getElem? (i := 18) rfl))) (notFace_of_selects (args := #[]) (mvT hZ (hw _ (List.mem_of_getElem? (i := 20) rfl)))) (mvT hZ (hw _ (List.mem_of_getElem? (i := 20) rfl))) (mvT hZ (hw _ (List.mem_of_getElem? (i := 19) rfl))) (by decide) (backOf (W := 0) (own_b1_ft l Z a0 hw [] w_WRITE w_SHARED w_INTENTION_SHARED w_INTENTION_EXCLUSIVE h26 n0 (Nat.le_trans Z0 (own_ext K26).1) (S_SHARED.ext (own_ext K26)) (S_INTENTION_SHARED.ext (own_ext K26)) (S_INTENTION_EXCLUSIVE.ext (own_ext K26)) hf1 hf2) hZ (hw _ (List.mem_of_getElem? (i := 21) rfl)) (hw _ (List.mem_of_getElem? (i := 4) rfl)) (by decide) (by decide)) q27a q27c (g := (mkF m 95 #[.val (.int p0_), .val (.int (4 : Int32)), .val (.ref b1), .val (.ref b14), .unset] [(.ref w_WRITE)])) rfl (by rw [hml]; rfl) (Steps.refl _) (argsL := []) (rest := []) (lenOf own_pd0 rfl) rfl (by show 2 * 0 + _ ≤ _; exact Nat.le_of_eq rfl) (hb hby at_95) (fun _ _ => ⟨rfl, e26, (by decide : 2 + 0 ≤ _), (by decide : 12 + 0 ≤ _)⟩)
  dsimp only [Pt.U, Pt.locs, Pt.cells, Pt.slots] at X27 l27 y27 z27 st27 hQ27
  subst l27 y27 z27
  obtain ⟨rfl, N27q, e27⟩ := hQ27
  have N27 := Fr.app N26 N27q
  obtain ⟨c_104, A_104, q_104, S_104, N_104, H_104, G_104⟩ := V_b14_6
  have hin104 : ¬ ((4 : Int32) < 0 ∨ c_104.slots.size ≤ ((4 : Int32)).toNatClampNeg) := inb_of S_104 ⟨by decide, by decide⟩
  have hat104 : c_104.slots[((4 : Int32)).toNatClampNeg]? = some (.ref w_INTENTION_EXCLUSIVE) := H_104 _ (Nat.lt_of_not_le fun q => hin104 (Or.inr q))
  obtain ⟨fs, hr, hrun, hended, hW, hsame⟩ := X27.leave (v := some (.int (1 : Int32))) (fun h => by rw [Bd.returns] at h; cases h)
  refine ⟨_, _, pre0 _ ?_, hrun, hended, _, _, rfl, ?_, ⟨_, rfl⟩, hW, hsame.mono (by decide) (by decide)⟩
  · show Steps p.tables e below (s₁.setTop (mkF m 0 #[.val (.int p0_), .unset, .unset, .unset, .unset] [])) _
    refine XS.iloadN X0.here hx rfl (hb hby at_0) rfl ?_
    show Steps p.tables e below (s₁.setTop (mkF m 1 #[.val (.int p0_), .unset, .unset, .unset, .unset] [(.int p0_)])) _
    refine X0.ldcInt hx hown (mvT hZ (hw _ (List.mem_of_getElem? (i := 0) rfl))) (g := (mkF m 1 #[.val (.int p0_), .unset, .unset, .unset, .unset] [(.int p0_)])) rfl (hb hby at_1) _ ?_
    show Steps p.tables e below (s₁.setTop (mkF m 3 #[.val (.int p0_), .unset, .unset, .unset, .unset] [(.int (2147483647 : Int32)), (.int p0_)])) _
    refine XS.iand X0.here hx rfl (hb hby at_3) rfl ?_
    show Steps p.tables e below (s₁.setTop (mkF m 4 #[.val (.int p0_), .unset, .unset, .unset, .unset] [(.int (p0_ &&& (2147483647 : Int32)))])) _
    refine XS.bipush X0.here hx rfl (hb hby at_4) ?_
    show Steps p.tables e below (s₁.setTop (mkF m 6 #[.val (.int p0_), .unset, .unset, .unset, .unset] [(.int (6 : Int32)), (.int (p0_ &&& (2147483647 : Int32)))])) _
    refine iremM X0 hx rfl (hb hby at_6) rfl (by decide) ?_
    show Steps p.tables e below (s₁.setTop (mkF m 7 #[.val (.int p0_), .unset, .unset, .unset, .unset] [(.int ((p0_ &&& (2147483647 : Int32)) % (6 : Int32)))])) _
    rw [hf0]
    show Steps p.tables e below (s₁.setTop (mkF m 7 #[.val (.int p0_), .unset, .unset, .unset, .unset] [(.int (4 : Int32))])) _
    refine XS.istoreN X0.here hx rfl (hb hby at_7) rfl (l' := #[.val (.int p0_), .val (.int (4 : Int32)), .unset, .unset, .unset]) rfl ?_
    show Steps p.tables e below (s₁.setTop (mkF m 8 #[.val (.int p0_), .val (.int (4 : Int32)), .unset, .unset, .unset] [])) _
    refine XS.bipush X0.here hx rfl (hb hby at_8) ?_
    show Steps p.tables e below (s₁.setTop (mkF m 10 #[.val (.int p0_), .val (.int (4 : Int32)), .unset, .unset, .unset] [(.int (6 : Int32))])) _
    refine st1 _ ?_
    show Steps p.tables e below (T1.setTop (mkF m 13 #[.val (.int p0_), .val (.int (4 : Int32)), .unset, .unset, .unset] [(.ref b1)])) _
    refine XS.dup X1.here hx rfl (hb hby at_13) rfl rfl ?_
    show Steps p.tables e below (T1.setTop (mkF m 14 #[.val (.int p0_), .val (.int (4 : Int32)), .unset, .unset, .unset] [(.ref b1), (.ref b1)])) _
    refine XS.iconst X1.here hx rfl (hb hby at_14) ?_
    show Steps p.tables e below (T1.setTop (mkF m 15 #[.val (.int p0_), .val (.int (4 : Int32)), .unset, .unset, .unset] [(.int (0 : Int32)), (.ref b1), (.ref b1)])) _
    refine st2 _ ?_
    show Steps p.tables e below (T2.setTop (mkF m 18 #[.val (.int p0_), .val (.int (4 : Int32)), .unset, .unset, .unset] [(.ref w_INTENTION_SHARED), (.int (0 : Int32)), (.ref b1), (.ref b1)])) _
    refine st3 _ ?_
    show Steps p.tables e below (T3.setTop (mkF m 19 #[.val (.int p0_), .val (.int (4 : Int32)), .unset, .unset, .unset] [(.ref b1)])) _
    refine XS.dup X3.here hx rfl (hb hby at_19) rfl rfl ?_
    show Steps p.tables e below (T3.setTop (mkF m 20 #[.val (.int p0_), .val (.int (4 : Int32)), .unset, .unset, .unset] [(.ref b1), (.ref b1)])) _
    refine XS.iconst X3.here hx rfl (hb hby at_20) ?_
    show Steps p.tables e below (T3.setTop (mkF m 21 #[.val (.int p0_), .val (.int (4 : Int32)), .unset, .unset, .unset] [(.int (1 : Int32)), (.ref b1), (.ref b1)])) _
    refine st4 _ ?_
    show Steps p.tables e below (T4.setTop (mkF m 24 #[.val (.int p0_), .val (.int (4 : Int32)), .unset, .unset, .unset] [(.ref w_INTENTION_EXCLUSIVE), (.int (1 : Int32)), (.ref b1), (.ref b1)])) _
    refine st5 _ ?_
    show Steps p.tables e below (T5.setTop (mkF m 25 #[.val (.int p0_), .val (.int (4 : Int32)), .unset, .unset, .unset] [(.ref b1)])) _
    refine XS.dup X5.here hx rfl (hb hby at_25) rfl rfl ?_
    show Steps p.tables e below (T5.setTop (mkF m 26 #[.val (.int p0_), .val (.int (4 : Int32)), .unset, .unset, .unset] [(.ref b1), (.ref b1)])) _
    refine XS.iconst X5.here hx rfl (hb hby at_26) ?_
    show Steps p.tables e below (T5.setTop (mkF m 27 #[.val (.int p0_), .val (.int (4 : Int32)), .unset, .unset, .unset] [(.int (2 : Int32)), (.ref b1), (.ref b1)])) _
    refine st6 _ ?_
    show Steps p.tables e below (T6.setTop (mkF m 30 #[.val (.int p0_), .val (.int (4 : Int32)), .unset, .unset, .unset] [(.ref w_SHARED), (.int (2 : Int32)), (.ref b1), (.ref b1)])) _
    refine st7 _ ?_
    show Steps p.tables e below (T7.setTop (mkF m 31 #[.val (.int p0_), .val (.int (4 : Int32)), .unset, .unset, .unset] [(.ref b1)])) _
    refine XS.dup X7.here hx rfl (hb hby at_31) rfl rfl ?_
    show Steps p.tables e below (T7.setTop (mkF m 32 #[.val (.int p0_), .val (.int (4 : Int32)), .unset, .unset, .unset] [(.ref b1), (.ref b1)])) _
    refine XS.iconst X7.here hx rfl (hb hby at_32) ?_
    show Steps p.tables e below (T7.setTop (mkF m 33 #[.val (.int p0_), .val (.int (4 : Int32)), .unset, .unset, .unset] [(.int (3 : Int32)), (.ref b1), (.ref b1)])) _
    refine st8 _ ?_
    show Steps p.tables e below (T8.setTop (mkF m 36 #[.val (.int p0_), .val (.int (4 : Int32)), .unset, .unset, .unset] [(.ref w_SHARED_INTENTION_EXCLUSIVE), (.int (3 : Int32)), (.ref b1), (.ref b1)])) _
    refine st9 _ ?_
    show Steps p.tables e below (T9.setTop (mkF m 37 #[.val (.int p0_), .val (.int (4 : Int32)), .unset, .unset, .unset] [(.ref b1)])) _
    refine XS.dup X9.here hx rfl (hb hby at_37) rfl rfl ?_
    show Steps p.tables e below (T9.setTop (mkF m 38 #[.val (.int p0_), .val (.int (4 : Int32)), .unset, .unset, .unset] [(.ref b1), (.ref b1)])) _
    refine XS.iconst X9.here hx rfl (hb hby at_38) ?_
    show Steps p.tables e below (T9.setTop (mkF m 39 #[.val (.int p0_), .val (.int (4 : Int32)), .unset, .unset, .unset] [(.int (4 : Int32)), (.ref b1), (.ref b1)])) _
    refine st10 _ ?_
    show Steps p.tables e below (T10.setTop (mkF m 42 #[.val (.int p0_), .val (.int (4 : Int32)), .unset, .unset, .unset] [(.ref w_WRITE), (.int (4 : Int32)), (.ref b1), (.ref b1)])) _
    refine st11 _ ?_
    show Steps p.tables e below (T11.setTop (mkF m 43 #[.val (.int p0_), .val (.int (4 : Int32)), .unset, .unset, .unset] [(.ref b1)])) _
    refine XS.dup X11.here hx rfl (hb hby at_43) rfl rfl ?_
    show Steps p.tables e below (T11.setTop (mkF m 44 #[.val (.int p0_), .val (.int (4 : Int32)), .unset, .unset, .unset] [(.ref b1), (.ref b1)])) _
    refine XS.iconst X11.here hx rfl (hb hby at_44) ?_
    show Steps p.tables e below (T11.setTop (mkF m 45 #[.val (.int p0_), .val (.int (4 : Int32)), .unset, .unset, .unset] [(.int (5 : Int32)), (.ref b1), (.ref b1)])) _
    refine st12 _ ?_
    show Steps p.tables e below (T12.setTop (mkF m 48 #[.val (.int p0_), .val (.int (4 : Int32)), .unset, .unset, .unset] [(.ref w_EXCLUSIVE), (.int (5 : Int32)), (.ref b1), (.ref b1)])) _
    refine st13 _ ?_
    show Steps p.tables e below (T13.setTop (mkF m 49 #[.val (.int p0_), .val (.int (4 : Int32)), .unset, .unset, .unset] [(.ref b1)])) _
    refine XS.astoreN X13.here hx rfl (hb hby at_49) rfl rfl (l' := #[.val (.int p0_), .val (.int (4 : Int32)), .val (.ref b1), .unset, .unset]) rfl ?_
    show Steps p.tables e below (T13.setTop (mkF m 50 #[.val (.int p0_), .val (.int (4 : Int32)), .val (.ref b1), .unset, .unset] [])) _
    refine XS.bipush X13.here hx rfl (hb hby at_50) ?_
    show Steps p.tables e below (T13.setTop (mkF m 52 #[.val (.int p0_), .val (.int (4 : Int32)), .val (.ref b1), .unset, .unset] [(.int (6 : Int32))])) _
    refine st14 _ ?_
    show Steps p.tables e below (T14.setTop (mkF m 55 #[.val (.int p0_), .val (.int (4 : Int32)), .val (.ref b1), .unset, .unset] [(.ref b14)])) _
    refine XS.dup X14.here hx rfl (hb hby at_55) rfl rfl ?_
    show Steps p.tables e below (T14.setTop (mkF m 56 #[.val (.int p0_), .val (.int (4 : Int32)), .val (.ref b1), .unset, .unset] [(.ref b14), (.ref b14)])) _
    refine XS.iconst X14.here hx rfl (hb hby at_56) ?_
    show Steps p.tables e below (T14.setTop (mkF m 57 #[.val (.int p0_), .val (.int (4 : Int32)), .val (.ref b1), .unset, .unset] [(.int (0 : Int32)), (.ref b14), (.ref b14)])) _
    refine st15 _ ?_
    show Steps p.tables e below (T15.setTop (mkF m 60 #[.val (.int p0_), .val (.int (4 : Int32)), .val (.ref b1), .unset, .unset] [(.ref w_INTENTION_SHARED), (.int (0 : Int32)), (.ref b14), (.ref b14)])) _
    refine st16 _ ?_
    show Steps p.tables e below (T16.setTop (mkF m 61 #[.val (.int p0_), .val (.int (4 : Int32)), .val (.ref b1), .unset, .unset] [(.ref b14)])) _
    refine XS.dup X16.here hx rfl (hb hby at_61) rfl rfl ?_
    show Steps p.tables e below (T16.setTop (mkF m 62 #[.val (.int p0_), .val (.int (4 : Int32)), .val (.ref b1), .unset, .unset] [(.ref b14), (.ref b14)])) _
    refine XS.iconst X16.here hx rfl (hb hby at_62) ?_
    show Steps p.tables e below (T16.setTop (mkF m 63 #[.val (.int p0_), .val (.int (4 : Int32)), .val (.ref b1), .unset, .unset] [(.int (1 : Int32)), (.ref b14), (.ref b14)])) _
    refine st17 _ ?_
    show Steps p.tables e below (T17.setTop (mkF m 66 #[.val (.int p0_), .val (.int (4 : Int32)), .val (.ref b1), .unset, .unset] [(.ref w_INTENTION_EXCLUSIVE), (.int (1 : Int32)), (.ref b14), (.ref b14)])) _
    refine st18 _ ?_
    show Steps p.tables e below (T18.setTop (mkF m 67 #[.val (.int p0_), .val (.int (4 : Int32)), .val (.ref b1), .unset, .unset] [(.ref b14)])) _
    refine XS.dup X18.here hx rfl (hb hby at_67) rfl rfl ?_
    show Steps p.tables e below (T18.setTop (mkF m 68 #[.val (.int p0_), .val (.int (4 : Int32)), .val (.ref b1), .unset, .unset] [(.ref b14), (.ref b14)])) _
    refine XS.iconst X18.here hx rfl (hb hby at_68) ?_
    show Steps p.tables e below (T18.setTop (mkF m 69 #[.val (.int p0_), .val (.int (4 : Int32)), .val (.ref b1), .unset, .unset] [(.int (2 : Int32)), (.ref b14), (.ref b14)])) _
    refine st19 _ ?_
    show Steps p.tables e below (T19.setTop (mkF m 72 #[.val (.int p0_), .val (.int (4 : Int32)), .val (.ref b1), .unset, .unset] [(.ref w_INTENTION_SHARED), (.int (2 : Int32)), (.ref b14), (.ref b14)])) _
    refine st20 _ ?_
    show Steps p.tables e below (T20.setTop (mkF m 73 #[.val (.int p0_), .val (.int (4 : Int32)), .val (.ref b1), .unset, .unset] [(.ref b14)])) _
    refine XS.dup X20.here hx rfl (hb hby at_73) rfl rfl ?_
    show Steps p.tables e below (T20.setTop (mkF m 74 #[.val (.int p0_), .val (.int (4 : Int32)), .val (.ref b1), .unset, .unset] [(.ref b14), (.ref b14)])) _
    refine XS.iconst X20.here hx rfl (hb hby at_74) ?_
    show Steps p.tables e below (T20.setTop (mkF m 75 #[.val (.int p0_), .val (.int (4 : Int32)), .val (.ref b1), .unset, .unset] [(.int (3 : Int32)), (.ref b14), (.ref b14)])) _
    refine st21 _ ?_
    show Steps p.tables e below (T21.setTop (mkF m 78 #[.val (.int p0_), .val (.int (4 : Int32)), .val (.ref b1), .unset, .unset] [(.ref w_INTENTION_EXCLUSIVE), (.int (3 : Int32)), (.ref b14), (.ref b14)])) _
    refine st22 _ ?_
    show Steps p.tables e below (T22.setTop (mkF m 79 #[.val (.int p0_), .val (.int (4 : Int32)), .val (.ref b1), .unset, .unset] [(.ref b14)])) _
    refine XS.dup X22.here hx rfl (hb hby at_79) rfl rfl ?_
    show Steps p.tables e below (T22.setTop (mkF m 80 #[.val (.int p0_), .val (.int (4 : Int32)), .val (.ref b1), .unset, .unset] [(.ref b14), (.ref b14)])) _
    refine XS.iconst X22.here hx rfl (hb hby at_80) ?_
    show Steps p.tables e below (T22.setTop (mkF m 81 #[.val (.int p0_), .val (.int (4 : Int32)), .val (.ref b1), .unset, .unset] [(.int (4 : Int32)), (.ref b14), (.ref b14)])) _
    refine st23 _ ?_
    show Steps p.tables e below (T23.setTop (mkF m 84 #[.val (.int p0_), .val (.int (4 : Int32)), .val (.ref b1), .unset, .unset] [(.ref w_INTENTION_EXCLUSIVE), (.int (4 : Int32)), (.ref b14), (.ref b14)])) _
    refine st24 _ ?_
    show Steps p.tables e below (T24.setTop (mkF m 85 #[.val (.int p0_), .val (.int (4 : Int32)), .val (.ref b1), .unset, .unset] [(.ref b14)])) _
    refine XS.dup X24.here hx rfl (hb hby at_85) rfl rfl ?_
    show Steps p.tables e below (T24.setTop (mkF m 86 #[.val (.int p0_), .val (.int (4 : Int32)), .val (.ref b1), .unset, .unset] [(.ref b14), (.ref b14)])) _
    refine XS.iconst X24.here hx rfl (hb hby at_86) ?_
    show Steps p.tables e below (T24.setTop (mkF m 87 #[.val (.int p0_), .val (.int (4 : Int32)), .val (.ref b1), .unset, .unset] [(.int (5 : Int32)), (.ref b14), (.ref b14)])) _
    refine st25 _ ?_
    show Steps p.tables e below (T25.setTop (mkF m 90 #[.val (.int p0_), .val (.int (4 : Int32)), .val (.ref b1), .unset, .unset] [(.ref w_INTENTION_EXCLUSIVE), (.int (5 : Int32)), (.ref b14), (.ref b14)])) _
    refine st26 _ ?_
    show Steps p.tables e below (T26.setTop (mkF m 91 #[.val (.int p0_), .val (.int (4 : Int32)), .val (.ref b1), .unset, .unset] [(.ref b14)])) _
    refine XS.astoreN X26.here hx rfl (hb hby at_91) rfl rfl (l' := #[.val (.int p0_), .val (.int (4 : Int32)), .val (.ref b1), .val (.ref b14), .unset]) rfl ?_
    show Steps p.tables e below (T26.setTop (mkF m 92 #[.val (.int p0_), .val (.int (4 : Int32)), .val (.ref b1), .val (.ref b14), .unset] [])) _
    refine XS.aloadN X26.here hx rfl (hb hby at_92) rfl rfl ?_
    show Steps p.tables e below (T26.setTop (mkF m 93 #[.val (.int p0_), .val (.int (4 : Int32)), .val (.ref b1), .val (.ref b14), .unset] [(.ref b1)])) _
    refine XS.iloadN X26.here hx rfl (hb hby at_93) rfl ?_
    show Steps p.tables e below (T26.setTop (mkF m 94 #[.val (.int p0_), .val (.int (4 : Int32)), .val (.ref b1), .val (.ref b14), .unset] [(.int (4 : Int32)), (.ref b1)])) _
    refine X26.aaload hx (j := (4 : Int32)) (v := (.ref w_WRITE)) (by rw [e26]; exact A_94.1) (State.isArrayOf_alike hZ.alike A_94.2.1) rfl A_94.2.2 hin94 hat94 (g := (mkF m 94 #[.val (.int p0_), .val (.int (4 : Int32)), .val (.ref b1), .val (.ref b14), .unset] [(.int (4 : Int32)), (.ref b1)])) rfl rfl (hb hby at_94) _ ?_
    show Steps p.tables e below (T26.setTop (mkF m 95 #[.val (.int p0_), .val (.int (4 : Int32)), .val (.ref b1), .val (.ref b14), .unset] [(.ref w_WRITE)])) _
    refine st27.trans ?_
    show Steps p.tables e below (T27.setTop (mkF m 98 #[.val (.int p0_), .val (.int (4 : Int32)), .val (.ref b1), .val (.ref b14), .unset] [(.ref w_INTENTION_EXCLUSIVE)])) _
    refine XS.astore X27.here hx rfl (hb hby at_98) rfl rfl (l' := #[.val (.int p0_), .val (.int (4 : Int32)), .val (.ref b1), .val (.ref b14), .val (.ref w_INTENTION_EXCLUSIVE)]) rfl ?_
    show Steps p.tables e below (T27.setTop (mkF m 100 #[.val (.int p0_), .val (.int (4 : Int32)), .val (.ref b1), .val (.ref b14), .val (.ref w_INTENTION_EXCLUSIVE)] [])) _
    refine XS.aload X27.here hx rfl (hb hby at_100) rfl rfl ?_
    show Steps p.tables e below (T27.setTop (mkF m 102 #[.val (.int p0_), .val (.int (4 : Int32)), .val (.ref b1), .val (.ref b14), .val (.ref w_INTENTION_EXCLUSIVE)] [(.ref w_INTENTION_EXCLUSIVE)])) _
    refine XS.aloadN X27.here hx rfl (hb hby at_102) rfl rfl ?_
    show Steps p.tables e below (T27.setTop (mkF m 103 #[.val (.int p0_), .val (.int (4 : Int32)), .val (.ref b1), .val (.ref b14), .val (.ref w_INTENTION_EXCLUSIVE)] [(.ref b14), (.ref w_INTENTION_EXCLUSIVE)])) _
    refine XS.iloadN X27.here hx rfl (hb hby at_103) rfl ?_
    show Steps p.tables e below (T27.setTop (mkF m 104 #[.val (.int p0_), .val (.int (4 : Int32)), .val (.ref b1), .val (.ref b14), .val (.ref w_INTENTION_EXCLUSIVE)] [(.int (4 : Int32)), (.ref b14), (.ref w_INTENTION_EXCLUSIVE)])) _
    refine X27.aaload hx (j := (4 : Int32)) (v := (.ref w_INTENTION_EXCLUSIVE)) (by rw [e27]; exact A_104.1) (State.isArrayOf_alike hZ.alike A_104.2.1) rfl A_104.2.2 hin104 hat104 (g := (mkF m 104 #[.val (.int p0_), .val (.int (4 : Int32)), .val (.ref b1), .val (.ref b14), .val (.ref w_INTENTION_EXCLUSIVE)] [(.int (4 : Int32)), (.ref b14), (.ref w_INTENTION_EXCLUSIVE)])) rfl rfl (hb hby at_104) _ ?_
    show Steps p.tables e below (T27.setTop (mkF m 105 #[.val (.int p0_), .val (.int (4 : Int32)), .val (.ref b1), .val (.ref b14), .val (.ref w_INTENTION_EXCLUSIVE)] [(.ref w_INTENTION_EXCLUSIVE), (.ref w_INTENTION_EXCLUSIVE)])) _
    refine Jvm.RoadKit.acmp (g := (mkF m 105 #[.val (.int p0_), .val (.int (4 : Int32)), .val (.ref b1), .val (.ref b14), .val (.ref w_INTENTION_EXCLUSIVE)] [(.ref w_INTENTION_EXCLUSIVE), (.ref w_INTENTION_EXCLUSIVE)])) X27 hx rfl rfl rfl (pc0 := 105) (pc' := 108) (same := true) rfl (hb hby at_105) rfl (decide_eq_true rfl) (by decide) (by decide) ?_
    show Steps p.tables e below (T27.setTop (mkF m 108 #[.val (.int p0_), .val (.int (4 : Int32)), .val (.ref b1), .val (.ref b14), .val (.ref w_INTENTION_EXCLUSIVE)] [])) _
    refine XS.iconst X27.here hx rfl (hb hby at_108) ?_
    show Steps p.tables e below (T27.setTop (mkF m 109 #[.val (.int p0_), .val (.int (4 : Int32)), .val (.ref b1), .val (.ref b14), .val (.ref w_INTENTION_EXCLUSIVE)] [(.int (1 : Int32))])) _
    refine XS.goto X27.here hx rfl (pc0 := 109) (pc' := 113) rfl (hb hby at_109) (by decide) (by decide) ?_
    show Steps p.tables e below (T27.setTop (mkF m 113 #[.val (.int p0_), .val (.int (4 : Int32)), .val (.ref b1), .val (.ref b14), .val (.ref w_INTENTION_EXCLUSIVE)] [(.int (1 : Int32))])) _
    exact retN X27 hx (t := .boolean) Bd.returns (by simp) (hb hby at_113) hr
  · show own_QL n0 _ T27.heap _
    exact ⟨rfl, N27⟩
set_option maxRecDepth 65536 in
set_option maxHeartbeats 40000000 in
theorem own_law5 (l : Launch) (Z : State) (a0 : Array Value) (hw : ∀ d ∈ tables_1, d.before a0 Z = true) (ws : List Jvm.Cond) (p0_ : Int32) (w_INTENTION_SHARED : Addr) (w_INTENTION_EXCLUSIVE : Addr) (w_SHARED : Addr) (w_SHARED_INTENTION_EXCLUSIVE : Addr) (w_WRITE : Addr) (w_EXCLUSIVE : Addr) (h0 : Heap) (n0 : Nat) (Z0 : n0 ≤ h0.size) (S_INTENTION_SHARED : Sta Z h0 "com/example/palimpsest/palimpsest/tx/LockMode" "INTENTION_SHARED" "Lcom/example/palimpsest/palimpsest/tx/LockMode;" (.ref w_INTENTION_SHARED)) (E_w_INTENTION_SHARED : Exa Z h0 w_INTENTION_SHARED "com/example/palimpsest/palimpsest/tx/LockMode") (S_INTENTION_EXCLUSIVE : Sta Z h0 "com/example/palimpsest/palimpsest/tx/LockMode" "INTENTION_EXCLUSIVE" "Lcom/example/palimpsest/palimpsest/tx/LockMode;" (.ref w_INTENTION_EXCLUSIVE)) (E_w_INTENTION_EXCLUSIVE : Exa Z h0 w_INTENTION_EXCLUSIVE "com/example/palimpsest/palimpsest/tx/LockMode") (S_SHARED : Sta Z h0 "com/example/palimpsest/palimpsest/tx/LockMode" "SHARED" "Lcom/example/palimpsest/palimpsest/tx/LockMode;" (.ref w_SHARED)) (E_w_SHARED : Exa Z h0 w_SHARED "com/example/palimpsest/palimpsest/tx/LockMode") (S_SHARED_INTENTION_EXCLUSIVE : Sta Z h0 "com/example/palimpsest/palimpsest/tx/LockMode" "SHARED_INTENTION_EXCLUSIVE" "Lcom/example/palimpsest/palimpsest/tx/LockMode;" (.ref w_SHARED_INTENTION_EXCLUSIVE)) (E_w_SHARED_INTENTION_EXCLUSIVE : Exa Z h0 w_SHARED_INTENTION_EXCLUSIVE "com/example/palimpsest/palimpsest/tx/LockMode") (S_WRITE : Sta Z h0 "com/example/palimpsest/palimpsest/tx/LockMode" "WRITE" "Lcom/example/palimpsest/palimpsest/tx/LockMode;" (.ref w_WRITE)) (E_w_WRITE : Exa Z h0 w_WRITE "com/example/palimpsest/palimpsest/tx/LockMode") (S_EXCLUSIVE : Sta Z h0 "com/example/palimpsest/palimpsest/tx/LockMode" "EXCLUSIVE" "Lcom/example/palimpsest/palimpsest/tx/LockMode;" (.ref w_EXCLUSIVE)) (E_w_EXCLUSIVE : Exa Z h0 w_EXCLUSIVE "com/example/palimpsest/palimpsest/tx/LockMode") (hf0 : ((p0_ &&& (2147483647 : Int32)) % (6 : Int32)) = (5 : Int32)) (hf1 : ¬ (w_EXCLUSIVE = w_SHARED)) (hf2 : ¬ (w_EXCLUSIVE = w_INTENTION_SHARED)) :
    MetFree l x (head1 (Jvm.Cond.code x code maxLocals ret :: ws) room_1) (fun a U => a = #[(.int p0_)] ∧ Z.Warmed39 U.vm ∧ U.heap = h0) (fun _ _ _ _ _ => True) (fun _ U o U' => ∃ v L, o = .returned v ∧ own_QL n0 v U'.heap L ∧ FrameEnd U o U' L room_1.cells room_1.slots) := by
  refine MetFree.of_bodySF (plainFor_of_name own_pn1) hisR ?_
  intro p e s m args below meth c s₁ Bd hml0 hP hK
  obtain ⟨rfl, hZ, hh⟩ := hP
  have hx := Bd.exec
  have hby := Bd.bytes
  have hml : c.maxLocals = 5 := hml0
  have hown : s.vm.findClass "com/example/palimpsest/palimpsest/tx/LockModeIntentionPinLaw" = some m.cls := findClass_of_methodNamed Bd.named
  have hnm := (name_of_methodNamed Bd.named Bd.method).1
  have X0 : Stand p l e room_1 s m #[(.int p0_)] below meth c s₁ [] 0 0 := Stand.of_body Bd
  have e0 : s₁.heap = h0 := by rw [← hh, Bd.state]; rfl
  have N0 := Fr.nil n0
  have pre0 : ∀ t, Steps p.tables e below (s₁.setTop (mkF m 0 #[.val (.int p0_), .unset, .unset, .unset, .unset] [])) t → Steps p.tables e below (s₁.setTop (entryFrame m #[(.int p0_)] maxLocals)) t := fun t k => castTop (own_ef1 m p0_) k
  obtain ⟨T1, h1, k1, X1, e1, E1, A1, O1, st1⟩ := newR X0 hx hZ hown (hw _ (List.mem_of_getElem? (i := 1) rfl)) (hw _ (List.mem_of_getElem? (i := 2) rfl)) e0 (g := (mkF m 10 #[.val (.int p0_), .val (.int (5 : Int32)), .unset, .unset, .unset] [(.int (6 : Int32))])) rfl (hb hby at_10) rfl (by decide) (cap := 6) (by decide) (by decide) (by decide) (by decide)
  obtain ⟨b1, g1⟩ : ∃ z, z = h0.size := ⟨_, rfl⟩
  rw [← g1] at A1 st1
  have V_b1_0 : Arv Z h1 b1 k1 (.object "com/example/palimpsest/palimpsest/tx/LockMode") (6 : Int32) [.null, .null, .null, .null, .null, .null] .null := (Arv.new A1 (by decide)).pad (pad_rep [] .null 6)
  have sz_b1 : h0.size ≤ b1 := Nat.le_trans (Keep.refl h0 []).1 (Nat.le_of_eq g1.symm)
  have g_b1 : n0 ≤ b1 := Nat.le_trans Z0 sz_b1
  have K1 : Keep h0 h1 [] := (Keep.refl h0 []).ext E1
  obtain ⟨T2, X2, e2, st2⟩ := getS2 X1 hx hZ hown (host := "") (Or.inl (hw _ (List.mem_of_getElem? (i := 3) rfl))) Via.refl e1 (S_INTENTION_SHARED.ext (own_ext K1)) (g := (mkF m 15 #[.val (.int p0_), .val (.int (5 : Int32)), .unset, .unset, .unset] [(.int (0 : Int32)), (.ref b1), (.ref b1)])) rfl (hb hby at_15)
  obtain ⟨c_18, A_18, q_18, S_18, N_18, H_18, G_18⟩ := V_b1_0
  have hin18 : ¬ ((0 : Int32) < 0 ∨ c_18.slots.size ≤ ((0 : Int32)).toNatClampNeg) := inb_of S_18 ⟨by decide, by decide⟩
  have Sto18 : Sto Z h1 b1 (.ref w_INTENTION_SHARED) := Sto.of A_18 (by rw [q_18]; exact O1) (Ins.self (E_w_INTENTION_SHARED.ext (own_ext K1)))
  obtain ⟨T3, h3, X3, e3, W3, st3⟩ := stR X2 hx hZ e2 A_18 (j := (0 : Int32)) hin18 rfl Sto18 (g := (mkF m 18 #[.val (.int p0_), .val (.int (5 : Int32)), .unset, .unset, .unset] [(.ref w_INTENTION_SHARED), (.int (0 : Int32)), (.ref b1), (.ref b1)])) rfl rfl (hb hby at_18)
  have V_b1_1 : Arv Z h3 b1 k1 (.object "com/example/palimpsest/palimpsest/tx/LockMode") (6 : Int32) [(.ref w_INTENTION_SHARED), .null, .null, .null, .null, .null] .null := Arv.set A_18 q_18 S_18 N_18 H_18 G_18 rfl W3 0 rfl (Nat.le_of_ble_eq_true rfl)
  have K3 : Keep h0 h3 [] := K1.wr W3 (Or.inr sz_b1)
  have N3 := Fr.snoc X3 N0 g_b1
  obtain ⟨T4, X4, e4, st4⟩ := getS2 X3 hx hZ hown (host := "") (Or.inl (hw _ (List.mem_of_getElem? (i := 7) rfl))) Via.refl e3 (S_INTENTION_EXCLUSIVE.ext (own_ext K3)) (g := (mkF m 21 #[.val (.int p0_), .val (.int (5 : Int32)), .unset, .unset, .unset] [(.int (1 : Int32)), (.ref b1), (.ref b1)])) rfl (hb hby at_21)
  obtain ⟨c_24, A_24, q_24, S_24, N_24, H_24, G_24⟩ := V_b1_1
  have hin24 : ¬ ((1 : Int32) < 0 ∨ c_24.slots.size ≤ ((1 : Int32)).toNatClampNeg) := inb_of S_24 ⟨by decide, by decide⟩
  have Sto24 : Sto Z h3 b1 (.ref w_INTENTION_EXCLUSIVE) := Sto.of A_24 (by rw [q_24]; exact O1) (Ins.self (E_w_INTENTION_EXCLUSIVE.ext (own_ext K3)))
  obtain ⟨T5, h5, X5, e5, W5, st5⟩ := stR X4 hx hZ e4 A_24 (j := (1 : Int32)) hin24 rfl Sto24 (g := (mkF m 24 #[.val (.int p0_), .val (.int (5 : Int32)), .unset, .unset, .unset] [(.ref w_INTENTION_EXCLUSIVE), (.int (1 : Int32)), (.ref b1), (.ref b1)])) rfl rfl (hb hby at_24)
  have V_b1_2 : Arv Z h5 b1 k1 (.object "com/example/palimpsest/palimpsest/tx/LockMode") (6 : Int32) [(.ref w_INTENTION_SHARED), (.ref w_INTENTION_EXCLUSIVE), .null, .null, .null, .null] .null := Arv.set A_24 q_24 S_24 N_24 H_24 G_24 rfl W5 1 rfl (Nat.le_of_ble_eq_true rfl)
  have K5 : Keep h0 h5 [] := K3.wr W5 (Or.inr sz_b1)
  have N5 := Fr.snoc X5 N3 g_b1
  obtain ⟨T6, X6, e6, st6⟩ := getS2 X5 hx hZ hown (host := "") (Or.inl (hw _ (List.mem_of_getElem? (i := 9) rfl))) Via.refl e5 (S_SHARED.ext (own_ext K5)) (g := (mkF m 27 #[.val (.int p0_), .val (.int (5 : Int32)), .unset, .unset, .unset] [(.int (2 : Int32)), (.ref b1), (.ref b1)])) rfl (hb hby at_27)
  obtain ⟨c_30, A_30, q_30, S_30, N_30, H_30, G_30⟩ := V_b1_2
  have hin30 : ¬ ((2 : Int32) < 0 ∨ c_30.slots.size ≤ ((2 : Int32)).toNatClampNeg) := inb_of S_30 ⟨by decide, by decide⟩
  have Sto30 : Sto Z h5 b1 (.ref w_SHARED) := Sto.of A_30 (by rw [q_30]; exact O1) (Ins.self (E_w_SHARED.ext (own_ext K5)))
  obtain ⟨T7, h7, X7, e7, W7, st7⟩ := stR X6 hx hZ e6 A_30 (j := (2 : Int32)) hin30 rfl Sto30 (g := (mkF m 30 #[.val (.int p0_), .val (.int (5 : Int32)), .unset, .unset, .unset] [(.ref w_SHARED), (.int (2 : Int32)), (.ref b1), (.ref b1)])) rfl rfl (hb hby at_30)
  have V_b1_3 : Arv Z h7 b1 k1 (.object "com/example/palimpsest/palimpsest/tx/LockMode") (6 : Int32) [(.ref w_INTENTION_SHARED), (.ref w_INTENTION_EXCLUSIVE), (.ref w_SHARED), .null, .null, .null] .null := Arv.set A_30 q_30 S_30 N_30 H_30 G_30 rfl W7 2 rfl (Nat.le_of_ble_eq_true rfl)
  have K7 : Keep h0 h7 [] := K5.wr W7 (Or.inr sz_b1)
  have N7 := Fr.snoc X7 N5 g_b1
  obtain ⟨T8, X8, e8, st8⟩ := getS2 X7 hx hZ hown (host := "") (Or.inl (hw _ (List.mem_of_getElem? (i := 11) rfl))) Via.refl e7 (S_SHARED_INTENTION_EXCLUSIVE.ext (own_ext K7)) (g := (mkF m 33 #[.val (.int p0_), .val (.int (5 : Int32)), .unset, .unset, .unset] [(.int (3 : Int32)), (.ref b1), (.ref b1)])) rfl (hb hby at_33)
  obtain ⟨c_36, A_36, q_36, S_36, N_36, H_36, G_36⟩ := V_b1_3
  have hin36 : ¬ ((3 : Int32) < 0 ∨ c_36.slots.size ≤ ((3 : Int32)).toNatClampNeg) := inb_of S_36 ⟨by decide, by decide⟩
  have Sto36 : Sto Z h7 b1 (.ref w_SHARED_INTENTION_EXCLUSIVE) := Sto.of A_36 (by rw [q_36]; exact O1) (Ins.self (E_w_SHARED_INTENTION_EXCLUSIVE.ext (own_ext K7)))
  obtain ⟨T9, h9, X9, e9, W9, st9⟩ := stR X8 hx hZ e8 A_36 (j := (3 : Int32)) hin36 rfl Sto36 (g := (mkF m 36 #[.val (.int p0_), .val (.int (5 : Int32)), .unset, .unset, .unset] [(.ref w_SHARED_INTENTION_EXCLUSIVE), (.int (3 : Int32)), (.ref b1), (.ref b1)])) rfl rfl (hb hby at_36)
  have V_b1_4 : Arv Z h9 b1 k1 (.object "com/example/palimpsest/palimpsest/tx/LockMode") (6 : Int32) [(.ref w_INTENTION_SHARED), (.ref w_INTENTION_EXCLUSIVE), (.ref w_SHARED), (.ref w_SHARED_INTENTION_EXCLUSIVE), .null, .null] .null := Arv.set A_36 q_36 S_36 N_36 H_36 G_36 rfl W9 3 rfl (Nat.le_of_ble_eq_true rfl)
  have K9 : Keep h0 h9 [] := K7.wr W9 (Or.inr sz_b1)
  have N9 := Fr.snoc X9 N7 g_b1
  obtain ⟨T10, X10, e10, st10⟩ := getS2 X9 hx hZ hown (host := "") (Or.inl (hw _ (List.mem_of_getElem? (i := 13) rfl))) Via.refl e9 (S_WRITE.ext (own_ext K9)) (g := (mkF m 39 #[.val (.int p0_), .val (.int (5 : Int32)), .unset, .unset, .unset] [(.int (4 : Int32)), (.ref b1), (.ref b1)])) rfl (hb hby at_39)
  obtain ⟨c_42, A_42, q_42, S_42, N_42, H_42, G_42⟩ := V_b1_4
  have hin42 : ¬ ((4 : Int32) < 0 ∨ c_42.slots.size ≤ ((4 : Int32)).toNatClampNeg) := inb_of S_42 ⟨by decide, by decide⟩
  have Sto42 : Sto Z h9 b1 (.ref w_WRITE) := Sto.of A_42 (by rw [q_42]; exact O1) (Ins.self (E_w_WRITE.ext (own_ext K9)))
  obtain ⟨T11, h11, X11, e11, W11, st11⟩ := stR X10 hx hZ e10 A_42 (j := (4 : Int32)) hin42 rfl Sto42 (g := (mkF m 42 #[.val (.int p0_), .val (.int (5 : Int32)), .unset, .unset, .unset] [(.ref w_WRITE), (.int (4 : Int32)), (.ref b1), (.ref b1)])) rfl rfl (hb hby at_42)
  have V_b1_5 : Arv Z h11 b1 k1 (.object "com/example/palimpsest/palimpsest/tx/LockMode") (6 : Int32) [(.ref w_INTENTION_SHARED), (.ref w_INTENTION_EXCLUSIVE), (.ref w_SHARED), (.ref w_SHARED_INTENTION_EXCLUSIVE), (.ref w_WRITE), .null] .null := Arv.set A_42 q_42 S_42 N_42 H_42 G_42 rfl W11 4 rfl (Nat.le_of_ble_eq_true rfl)
  have K11 : Keep h0 h11 [] := K9.wr W11 (Or.inr sz_b1)
  have N11 := Fr.snoc X11 N9 g_b1
  obtain ⟨T12, X12, e12, st12⟩ := getS2 X11 hx hZ hown (host := "") (Or.inl (hw _ (List.mem_of_getElem? (i := 15) rfl))) Via.refl e11 (S_EXCLUSIVE.ext (own_ext K11)) (g := (mkF m 45 #[.val (.int p0_), .val (.int (5 : Int32)), .unset, .unset, .unset] [(.int (5 : Int32)), (.ref b1), (.ref b1)])) rfl (hb hby at_45)
  obtain ⟨c_48, A_48, q_48, S_48, N_48, H_48, G_48⟩ := V_b1_5
  have hin48 : ¬ ((5 : Int32) < 0 ∨ c_48.slots.size ≤ ((5 : Int32)).toNatClampNeg) := inb_of S_48 ⟨by decide, by decide⟩
  have Sto48 : Sto Z h11 b1 (.ref w_EXCLUSIVE) := Sto.of A_48 (by rw [q_48]; exact O1) (Ins.self (E_w_EXCLUSIVE.ext (own_ext K11)))
  obtain ⟨T13, h13, X13, e13, W13, st13⟩ := stR X12 hx hZ e12 A_48 (j := (5 : Int32)) hin48 rfl Sto48 (g := (mkF m 48 #[.val (.int p0_), .val (.int (5 : Int32)), .unset, .unset, .unset] [(.ref w_EXCLUSIVE), (.int (5 : Int32)), (.ref b1), (.ref b1)])) rfl rfl (hb hby at_48)
  have V_b1_6 : Arv Z h13 b1 k1 (.object "com/example/palimpsest/palimpsest/tx/LockMode") (6 : Int32) [(.ref w_INTENTION_SHARED), (.ref w_INTENTION_EXCLUSIVE), (.ref w_SHARED), (.ref w_SHARED_INTENTION_EXCLUSIVE), (.ref w_WRITE), (.ref w_EXCLUSIVE)] .null := Arv.set A_48 q_48 S_48 N_48 H_48 G_48 rfl W13 5 rfl (Nat.le_of_ble_eq_true rfl)
  have K13 : Keep h0 h13 [] := K11.wr W13 (Or.inr sz_b1)
  have N13 := Fr.snoc X13 N11 g_b1
  obtain ⟨T14, h14, k14, X14, e14, E14, A14, O14, st14⟩ := newR X13 hx hZ hown (hw _ (List.mem_of_getElem? (i := 1) rfl)) (hw _ (List.mem_of_getElem? (i := 2) rfl)) e13 (g := (mkF m 52 #[.val (.int p0_), .val (.int (5 : Int32)), .val (.ref b1), .unset, .unset] [(.int (6 : Int32))])) rfl (hb hby at_52) rfl (by decide) (cap := 6) (by decide) (by decide) (by decide) (by decide)
  obtain ⟨b14, g14⟩ : ∃ z, z = h13.size := ⟨_, rfl⟩
  rw [← g14] at A14 st14
  have V_b14_0 : Arv Z h14 b14 k14 (.object "com/example/palimpsest/palimpsest/tx/LockMode") (6 : Int32) [.null, .null, .null, .null, .null, .null] .null := (Arv.new A14 (by decide)).pad (pad_rep [] .null 6)
  have sz_b14 : h0.size ≤ b14 := Nat.le_trans K13.1 (Nat.le_of_eq g14.symm)
  have g_b14 : n0 ≤ b14 := Nat.le_trans Z0 sz_b14
  have K14 : Keep h0 h14 [] := K13.ext E14
  have ne_b1_b14 : b1 ≠ b14 := Nat.ne_of_lt (Nat.lt_of_lt_of_le V_b1_6.lt (Nat.le_of_eq g14.symm))
  have V_b1_7 := V_b1_6.ext E14
  obtain ⟨T15, X15, e15, st15⟩ := getS2 X14 hx hZ hown (host := "") (Or.inl (hw _ (List.mem_of_getElem? (i := 3) rfl))) Via.refl e14 (S_INTENTION_SHARED.ext (own_ext K14)) (g := (mkF m 57 #[.val (.int p0_), .val (.int (5 : Int32)), .val (.ref b1), .unset, .unset] [(.int (0 : Int32)), (.ref b14), (.ref b14)])) rfl (hb hby at_57)
  obtain ⟨c_60, A_60, q_60, S_60, N_60, H_60, G_60⟩ := V_b14_0
  have hin60 : ¬ ((0 : Int32) < 0 ∨ c_60.slots.size ≤ ((0 : Int32)).toNatClampNeg) := inb_of S_60 ⟨by decide, by decide⟩
  have Sto60 : Sto Z h14 b14 (.ref w_INTENTION_SHARED) := Sto.of A_60 (by rw [q_60]; exact O14) (Ins.self (E_w_INTENTION_SHARED.ext (own_ext K14)))
  obtain ⟨T16, h16, X16, e16, W16, st16⟩ := stR X15 hx hZ e15 A_60 (j := (0 : Int32)) hin60 rfl Sto60 (g := (mkF m 60 #[.val (.int p0_), .val (.int (5 : Int32)), .val (.ref b1), .unset, .unset] [(.ref w_INTENTION_SHARED), (.int (0 : Int32)), (.ref b14), (.ref b14)])) rfl rfl (hb hby at_60)
  have V_b14_1 : Arv Z h16 b14 k14 (.object "com/example/palimpsest/palimpsest/tx/LockMode") (6 : Int32) [(.ref w_INTENTION_SHARED), .null, .null, .null, .null, .null] .null := Arv.set A_60 q_60 S_60 N_60 H_60 G_60 rfl W16 0 rfl (Nat.le_of_ble_eq_true rfl)
  have V_b1_8 := V_b1_7.other W16 ne_b1_b14
  have K16 : Keep h0 h16 [] := K14.wr W16 (Or.inr sz_b14)
  have N16 := Fr.snoc X16 N13 g_b14
  obtain ⟨T17, X17, e17, st17⟩ := getS2 X16 hx hZ hown (host := "") (Or.inl (hw _ (List.mem_of_getElem? (i := 7) rfl))) Via.refl e16 (S_INTENTION_EXCLUSIVE.ext (own_ext K16)) (g := (mkF m 63 #[.val (.int p0_), .val (.int (5 : Int32)), .val (.ref b1), .unset, .unset] [(.int (1 : Int32)), (.ref b14), (.ref b14)])) rfl (hb hby at_63)
  obtain ⟨c_66, A_66, q_66, S_66, N_66, H_66, G_66⟩ := V_b14_1
  have hin66 : ¬ ((1 : Int32) < 0 ∨ c_66.slots.size ≤ ((1 : Int32)).toNatClampNeg) := inb_of S_66 ⟨by decide, by decide⟩
  have Sto66 : Sto Z h16 b14 (.ref w_INTENTION_EXCLUSIVE) := Sto.of A_66 (by rw [q_66]; exact O14) (Ins.self (E_w_INTENTION_EXCLUSIVE.ext (own_ext K16)))
  obtain ⟨T18, h18, X18, e18, W18, st18⟩ := stR X17 hx hZ e17 A_66 (j := (1 : Int32)) hin66 rfl Sto66 (g := (mkF m 66 #[.val (.int p0_), .val (.int (5 : Int32)), .val (.ref b1), .unset, .unset] [(.ref w_INTENTION_EXCLUSIVE), (.int (1 : Int32)), (.ref b14), (.ref b14)])) rfl rfl (hb hby at_66)
  have V_b14_2 : Arv Z h18 b14 k14 (.object "com/example/palimpsest/palimpsest/tx/LockMode") (6 : Int32) [(.ref w_INTENTION_SHARED), (.ref w_INTENTION_EXCLUSIVE), .null, .null, .null, .null] .null := Arv.set A_66 q_66 S_66 N_66 H_66 G_66 rfl W18 1 rfl (Nat.le_of_ble_eq_true rfl)
  have V_b1_9 := V_b1_8.other W18 ne_b1_b14
  have K18 : Keep h0 h18 [] := K16.wr W18 (Or.inr sz_b14)
  have N18 := Fr.snoc X18 N16 g_b14
  obtain ⟨T19, X19, e19, st19⟩ := getS2 X18 hx hZ hown (host := "") (Or.inl (hw _ (List.mem_of_getElem? (i := 3) rfl))) Via.refl e18 (S_INTENTION_SHARED.ext (own_ext K18)) (g := (mkF m 69 #[.val (.int p0_), .val (.int (5 : Int32)), .val (.ref b1), .unset, .unset] [(.int (2 : Int32)), (.ref b14), (.ref b14)])) rfl (hb hby at_69)
  obtain ⟨c_72, A_72, q_72, S_72, N_72, H_72, G_72⟩ := V_b14_2
  have hin72 : ¬ ((2 : Int32) < 0 ∨ c_72.slots.size ≤ ((2 : Int32)).toNatClampNeg) := inb_of S_72 ⟨by decide, by decide⟩
  have Sto72 : Sto Z h18 b14 (.ref w_INTENTION_SHARED) := Sto.of A_72 (by rw [q_72]; exact O14) (Ins.self (E_w_INTENTION_SHARED.ext (own_ext K18)))
  obtain ⟨T20, h20, X20, e20, W20, st20⟩ := stR X19 hx hZ e19 A_72 (j := (2 : Int32)) hin72 rfl Sto72 (g := (mkF m 72 #[.val (.int p0_), .val (.int (5 : Int32)), .val (.ref b1), .unset, .unset] [(.ref w_INTENTION_SHARED), (.int (2 : Int32)), (.ref b14), (.ref b14)])) rfl rfl (hb hby at_72)
  have V_b14_3 : Arv Z h20 b14 k14 (.object "com/example/palimpsest/palimpsest/tx/LockMode") (6 : Int32) [(.ref w_INTENTION_SHARED), (.ref w_INTENTION_EXCLUSIVE), (.ref w_INTENTION_SHARED), .null, .null, .null] .null := Arv.set A_72 q_72 S_72 N_72 H_72 G_72 rfl W20 2 rfl (Nat.le_of_ble_eq_true rfl)
  have V_b1_10 := V_b1_9.other W20 ne_b1_b14
  have K20 : Keep h0 h20 [] := K18.wr W20 (Or.inr sz_b14)
  have N20 := Fr.snoc X20 N18 g_b14
  obtain ⟨T21, X21, e21, st21⟩ := getS2 X20 hx hZ hown (host := "") (Or.inl (hw _ (List.mem_of_getElem? (i := 7) rfl))) Via.refl e20 (S_INTENTION_EXCLUSIVE.ext (own_ext K20)) (g := (mkF m 75 #[.val (.int p0_), .val (.int (5 : Int32)), .val (.ref b1), .unset, .unset] [(.int (3 : Int32)), (.ref b14), (.ref b14)])) rfl (hb hby at_75)
  obtain ⟨c_78, A_78, q_78, S_78, N_78, H_78, G_78⟩ := V_b14_3
  have hin78 : ¬ ((3 : Int32) < 0 ∨ c_78.slots.size ≤ ((3 : Int32)).toNatClampNeg) := inb_of S_78 ⟨by decide, by decide⟩
  have Sto78 : Sto Z h20 b14 (.ref w_INTENTION_EXCLUSIVE) := Sto.of A_78 (by rw [q_78]; exact O14) (Ins.self (E_w_INTENTION_EXCLUSIVE.ext (own_ext K20)))
  obtain ⟨T22, h22, X22, e22, W22, st22⟩ := stR X21 hx hZ e21 A_78 (j := (3 : Int32)) hin78 rfl Sto78 (g := (mkF m 78 #[.val (.int p0_), .val (.int (5 : Int32)), .val (.ref b1), .unset, .unset] [(.ref w_INTENTION_EXCLUSIVE), (.int (3 : Int32)), (.ref b14), (.ref b14)])) rfl rfl (hb hby at_78)
  have V_b14_4 : Arv Z h22 b14 k14 (.object "com/example/palimpsest/palimpsest/tx/LockMode") (6 : Int32) [(.ref w_INTENTION_SHARED), (.ref w_INTENTION_EXCLUSIVE), (.ref w_INTENTION_SHARED), (.ref w_INTENTION_EXCLUSIVE), .null, .null] .null := Arv.set A_78 q_78 S_78 N_78 H_78 G_78 rfl W22 3 rfl (Nat.le_of_ble_eq_true rfl)
  have V_b1_11 := V_b1_10.other W22 ne_b1_b14
  have K22 : Keep h0 h22 [] := K20.wr W22 (Or.inr sz_b14)
  have N22 := Fr.snoc X22 N20 g_b14
  obtain ⟨T23, X23, e23, st23⟩ := getS2 X22 hx hZ hown (host := "") (Or.inl (hw _ (List.mem_of_getElem? (i := 7) rfl))) Via.refl e22 (S_INTENTION_EXCLUSIVE.ext (own_ext K22)) (g := (mkF m 81 #[.val (.int p0_), .val (.int (5 : Int32)), .val (.ref b1), .unset, .unset] [(.int (4 : Int32)), (.ref b14), (.ref b14)])) rfl (hb hby at_81)
  obtain ⟨c_84, A_84, q_84, S_84, N_84, H_84, G_84⟩ := V_b14_4
  have hin84 : ¬ ((4 : Int32) < 0 ∨ c_84.slots.size ≤ ((4 : Int32)).toNatClampNeg) := inb_of S_84 ⟨by decide, by decide⟩
  have Sto84 : Sto Z h22 b14 (.ref w_INTENTION_EXCLUSIVE) := Sto.of A_84 (by rw [q_84]; exact O14) (Ins.self (E_w_INTENTION_EXCLUSIVE.ext (own_ext K22)))
  obtain ⟨T24, h24, X24, e24, W24, st24⟩ := stR X23 hx hZ e23 A_84 (j := (4 : Int32)) hin84 rfl Sto84 (g := (mkF m 84 #[.val (.int p0_), .val (.int (5 : Int32)), .val (.ref b1), .unset, .unset] [(.ref w_INTENTION_EXCLUSIVE), (.int (4 : Int32)), (.ref b14), (.ref b14)])) rfl rfl (hb hby at_84)
  have V_b14_5 : Arv Z h24 b14 k14 (.object "com/example/palimpsest/palimpsest/tx/LockMode") (6 : Int32) [(.ref w_INTENTION_SHARED), (.ref w_INTENTION_EXCLUSIVE), (.ref w_INTENTION_SHARED), (.ref w_INTENTION_EXCLUSIVE), (.ref w_INTENTION_EXCLUSIVE), .null] .null := Arv.set A_84 q_84 S_84 N_84 H_84 G_84 rfl W24 4 rfl (Nat.le_of_ble_eq_true rfl)
  have V_b1_12 := V_b1_11.other W24 ne_b1_b14
  have K24 : Keep h0 h24 [] := K22.wr W24 (Or.inr sz_b14)
  have N24 := Fr.snoc X24 N22 g_b14
  obtain ⟨T25, X25, e25, st25⟩ := getS2 X24 hx hZ hown (host := "") (Or.inl (hw _ (List.mem_of_getElem? (i := 7) rfl))) Via.refl e24 (S_INTENTION_EXCLUSIVE.ext (own_ext K24)) (g := (mkF m 87 #[.val (.int p0_), .val (.int (5 : Int32)), .val (.ref b1), .unset, .unset] [(.int (5 : Int32)), (.ref b14), (.ref b14)])) rfl (hb hby at_87)
  obtain ⟨c_90, A_90, q_90, S_90, N_90, H_90, G_90⟩ := V_b14_5
  have hin90 : ¬ ((5 : Int32) < 0 ∨ c_90.slots.size ≤ ((5 : Int32)).toNatClampNeg) := inb_of S_90 ⟨by decide, by decide⟩
  have Sto90 : Sto Z h24 b14 (.ref w_INTENTION_EXCLUSIVE) := Sto.of A_90 (by rw [q_90]; exact O14) (Ins.self (E_w_INTENTION_EXCLUSIVE.ext (own_ext K24)))
  obtain ⟨T26, h26, X26, e26, W26, st26⟩ := stR X25 hx hZ e25 A_90 (j := (5 : Int32)) hin90 rfl Sto90 (g := (mkF m 90 #[.val (.int p0_), .val (.int (5 : Int32)), .val (.ref b1), .unset, .unset] [(.ref w_INTENTION_EXCLUSIVE), (.int (5 : Int32)), (.ref b14), (.ref b14)])) rfl rfl (hb hby at_90)
  have V_b14_6 : Arv Z h26 b14 k14 (.object "com/example/palimpsest/palimpsest/tx/LockMode") (6 : Int32) [(.ref w_INTENTION_SHARED), (.ref w_INTENTION_EXCLUSIVE), (.ref w_INTENTION_SHARED), (.ref w_INTENTION_EXCLUSIVE), (.ref w_INTENTION_EXCLUSIVE), (.ref w_INTENTION_EXCLUSIVE)] .null := Arv.set A_90 q_90 S_90 N_90 H_90 G_90 rfl W26 5 rfl (Nat.le_of_ble_eq_true rfl)
  have V_b1_13 := V_b1_12.other W26 ne_b1_b14
  have K26 : Keep h0 h26 [] := K24.wr W26 (Or.inr sz_b14)
  have N26 := Fr.snoc X26 N24 g_b14
  obtain ⟨c_94, A_94, q_94, S_94, N_94, H_94, G_94⟩ := V_b1_13
  have hin94 : ¬ ((5 : Int32) < 0 ∨ c_94.slots.size ≤ ((5 : Int32)).toNatClampNeg) := inb_of S_94 ⟨by decide, by decide⟩
  have hat94 : c_94.slots[((5 : Int32)).toNatClampNeg]? = some (.ref w_EXCLUSIVE) := H_94 _ (Nat.lt_of_not_le fun q => hin94 (Or.inr q))
  obtain ⟨cq27, kq27, q27a, q27b, q27c⟩ := isOf hZ e26 (E_w_EXCLUSIVE.ext (own_ext K26))
  obtain ⟨_, _, ⟨T27, L27, k27, n27⟩, -, X27, ⟨Lc27, hQ27, l27, y27, z27⟩, st27⟩ := X26.virtualBack hx (y := (⟨"com/example/palimpsest/palimpsest/tx/LockMode", "intention", "()Lcom/example/palimpsest/palimpsest/tx/LockMode;"⟩ : MethodName)) (z := (⟨"com/example/palimpsest/palimpsest/tx/LockMode", "intention", "()Lcom/example/palimpsest/palimpsest/tx/LockMode;"⟩ : MethodName)) hown (mvT hZ (hw _ (List.mem_of_getElem? (i := 17) rfl))) (mvT hZ (hw _ (List.mem_of_getElem? (i := 18) rfl))) (notFace_of_selects (args := #[]) (mvT hZ (hw _ (List.mem_of_getElem? (i := 20) rfl)))) (mvT hZ (hw _ (List.mem_of_getElem? (i := 20) rfl))) (mvT hZ (hw _ (List.mem_of_getElem? (i := 19) rfl))) (by decide) (backOf (W := 0) (own_b1_ft l Z a0 hw [] w_EXCLUSIVE w_SHARED w_INTENTION_SHARED w_INTENTION_EXCLUSIVE h26 n0 (Nat.le_trans Z0 (own_ext K26).1) (S_SHARED.ext (own_ext K26)) (S_INTENTION_SHARED.ext (own_ext K26)) (S_INTENTION_EXCLUSIVE.ext (own_ext K26)) hf1 hf2) hZ (hw _ (List.mem_of_getElem? (i := 21) rfl)) (hw _ (List.mem_of_getElem? (i := 4) rfl)) (by decide) (by decide)) q27a q27c (g := (mkF m 95 #[.val (.int p0_), .val (.int (5 : Int32)), .val (.ref b1), .val (.ref b14), .unset] [(.ref w_EXCLUSIVE)])) rfl (by rw [hml]; rfl) (Steps.refl _) (argsL := []) (rest := []) (lenOf own_pd0 rfl) rfl (by show 2 * 0 + _ ≤ _; exact Nat.le_of_eq rfl) (hb hby at_95) (fun _ _ => ⟨rfl, e26, (by decide : 2 + 0 ≤ _), (by decide : 12 + 0 ≤ _)⟩)
  dsimp only [Pt.U, Pt.locs, Pt.cells, Pt.slots] at X27 l27 y27 z27 st27 hQ27
  subst l27 y27 z27
  obtain ⟨rfl, N27q, e27⟩ := hQ27
  have N27 := Fr.app N26 N27q
  obtain ⟨c_104, A_104, q_104, S_104, N_104, H_104, G_104⟩ := V_b14_6
  have hin104 : ¬ ((5 : Int32) < 0 ∨ c_104.slots.size ≤ ((5 : Int32)).toNatClampNeg) := inb_of S_104 ⟨by decide, by decide⟩
  have hat104 : c_104.slots[((5 : Int32)).toNatClampNeg]? = some (.ref w_INTENTION_EXCLUSIVE) := H_104 _ (Nat.lt_of_not_le fun q => hin104 (Or.inr q))
  obtain ⟨fs, hr, hrun, hended, hW, hsame⟩ := X27.leave (v := some (.int (1 : Int32))) (fun h => by rw [Bd.returns] at h; cases h)
  refine ⟨_, _, pre0 _ ?_, hrun, hended, _, _, rfl, ?_, ⟨_, rfl⟩, hW, hsame.mono (by decide) (by decide)⟩
  · show Steps p.tables e below (s₁.setTop (mkF m 0 #[.val (.int p0_), .unset, .unset, .unset, .unset] [])) _
    refine XS.iloadN X0.here hx rfl (hb hby at_0) rfl ?_
    show Steps p.tables e below (s₁.setTop (mkF m 1 #[.val (.int p0_), .unset, .unset, .unset, .unset] [(.int p0_)])) _
    refine X0.ldcInt hx hown (mvT hZ (hw _ (List.mem_of_getElem? (i := 0) rfl))) (g := (mkF m 1 #[.val (.int p0_), .unset, .unset, .unset, .unset] [(.int p0_)])) rfl (hb hby at_1) _ ?_
    show Steps p.tables e below (s₁.setTop (mkF m 3 #[.val (.int p0_), .unset, .unset, .unset, .unset] [(.int (2147483647 : Int32)), (.int p0_)])) _
    refine XS.iand X0.here hx rfl (hb hby at_3) rfl ?_
    show Steps p.tables e below (s₁.setTop (mkF m 4 #[.val (.int p0_), .unset, .unset, .unset, .unset] [(.int (p0_ &&& (2147483647 : Int32)))])) _
    refine XS.bipush X0.here hx rfl (hb hby at_4) ?_
    show Steps p.tables e below (s₁.setTop (mkF m 6 #[.val (.int p0_), .unset, .unset, .unset, .unset] [(.int (6 : Int32)), (.int (p0_ &&& (2147483647 : Int32)))])) _
    refine iremM X0 hx rfl (hb hby at_6) rfl (by decide) ?_
    show Steps p.tables e below (s₁.setTop (mkF m 7 #[.val (.int p0_), .unset, .unset, .unset, .unset] [(.int ((p0_ &&& (2147483647 : Int32)) % (6 : Int32)))])) _
    rw [hf0]
    show Steps p.tables e below (s₁.setTop (mkF m 7 #[.val (.int p0_), .unset, .unset, .unset, .unset] [(.int (5 : Int32))])) _
    refine XS.istoreN X0.here hx rfl (hb hby at_7) rfl (l' := #[.val (.int p0_), .val (.int (5 : Int32)), .unset, .unset, .unset]) rfl ?_
    show Steps p.tables e below (s₁.setTop (mkF m 8 #[.val (.int p0_), .val (.int (5 : Int32)), .unset, .unset, .unset] [])) _
    refine XS.bipush X0.here hx rfl (hb hby at_8) ?_
    show Steps p.tables e below (s₁.setTop (mkF m 10 #[.val (.int p0_), .val (.int (5 : Int32)), .unset, .unset, .unset] [(.int (6 : Int32))])) _
    refine st1 _ ?_
    show Steps p.tables e below (T1.setTop (mkF m 13 #[.val (.int p0_), .val (.int (5 : Int32)), .unset, .unset, .unset] [(.ref b1)])) _
    refine XS.dup X1.here hx rfl (hb hby at_13) rfl rfl ?_
    show Steps p.tables e below (T1.setTop (mkF m 14 #[.val (.int p0_), .val (.int (5 : Int32)), .unset, .unset, .unset] [(.ref b1), (.ref b1)])) _
    refine XS.iconst X1.here hx rfl (hb hby at_14) ?_
    show Steps p.tables e below (T1.setTop (mkF m 15 #[.val (.int p0_), .val (.int (5 : Int32)), .unset, .unset, .unset] [(.int (0 : Int32)), (.ref b1), (.ref b1)])) _
    refine st2 _ ?_
    show Steps p.tables e below (T2.setTop (mkF m 18 #[.val (.int p0_), .val (.int (5 : Int32)), .unset, .unset, .unset] [(.ref w_INTENTION_SHARED), (.int (0 : Int32)), (.ref b1), (.ref b1)])) _
    refine st3 _ ?_
    show Steps p.tables e below (T3.setTop (mkF m 19 #[.val (.int p0_), .val (.int (5 : Int32)), .unset, .unset, .unset] [(.ref b1)])) _
    refine XS.dup X3.here hx rfl (hb hby at_19) rfl rfl ?_
    show Steps p.tables e below (T3.setTop (mkF m 20 #[.val (.int p0_), .val (.int (5 : Int32)), .unset, .unset, .unset] [(.ref b1), (.ref b1)])) _
    refine XS.iconst X3.here hx rfl (hb hby at_20) ?_
    show Steps p.tables e below (T3.setTop (mkF m 21 #[.val (.int p0_), .val (.int (5 : Int32)), .unset, .unset, .unset] [(.int (1 : Int32)), (.ref b1), (.ref b1)])) _
    refine st4 _ ?_
    show Steps p.tables e below (T4.setTop (mkF m 24 #[.val (.int p0_), .val (.int (5 : Int32)), .unset, .unset, .unset] [(.ref w_INTENTION_EXCLUSIVE), (.int (1 : Int32)), (.ref b1), (.ref b1)])) _
    refine st5 _ ?_
    show Steps p.tables e below (T5.setTop (mkF m 25 #[.val (.int p0_), .val (.int (5 : Int32)), .unset, .unset, .unset] [(.ref b1)])) _
    refine XS.dup X5.here hx rfl (hb hby at_25) rfl rfl ?_
    show Steps p.tables e below (T5.setTop (mkF m 26 #[.val (.int p0_), .val (.int (5 : Int32)), .unset, .unset, .unset] [(.ref b1), (.ref b1)])) _
    refine XS.iconst X5.here hx rfl (hb hby at_26) ?_
    show Steps p.tables e below (T5.setTop (mkF m 27 #[.val (.int p0_), .val (.int (5 : Int32)), .unset, .unset, .unset] [(.int (2 : Int32)), (.ref b1), (.ref b1)])) _
    refine st6 _ ?_
    show Steps p.tables e below (T6.setTop (mkF m 30 #[.val (.int p0_), .val (.int (5 : Int32)), .unset, .unset, .unset] [(.ref w_SHARED), (.int (2 : Int32)), (.ref b1), (.ref b1)])) _
    refine st7 _ ?_
    show Steps p.tables e below (T7.setTop (mkF m 31 #[.val (.int p0_), .val (.int (5 : Int32)), .unset, .unset, .unset] [(.ref b1)])) _
    refine XS.dup X7.here hx rfl (hb hby at_31) rfl rfl ?_
    show Steps p.tables e below (T7.setTop (mkF m 32 #[.val (.int p0_), .val (.int (5 : Int32)), .unset, .unset, .unset] [(.ref b1), (.ref b1)])) _
    refine XS.iconst X7.here hx rfl (hb hby at_32) ?_
    show Steps p.tables e below (T7.setTop (mkF m 33 #[.val (.int p0_), .val (.int (5 : Int32)), .unset, .unset, .unset] [(.int (3 : Int32)), (.ref b1), (.ref b1)])) _
    refine st8 _ ?_
    show Steps p.tables e below (T8.setTop (mkF m 36 #[.val (.int p0_), .val (.int (5 : Int32)), .unset, .unset, .unset] [(.ref w_SHARED_INTENTION_EXCLUSIVE), (.int (3 : Int32)), (.ref b1), (.ref b1)])) _
    refine st9 _ ?_
    show Steps p.tables e below (T9.setTop (mkF m 37 #[.val (.int p0_), .val (.int (5 : Int32)), .unset, .unset, .unset] [(.ref b1)])) _
    refine XS.dup X9.here hx rfl (hb hby at_37) rfl rfl ?_
    show Steps p.tables e below (T9.setTop (mkF m 38 #[.val (.int p0_), .val (.int (5 : Int32)), .unset, .unset, .unset] [(.ref b1), (.ref b1)])) _
    refine XS.iconst X9.here hx rfl (hb hby at_38) ?_
    show Steps p.tables e below (T9.setTop (mkF m 39 #[.val (.int p0_), .val (.int (5 : Int32)), .unset, .unset, .unset] [(.int (4 : Int32)), (.ref b1), (.ref b1)])) _
    refine st10 _ ?_
    show Steps p.tables e below (T10.setTop (mkF m 42 #[.val (.int p0_), .val (.int (5 : Int32)), .unset, .unset, .unset] [(.ref w_WRITE), (.int (4 : Int32)), (.ref b1), (.ref b1)])) _
    refine st11 _ ?_
    show Steps p.tables e below (T11.setTop (mkF m 43 #[.val (.int p0_), .val (.int (5 : Int32)), .unset, .unset, .unset] [(.ref b1)])) _
    refine XS.dup X11.here hx rfl (hb hby at_43) rfl rfl ?_
    show Steps p.tables e below (T11.setTop (mkF m 44 #[.val (.int p0_), .val (.int (5 : Int32)), .unset, .unset, .unset] [(.ref b1), (.ref b1)])) _
    refine XS.iconst X11.here hx rfl (hb hby at_44) ?_
    show Steps p.tables e below (T11.setTop (mkF m 45 #[.val (.int p0_), .val (.int (5 : Int32)), .unset, .unset, .unset] [(.int (5 : Int32)), (.ref b1), (.ref b1)])) _
    refine st12 _ ?_
    show Steps p.tables e below (T12.setTop (mkF m 48 #[.val (.int p0_), .val (.int (5 : Int32)), .unset, .unset, .unset] [(.ref w_EXCLUSIVE), (.int (5 : Int32)), (.ref b1), (.ref b1)])) _
    refine st13 _ ?_
    show Steps p.tables e below (T13.setTop (mkF m 49 #[.val (.int p0_), .val (.int (5 : Int32)), .unset, .unset, .unset] [(.ref b1)])) _
    refine XS.astoreN X13.here hx rfl (hb hby at_49) rfl rfl (l' := #[.val (.int p0_), .val (.int (5 : Int32)), .val (.ref b1), .unset, .unset]) rfl ?_
    show Steps p.tables e below (T13.setTop (mkF m 50 #[.val (.int p0_), .val (.int (5 : Int32)), .val (.ref b1), .unset, .unset] [])) _
    refine XS.bipush X13.here hx rfl (hb hby at_50) ?_
    show Steps p.tables e below (T13.setTop (mkF m 52 #[.val (.int p0_), .val (.int (5 : Int32)), .val (.ref b1), .unset, .unset] [(.int (6 : Int32))])) _
    refine st14 _ ?_
    show Steps p.tables e below (T14.setTop (mkF m 55 #[.val (.int p0_), .val (.int (5 : Int32)), .val (.ref b1), .unset, .unset] [(.ref b14)])) _
    refine XS.dup X14.here hx rfl (hb hby at_55) rfl rfl ?_
    show Steps p.tables e below (T14.setTop (mkF m 56 #[.val (.int p0_), .val (.int (5 : Int32)), .val (.ref b1), .unset, .unset] [(.ref b14), (.ref b14)])) _
    refine XS.iconst X14.here hx rfl (hb hby at_56) ?_
    show Steps p.tables e below (T14.setTop (mkF m 57 #[.val (.int p0_), .val (.int (5 : Int32)), .val (.ref b1), .unset, .unset] [(.int (0 : Int32)), (.ref b14), (.ref b14)])) _
    refine st15 _ ?_
    show Steps p.tables e below (T15.setTop (mkF m 60 #[.val (.int p0_), .val (.int (5 : Int32)), .val (.ref b1), .unset, .unset] [(.ref w_INTENTION_SHARED), (.int (0 : Int32)), (.ref b14), (.ref b14)])) _
    refine st16 _ ?_
    show Steps p.tables e below (T16.setTop (mkF m 61 #[.val (.int p0_), .val (.int (5 : Int32)), .val (.ref b1), .unset, .unset] [(.ref b14)])) _
    refine XS.dup X16.here hx rfl (hb hby at_61) rfl rfl ?_
    show Steps p.tables e below (T16.setTop (mkF m 62 #[.val (.int p0_), .val (.int (5 : Int32)), .val (.ref b1), .unset, .unset] [(.ref b14), (.ref b14)])) _
    refine XS.iconst X16.here hx rfl (hb hby at_62) ?_
    show Steps p.tables e below (T16.setTop (mkF m 63 #[.val (.int p0_), .val (.int (5 : Int32)), .val (.ref b1), .unset, .unset] [(.int (1 : Int32)), (.ref b14), (.ref b14)])) _
    refine st17 _ ?_
    show Steps p.tables e below (T17.setTop (mkF m 66 #[.val (.int p0_), .val (.int (5 : Int32)), .val (.ref b1), .unset, .unset] [(.ref w_INTENTION_EXCLUSIVE), (.int (1 : Int32)), (.ref b14), (.ref b14)])) _
    refine st18 _ ?_
    show Steps p.tables e below (T18.setTop (mkF m 67 #[.val (.int p0_), .val (.int (5 : Int32)), .val (.ref b1), .unset, .unset] [(.ref b14)])) _
    refine XS.dup X18.here hx rfl (hb hby at_67) rfl rfl ?_
    show Steps p.tables e below (T18.setTop (mkF m 68 #[.val (.int p0_), .val (.int (5 : Int32)), .val (.ref b1), .unset, .unset] [(.ref b14), (.ref b14)])) _
    refine XS.iconst X18.here hx rfl (hb hby at_68) ?_
    show Steps p.tables e below (T18.setTop (mkF m 69 #[.val (.int p0_), .val (.int (5 : Int32)), .val (.ref b1), .unset, .unset] [(.int (2 : Int32)), (.ref b14), (.ref b14)])) _
    refine st19 _ ?_
    show Steps p.tables e below (T19.setTop (mkF m 72 #[.val (.int p0_), .val (.int (5 : Int32)), .val (.ref b1), .unset, .unset] [(.ref w_INTENTION_SHARED), (.int (2 : Int32)), (.ref b14), (.ref b14)])) _
    refine st20 _ ?_
    show Steps p.tables e below (T20.setTop (mkF m 73 #[.val (.int p0_), .val (.int (5 : Int32)), .val (.ref b1), .unset, .unset] [(.ref b14)])) _
    refine XS.dup X20.here hx rfl (hb hby at_73) rfl rfl ?_
    show Steps p.tables e below (T20.setTop (mkF m 74 #[.val (.int p0_), .val (.int (5 : Int32)), .val (.ref b1), .unset, .unset] [(.ref b14), (.ref b14)])) _
    refine XS.iconst X20.here hx rfl (hb hby at_74) ?_
    show Steps p.tables e below (T20.setTop (mkF m 75 #[.val (.int p0_), .val (.int (5 : Int32)), .val (.ref b1), .unset, .unset] [(.int (3 : Int32)), (.ref b14), (.ref b14)])) _
    refine st21 _ ?_
    show Steps p.tables e below (T21.setTop (mkF m 78 #[.val (.int p0_), .val (.int (5 : Int32)), .val (.ref b1), .unset, .unset] [(.ref w_INTENTION_EXCLUSIVE), (.int (3 : Int32)), (.ref b14), (.ref b14)])) _
    refine st22 _ ?_
    show Steps p.tables e below (T22.setTop (mkF m 79 #[.val (.int p0_), .val (.int (5 : Int32)), .val (.ref b1), .unset, .unset] [(.ref b14)])) _
    refine XS.dup X22.here hx rfl (hb hby at_79) rfl rfl ?_
    show Steps p.tables e below (T22.setTop (mkF m 80 #[.val (.int p0_), .val (.int (5 : Int32)), .val (.ref b1), .unset, .unset] [(.ref b14), (.ref b14)])) _
    refine XS.iconst X22.here hx rfl (hb hby at_80) ?_
    show Steps p.tables e below (T22.setTop (mkF m 81 #[.val (.int p0_), .val (.int (5 : Int32)), .val (.ref b1), .unset, .unset] [(.int (4 : Int32)), (.ref b14), (.ref b14)])) _
    refine st23 _ ?_
    show Steps p.tables e below (T23.setTop (mkF m 84 #[.val (.int p0_), .val (.int (5 : Int32)), .val (.ref b1), .unset, .unset] [(.ref w_INTENTION_EXCLUSIVE), (.int (4 : Int32)), (.ref b14), (.ref b14)])) _
    refine st24 _ ?_
    show Steps p.tables e below (T24.setTop (mkF m 85 #[.val (.int p0_), .val (.int (5 : Int32)), .val (.ref b1), .unset, .unset] [(.ref b14)])) _
    refine XS.dup X24.here hx rfl (hb hby at_85) rfl rfl ?_
    show Steps p.tables e below (T24.setTop (mkF m 86 #[.val (.int p0_), .val (.int (5 : Int32)), .val (.ref b1), .unset, .unset] [(.ref b14), (.ref b14)])) _
    refine XS.iconst X24.here hx rfl (hb hby at_86) ?_
    show Steps p.tables e below (T24.setTop (mkF m 87 #[.val (.int p0_), .val (.int (5 : Int32)), .val (.ref b1), .unset, .unset] [(.int (5 : Int32)), (.ref b14), (.ref b14)])) _
    refine st25 _ ?_
    show Steps p.tables e below (T25.setTop (mkF m 90 #[.val (.int p0_), .val (.int (5 : Int32)), .val (.ref b1), .unset, .unset] [(.ref w_INTENTION_EXCLUSIVE), (.int (5 : Int32)), (.ref b14), (.ref b14)])) _
    refine st26 _ ?_
    show Steps p.tables e below (T26.setTop (mkF m 91 #[.val (.int p0_), .val (.int (5 : Int32)), .val (.ref b1), .unset, .unset] [(.ref b14)])) _
    refine XS.astoreN X26.here hx rfl (hb hby at_91) rfl rfl (l' := #[.val (.int p0_), .val (.int (5 : Int32)), .val (.ref b1), .val (.ref b14), .unset]) rfl ?_
    show Steps p.tables e below (T26.setTop (mkF m 92 #[.val (.int p0_), .val (.int (5 : Int32)), .val (.ref b1), .val (.ref b14), .unset] [])) _
    refine XS.aloadN X26.here hx rfl (hb hby at_92) rfl rfl ?_
    show Steps p.tables e below (T26.setTop (mkF m 93 #[.val (.int p0_), .val (.int (5 : Int32)), .val (.ref b1), .val (.ref b14), .unset] [(.ref b1)])) _
    refine XS.iloadN X26.here hx rfl (hb hby at_93) rfl ?_
    show Steps p.tables e below (T26.setTop (mkF m 94 #[.val (.int p0_), .val (.int (5 : Int32)), .val (.ref b1), .val (.ref b14), .unset] [(.int (5 : Int32)), (.ref b1)])) _
    refine X26.aaload hx (j := (5 : Int32)) (v := (.ref w_EXCLUSIVE)) (by rw [e26]; exact A_94.1) (State.isArrayOf_alike hZ.alike A_94.2.1) rfl A_94.2.2 hin94 hat94 (g := (mkF m 94 #[.val (.int p0_), .val (.int (5 : Int32)), .val (.ref b1), .val (.ref b14), .unset] [(.int (5 : Int32)), (.ref b1)])) rfl rfl (hb hby at_94) _ ?_
    show Steps p.tables e below (T26.setTop (mkF m 95 #[.val (.int p0_), .val (.int (5 : Int32)), .val (.ref b1), .val (.ref b14), .unset] [(.ref w_EXCLUSIVE)])) _
    refine st27.trans ?_
    show Steps p.tables e below (T27.setTop (mkF m 98 #[.val (.int p0_), .val (.int (5 : Int32)), .val (.ref b1), .val (.ref b14), .unset] [(.ref w_INTENTION_EXCLUSIVE)])) _
    refine XS.astore X27.here hx rfl (hb hby at_98) rfl rfl (l' := #[.val (.int p0_), .val (.int (5 : Int32)), .val (.ref b1), .val (.ref b14), .val (.ref w_INTENTION_EXCLUSIVE)]) rfl ?_
    show Steps p.tables e below (T27.setTop (mkF m 100 #[.val (.int p0_), .val (.int (5 : Int32)), .val (.ref b1), .val (.ref b14), .val (.ref w_INTENTION_EXCLUSIVE)] [])) _
    refine XS.aload X27.here hx rfl (hb hby at_100) rfl rfl ?_
    show Steps p.tables e below (T27.setTop (mkF m 102 #[.val (.int p0_), .val (.int (5 : Int32)), .val (.ref b1), .val (.ref b14), .val (.ref w_INTENTION_EXCLUSIVE)] [(.ref w_INTENTION_EXCLUSIVE)])) _
    refine XS.aloadN X27.here hx rfl (hb hby at_102) rfl rfl ?_
    show Steps p.tables e below (T27.setTop (mkF m 103 #[.val (.int p0_), .val (.int (5 : Int32)), .val (.ref b1), .val (.ref b14), .val (.ref w_INTENTION_EXCLUSIVE)] [(.ref b14), (.ref w_INTENTION_EXCLUSIVE)])) _
    refine XS.iloadN X27.here hx rfl (hb hby at_103) rfl ?_
    show Steps p.tables e below (T27.setTop (mkF m 104 #[.val (.int p0_), .val (.int (5 : Int32)), .val (.ref b1), .val (.ref b14), .val (.ref w_INTENTION_EXCLUSIVE)] [(.int (5 : Int32)), (.ref b14), (.ref w_INTENTION_EXCLUSIVE)])) _
    refine X27.aaload hx (j := (5 : Int32)) (v := (.ref w_INTENTION_EXCLUSIVE)) (by rw [e27]; exact A_104.1) (State.isArrayOf_alike hZ.alike A_104.2.1) rfl A_104.2.2 hin104 hat104 (g := (mkF m 104 #[.val (.int p0_), .val (.int (5 : Int32)), .val (.ref b1), .val (.ref b14), .val (.ref w_INTENTION_EXCLUSIVE)] [(.int (5 : Int32)), (.ref b14), (.ref w_INTENTION_EXCLUSIVE)])) rfl rfl (hb hby at_104) _ ?_
    show Steps p.tables e below (T27.setTop (mkF m 105 #[.val (.int p0_), .val (.int (5 : Int32)), .val (.ref b1), .val (.ref b14), .val (.ref w_INTENTION_EXCLUSIVE)] [(.ref w_INTENTION_EXCLUSIVE), (.ref w_INTENTION_EXCLUSIVE)])) _
    refine Jvm.RoadKit.acmp (g := (mkF m 105 #[.val (.int p0_), .val (.int (5 : Int32)), .val (.ref b1), .val (.ref b14), .val (.ref w_INTENTION_EXCLUSIVE)] [(.ref w_INTENTION_EXCLUSIVE), (.ref w_INTENTION_EXCLUSIVE)])) X27 hx rfl rfl rfl (pc0 := 105) (pc' := 108) (same := true) rfl (hb hby at_105) rfl (decide_eq_true rfl) (by decide) (by decide) ?_
    show Steps p.tables e below (T27.setTop (mkF m 108 #[.val (.int p0_), .val (.int (5 : Int32)), .val (.ref b1), .val (.ref b14), .val (.ref w_INTENTION_EXCLUSIVE)] [])) _
    refine XS.iconst X27.here hx rfl (hb hby at_108) ?_
    show Steps p.tables e below (T27.setTop (mkF m 109 #[.val (.int p0_), .val (.int (5 : Int32)), .val (.ref b1), .val (.ref b14), .val (.ref w_INTENTION_EXCLUSIVE)] [(.int (1 : Int32))])) _
    refine XS.goto X27.here hx rfl (pc0 := 109) (pc' := 113) rfl (hb hby at_109) (by decide) (by decide) ?_
    show Steps p.tables e below (T27.setTop (mkF m 113 #[.val (.int p0_), .val (.int (5 : Int32)), .val (.ref b1), .val (.ref b14), .val (.ref w_INTENTION_EXCLUSIVE)] [(.int (1 : Int32))])) _
    exact retN X27 hx (t := .boolean) Bd.returns (by simp) (hb hby at_113) hr
  · show own_QL n0 _ T27.heap _
    exact ⟨rfl, N27⟩
set_option maxRecDepth 65536 in
set_option maxHeartbeats 40000000 in
theorem comes_1 {Post : Tables → Env → Array Value → State → Outcome → State → Prop} (hpost : ∀ tb e args s v u, (limb_1_1.after args s (.returned v) u = true ∧ limb_1_2.after args s (.returned v) u = true ∧ True) → FrameEnd s (.returned v) u (Jvm.fieldLocs frame_1_writes args s ++ Jvm.arrayLocs frame_1_arrays args s ++ Jvm.staticLocs frame_1_statics s) 16 128 → Post tb e args s (.returned v) u) :
    ArmFor flags0 classFile x code maxLocals ret World_1 tables_1 room_1 Calls_1 rest_1 Pre_1 Post := by
  intro l hfl _ _ p e ha hc hk s m args below hf hA hF happ hP
  obtain ⟨hcalls, hrest, hpre⟩ := hP
  obtain ⟨-, -, -, hnamed, -, -, -, hat⟩ := (Spec.applies_iff hf).mp happ
  obtain ⟨hg, hn⟩ := and_e (Cond.before_iff.mp (show (Jvm.Cond.and given_1 narrow_1).before args s = true from hpre))
  obtain ⟨hg0, hgr⟩ := and_e hg
  have ga0 := hgr
  obtain ⟨w0_, rfl⟩ : ∃ w0_ : Value, args = #[w0_] := by
    have hs : args.size = 1 := by simpa [Cond.value, given_1] using hg0
    obtain ⟨L⟩ := args
    match L, hs with
    | [w0_], _ => exact ⟨w0_, rfl⟩
  have hw := fun d (hd : d ∈ tables_1) => atoms_spec (ws := Jvm.Cond.code x code maxLocals ret :: tables_1) hat d (List.mem_cons_of_mem _ hd)
  obtain ⟨p0_, ei0⟩ := is_v ga0
  obtain rfl : w0_ = (.int p0_) := Option.some.inj ei0
  obtain ⟨c0, r0⟩ := and_e hn
  obtain ⟨c1, r1⟩ := and_e r0
  obtain ⟨c2, r2⟩ := and_e r1
  obtain ⟨c3, r3⟩ := and_e r2
  obtain ⟨c4, r4⟩ := and_e r3
  obtain ⟨c5, r5⟩ := and_e r4
  obtain ⟨c6, r6⟩ := and_e r5
  obtain ⟨c7, r7⟩ := and_e r6
  obtain ⟨c8, r8⟩ := and_e r7
  obtain ⟨c9, r9⟩ := and_e r8
  obtain ⟨c10, r10⟩ := and_e r9
  have c11 := r10
  obtain ⟨w_INTENTION_SHARED, ev_INTENTION_SHARED⟩ := exa_v c0
  have S_INTENTION_SHARED := Sta.start ev_INTENTION_SHARED (Or.inr ⟨(hw _ (List.mem_of_getElem? (i := 4) rfl)), (hw _ (List.mem_of_getElem? (i := 5) rfl))⟩)
  have E_w_INTENTION_SHARED := Exa.start ev_INTENTION_SHARED c0
  obtain ⟨w_INTENTION_EXCLUSIVE, ev_INTENTION_EXCLUSIVE⟩ := exa_v c1
  have S_INTENTION_EXCLUSIVE := Sta.start ev_INTENTION_EXCLUSIVE (Or.inr ⟨(hw _ (List.mem_of_getElem? (i := 4) rfl)), (hw _ (List.mem_of_getElem? (i := 8) rfl))⟩)
  have E_w_INTENTION_EXCLUSIVE := Exa.start ev_INTENTION_EXCLUSIVE c1
  obtain ⟨w_SHARED, ev_SHARED⟩ := exa_v c2
  have S_SHARED := Sta.start ev_SHARED (Or.inr ⟨(hw _ (List.mem_of_getElem? (i := 4) rfl)), (hw _ (List.mem_of_getElem? (i := 10) rfl))⟩)
  have E_w_SHARED := Exa.start ev_SHARED c2
  obtain ⟨w_SHARED_INTENTION_EXCLUSIVE, ev_SHARED_INTENTION_EXCLUSIVE⟩ := exa_v c3
  have S_SHARED_INTENTION_EXCLUSIVE := Sta.start ev_SHARED_INTENTION_EXCLUSIVE (Or.inr ⟨(hw _ (List.mem_of_getElem? (i := 4) rfl)), (hw _ (List.mem_of_getElem? (i := 12) rfl))⟩)
  have E_w_SHARED_INTENTION_EXCLUSIVE := Exa.start ev_SHARED_INTENTION_EXCLUSIVE c3
  obtain ⟨w_WRITE, ev_WRITE⟩ := exa_v c4
  have S_WRITE := Sta.start ev_WRITE (Or.inr ⟨(hw _ (List.mem_of_getElem? (i := 4) rfl)), (hw _ (List.mem_of_getElem? (i := 14) rfl))⟩)
  have E_w_WRITE := Exa.start ev_WRITE c4
  obtain ⟨w_EXCLUSIVE, ev_EXCLUSIVE⟩ := exa_v c5
  have S_EXCLUSIVE := Sta.start ev_EXCLUSIVE (Or.inr ⟨(hw _ (List.mem_of_getElem? (i := 4) rfl)), (hw _ (List.mem_of_getElem? (i := 16) rfl))⟩)
  have E_w_EXCLUSIVE := Exa.start ev_EXCLUSIVE c5
  have F_ordinal_w_INTENTION_SHARED := Fld.start ((fld_at ev_INTENTION_SHARED).symm.trans (own_eqI c6))
  have F_ordinal_w_SHARED := Fld.start ((fld_at ev_SHARED).symm.trans (own_eqI c7))
  have F_ordinal_w_SHARED_INTENTION_EXCLUSIVE := Fld.start ((fld_at ev_SHARED_INTENTION_EXCLUSIVE).symm.trans (own_eqI c8))
  have F_ordinal_w_INTENTION_EXCLUSIVE := Fld.start ((fld_at ev_INTENTION_EXCLUSIVE).symm.trans (own_eqI c9))
  have F_ordinal_w_EXCLUSIVE := Fld.start ((fld_at ev_EXCLUSIVE).symm.trans (own_eqI c10))
  have F_ordinal_w_WRITE := Fld.start ((fld_at ev_WRITE).symm.trans (own_eqI c11))
  have ne_INTENTION_SHARED__SHARED : ¬ (w_INTENTION_SHARED = w_SHARED) := own_fld_ne F_ordinal_w_INTENTION_SHARED F_ordinal_w_SHARED (by decide)
  have ne_INTENTION_EXCLUSIVE__SHARED : ¬ (w_INTENTION_EXCLUSIVE = w_SHARED) := own_fld_ne F_ordinal_w_INTENTION_EXCLUSIVE F_ordinal_w_SHARED (by decide)
  have ne_INTENTION_EXCLUSIVE__INTENTION_SHARED : ¬ (w_INTENTION_EXCLUSIVE = w_INTENTION_SHARED) := own_fld_ne F_ordinal_w_INTENTION_EXCLUSIVE F_ordinal_w_INTENTION_SHARED (by decide)
  have ne_SHARED_INTENTION_EXCLUSIVE__SHARED : ¬ (w_SHARED_INTENTION_EXCLUSIVE = w_SHARED) := own_fld_ne F_ordinal_w_SHARED_INTENTION_EXCLUSIVE F_ordinal_w_SHARED (by decide)
  have ne_SHARED_INTENTION_EXCLUSIVE__INTENTION_SHARED : ¬ (w_SHARED_INTENTION_EXCLUSIVE = w_INTENTION_SHARED) := own_fld_ne F_ordinal_w_SHARED_INTENTION_EXCLUSIVE F_ordinal_w_INTENTION_SHARED (by decide)
  have ne_WRITE__SHARED : ¬ (w_WRITE = w_SHARED) := own_fld_ne F_ordinal_w_WRITE F_ordinal_w_SHARED (by decide)
  have ne_WRITE__INTENTION_SHARED : ¬ (w_WRITE = w_INTENTION_SHARED) := own_fld_ne F_ordinal_w_WRITE F_ordinal_w_INTENTION_SHARED (by decide)
  have ne_EXCLUSIVE__SHARED : ¬ (w_EXCLUSIVE = w_SHARED) := own_fld_ne F_ordinal_w_EXCLUSIVE F_ordinal_w_SHARED (by decide)
  have ne_EXCLUSIVE__INTENTION_SHARED : ¬ (w_EXCLUSIVE = w_INTENTION_SHARED) := own_fld_ne F_ordinal_w_EXCLUSIVE F_ordinal_w_INTENTION_SHARED (by decide)
  have key : MetFree l x (head1 (Jvm.Cond.code x code maxLocals ret :: tables_1) room_1) (fun a U => a = #[(.int p0_)] ∧ s.Warmed39 U.vm ∧ U.heap = s.heap) (fun _ _ _ _ _ => True) (fun _ U o U' => ∃ v L, o = .returned v ∧ own_QL s.heap.size v U'.heap L ∧ FrameEnd U o U' L room_1.cells room_1.slots) := by
    rcases own_mod6 p0_ with q | q | q | q | q | q
    · exact own_law0 l s _ hw tables_1 p0_ w_INTENTION_SHARED w_INTENTION_EXCLUSIVE w_SHARED w_SHARED_INTENTION_EXCLUSIVE w_WRITE w_EXCLUSIVE s.heap s.heap.size (Nat.le_refl _) S_INTENTION_SHARED E_w_INTENTION_SHARED S_INTENTION_EXCLUSIVE E_w_INTENTION_EXCLUSIVE S_SHARED E_w_SHARED S_SHARED_INTENTION_EXCLUSIVE E_w_SHARED_INTENTION_EXCLUSIVE S_WRITE E_w_WRITE S_EXCLUSIVE E_w_EXCLUSIVE (by assumption) ne_INTENTION_SHARED__SHARED
    · exact own_law1 l s _ hw tables_1 p0_ w_INTENTION_SHARED w_INTENTION_EXCLUSIVE w_SHARED w_SHARED_INTENTION_EXCLUSIVE w_WRITE w_EXCLUSIVE s.heap s.heap.size (Nat.le_refl _) S_INTENTION_SHARED E_w_INTENTION_SHARED S_INTENTION_EXCLUSIVE E_w_INTENTION_EXCLUSIVE S_SHARED E_w_SHARED S_SHARED_INTENTION_EXCLUSIVE E_w_SHARED_INTENTION_EXCLUSIVE S_WRITE E_w_WRITE S_EXCLUSIVE E_w_EXCLUSIVE (by assumption) ne_INTENTION_EXCLUSIVE__SHARED ne_INTENTION_EXCLUSIVE__INTENTION_SHARED
    · exact own_law2 l s _ hw tables_1 p0_ w_INTENTION_SHARED w_INTENTION_EXCLUSIVE w_SHARED w_SHARED_INTENTION_EXCLUSIVE w_WRITE w_EXCLUSIVE s.heap s.heap.size (Nat.le_refl _) S_INTENTION_SHARED E_w_INTENTION_SHARED S_INTENTION_EXCLUSIVE E_w_INTENTION_EXCLUSIVE S_SHARED E_w_SHARED S_SHARED_INTENTION_EXCLUSIVE E_w_SHARED_INTENTION_EXCLUSIVE S_WRITE E_w_WRITE S_EXCLUSIVE E_w_EXCLUSIVE (by assumption)
    · exact own_law3 l s _ hw tables_1 p0_ w_INTENTION_SHARED w_INTENTION_EXCLUSIVE w_SHARED w_SHARED_INTENTION_EXCLUSIVE w_WRITE w_EXCLUSIVE s.heap s.heap.size (Nat.le_refl _) S_INTENTION_SHARED E_w_INTENTION_SHARED S_INTENTION_EXCLUSIVE E_w_INTENTION_EXCLUSIVE S_SHARED E_w_SHARED S_SHARED_INTENTION_EXCLUSIVE E_w_SHARED_INTENTION_EXCLUSIVE S_WRITE E_w_WRITE S_EXCLUSIVE E_w_EXCLUSIVE (by assumption) ne_SHARED_INTENTION_EXCLUSIVE__SHARED ne_SHARED_INTENTION_EXCLUSIVE__INTENTION_SHARED
    · exact own_law4 l s _ hw tables_1 p0_ w_INTENTION_SHARED w_INTENTION_EXCLUSIVE w_SHARED w_SHARED_INTENTION_EXCLUSIVE w_WRITE w_EXCLUSIVE s.heap s.heap.size (Nat.le_refl _) S_INTENTION_SHARED E_w_INTENTION_SHARED S_INTENTION_EXCLUSIVE E_w_INTENTION_EXCLUSIVE S_SHARED E_w_SHARED S_SHARED_INTENTION_EXCLUSIVE E_w_SHARED_INTENTION_EXCLUSIVE S_WRITE E_w_WRITE S_EXCLUSIVE E_w_EXCLUSIVE (by assumption) ne_WRITE__SHARED ne_WRITE__INTENTION_SHARED
    · exact own_law5 l s _ hw tables_1 p0_ w_INTENTION_SHARED w_INTENTION_EXCLUSIVE w_SHARED w_SHARED_INTENTION_EXCLUSIVE w_WRITE w_EXCLUSIVE s.heap s.heap.size (Nat.le_refl _) S_INTENTION_SHARED E_w_INTENTION_SHARED S_INTENTION_EXCLUSIVE E_w_INTENTION_EXCLUSIVE S_SHARED E_w_SHARED S_SHARED_INTENTION_EXCLUSIVE E_w_SHARED_INTENTION_EXCLUSIVE S_WRITE E_w_WRITE S_EXCLUSIVE E_w_EXCLUSIVE (by assumption) ne_EXCLUSIVE__SHARED ne_EXCLUSIVE__INTENTION_SHARED
  obtain ⟨n, o, h1, h2, h3, _, L, rfl, ⟨rfl, N⟩, hq⟩ := key p e ha hc hk s m _ below hf ((Spec.applies_iff_loose hf).mp happ).1 ⟨rfl, State.Warmed39.refl s, rfl⟩ trivial
  refine ⟨n, _, h1, h2, h3, hpost _ _ _ _ _ _ ⟨Cond.after_iff.mpr rfl, Cond.after_iff.mpr (eq_i res_at (Term.int_eval (1)) rfl), trivial⟩ ⟨hq.1, hq.2.1, (hq.2.2.sift fun y hy => Or.inr (N y hy)).mono (by decide) (by decide)⟩⟩
theorem main_1_1 : Claimed_1_1 := comes_1 fun _ _ _ _ _ _ h hF => ⟨h.1, hF⟩
theorem main_1_2 : Claimed_1_2 := comes_1 fun _ _ _ _ _ _ h hF => ⟨h.2.1, hF⟩
end Jvm.Pilot.@@N@@
namespace Jvm.Pilot.@@N@@
open Jvm Jvm.ClassFile Sem Op Lib Jvm.Free Jvm.Stand Jvm.Pilot.@@N@@.Jvm.D
/-! MADE BY PROGRAM (witnessworld.py) out of the Statement's table words and the real class files: 13 classes; the members and pool entries that the words name. The judged class is class 1, her method 1. -/
namespace start1
open Jvm.ClassFile
def u (s : String) : CpInfo := .utf8 (stringToUtf16 s)
/-- a pool by its gaps: so many unusable entries, then the entry; so many at the end -/
def gap : Nat → List CpInfo → List CpInfo
  | 0, r => r
  | n + 1, r => .unusable :: gap n r
def poolList (es : List (Nat × CpInfo)) (last : Nat) : List CpInfo := es.foldr (fun e r => gap e.1 (e.2 :: r)) (gap last [])
def pool (es : List (Nat × CpInfo)) (last : Nat) : Array CpInfo := ⟨poolList es last⟩
def fileOf (pool : Array CpInfo) (this : Nat) (attrs : Array Attribute := #[]) (ms : Array MethodInfo := #[]) (fl : Nat := 33) (sup : Nat := 0) (ifs : Array Nat := #[]) (fds : Array FieldInfo := #[]) : ClassFile where
  minorVersion := 0
  majorVersion := 65
  constantPool := pool
  accessFlags := fl
  thisClass := this
  superClass := sup
  interfaces := ifs
  fields := fds
  methods := ms
  attributes := attrs
def plain (name : String) (sup : Option ClassId) : Class where
  name := name
  kind := .ordinary
  loader := none
  accessFlags := 33
  super := sup
  interfaces := #[]
  cf := none
  fields := #[]
  methods := #[]
  instanceTypes := #[]
  staticTypes := #[]
  resolved := #[]
  callSites := []
  init := .initialized
  statics := none
  mirror := none

def pool0 : Array CpInfo := pool [(5, u "<init>"), (0, u "()V"), (1, .class_ 10), (1, u "java/lang/Object")] 113

def k0m0 : Method := { name := "<init>", desc := "()V", sig := { parameters := [], returnType := none }, accessFlags := 1, code := none }
/-- java/lang/Object -/
def k0 : Class := { plain "java/lang/Object" none with
  accessFlags := 33
  interfaces := #[]
  cf := some (fileOf pool0 8 #[] #[{ accessFlags := 1, nameIndex := 5, descriptorIndex := 6, attributes := #[] }] 33 0 #[] #[])
  fields := #[]
  methods := #[k0m0]
  instanceTypes := #[]
  staticTypes := #[]
  resolved := Array.replicate 124 none
  statics := none }

def pool1 : Array CpInfo := pool [(2, .class_ 4), (1, u "java/lang/Object"), (0, u "<init>"), (0, u "()V"), (0, .integer 2147483647), (0, .class_ 9), (0, u "com/example/palimpsest/palimpsest/tx/LockMode"), (0, .fieldref 8 11), (0, .nameAndType 12 13), (0, u "INTENTION_SHARED"), (0, u "Lcom/example/palimpsest/palimpsest/tx/LockMode;"), (0, .fieldref 8 15), (0, .nameAndType 16 13), (0, u "INTENTION_EXCLUSIVE"), (0, .fieldref 8 18), (0, .nameAndType 19 13), (0, u "SHARED"), (0, .fieldref 8 21), (0, .nameAndType 22 13), (0, u "SHARED_INTENTION_EXCLUSIVE"), (0, .fieldref 8 24), (0, .nameAndType 25 13), (0, u "WRITE"), (0, .fieldref 8 27), (0, .nameAndType 28 13), (0, u "EXCLUSIVE"), (0, .methodref 8 30), (0, .nameAndType 31 32), (0, u "intention"), (0, u "()Lcom/example/palimpsest/palimpsest/tx/LockMode;"), (0, .class_ 34), (0, u "com/example/palimpsest/palimpsest/tx/LockModeIntentionPinLaw"), (2, u "law"), (0, u "(I)Z")] 5

def k1m0 : Method := { name := "<init>", desc := "()V", sig := { parameters := [], returnType := none }, accessFlags := 1, code := none }
def k1c1 : Code := { maxStack := 4, maxLocals := 5, code := code, exceptionTable := #[], attributes := #[] }
def k1m1 : Method := { name := "law", desc := "(I)Z", sig := { parameters := [.int], returnType := some .boolean }, accessFlags := 9, code := some k1c1 }
/-- com/example/palimpsest/palimpsest/tx/LockModeIntentionPinLaw -/
def k1 : Class := { plain "com/example/palimpsest/palimpsest/tx/LockModeIntentionPinLaw" (some 0) with
  accessFlags := 49
  interfaces := #[]
  cf := some (fileOf pool1 33 #[] #[{ accessFlags := 1, nameIndex := 5, descriptorIndex := 6, attributes := #[] }, { accessFlags := 9, nameIndex := 37, descriptorIndex := 38, attributes := #[] }] 49 2 #[] #[])
  fields := #[]
  methods := #[k1m0, k1m1]
  instanceTypes := #[]
  staticTypes := #[]
  resolved := Array.replicate 44 none
  statics := none }

def pool2 : Array CpInfo := pool [(1, .class_ 2), (0, u "java/lang/constant/Constable"), (0, .class_ 4), (0, u "java/lang/Object")] 6

/-- java/lang/constant/Constable -/
def k2 : Class := { plain "java/lang/constant/Constable" (some 0) with
  accessFlags := 1537
  interfaces := #[]
  cf := some (fileOf pool2 1 #[] #[] 1537 3 #[] #[])
  fields := #[]
  methods := #[]
  instanceTypes := #[]
  staticTypes := #[]
  resolved := Array.replicate 11 none
  statics := none }

def pool3 : Array CpInfo := pool [(1, .class_ 2), (0, u "java/lang/Comparable"), (0, .class_ 4), (0, u "java/lang/Object")] 7

/-- java/lang/Comparable -/
def k3 : Class := { plain "java/lang/Comparable" (some 0) with
  accessFlags := 1537
  interfaces := #[]
  cf := some (fileOf pool3 1 #[] #[] 1537 3 #[] #[])
  fields := #[]
  methods := #[]
  instanceTypes := #[]
  staticTypes := #[]
  resolved := Array.replicate 12 none
  statics := none }

def pool4 : Array CpInfo := pool [(1, .class_ 2), (0, u "java/io/Serializable"), (0, .class_ 4), (0, u "java/lang/Object")] 2

/-- java/io/Serializable -/
def k4 : Class := { plain "java/io/Serializable" (some 0) with
  accessFlags := 1537
  interfaces := #[]
  cf := some (fileOf pool4 1 #[] #[] 1537 3 #[] #[])
  fields := #[]
  methods := #[]
  instanceTypes := #[]
  staticTypes := #[]
  resolved := Array.replicate 7 none
  statics := none }

def pool5 : Array CpInfo := pool [(2, .class_ 4), (1, u "java/lang/Enum"), (0, u "name"), (0, u "Ljava/lang/String;"), (2, u "ordinal"), (0, u "I"), (1, .class_ 14), (1, u "java/lang/Object"), (4, u "hash"), (86, .class_ 108), (1, u "java/lang/Enum$EnumDesc"), (2, .class_ 112), (0, u "java/lang/constant/Constable"), (0, .class_ 114), (0, u "java/lang/Comparable"), (0, .class_ 116), (0, u "java/io/Serializable")] 87

/-- java/lang/Enum -/
def k5 : Class := { plain "java/lang/Enum" (some 0) with
  accessFlags := 1057
  interfaces := #[2, 3, 4]
  cf := some (fileOf pool5 2 #[.nestMembers #[106]] #[] 1057 12 #[111, 113, 115] #[{ accessFlags := 18, nameIndex := 5, descriptorIndex := 6, attributes := #[] }, { accessFlags := 18, nameIndex := 9, descriptorIndex := 10, attributes := #[] }, { accessFlags := 2, nameIndex := 19, descriptorIndex := 10, attributes := #[] }])
  fields := #[{ name := "name", type := (.object "java/lang/String"), accessFlags := 18, slot := 0, constantValue := 0 }, { name := "ordinal", type := .int, accessFlags := 18, slot := 1, constantValue := 0 }, { name := "hash", type := .int, accessFlags := 2, slot := 2, constantValue := 0 }]
  methods := #[]
  instanceTypes := #[(.object "java/lang/String"), .int, .int]
  staticTypes := #[]
  resolved := Array.replicate 204 none
  statics := none }

def pool6 : Array CpInfo := pool [(1, .class_ 2), (0, u "com/example/palimpsest/palimpsest/tx/LockMode"), (0, .fieldref 1 4), (0, .nameAndType 5 6), (0, u "INTENTION_SHARED"), (0, u "Lcom/example/palimpsest/palimpsest/tx/LockMode;"), (0, .fieldref 1 8), (0, .nameAndType 9 6), (0, u "INTENTION_EXCLUSIVE"), (0, .fieldref 1 11), (0, .nameAndType 12 6), (0, u "SHARED"), (2, u "SHARED_INTENTION_EXCLUSIVE"), (2, u "WRITE"), (2, u "EXCLUSIVE"), (2, u "$VALUES"), (0, u "[Lcom/example/palimpsest/palimpsest/tx/LockMode;"), (6, .class_ 34), (1, u "java/lang/Enum"), (21, u "intention"), (0, u "()Lcom/example/palimpsest/palimpsest/tx/LockMode;")] 28

def k6c0 : Code := { maxStack := 2, maxLocals := 1, code := prog_191_method_7_code, exceptionTable := #[], attributes := #[] }
def k6m0 : Method := { name := "intention", desc := "()Lcom/example/palimpsest/palimpsest/tx/LockMode;", sig := { parameters := [], returnType := some (.object "com/example/palimpsest/palimpsest/tx/LockMode") }, accessFlags := 0, code := some k6c0 }
/-- com/example/palimpsest/palimpsest/tx/LockMode -/
def k6 : Class := { plain "com/example/palimpsest/palimpsest/tx/LockMode" (some 5) with
  accessFlags := 16433
  interfaces := #[]
  cf := some (fileOf pool6 1 #[] #[{ accessFlags := 0, nameIndex := 56, descriptorIndex := 57, attributes := #[] }] 16433 32 #[] #[{ accessFlags := 16409, nameIndex := 5, descriptorIndex := 6, attributes := #[] }, { accessFlags := 16409, nameIndex := 9, descriptorIndex := 6, attributes := #[] }, { accessFlags := 16409, nameIndex := 12, descriptorIndex := 6, attributes := #[] }, { accessFlags := 16409, nameIndex := 15, descriptorIndex := 6, attributes := #[] }, { accessFlags := 16409, nameIndex := 18, descriptorIndex := 6, attributes := #[] }, { accessFlags := 16409, nameIndex := 21, descriptorIndex := 6, attributes := #[] }, { accessFlags := 4122, nameIndex := 24, descriptorIndex := 25, attributes := #[] }])
  fields := #[{ name := "INTENTION_SHARED", type := (.object "com/example/palimpsest/palimpsest/tx/LockMode"), accessFlags := 16409, slot := 0, constantValue := 0 }, { name := "INTENTION_EXCLUSIVE", type := (.object "com/example/palimpsest/palimpsest/tx/LockMode"), accessFlags := 16409, slot := 1, constantValue := 0 }, { name := "SHARED", type := (.object "com/example/palimpsest/palimpsest/tx/LockMode"), accessFlags := 16409, slot := 2, constantValue := 0 }, { name := "SHARED_INTENTION_EXCLUSIVE", type := (.object "com/example/palimpsest/palimpsest/tx/LockMode"), accessFlags := 16409, slot := 3, constantValue := 0 }, { name := "WRITE", type := (.object "com/example/palimpsest/palimpsest/tx/LockMode"), accessFlags := 16409, slot := 4, constantValue := 0 }, { name := "EXCLUSIVE", type := (.object "com/example/palimpsest/palimpsest/tx/LockMode"), accessFlags := 16409, slot := 5, constantValue := 0 }, { name := "$VALUES", type := (.array (.object "com/example/palimpsest/palimpsest/tx/LockMode")), accessFlags := 4122, slot := 6, constantValue := 0 }]
  methods := #[k6m0]
  instanceTypes := #[(.object "java/lang/String"), .int, .int]
  staticTypes := #[(.object "com/example/palimpsest/palimpsest/tx/LockMode"), (.object "com/example/palimpsest/palimpsest/tx/LockMode"), (.object "com/example/palimpsest/palimpsest/tx/LockMode"), (.object "com/example/palimpsest/palimpsest/tx/LockMode"), (.object "com/example/palimpsest/palimpsest/tx/LockMode"), (.object "com/example/palimpsest/palimpsest/tx/LockMode"), (.array (.object "com/example/palimpsest/palimpsest/tx/LockMode"))]
  resolved := Array.replicate 86 none
  statics := some 0 }

def pool7 : Array CpInfo := pool [(1, u "java/lang/Cloneable"), (0, .class_ 1), (0, u "java/lang/Object"), (0, .class_ 3)] 3

/-- java/lang/Cloneable -/
def k7 : Class := { plain "java/lang/Cloneable" (some 0) with
  accessFlags := 1537
  interfaces := #[]
  cf := some (fileOf pool7 2 #[] #[] 1537 4 #[] #[])
  fields := #[]
  methods := #[]
  instanceTypes := #[]
  staticTypes := #[]
  resolved := Array.replicate 8 none
  statics := none }

/-- the primitive byte -/
def k8 : Class := { plain "byte" none with kind := .primitive 'B', accessFlags := 0x411 }
/-- [B -/
def k9 : Class := { plain "[B" (some 0) with kind := .array 8 .byte, interfaces := #[7, 4], accessFlags := 1041 }

/-- the primitive int -/
def k10 : Class := { plain "int" none with kind := .primitive 'I', accessFlags := 0x411 }
/-- [I -/
def k11 : Class := { plain "[I" (some 0) with kind := .array 10 .int, interfaces := #[7, 4], accessFlags := 1041 }

/-- [Lcom/example/palimpsest/palimpsest/tx/LockMode; -/
def k12 : Class := { plain "[Lcom/example/palimpsest/palimpsest/tx/LockMode;" (some 0) with kind := .array 6 (.object "com/example/palimpsest/palimpsest/tx/LockMode"), interfaces := #[7, 4], accessFlags := 1041 }

def heap : Heap := #[{ cls := 6, slots := #[.ref 1, .ref 2, .ref 3, .ref 4, .ref 5, .ref 6, .null], vm := .statics 6 },
  { cls := 6, slots := #[.null, .int 0, .int 0], vm := .none },
  { cls := 6, slots := #[.null, .int 1, .int 0], vm := .none },
  { cls := 6, slots := #[.null, .int 2, .int 0], vm := .none },
  { cls := 6, slots := #[.null, .int 3, .int 0], vm := .none },
  { cls := 6, slots := #[.null, .int 4, .int 0], vm := .none },
  { cls := 6, slots := #[.null, .int 5, .int 0], vm := .none }]
def classes : Array Class := #[k0, k1, k2, k3, k4, k5, k6, k7, k8, k9, k10, k11, k12]
def interned : List (Array UInt16 × Addr) := []
def slotsUsed : Nat := 25
def theMethod : MethodId := ⟨1, 1⟩
def args0 : Array Value := #[.int 5]
def aboutOver (below : List Frame) : State where
  vm := { classes := classes, interned := interned.toArray }
  heap := heap
  slotsUsed := slotsUsed
  threads := #[{ frames := .invoking theMethod args0 :: below }]
def below0 : List Frame := [.native { method := ⟨0, 0⟩, args := #[] }]
def about1 : State := aboutOver below0
def p0 : Program := .bare "" "" ""
def e0 : Env := launch0.env 0 0 0
theorem w_frames : about1.frames = Frame.invoking theMethod args0 :: below0 := rfl
set_option maxRecDepth 65536 in
theorem w_args : argsFit about1.vm theMethod args0 = true := by decide +kernel
set_option maxRecDepth 65536 in
theorem w_heap : heapFits about1 = true := by decide +kernel
set_option maxRecDepth 65536 in
theorem w_runnable : about1.curStatus? = some .runnable := by decide +kernel
set_option maxRecDepth 65536 in
theorem w_alone : about1.alone = true := by decide +kernel
set_option maxRecDepth 65536 in
theorem w_named : about1.methodNamed? x = some theMethod := by decide +kernel
set_option maxRecDepth 65536 in
theorem w_hears : about1.hears theMethod below0 = true := by decide +kernel
set_option maxRecDepth 65536 in
theorem w_ripe : about1.ripe theMethod args0 below0 = true := by decide +kernel
theorem w_running : about1.status = .running := rfl
set_option maxRecDepth 65536 in
theorem w_room : about1.hasRoom e0.platform room_1 = true :=
  launch0.hasRoom_least _ room_1 (by decide +kernel) (by decide +kernel) (by decide +kernel) (by decide +kernel) (by decide +kernel) (by decide +kernel)
theorem allAtoms_all (ts : List Jvm.Cond) (a : Array Jvm.Value) (st : Jvm.State) : (allAtoms ts).before a st = ts.all (fun c => c.before a st) := by
  induction ts with
  | nil => rfl
  | cons c t ih =>
    show (Jvm.Cond.and c (allAtoms t)).before a st = _
    rw [Jvm.Cond.before_and, ih, List.all_cons]
def words1 : List Jvm.Cond := Jvm.Cond.code x code maxLocals ret :: tables_1
/-- a 'code' word, met by the world's own term for the bytes: nothing is compared byte by byte -/
theorem code_word {y : MethodName} {bytes : ByteArray} {mx : Nat} {rt : Option FieldType} {a : Array Value} {s : State} {m : MethodId} {meth : Method} {c : Code} (h1 : s.methodNamed? y = some m) (h2 : s.vm.method? m = some meth) (h3 : meth.code = some c) (h4 : c.code = bytes)
    (h5 : (c.maxLocals == mx && c.exceptionTable.isEmpty && decide (c.maxStack ≤ mostOperands) && decide (meth.sig.returnType = rt) && !meth.locks && decide (parseMethodDescriptor y.desc = some meth.sig)) = true) : (Jvm.Cond.code y bytes mx rt).before a s = true := by
  simp only [Bool.and_eq_true, beq_iff_eq, Bool.not_eq_true', decide_eq_true_eq] at h5
  obtain ⟨⟨⟨⟨⟨g1, g2⟩, g3⟩, g4⟩, g5⟩, g6⟩ := h5
  simp [Cond.before, Cond.holds, Cond.value, h1, h2, h3, h4, g1, g2, g3, g4, g5, g6]
def isCode : Jvm.Cond → Bool
  | .code _ _ _ _ => true
  | _ => false
theorem all_split {L : List Jvm.Cond} {P : Jvm.Cond → Bool} (h1 : L.all (fun c => isCode c || P c) = true) (h2 : ∀ c ∈ L.filter isCode, P c = true) : L.all P = true := by
  refine List.all_eq_true.mpr fun c hc => ?_
  have h := List.all_eq_true.mp h1 c hc
  rcases Bool.eq_false_or_eq_true (isCode c) with hi | hi
  · exact h2 c (List.mem_filter.mpr ⟨hc, hi⟩)
  · simpa [hi] using h
set_option maxRecDepth 65536 in
theorem w_c0 : (Jvm.Cond.code x code maxLocals ret).before args0 about1 = true := code_word (m := ⟨1, 1⟩) (meth := k1m1) (c := k1c1) (by decide +kernel) rfl rfl rfl (by decide +kernel)
set_option maxRecDepth 65536 in
theorem w_c1 : (Jvm.Cond.code ({ cls := "com/example/palimpsest/palimpsest/tx/LockMode", name := "intention", desc := "()Lcom/example/palimpsest/palimpsest/tx/LockMode;" } : Jvm.MethodName) prog_191_method_7_code (1 : Nat) (Option.some (Jvm.ClassFile.FieldType.object "com/example/palimpsest/palimpsest/tx/LockMode"))).before args0 about1 = true := code_word (m := ⟨6, 0⟩) (meth := k6m0) (c := k6c0) (by decide +kernel) rfl rfl rfl (by decide +kernel)
def codes1 : List Jvm.Cond := [Jvm.Cond.code x code maxLocals ret, Jvm.Cond.code ({ cls := "com/example/palimpsest/palimpsest/tx/LockMode", name := "intention", desc := "()Lcom/example/palimpsest/palimpsest/tx/LockMode;" } : Jvm.MethodName) prog_191_method_7_code (1 : Nat) (Option.some (Jvm.ClassFile.FieldType.object "com/example/palimpsest/palimpsest/tx/LockMode"))]
set_option maxRecDepth 65536 in
theorem codes_eq : words1.filter isCode = codes1 := rfl
theorem w_codes : ∀ c ∈ words1.filter isCode, c.before args0 about1 = true := by
  rw [codes_eq]
  intro c hc
  simp only [codes1, List.mem_cons, List.not_mem_nil, or_false] at hc
  rcases hc with rfl | rfl
  · exact w_c0
  · exact w_c1
set_option maxRecDepth 65536 in
theorem w_t1 : (words1.take 24).all (fun c => isCode c || c.before args0 about1) = true := by decide +kernel
set_option maxRecDepth 65536 in
theorem w_t2 : (words1.drop 24).all (fun c => isCode c || c.before args0 about1) = true := by decide +kernel
theorem w_tables : (allAtoms (Jvm.Cond.code x code maxLocals ret :: tables_1)).before args0 about1 = true := by
  rw [allAtoms_all]
  show words1.all (fun c => c.before args0 about1) = true
  refine all_split ?_ w_codes
  rw [← List.take_append_drop 24 words1, List.all_append, w_t1, w_t2]
  rfl
set_option maxRecDepth 65536 in
theorem w_case : (Jvm.Cond.and given_1 narrow_1).before args0 about1 = true := by decide +kernel
theorem w_applies : (headSpec (Jvm.Cond.code x code maxLocals ret :: tables_1) room_1).applies x e0.platform about1 = true :=
  (Spec.applies_iff w_frames).mpr ⟨w_running, w_runnable, w_alone, w_named, w_hears, w_ripe, w_room, w_tables⟩
theorem atStart : AtStart classFile x code maxLocals ret World_1 tables_1 room_1 Calls_1 rest_1 Pre_1 launch0 p0 e0 about1 theMethod args0 below0 :=
  ⟨lists_1, trivial, launch0.admits_env _ _ _, launch0.least_env, fairChoices_fair.cas, fairChoices_fair.clock, w_frames, w_args, w_heap, w_applies, trivial, trivial, w_case⟩
end start1
theorem witness_1 : WitnessClaimed_1 := ⟨start1.p0, start1.e0, start1.about1, start1.theMethod, start1.args0, start1.below0, start1.atStart⟩
end Jvm.Pilot.@@N@@
