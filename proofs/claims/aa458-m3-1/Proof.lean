import JvmDerived
import JvmDerived.Pilot.@@N@@Statement
import JvmDerived.Pilot.@@N@@Code
set_option linter.unusedVariables false
set_option linter.unusedSimpArgs false
@@BLOCK:NumsL.lean.txt@@
namespace Jvm.RoadKit
open Sem ClassFile Op Lib Jvm.Stand Jvm.Free Jvm.LawKit
section New
variable {p : Program} {l : Launch} {e : Env} {R : Room} {s : State} {m : MethodId} {args : Array Value} {below : List Frame} {meth : Method} {c : Code} {T : State} {locs : List Loc} {cells slots : Nat}
theorem retI (X : Stand p l e R s m args below meth c T locs cells slots) (hx : p.tables.exec = Jvm.exec) {pc : Nat} {Ls : Array Slot} {z : Int32} {rest : List Value} (hret : meth.sig.returnType = some .int) (hd : decode c.code pc = .ok (.ireturn, 1)) {fs : List Frame}
    (hl : ∀ (f : JFrame) (acts : List Action), f.method = m → f.locked = none → f.entered = [] → (doReturn e (T.setTop f) acts (some (.int z))).1 = T.setFrames fs) : Steps p.tables e below (T.setTop (mkF m pc Ls (.int z :: rest))) (T.setFrames fs) := by
  have hm' : T.vm.method? m = some meth := X.method'
  have hn : narrow .int (.int z) = .int z := rfl
  show Steps p.tables e below (T.setTop { method := m, pc := pc, locals := Ls, stack := _ :: rest, locked := none }) _
  jvm_step X.here [X.here.top, hx, hd, hm', hret, hn]
  first | (intro acts; rw [hl _ acts rfl rfl rfl]) | rw [hl _ _ rfl rfl rfl]
  exact Steps.refl _
end New
end Jvm.RoadKit
namespace Jvm.Pilot.@@N@@
open Jvm Jvm.ClassFile Sem Op Lib Jvm.Free Jvm.Stand Jvm.LawKit Jvm.RoadKit Bundle Jvm.Pilot.@@N@@.Jvm.D
def own_QP (v0 : Option Value) (h0 : Heap) (n0 : Nat) (v : Option Value) (h : Heap) (L : List Loc) : Prop := v = v0 ∧ Fr n0 L ∧ h = h0
def own_QL (n0 : Nat) (v : Option Value) (h : Heap) (L : List Loc) : Prop := v = some (.int (1 : Int32)) ∧ Fr n0 L
theorem own_ext {h h' : Heap} (K : Keep h h' []) : Ext h h' := ⟨K.1, fun x c q => K.2.1 x c q (by simp)⟩
theorem own_sta_keep {Z : State} {h h' : Heap} {a : Addr} {C K n d : String} {w : Value} (S : Sta Z h C n d w) (k : Keep h h' [a]) (E : Exa Z h a K) : Sta Z h' C n d w := by
  obtain ⟨cf, i, kk, f, st, cell, h1, h2, h3, h4, h5, h6, h7⟩ := S
  refine ⟨cf, i, kk, f, st, cell, h1, h2, h3, h4, k.2.1 st cell h5 ?_, h6, h7⟩
  intro q
  cases List.mem_singleton.mp q
  obtain ⟨c2, _, g1, -, -, g4, -⟩ := E
  cases h5.symm.trans g1
  rw [g4] at h6
  cases h6
theorem own_fld_ne {Z : State} {h : Heap} {a b : Addr} {C n d : String} {v w : Value} (F : Fld Z h a C n d v) (G : Fld Z h b C n d w) (q : v ≠ w) : ¬ (a = b) := fun e => by
  subst e
  obtain ⟨c1, f1, k1, i1, g1, a1, a2, -, -, -, -, a7⟩ := F
  obtain ⟨c2, f2, k2, i2, g2, b1, b2, -, -, -, -, b7⟩ := G
  cases a1.symm.trans b1
  cases a2.symm.trans b2
  exact q (Option.some.inj (a7.symm.trans b7))
theorem own_eqI {t : Term} {args : Array Value} {s : State} {k : Int32} (h : (Cond.eq t (.int k)).value args s none s [] = some true) : t.eval args s none [] s = some (.int k) := by
  cases ht : t.eval args s none [] s with
  | none => simp [Cond.value, Term.eval, ht] at h
  | some v => cases v <;> simp [Cond.value, Term.eval, ht] at h ⊢; exact h
theorem own_eqL {t : Term} {args : Array Value} {s : State} {k : Int64} (h : (Cond.eq t (.long k)).value args s none s [] = some true) : t.eval args s none [] s = some (.long k) := by
  cases ht : t.eval args s none [] s with
  | none => simp [Cond.value, Term.eval, ht] at h
  | some v => cases v <;> simp [Cond.value, Term.eval, ht] at h ⊢; exact h
theorem own_and3 (k : Int32) : (k &&& (3 : Int32)) = (0 : Int32) ∨ (k &&& (3 : Int32)) = (1 : Int32) ∨ (k &&& (3 : Int32)) = (2 : Int32) ∨ (k &&& (3 : Int32)) = (3 : Int32) := by
  have e1 : (k &&& (3 : Int32)).toInt = k.toInt % 2 ^ 2 := Jvm.Kit.i32_mask k 3 (k := 2) (by decide) (by decide)
  generalize (k &&& (3 : Int32)) = z at *
  have e4 : z.toInt = 0 ∨ z.toInt = 1 ∨ z.toInt = 2 ∨ z.toInt = 3 := by omega
  rcases e4 with q | q | q | q
  · exact Or.inl (Int32.toInt_inj.mp (q.trans (by decide)))
  · exact Or.inr (Or.inl (Int32.toInt_inj.mp (q.trans (by decide))))
  · exact Or.inr (Or.inr (Or.inl (Int32.toInt_inj.mp (q.trans (by decide)))))
  · exact Or.inr (Or.inr (Or.inr ((Int32.toInt_inj.mp (q.trans (by decide))))))
theorem d1_0 : decode prog_87_method_7_code 0 = .ok (.aload_n 0, 1) := by decide +kernel
theorem d1_1 : decode prog_87_method_7_code 1 = .ok (.getfield 39, 3) := by decide +kernel
theorem d1_4 : decode prog_87_method_7_code 4 = .ok (.ifCond .eq 9, 3) := by decide +kernel
theorem d1_7 : decode prog_87_method_7_code 7 = .ok (.getstatic 13, 3) := by decide +kernel
theorem d1_10 : decode prog_87_method_7_code 10 = .ok (.goto 6, 3) := by decide +kernel
theorem d1_13 : decode prog_87_method_7_code 13 = .ok (.getstatic 10, 3) := by decide +kernel
theorem d1_16 : decode prog_87_method_7_code 16 = .ok (.areturn, 1) := by decide +kernel
theorem d2_0 : decode prog_87_method_4_code 0 = .ok (.aload_n 0, 1) := by decide +kernel
theorem d2_1 : decode prog_87_method_4_code 1 = .ok (.getfield 39, 3) := by decide +kernel
theorem d2_4 : decode prog_87_method_4_code 4 = .ok (.ireturn, 1) := by decide +kernel
theorem d3_0 : decode prog_87_method_5_code 0 = .ok (.aload_n 0, 1) := by decide +kernel
theorem d3_1 : decode prog_87_method_5_code 1 = .ok (.getfield 43, 3) := by decide +kernel
theorem d3_4 : decode prog_87_method_5_code 4 = .ok (.ireturn, 1) := by decide +kernel
theorem own_pn0 : plainName "com/example/modelward/modelward/ocl/OclCollection$Kind" = true := by first | (simp [plainName, overriddenIn]; done) | decide +kernel
theorem own_pn1 : plainName "com/example/modelward/modelward/ocl/KindCollectedPinLaw" = true := by first | (simp [plainName, overriddenIn]; done) | decide +kernel
theorem own_pd0 : parseMethodDescriptor "()Lcom/example/modelward/modelward/ocl/OclCollection$Kind;" = some ⟨[], some (.object "com/example/modelward/modelward/ocl/OclCollection$Kind")⟩ := by decide +kernel
theorem own_pd1 : parseMethodDescriptor "()Z" = some ⟨[], some .boolean⟩ := by decide +kernel
theorem own_ef0 (m : MethodId) (x0 : Addr) : entryFrame m #[(.ref x0)] 1 = mkF m 0 #[.val (.ref x0)] [] := by first | (simp [entryFrame, mkF, argsToLocals, Value.category]; done) | rfl
theorem own_ef1 (m : MethodId) (x0 : Addr) : entryFrame m #[(.ref x0)] 1 = mkF m 0 #[.val (.ref x0)] [] := by first | (simp [entryFrame, mkF, argsToLocals, Value.category]; done) | rfl
theorem own_ef2 (m : MethodId) (x0 : Addr) : entryFrame m #[(.ref x0)] 1 = mkF m 0 #[.val (.ref x0)] [] := by first | (simp [entryFrame, mkF, argsToLocals, Value.category]; done) | rfl
theorem own_ef3 (m : MethodId) (x0 : Int32) : entryFrame m #[(.int x0)] maxLocals = mkF m 0 #[.val (.int x0), .unset, .unset, .unset, .unset] [] := by first | (simp [entryFrame, mkF, argsToLocals, Value.category, maxLocals]; done) | rfl
set_option maxRecDepth 65536 in
set_option maxHeartbeats 40000000 in
theorem own_b1_t (l : Launch) (Z : State) (a0 : Array Value) (hw : ∀ d ∈ tables_1, d.before a0 Z = true) (ws : List Jvm.Cond) (a0_ : Addr) (f_ordered_a0_ : Int32) (w_BAG : Addr) (h0 : Heap) (n0 : Nat) (Z0 : n0 ≤ h0.size) (F_ordered_a0_ : Fld Z h0 a0_ "com/example/modelward/modelward/ocl/OclCollection$Kind" "ordered" "Z" (.int f_ordered_a0_)) (S_BAG : Sta Z h0 "com/example/modelward/modelward/ocl/OclCollection$Kind" "BAG" "Lcom/example/modelward/modelward/ocl/OclCollection$Kind;" (.ref w_BAG)) (hf0 : f_ordered_a0_ = (0 : Int32)) :
    MetFree l (⟨"com/example/modelward/modelward/ocl/OclCollection$Kind", "collected", "()Lcom/example/modelward/modelward/ocl/OclCollection$Kind;"⟩ : MethodName) (head1 (Jvm.Cond.code (⟨"com/example/modelward/modelward/ocl/OclCollection$Kind", "collected", "()Lcom/example/modelward/modelward/ocl/OclCollection$Kind;"⟩ : MethodName) prog_87_method_7_code 1 (some (.object "com/example/modelward/modelward/ocl/OclCollection$Kind")) :: ws) ({ frames := 0, cells := 0, slots := 0, locals := 0 } : Room)) (fun a U => a = #[(.ref a0_)] ∧ Z.Warmed39 U.vm ∧ U.heap = h0) (fun _ _ _ _ _ => True) (fun _ U o U' => ∃ v L, o = .returned v ∧ own_QP (some (.ref w_BAG)) h0 n0 v U'.heap L ∧ FrameEnd U o U' L ({ frames := 0, cells := 0, slots := 0, locals := 0 } : Room).cells ({ frames := 0, cells := 0, slots := 0, locals := 0 } : Room).slots) := by
  refine MetFree.of_bodySF (plainFor_of_name own_pn0) hisR ?_
  intro p e s m args below meth c s₁ Bd hml0 hP hK
  obtain ⟨rfl, hZ, hh⟩ := hP
  have hx := Bd.exec
  have hby := Bd.bytes
  have hml : c.maxLocals = 1 := hml0
  have hown : s.vm.findClass "com/example/modelward/modelward/ocl/OclCollection$Kind" = some m.cls := findClass_of_methodNamed Bd.named
  have hnm := (name_of_methodNamed Bd.named Bd.method).1
  have X0 : Stand p l e ({ frames := 0, cells := 0, slots := 0, locals := 0 } : Room) s m #[(.ref a0_)] below meth c s₁ [] 0 0 := Stand.of_body Bd
  have e0 : s₁.heap = h0 := by rw [← hh, Bd.state]; rfl
  have N0 := Fr.nil n0
  have pre0 : ∀ t, Steps p.tables e below (s₁.setTop (mkF m 0 #[.val (.ref a0_)] [])) t → Steps p.tables e below (s₁.setTop (entryFrame m #[(.ref a0_)] 1)) t := fun t k => castTop (own_ef0 m a0_) k
  obtain ⟨T1, X1, e1, st1⟩ := getF X0 hx hZ hown (host := "") (Or.inl (hw _ (List.mem_of_getElem? (i := 10) rfl))) Via.refl e0 F_ordered_a0_ (g := (mkF m 1 #[.val (.ref a0_)] [(.ref a0_)])) rfl rfl (hb hby d1_1)
  obtain ⟨T2, X2, e2, st2⟩ := getS2 X1 hx hZ hown (host := "") (Or.inl (hw _ (List.mem_of_getElem? (i := 12) rfl))) Via.refl e1 S_BAG (g := (mkF m 13 #[.val (.ref a0_)] [])) rfl (hb hby d1_13)
  obtain ⟨fs, hr, hrun, hended, hW, hsame⟩ := X2.leave (v := some (.ref w_BAG)) (fun h => by rw [Bd.returns] at h; cases h)
  refine ⟨_, _, pre0 _ ?_, hrun, hended, _, _, rfl, ?_, ⟨_, rfl⟩, hW, hsame.mono (by decide) (by decide)⟩
  · show Steps p.tables e below (s₁.setTop (mkF m 0 #[.val (.ref a0_)] [])) _
    refine XS.aloadN X0.here hx rfl (hb hby d1_0) rfl rfl ?_
    show Steps p.tables e below (s₁.setTop (mkF m 1 #[.val (.ref a0_)] [(.ref a0_)])) _
    refine st1 _ ?_
    show Steps p.tables e below (T1.setTop (mkF m 4 #[.val (.ref a0_)] [(.int f_ordered_a0_)])) _
    refine XS.ifYes X1.here hx rfl (pc0 := 4) (pc' := 13) rfl (hb hby d1_4) rfl ((if0 _ _).trans (teq hf0).1) (by decide) (by decide) ?_
    show Steps p.tables e below (T1.setTop (mkF m 13 #[.val (.ref a0_)] [])) _
    refine st2 _ ?_
    show Steps p.tables e below (T2.setTop (mkF m 16 #[.val (.ref a0_)] [(.ref w_BAG)])) _
    jvm_step X2.here [X2.here.top, hx, (hb hby d1_16), X2.method', Bd.returns, Value.isRef, FieldType.isReference]
    first | (intro acts; rw [hr _ acts rfl rfl rfl]) | rw [hr _ _ rfl rfl rfl]
    exact Steps.refl _
  · show own_QP (some (.ref w_BAG)) h0 n0 _ T2.heap _
    exact ⟨rfl, N0, e2⟩
set_option maxRecDepth 65536 in
set_option maxHeartbeats 40000000 in
theorem own_b2_x (l : Launch) (Z : State) (a0 : Array Value) (hw : ∀ d ∈ tables_1, d.before a0 Z = true) (ws : List Jvm.Cond) (a0_ : Addr) (f_ordered_a0_ : Int32) (h0 : Heap) (n0 : Nat) (Z0 : n0 ≤ h0.size) (F_ordered_a0_ : Fld Z h0 a0_ "com/example/modelward/modelward/ocl/OclCollection$Kind" "ordered" "Z" (.int f_ordered_a0_)) (hf0 : nar .boolean f_ordered_a0_ = f_ordered_a0_) :
    MetFree l (⟨"com/example/modelward/modelward/ocl/OclCollection$Kind", "isOrdered", "()Z"⟩ : MethodName) (head1 (Jvm.Cond.code (⟨"com/example/modelward/modelward/ocl/OclCollection$Kind", "isOrdered", "()Z"⟩ : MethodName) prog_87_method_4_code 1 (some .boolean) :: ws) ({ frames := 0, cells := 0, slots := 0, locals := 0 } : Room)) (fun a U => a = #[(.ref a0_)] ∧ Z.Warmed39 U.vm ∧ U.heap = h0) (fun _ _ _ _ _ => True) (fun _ U o U' => ∃ v L, o = .returned v ∧ own_QP (some (.int f_ordered_a0_)) h0 n0 v U'.heap L ∧ FrameEnd U o U' L ({ frames := 0, cells := 0, slots := 0, locals := 0 } : Room).cells ({ frames := 0, cells := 0, slots := 0, locals := 0 } : Room).slots) := by
  refine MetFree.of_bodySF (plainFor_of_name own_pn0) hisR ?_
  intro p e s m args below meth c s₁ Bd hml0 hP hK
  obtain ⟨rfl, hZ, hh⟩ := hP
  have hx := Bd.exec
  have hby := Bd.bytes
  have hml : c.maxLocals = 1 := hml0
  have hown : s.vm.findClass "com/example/modelward/modelward/ocl/OclCollection$Kind" = some m.cls := findClass_of_methodNamed Bd.named
  have hnm := (name_of_methodNamed Bd.named Bd.method).1
  have X0 : Stand p l e ({ frames := 0, cells := 0, slots := 0, locals := 0 } : Room) s m #[(.ref a0_)] below meth c s₁ [] 0 0 := Stand.of_body Bd
  have e0 : s₁.heap = h0 := by rw [← hh, Bd.state]; rfl
  have N0 := Fr.nil n0
  have pre0 : ∀ t, Steps p.tables e below (s₁.setTop (mkF m 0 #[.val (.ref a0_)] [])) t → Steps p.tables e below (s₁.setTop (entryFrame m #[(.ref a0_)] 1)) t := fun t k => castTop (own_ef1 m a0_) k
  obtain ⟨T1, X1, e1, st1⟩ := getF X0 hx hZ hown (host := "") (Or.inl (hw _ (List.mem_of_getElem? (i := 10) rfl))) Via.refl e0 F_ordered_a0_ (g := (mkF m 1 #[.val (.ref a0_)] [(.ref a0_)])) rfl rfl (hb hby d2_1)
  obtain ⟨fs, hr, hrun, hended, hW, hsame⟩ := X1.leave (v := some (.int f_ordered_a0_)) (fun h => by rw [Bd.returns] at h; cases h)
  refine ⟨_, _, pre0 _ ?_, hrun, hended, _, _, rfl, ?_, ⟨_, rfl⟩, hW, hsame.mono (by decide) (by decide)⟩
  · show Steps p.tables e below (s₁.setTop (mkF m 0 #[.val (.ref a0_)] [])) _
    refine XS.aloadN X0.here hx rfl (hb hby d2_0) rfl rfl ?_
    show Steps p.tables e below (s₁.setTop (mkF m 1 #[.val (.ref a0_)] [(.ref a0_)])) _
    refine st1 _ ?_
    show Steps p.tables e below (T1.setTop (mkF m 4 #[.val (.ref a0_)] [(.int f_ordered_a0_)])) _
    exact retN X1 hx (t := .boolean) Bd.returns (by simp) (hb hby d2_4) (by rw [hf0]; exact hr)
  · show own_QP (some (.int f_ordered_a0_)) h0 n0 _ T1.heap _
    exact ⟨rfl, N0, e1⟩
set_option maxRecDepth 65536 in
set_option maxHeartbeats 40000000 in
theorem own_b3_x (l : Launch) (Z : State) (a0 : Array Value) (hw : ∀ d ∈ tables_1, d.before a0 Z = true) (ws : List Jvm.Cond) (a0_ : Addr) (f_unique_a0_ : Int32) (h0 : Heap) (n0 : Nat) (Z0 : n0 ≤ h0.size) (F_unique_a0_ : Fld Z h0 a0_ "com/example/modelward/modelward/ocl/OclCollection$Kind" "unique" "Z" (.int f_unique_a0_)) (hf0 : nar .boolean f_unique_a0_ = f_unique_a0_) :
    MetFree l (⟨"com/example/modelward/modelward/ocl/OclCollection$Kind", "isUnique", "()Z"⟩ : MethodName) (head1 (Jvm.Cond.code (⟨"com/example/modelward/modelward/ocl/OclCollection$Kind", "isUnique", "()Z"⟩ : MethodName) prog_87_method_5_code 1 (some .boolean) :: ws) ({ frames := 0, cells := 0, slots := 0, locals := 0 } : Room)) (fun a U => a = #[(.ref a0_)] ∧ Z.Warmed39 U.vm ∧ U.heap = h0) (fun _ _ _ _ _ => True) (fun _ U o U' => ∃ v L, o = .returned v ∧ own_QP (some (.int f_unique_a0_)) h0 n0 v U'.heap L ∧ FrameEnd U o U' L ({ frames := 0, cells := 0, slots := 0, locals := 0 } : Room).cells ({ frames := 0, cells := 0, slots := 0, locals := 0 } : Room).slots) := by
  refine MetFree.of_bodySF (plainFor_of_name own_pn0) hisR ?_
  intro p e s m args below meth c s₁ Bd hml0 hP hK
  obtain ⟨rfl, hZ, hh⟩ := hP
  have hx := Bd.exec
  have hby := Bd.bytes
  have hml : c.maxLocals = 1 := hml0
  have hown : s.vm.findClass "com/example/modelward/modelward/ocl/OclCollection$Kind" = some m.cls := findClass_of_methodNamed Bd.named
  have hnm := (name_of_methodNamed Bd.named Bd.method).1
  have X0 : Stand p l e ({ frames := 0, cells := 0, slots := 0, locals := 0 } : Room) s m #[(.ref a0_)] below meth c s₁ [] 0 0 := Stand.of_body Bd
  have e0 : s₁.heap = h0 := by rw [← hh, Bd.state]; rfl
  have N0 := Fr.nil n0
  have pre0 : ∀ t, Steps p.tables e below (s₁.setTop (mkF m 0 #[.val (.ref a0_)] [])) t → Steps p.tables e below (s₁.setTop (entryFrame m #[(.ref a0_)] 1)) t := fun t k => castTop (own_ef2 m a0_) k
  obtain ⟨T1, X1, e1, st1⟩ := getF X0 hx hZ hown (host := "") (Or.inl (hw _ (List.mem_of_getElem? (i := 23) rfl))) Via.refl e0 F_unique_a0_ (g := (mkF m 1 #[.val (.ref a0_)] [(.ref a0_)])) rfl rfl (hb hby d3_1)
  obtain ⟨fs, hr, hrun, hended, hW, hsame⟩ := X1.leave (v := some (.int f_unique_a0_)) (fun h => by rw [Bd.returns] at h; cases h)
  refine ⟨_, _, pre0 _ ?_, hrun, hended, _, _, rfl, ?_, ⟨_, rfl⟩, hW, hsame.mono (by decide) (by decide)⟩
  · show Steps p.tables e below (s₁.setTop (mkF m 0 #[.val (.ref a0_)] [])) _
    refine XS.aloadN X0.here hx rfl (hb hby d3_0) rfl rfl ?_
    show Steps p.tables e below (s₁.setTop (mkF m 1 #[.val (.ref a0_)] [(.ref a0_)])) _
    refine st1 _ ?_
    show Steps p.tables e below (T1.setTop (mkF m 4 #[.val (.ref a0_)] [(.int f_unique_a0_)])) _
    exact retN X1 hx (t := .boolean) Bd.returns (by simp) (hb hby d3_4) (by rw [hf0]; exact hr)
  · show own_QP (some (.int f_unique_a0_)) h0 n0 _ T1.heap _
    exact ⟨rfl, N0, e1⟩
set_option maxRecDepth 65536 in
set_option maxHeartbeats 40000000 in
theorem own_b1_f (l : Launch) (Z : State) (a0 : Array Value) (hw : ∀ d ∈ tables_1, d.before a0 Z = true) (ws : List Jvm.Cond) (a0_ : Addr) (f_ordered_a0_ : Int32) (w_SEQUENCE : Addr) (h0 : Heap) (n0 : Nat) (Z0 : n0 ≤ h0.size) (F_ordered_a0_ : Fld Z h0 a0_ "com/example/modelward/modelward/ocl/OclCollection$Kind" "ordered" "Z" (.int f_ordered_a0_)) (S_SEQUENCE : Sta Z h0 "com/example/modelward/modelward/ocl/OclCollection$Kind" "SEQUENCE" "Lcom/example/modelward/modelward/ocl/OclCollection$Kind;" (.ref w_SEQUENCE)) (hf0 : ¬ (f_ordered_a0_ = (0 : Int32))) :
    MetFree l (⟨"com/example/modelward/modelward/ocl/OclCollection$Kind", "collected", "()Lcom/example/modelward/modelward/ocl/OclCollection$Kind;"⟩ : MethodName) (head1 (Jvm.Cond.code (⟨"com/example/modelward/modelward/ocl/OclCollection$Kind", "collected", "()Lcom/example/modelward/modelward/ocl/OclCollection$Kind;"⟩ : MethodName) prog_87_method_7_code 1 (some (.object "com/example/modelward/modelward/ocl/OclCollection$Kind")) :: ws) ({ frames := 0, cells := 0, slots := 0, locals := 0 } : Room)) (fun a U => a = #[(.ref a0_)] ∧ Z.Warmed39 U.vm ∧ U.heap = h0) (fun _ _ _ _ _ => True) (fun _ U o U' => ∃ v L, o = .returned v ∧ own_QP (some (.ref w_SEQUENCE)) h0 n0 v U'.heap L ∧ FrameEnd U o U' L ({ frames := 0, cells := 0, slots := 0, locals := 0 } : Room).cells ({ frames := 0, cells := 0, slots := 0, locals := 0 } : Room).slots) := by
  refine MetFree.of_bodySF (plainFor_of_name own_pn0) hisR ?_
  intro p e s m args below meth c s₁ Bd hml0 hP hK
  obtain ⟨rfl, hZ, hh⟩ := hP
  have hx := Bd.exec
  have hby := Bd.bytes
  have hml : c.maxLocals = 1 := hml0
  have hown : s.vm.findClass "com/example/modelward/modelward/ocl/OclCollection$Kind" = some m.cls := findClass_of_methodNamed Bd.named
  have hnm := (name_of_methodNamed Bd.named Bd.method).1
  have X0 : Stand p l e ({ frames := 0, cells := 0, slots := 0, locals := 0 } : Room) s m #[(.ref a0_)] below meth c s₁ [] 0 0 := Stand.of_body Bd
  have e0 : s₁.heap = h0 := by rw [← hh, Bd.state]; rfl
  have N0 := Fr.nil n0
  have pre0 : ∀ t, Steps p.tables e below (s₁.setTop (mkF m 0 #[.val (.ref a0_)] [])) t → Steps p.tables e below (s₁.setTop (entryFrame m #[(.ref a0_)] 1)) t := fun t k => castTop (own_ef0 m a0_) k
  obtain ⟨T1, X1, e1, st1⟩ := getF X0 hx hZ hown (host := "") (Or.inl (hw _ (List.mem_of_getElem? (i := 10) rfl))) Via.refl e0 F_ordered_a0_ (g := (mkF m 1 #[.val (.ref a0_)] [(.ref a0_)])) rfl rfl (hb hby d1_1)
  obtain ⟨T2, X2, e2, st2⟩ := getS2 X1 hx hZ hown (host := "") (Or.inl (hw _ (List.mem_of_getElem? (i := 27) rfl))) Via.refl e1 S_SEQUENCE (g := (mkF m 7 #[.val (.ref a0_)] [])) rfl (hb hby d1_7)
  obtain ⟨fs, hr, hrun, hended, hW, hsame⟩ := X2.leave (v := some (.ref w_SEQUENCE)) (fun h => by rw [Bd.returns] at h; cases h)
  refine ⟨_, _, pre0 _ ?_, hrun, hended, _, _, rfl, ?_, ⟨_, rfl⟩, hW, hsame.mono (by decide) (by decide)⟩
  · show Steps p.tables e below (s₁.setTop (mkF m 0 #[.val (.ref a0_)] [])) _
    refine XS.aloadN X0.here hx rfl (hb hby d1_0) rfl rfl ?_
    show Steps p.tables e below (s₁.setTop (mkF m 1 #[.val (.ref a0_)] [(.ref a0_)])) _
    refine st1 _ ?_
    show Steps p.tables e below (T1.setTop (mkF m 4 #[.val (.ref a0_)] [(.int f_ordered_a0_)])) _
    refine XS.ifNo X1.here hx rfl (hb hby d1_4) rfl ((if0 _ _).trans (feq hf0).1) ?_
    show Steps p.tables e below (T1.setTop (mkF m 7 #[.val (.ref a0_)] [])) _
    refine st2 _ ?_
    show Steps p.tables e below (T2.setTop (mkF m 10 #[.val (.ref a0_)] [(.ref w_SEQUENCE)])) _
    refine XS.goto X2.here hx rfl (pc0 := 10) (pc' := 16) rfl (hb hby d1_10) (by decide) (by decide) ?_
    show Steps p.tables e below (T2.setTop (mkF m 16 #[.val (.ref a0_)] [(.ref w_SEQUENCE)])) _
    jvm_step X2.here [X2.here.top, hx, (hb hby d1_16), X2.method', Bd.returns, Value.isRef, FieldType.isReference]
    first | (intro acts; rw [hr _ acts rfl rfl rfl]) | rw [hr _ _ rfl rfl rfl]
    exact Steps.refl _
  · show own_QP (some (.ref w_SEQUENCE)) h0 n0 _ T2.heap _
    exact ⟨rfl, N0, e2⟩
set_option maxRecDepth 65536 in
set_option maxHeartbeats 40000000 in
theorem own_law0 (l : Launch) (Z : State) (a0 : Array Value) (hw : ∀ d ∈ tables_1, d.before a0 Z = true) (ws : List Jvm.Cond) (p0_ : Int32) (w_SET : Addr) (w_BAG : Addr) (h0 : Heap) (n0 : Nat) (Z0 : n0 ≤ h0.size) (S_SET : Sta Z h0 "com/example/modelward/modelward/ocl/OclCollection$Kind" "SET" "Lcom/example/modelward/modelward/ocl/OclCollection$Kind;" (.ref w_SET)) (S_BAG : Sta Z h0 "com/example/modelward/modelward/ocl/OclCollection$Kind" "BAG" "Lcom/example/modelward/modelward/ocl/OclCollection$Kind;" (.ref w_BAG)) (F_ordered_w_SET : Fld Z h0 w_SET "com/example/modelward/modelward/ocl/OclCollection$Kind" "ordered" "Z" (.int (0 : Int32))) (E_w_SET : Exa Z h0 w_SET "com/example/modelward/modelward/ocl/OclCollection$Kind") (F_ordered_w_BAG : Fld Z h0 w_BAG "com/example/modelward/modelward/ocl/OclCollection$Kind" "ordered" "Z" (.int (0 : Int32))) (E_w_BAG : Exa Z h0 w_BAG "com/example/modelward/modelward/ocl/OclCollection$Kind") (F_unique_w_BAG : Fld Z h0 w_BAG "com/example/modelward/modelward/ocl/OclCollection$Kind" "unique" "Z" (.int (0 : Int32))) (hf0 : (p0_ &&& (3 : Int32)) = (0 : Int32)) :
    MetFree l x (head1 (Jvm.Cond.code x code maxLocals ret :: ws) room_1) (fun a U => a = #[(.int p0_)] ∧ Z.Warmed39 U.vm ∧ U.heap = h0) (fun _ _ _ _ _ => True) (fun _ U o U' => ∃ v L, o = .returned v ∧ own_QL n0 v U'.heap L ∧ FrameEnd U o U' L room_1.cells room_1.slots) := by
  refine MetFree.of_bodySF (plainFor_of_name own_pn1) hisR ?_
  intro p e s m args below meth c s₁ Bd hml0 hP hK
  obtain ⟨rfl, hZ, hh⟩ := hP
  have hx := Bd.exec
  have hby := Bd.bytes
  have hml : c.maxLocals = 5 := hml0
  have hown : s.vm.findClass "com/example/modelward/modelward/ocl/KindCollectedPinLaw" = some m.cls := findClass_of_methodNamed Bd.named
  have hnm := (name_of_methodNamed Bd.named Bd.method).1
  have X0 : Stand p l e room_1 s m #[(.int p0_)] below meth c s₁ [] 0 0 := Stand.of_body Bd
  have e0 : s₁.heap = h0 := by rw [← hh, Bd.state]; rfl
  have N0 := Fr.nil n0
  have pre0 : ∀ t, Steps p.tables e below (s₁.setTop (mkF m 0 #[.val (.int p0_), .unset, .unset, .unset, .unset] [])) t → Steps p.tables e below (s₁.setTop (entryFrame m #[(.int p0_)] maxLocals)) t := fun t k => castTop (own_ef3 m p0_) k
  obtain ⟨T1, X1, e1, st1⟩ := getS2 X0 hx hZ hown (host := "") (Or.inl (hw _ (List.mem_of_getElem? (i := 0) rfl))) Via.refl e0 S_SET (g := (mkF m 8 #[.val (.int p0_), .val (.int (0 : Int32)), .unset, .unset, .unset] [])) rfl (hb hby at_8)
  obtain ⟨T2, X2, e2, st2⟩ := getS2 X1 hx hZ hown (host := "") (Or.inl (hw _ (List.mem_of_getElem? (i := 3) rfl))) Via.refl e1 S_BAG (g := (mkF m 12 #[.val (.int p0_), .val (.int (0 : Int32)), .val (.ref w_SET), .unset, .unset] [])) rfl (hb hby at_12)
  obtain ⟨cq3, kq3, q3a, q3b, q3c⟩ := isOf hZ e2 E_w_SET
  obtain ⟨_, _, ⟨T3, L3, k3, n3⟩, -, X3, ⟨Lc3, hQ3, l3, y3, z3⟩, st3⟩ := X2.virtualBack hx (y := (⟨"com/example/modelward/modelward/ocl/OclCollection$Kind", "collected", "()Lcom/example/modelward/modelward/ocl/OclCollection$Kind;"⟩ : MethodName)) (z := (⟨"com/example/modelward/modelward/ocl/OclCollection$Kind", "collected", "()Lcom/example/modelward/modelward/ocl/OclCollection$Kind;"⟩ : MethodName)) hown (mvT hZ (hw _ (List.mem_of_getElem? (i := 5) rfl))) (mvT hZ (hw _ (List.mem_of_getElem? (i := 6) rfl))) (notFace_of_selects (args := #[]) (mvT hZ (hw _ (List.mem_of_getElem? (i := 8) rfl)))) (mvT hZ (hw _ (List.mem_of_getElem? (i := 8) rfl))) (mvT hZ (hw _ (List.mem_of_getElem? (i := 7) rfl))) (by decide) (backOf (W := 0) (own_b1_t l Z a0 hw [] w_SET (0 : Int32) w_BAG h0 n0 Z0 F_ordered_w_SET S_BAG rfl) hZ (hw _ (List.mem_of_getElem? (i := 9) rfl)) (hw _ (List.mem_of_getElem? (i := 1) rfl)) (by decide) (by decide)) q3a q3c (g := (mkF m 60 #[.val (.int p0_), .val (.int (0 : Int32)), .val (.ref w_SET), .val (.ref w_BAG), .unset] [(.ref w_SET)])) rfl (by rw [hml]; rfl) (Steps.refl _) (argsL := []) (rest := []) (lenOf own_pd0 rfl) rfl (by show 2 * 0 + _ ≤ _; exact Nat.le_of_eq rfl) (hb hby at_60) (fun _ _ => ⟨rfl, e2, (by decide : 0 + 0 ≤ _), (by decide : 0 + 0 ≤ _)⟩)
  dsimp only [Pt.U, Pt.locs, Pt.cells, Pt.slots] at X3 l3 y3 z3 st3 hQ3
  subst l3 y3 z3
  obtain ⟨rfl, N3q, e3⟩ := hQ3
  have N3 := Fr.app N0 N3q
  obtain ⟨cq4, kq4, q4a, q4b, q4c⟩ := isOf hZ e3 E_w_BAG
  obtain ⟨_, _, ⟨T4, L4, k4, n4⟩, -, X4, ⟨Lc4, hQ4, l4, y4, z4⟩, st4⟩ := X3.virtualBack hx (y := (⟨"com/example/modelward/modelward/ocl/OclCollection$Kind", "isOrdered", "()Z"⟩ : MethodName)) (z := (⟨"com/example/modelward/modelward/ocl/OclCollection$Kind", "isOrdered", "()Z"⟩ : MethodName)) hown (mvT hZ (hw _ (List.mem_of_getElem? (i := 13) rfl))) (mvT hZ (hw _ (List.mem_of_getElem? (i := 14) rfl))) (notFace_of_selects (args := #[]) (mvT hZ (hw _ (List.mem_of_getElem? (i := 16) rfl)))) (mvT hZ (hw _ (List.mem_of_getElem? (i := 16) rfl))) (mvT hZ (hw _ (List.mem_of_getElem? (i := 15) rfl))) (by decide) (backOf (W := 0) (own_b2_x l Z a0 hw [] w_BAG (0 : Int32) h0 n0 Z0 F_ordered_w_BAG (by decide)) hZ (hw _ (List.mem_of_getElem? (i := 17) rfl)) (hw _ (List.mem_of_getElem? (i := 1) rfl)) (by decide) (by decide)) q4a q4c (g := (mkF m 73 #[.val (.int p0_), .val (.int (0 : Int32)), .val (.ref w_SET), .val (.ref w_BAG), .val (.ref w_BAG)] [(.ref w_BAG)])) rfl (by rw [hml]; rfl) (Steps.refl _) (argsL := []) (rest := []) (lenOf own_pd1 rfl) rfl (by show 2 * 0 + _ ≤ _; exact Nat.le_of_eq rfl) (hb hby at_73) (fun _ _ => ⟨rfl, e3, (by decide : 0 + 0 ≤ _), (by decide : 0 + 0 ≤ _)⟩)
  dsimp only [Pt.U, Pt.locs, Pt.cells, Pt.slots] at X4 l4 y4 z4 st4 hQ4
  subst l4 y4 z4
  obtain ⟨rfl, N4q, e4⟩ := hQ4
  have N4 := Fr.app N3 N4q
  obtain ⟨cq5, kq5, q5a, q5b, q5c⟩ := isOf hZ e4 E_w_SET
  obtain ⟨_, _, ⟨T5, L5, k5, n5⟩, -, X5, ⟨Lc5, hQ5, l5, y5, z5⟩, st5⟩ := X4.virtualBack hx (y := (⟨"com/example/modelward/modelward/ocl/OclCollection$Kind", "isOrdered", "()Z"⟩ : MethodName)) (z := (⟨"com/example/modelward/modelward/ocl/OclCollection$Kind", "isOrdered", "()Z"⟩ : MethodName)) hown (mvT hZ (hw _ (List.mem_of_getElem? (i := 13) rfl))) (mvT hZ (hw _ (List.mem_of_getElem? (i := 14) rfl))) (notFace_of_selects (args := #[]) (mvT hZ (hw _ (List.mem_of_getElem? (i := 16) rfl)))) (mvT hZ (hw _ (List.mem_of_getElem? (i := 16) rfl))) (mvT hZ (hw _ (List.mem_of_getElem? (i := 15) rfl))) (by decide) (backOf (W := 1) (own_b2_x l Z a0 hw [] w_SET (0 : Int32) h0 n0 Z0 F_ordered_w_SET (by decide)) hZ (hw _ (List.mem_of_getElem? (i := 17) rfl)) (hw _ (List.mem_of_getElem? (i := 1) rfl)) (by decide) (by decide)) q5a q5c (g := (mkF m 77 #[.val (.int p0_), .val (.int (0 : Int32)), .val (.ref w_SET), .val (.ref w_BAG), .val (.ref w_BAG)] [(.ref w_SET), (.int (0 : Int32))])) rfl (by rw [hml]; rfl) (Steps.refl _) (argsL := []) (rest := [(.int (0 : Int32))]) (lenOf own_pd1 rfl) rfl (by show 2 * 0 + _ ≤ _; exact Nat.le_of_eq rfl) (hb hby at_77) (fun _ _ => ⟨rfl, e4, (by decide : 0 + 0 ≤ _), (by decide : 0 + 0 ≤ _)⟩)
  dsimp only [Pt.U, Pt.locs, Pt.cells, Pt.slots] at X5 l5 y5 z5 st5 hQ5
  subst l5 y5 z5
  obtain ⟨rfl, N5q, e5⟩ := hQ5
  have N5 := Fr.app N4 N5q
  obtain ⟨cq6, kq6, q6a, q6b, q6c⟩ := isOf hZ e5 E_w_BAG
  obtain ⟨_, _, ⟨T6, L6, k6, n6⟩, -, X6, ⟨Lc6, hQ6, l6, y6, z6⟩, st6⟩ := X5.virtualBack hx (y := (⟨"com/example/modelward/modelward/ocl/OclCollection$Kind", "isUnique", "()Z"⟩ : MethodName)) (z := (⟨"com/example/modelward/modelward/ocl/OclCollection$Kind", "isUnique", "()Z"⟩ : MethodName)) hown (mvT hZ (hw _ (List.mem_of_getElem? (i := 18) rfl))) (mvT hZ (hw _ (List.mem_of_getElem? (i := 19) rfl))) (notFace_of_selects (args := #[]) (mvT hZ (hw _ (List.mem_of_getElem? (i := 21) rfl)))) (mvT hZ (hw _ (List.mem_of_getElem? (i := 21) rfl))) (mvT hZ (hw _ (List.mem_of_getElem? (i := 20) rfl))) (by decide) (backOf (W := 0) (own_b3_x l Z a0 hw [] w_BAG (0 : Int32) h0 n0 Z0 F_unique_w_BAG (by decide)) hZ (hw _ (List.mem_of_getElem? (i := 22) rfl)) (hw _ (List.mem_of_getElem? (i := 1) rfl)) (by decide) (by decide)) q6a q6c (g := (mkF m 85 #[.val (.int p0_), .val (.int (0 : Int32)), .val (.ref w_SET), .val (.ref w_BAG), .val (.ref w_BAG)] [(.ref w_BAG)])) rfl (by rw [hml]; rfl) (Steps.refl _) (argsL := []) (rest := []) (lenOf own_pd1 rfl) rfl (by show 2 * 0 + _ ≤ _; exact Nat.le_of_eq rfl) (hb hby at_85) (fun _ _ => ⟨rfl, e5, (by decide : 0 + 0 ≤ _), (by decide : 0 + 0 ≤ _)⟩)
  dsimp only [Pt.U, Pt.locs, Pt.cells, Pt.slots] at X6 l6 y6 z6 st6 hQ6
  subst l6 y6 z6
  obtain ⟨rfl, N6q, e6⟩ := hQ6
  have N6 := Fr.app N5 N6q
  obtain ⟨cq7, kq7, q7a, q7b, q7c⟩ := isOf hZ e6 E_w_BAG
  obtain ⟨_, _, ⟨T7, L7, k7, n7⟩, -, X7, ⟨Lc7, hQ7, l7, y7, z7⟩, st7⟩ := X6.virtualBack hx (y := (⟨"com/example/modelward/modelward/ocl/OclCollection$Kind", "collected", "()Lcom/example/modelward/modelward/ocl/OclCollection$Kind;"⟩ : MethodName)) (z := (⟨"com/example/modelward/modelward/ocl/OclCollection$Kind", "collected", "()Lcom/example/modelward/modelward/ocl/OclCollection$Kind;"⟩ : MethodName)) hown (mvT hZ (hw _ (List.mem_of_getElem? (i := 5) rfl))) (mvT hZ (hw _ (List.mem_of_getElem? (i := 6) rfl))) (notFace_of_selects (args := #[]) (mvT hZ (hw _ (List.mem_of_getElem? (i := 8) rfl)))) (mvT hZ (hw _ (List.mem_of_getElem? (i := 8) rfl))) (mvT hZ (hw _ (List.mem_of_getElem? (i := 7) rfl))) (by decide) (backOf (W := 0) (own_b1_t l Z a0 hw [] w_BAG (0 : Int32) w_BAG h0 n0 Z0 F_ordered_w_BAG S_BAG rfl) hZ (hw _ (List.mem_of_getElem? (i := 9) rfl)) (hw _ (List.mem_of_getElem? (i := 1) rfl)) (by decide) (by decide)) q7a q7c (g := (mkF m 93 #[.val (.int p0_), .val (.int (0 : Int32)), .val (.ref w_SET), .val (.ref w_BAG), .val (.ref w_BAG)] [(.ref w_BAG)])) rfl (by rw [hml]; rfl) (Steps.refl _) (argsL := []) (rest := []) (lenOf own_pd0 rfl) rfl (by show 2 * 0 + _ ≤ _; exact Nat.le_of_eq rfl) (hb hby at_93) (fun _ _ => ⟨rfl, e6, (by decide : 0 + 0 ≤ _), (by decide : 0 + 0 ≤ _)⟩)
  dsimp only [Pt.U, Pt.locs, Pt.cells, Pt.slots] at X7 l7 y7 z7 st7 hQ7
  subst l7 y7 z7
  obtain ⟨rfl, N7q, e7⟩ := hQ7
  have N7 := Fr.app N6 N7q
  obtain ⟨fs, hr, hrun, hended, hW, hsame⟩ := X7.leave (v := some (.int (1 : Int32))) (fun h => by rw [Bd.returns] at h; cases h)
  refine ⟨_, _, pre0 _ ?_, hrun, hended, _, _, rfl, ?_, ⟨_, rfl⟩, hW, hsame.mono (by decide) (by decide)⟩
  · show Steps p.tables e below (s₁.setTop (mkF m 0 #[.val (.int p0_), .unset, .unset, .unset, .unset] [])) _
    refine XS.iloadN X0.here hx rfl (hb hby at_0) rfl ?_
    show Steps p.tables e below (s₁.setTop (mkF m 1 #[.val (.int p0_), .unset, .unset, .unset, .unset] [(.int p0_)])) _
    refine XS.iconst X0.here hx rfl (hb hby at_1) ?_
    show Steps p.tables e below (s₁.setTop (mkF m 2 #[.val (.int p0_), .unset, .unset, .unset, .unset] [(.int (3 : Int32)), (.int p0_)])) _
    refine XS.iand X0.here hx rfl (hb hby at_2) rfl ?_
    show Steps p.tables e below (s₁.setTop (mkF m 3 #[.val (.int p0_), .unset, .unset, .unset, .unset] [(.int (p0_ &&& (3 : Int32)))])) _
    rw [hf0]
    show Steps p.tables e below (s₁.setTop (mkF m 3 #[.val (.int p0_), .unset, .unset, .unset, .unset] [(.int (0 : Int32))])) _
    refine XS.istoreN X0.here hx rfl (hb hby at_3) rfl (l' := #[.val (.int p0_), .val (.int (0 : Int32)), .unset, .unset, .unset]) rfl ?_
    show Steps p.tables e below (s₁.setTop (mkF m 4 #[.val (.int p0_), .val (.int (0 : Int32)), .unset, .unset, .unset] [])) _
    refine XS.iloadN X0.here hx rfl (hb hby at_4) rfl ?_
    show Steps p.tables e below (s₁.setTop (mkF m 5 #[.val (.int p0_), .val (.int (0 : Int32)), .unset, .unset, .unset] [(.int (0 : Int32))])) _
    refine XS.ifNo X0.here hx rfl (hb hby at_5) rfl ((if0 _ _).trans (teq (rfl : (0 : Int32) = (0 : Int32))).2) ?_
    show Steps p.tables e below (s₁.setTop (mkF m 8 #[.val (.int p0_), .val (.int (0 : Int32)), .unset, .unset, .unset] [])) _
    refine st1 _ ?_
    show Steps p.tables e below (T1.setTop (mkF m 11 #[.val (.int p0_), .val (.int (0 : Int32)), .unset, .unset, .unset] [(.ref w_SET)])) _
    refine XS.astoreN X1.here hx rfl (hb hby at_11) rfl rfl (l' := #[.val (.int p0_), .val (.int (0 : Int32)), .val (.ref w_SET), .unset, .unset]) rfl ?_
    show Steps p.tables e below (T1.setTop (mkF m 12 #[.val (.int p0_), .val (.int (0 : Int32)), .val (.ref w_SET), .unset, .unset] [])) _
    refine st2 _ ?_
    show Steps p.tables e below (T2.setTop (mkF m 15 #[.val (.int p0_), .val (.int (0 : Int32)), .val (.ref w_SET), .unset, .unset] [(.ref w_BAG)])) _
    refine XS.astoreN X2.here hx rfl (hb hby at_15) rfl rfl (l' := #[.val (.int p0_), .val (.int (0 : Int32)), .val (.ref w_SET), .val (.ref w_BAG), .unset]) rfl ?_
    show Steps p.tables e below (T2.setTop (mkF m 16 #[.val (.int p0_), .val (.int (0 : Int32)), .val (.ref w_SET), .val (.ref w_BAG), .unset] [])) _
    refine XS.goto X2.here hx rfl (pc0 := 16) (pc' := 59) rfl (hb hby at_16) (by decide) (by decide) ?_
    show Steps p.tables e below (T2.setTop (mkF m 59 #[.val (.int p0_), .val (.int (0 : Int32)), .val (.ref w_SET), .val (.ref w_BAG), .unset] [])) _
    refine XS.aloadN X2.here hx rfl (hb hby at_59) rfl rfl ?_
    show Steps p.tables e below (T2.setTop (mkF m 60 #[.val (.int p0_), .val (.int (0 : Int32)), .val (.ref w_SET), .val (.ref w_BAG), .unset] [(.ref w_SET)])) _
    refine st3.trans ?_
    show Steps p.tables e below (T3.setTop (mkF m 63 #[.val (.int p0_), .val (.int (0 : Int32)), .val (.ref w_SET), .val (.ref w_BAG), .unset] [(.ref w_BAG)])) _
    refine XS.astore X3.here hx rfl (hb hby at_63) rfl rfl (l' := #[.val (.int p0_), .val (.int (0 : Int32)), .val (.ref w_SET), .val (.ref w_BAG), .val (.ref w_BAG)]) rfl ?_
    show Steps p.tables e below (T3.setTop (mkF m 65 #[.val (.int p0_), .val (.int (0 : Int32)), .val (.ref w_SET), .val (.ref w_BAG), .val (.ref w_BAG)] [])) _
    refine XS.aload X3.here hx rfl (hb hby at_65) rfl rfl ?_
    show Steps p.tables e below (T3.setTop (mkF m 67 #[.val (.int p0_), .val (.int (0 : Int32)), .val (.ref w_SET), .val (.ref w_BAG), .val (.ref w_BAG)] [(.ref w_BAG)])) _
    refine XS.aloadN X3.here hx rfl (hb hby at_67) rfl rfl ?_
    show Steps p.tables e below (T3.setTop (mkF m 68 #[.val (.int p0_), .val (.int (0 : Int32)), .val (.ref w_SET), .val (.ref w_BAG), .val (.ref w_BAG)] [(.ref w_BAG), (.ref w_BAG)])) _
    refine Jvm.RoadKit.acmp (g := (mkF m 68 #[.val (.int p0_), .val (.int (0 : Int32)), .val (.ref w_SET), .val (.ref w_BAG), .val (.ref w_BAG)] [(.ref w_BAG), (.ref w_BAG)])) X3 hx rfl rfl rfl (pc0 := 68) (pc' := 71) (same := true) rfl (hb hby at_68) rfl (decide_eq_true rfl) (by decide) (by decide) ?_
    show Steps p.tables e below (T3.setTop (mkF m 71 #[.val (.int p0_), .val (.int (0 : Int32)), .val (.ref w_SET), .val (.ref w_BAG), .val (.ref w_BAG)] [])) _
    refine XS.aload X3.here hx rfl (hb hby at_71) rfl rfl ?_
    show Steps p.tables e below (T3.setTop (mkF m 73 #[.val (.int p0_), .val (.int (0 : Int32)), .val (.ref w_SET), .val (.ref w_BAG), .val (.ref w_BAG)] [(.ref w_BAG)])) _
    refine st4.trans ?_
    show Steps p.tables e below (T4.setTop (mkF m 76 #[.val (.int p0_), .val (.int (0 : Int32)), .val (.ref w_SET), .val (.ref w_BAG), .val (.ref w_BAG)] [(.int (0 : Int32))])) _
    refine XS.aloadN X4.here hx rfl (hb hby at_76) rfl rfl ?_
    show Steps p.tables e below (T4.setTop (mkF m 77 #[.val (.int p0_), .val (.int (0 : Int32)), .val (.ref w_SET), .val (.ref w_BAG), .val (.ref w_BAG)] [(.ref w_SET), (.int (0 : Int32))])) _
    refine st5.trans ?_
    show Steps p.tables e below (T5.setTop (mkF m 80 #[.val (.int p0_), .val (.int (0 : Int32)), .val (.ref w_SET), .val (.ref w_BAG), .val (.ref w_BAG)] [(.int (0 : Int32)), (.int (0 : Int32))])) _
    refine XS.icmpNo X5.here hx rfl (hb hby at_80) rfl (teq (rfl : (0 : Int32) = (0 : Int32))).2 ?_
    show Steps p.tables e below (T5.setTop (mkF m 83 #[.val (.int p0_), .val (.int (0 : Int32)), .val (.ref w_SET), .val (.ref w_BAG), .val (.ref w_BAG)] [])) _
    refine XS.aload X5.here hx rfl (hb hby at_83) rfl rfl ?_
    show Steps p.tables e below (T5.setTop (mkF m 85 #[.val (.int p0_), .val (.int (0 : Int32)), .val (.ref w_SET), .val (.ref w_BAG), .val (.ref w_BAG)] [(.ref w_BAG)])) _
    refine st6.trans ?_
    show Steps p.tables e below (T6.setTop (mkF m 88 #[.val (.int p0_), .val (.int (0 : Int32)), .val (.ref w_SET), .val (.ref w_BAG), .val (.ref w_BAG)] [(.int (0 : Int32))])) _
    refine XS.ifNo X6.here hx rfl (hb hby at_88) rfl ((if0 _ _).trans (teq (rfl : (0 : Int32) = (0 : Int32))).2) ?_
    show Steps p.tables e below (T6.setTop (mkF m 91 #[.val (.int p0_), .val (.int (0 : Int32)), .val (.ref w_SET), .val (.ref w_BAG), .val (.ref w_BAG)] [])) _
    refine XS.aload X6.here hx rfl (hb hby at_91) rfl rfl ?_
    show Steps p.tables e below (T6.setTop (mkF m 93 #[.val (.int p0_), .val (.int (0 : Int32)), .val (.ref w_SET), .val (.ref w_BAG), .val (.ref w_BAG)] [(.ref w_BAG)])) _
    refine st7.trans ?_
    show Steps p.tables e below (T7.setTop (mkF m 96 #[.val (.int p0_), .val (.int (0 : Int32)), .val (.ref w_SET), .val (.ref w_BAG), .val (.ref w_BAG)] [(.ref w_BAG)])) _
    refine XS.aload X7.here hx rfl (hb hby at_96) rfl rfl ?_
    show Steps p.tables e below (T7.setTop (mkF m 98 #[.val (.int p0_), .val (.int (0 : Int32)), .val (.ref w_SET), .val (.ref w_BAG), .val (.ref w_BAG)] [(.ref w_BAG), (.ref w_BAG)])) _
    refine Jvm.RoadKit.acmp (g := (mkF m 98 #[.val (.int p0_), .val (.int (0 : Int32)), .val (.ref w_SET), .val (.ref w_BAG), .val (.ref w_BAG)] [(.ref w_BAG), (.ref w_BAG)])) X7 hx rfl rfl rfl (pc0 := 98) (pc' := 101) (same := true) rfl (hb hby at_98) rfl (decide_eq_true rfl) (by decide) (by decide) ?_
    show Steps p.tables e below (T7.setTop (mkF m 101 #[.val (.int p0_), .val (.int (0 : Int32)), .val (.ref w_SET), .val (.ref w_BAG), .val (.ref w_BAG)] [])) _
    refine XS.iconst X7.here hx rfl (hb hby at_101) ?_
    show Steps p.tables e below (T7.setTop (mkF m 102 #[.val (.int p0_), .val (.int (0 : Int32)), .val (.ref w_SET), .val (.ref w_BAG), .val (.ref w_BAG)] [(.int (1 : Int32))])) _
    refine XS.goto X7.here hx rfl (pc0 := 102) (pc' := 106) rfl (hb hby at_102) (by decide) (by decide) ?_
    show Steps p.tables e below (T7.setTop (mkF m 106 #[.val (.int p0_), .val (.int (0 : Int32)), .val (.ref w_SET), .val (.ref w_BAG), .val (.ref w_BAG)] [(.int (1 : Int32))])) _
    exact retN X7 hx (t := .boolean) Bd.returns (by simp) (hb hby at_106) hr
  · show own_QL n0 _ T7.heap _
    exact ⟨rfl, N7⟩
set_option maxRecDepth 65536 in
set_option maxHeartbeats 40000000 in
theorem own_law1 (l : Launch) (Z : State) (a0 : Array Value) (hw : ∀ d ∈ tables_1, d.before a0 Z = true) (ws : List Jvm.Cond) (p0_ : Int32) (w_ORDERED_SET : Addr) (w_SEQUENCE : Addr) (h0 : Heap) (n0 : Nat) (Z0 : n0 ≤ h0.size) (S_ORDERED_SET : Sta Z h0 "com/example/modelward/modelward/ocl/OclCollection$Kind" "ORDERED_SET" "Lcom/example/modelward/modelward/ocl/OclCollection$Kind;" (.ref w_ORDERED_SET)) (S_SEQUENCE : Sta Z h0 "com/example/modelward/modelward/ocl/OclCollection$Kind" "SEQUENCE" "Lcom/example/modelward/modelward/ocl/OclCollection$Kind;" (.ref w_SEQUENCE)) (F_ordered_w_ORDERED_SET : Fld Z h0 w_ORDERED_SET "com/example/modelward/modelward/ocl/OclCollection$Kind" "ordered" "Z" (.int (1 : Int32))) (E_w_ORDERED_SET : Exa Z h0 w_ORDERED_SET "com/example/modelward/modelward/ocl/OclCollection$Kind") (F_ordered_w_SEQUENCE : Fld Z h0 w_SEQUENCE "com/example/modelward/modelward/ocl/OclCollection$Kind" "ordered" "Z" (.int (1 : Int32))) (E_w_SEQUENCE : Exa Z h0 w_SEQUENCE "com/example/modelward/modelward/ocl/OclCollection$Kind") (F_unique_w_SEQUENCE : Fld Z h0 w_SEQUENCE "com/example/modelward/modelward/ocl/OclCollection$Kind" "unique" "Z" (.int (0 : Int32))) (hf0 : (p0_ &&& (3 : Int32)) = (1 : Int32)) :
    MetFree l x (head1 (Jvm.Cond.code x code maxLocals ret :: ws) room_1) (fun a U => a = #[(.int p0_)] ∧ Z.Warmed39 U.vm ∧ U.heap = h0) (fun _ _ _ _ _ => True) (fun _ U o U' => ∃ v L, o = .returned v ∧ own_QL n0 v U'.heap L ∧ FrameEnd U o U' L room_1.cells room_1.slots) := by
  refine MetFree.of_bodySF (plainFor_of_name own_pn1) hisR ?_
  intro p e s m args below meth c s₁ Bd hml0 hP hK
  obtain ⟨rfl, hZ, hh⟩ := hP
  have hx := Bd.exec
  have hby := Bd.bytes
  have hml : c.maxLocals = 5 := hml0
  have hown : s.vm.findClass "com/example/modelward/modelward/ocl/KindCollectedPinLaw" = some m.cls := findClass_of_methodNamed Bd.named
  have hnm := (name_of_methodNamed Bd.named Bd.method).1
  have X0 : Stand p l e room_1 s m #[(.int p0_)] below meth c s₁ [] 0 0 := Stand.of_body Bd
  have e0 : s₁.heap = h0 := by rw [← hh, Bd.state]; rfl
  have N0 := Fr.nil n0
  have pre0 : ∀ t, Steps p.tables e below (s₁.setTop (mkF m 0 #[.val (.int p0_), .unset, .unset, .unset, .unset] [])) t → Steps p.tables e below (s₁.setTop (entryFrame m #[(.int p0_)] maxLocals)) t := fun t k => castTop (own_ef3 m p0_) k
  obtain ⟨T1, X1, e1, st1⟩ := getS2 X0 hx hZ hown (host := "") (Or.inl (hw _ (List.mem_of_getElem? (i := 28) rfl))) Via.refl e0 S_ORDERED_SET (g := (mkF m 24 #[.val (.int p0_), .val (.int (1 : Int32)), .unset, .unset, .unset] [])) rfl (hb hby at_24)
  obtain ⟨T2, X2, e2, st2⟩ := getS2 X1 hx hZ hown (host := "") (Or.inl (hw _ (List.mem_of_getElem? (i := 25) rfl))) Via.refl e1 S_SEQUENCE (g := (mkF m 28 #[.val (.int p0_), .val (.int (1 : Int32)), .val (.ref w_ORDERED_SET), .unset, .unset] [])) rfl (hb hby at_28)
  obtain ⟨cq3, kq3, q3a, q3b, q3c⟩ := isOf hZ e2 E_w_ORDERED_SET
  obtain ⟨_, _, ⟨T3, L3, k3, n3⟩, -, X3, ⟨Lc3, hQ3, l3, y3, z3⟩, st3⟩ := X2.virtualBack hx (y := (⟨"com/example/modelward/modelward/ocl/OclCollection$Kind", "collected", "()Lcom/example/modelward/modelward/ocl/OclCollection$Kind;"⟩ : MethodName)) (z := (⟨"com/example/modelward/modelward/ocl/OclCollection$Kind", "collected", "()Lcom/example/modelward/modelward/ocl/OclCollection$Kind;"⟩ : MethodName)) hown (mvT hZ (hw _ (List.mem_of_getElem? (i := 5) rfl))) (mvT hZ (hw _ (List.mem_of_getElem? (i := 6) rfl))) (notFace_of_selects (args := #[]) (mvT hZ (hw _ (List.mem_of_getElem? (i := 8) rfl)))) (mvT hZ (hw _ (List.mem_of_getElem? (i := 8) rfl))) (mvT hZ (hw _ (List.mem_of_getElem? (i := 7) rfl))) (by decide) (backOf (W := 0) (own_b1_f l Z a0 hw [] w_ORDERED_SET (1 : Int32) w_SEQUENCE h0 n0 Z0 F_ordered_w_ORDERED_SET S_SEQUENCE (by decide)) hZ (hw _ (List.mem_of_getElem? (i := 9) rfl)) (hw _ (List.mem_of_getElem? (i := 1) rfl)) (by decide) (by decide)) q3a q3c (g := (mkF m 60 #[.val (.int p0_), .val (.int (1 : Int32)), .val (.ref w_ORDERED_SET), .val (.ref w_SEQUENCE), .unset] [(.ref w_ORDERED_SET)])) rfl (by rw [hml]; rfl) (Steps.refl _) (argsL := []) (rest := []) (lenOf own_pd0 rfl) rfl (by show 2 * 0 + _ ≤ _; exact Nat.le_of_eq rfl) (hb hby at_60) (fun _ _ => ⟨rfl, e2, (by decide : 0 + 0 ≤ _), (by decide : 0 + 0 ≤ _)⟩)
  dsimp only [Pt.U, Pt.locs, Pt.cells, Pt.slots] at X3 l3 y3 z3 st3 hQ3
  subst l3 y3 z3
  obtain ⟨rfl, N3q, e3⟩ := hQ3
  have N3 := Fr.app N0 N3q
  obtain ⟨cq4, kq4, q4a, q4b, q4c⟩ := isOf hZ e3 E_w_SEQUENCE
  obtain ⟨_, _, ⟨T4, L4, k4, n4⟩, -, X4, ⟨Lc4, hQ4, l4, y4, z4⟩, st4⟩ := X3.virtualBack hx (y := (⟨"com/example/modelward/modelward/ocl/OclCollection$Kind", "isOrdered", "()Z"⟩ : MethodName)) (z := (⟨"com/example/modelward/modelward/ocl/OclCollection$Kind", "isOrdered", "()Z"⟩ : MethodName)) hown (mvT hZ (hw _ (List.mem_of_getElem? (i := 13) rfl))) (mvT hZ (hw _ (List.mem_of_getElem? (i := 14) rfl))) (notFace_of_selects (args := #[]) (mvT hZ (hw _ (List.mem_of_getElem? (i := 16) rfl)))) (mvT hZ (hw _ (List.mem_of_getElem? (i := 16) rfl))) (mvT hZ (hw _ (List.mem_of_getElem? (i := 15) rfl))) (by decide) (backOf (W := 0) (own_b2_x l Z a0 hw [] w_SEQUENCE (1 : Int32) h0 n0 Z0 F_ordered_w_SEQUENCE (by decide)) hZ (hw _ (List.mem_of_getElem? (i := 17) rfl)) (hw _ (List.mem_of_getElem? (i := 1) rfl)) (by decide) (by decide)) q4a q4c (g := (mkF m 73 #[.val (.int p0_), .val (.int (1 : Int32)), .val (.ref w_ORDERED_SET), .val (.ref w_SEQUENCE), .val (.ref w_SEQUENCE)] [(.ref w_SEQUENCE)])) rfl (by rw [hml]; rfl) (Steps.refl _) (argsL := []) (rest := []) (lenOf own_pd1 rfl) rfl (by show 2 * 0 + _ ≤ _; exact Nat.le_of_eq rfl) (hb hby at_73) (fun _ _ => ⟨rfl, e3, (by decide : 0 + 0 ≤ _), (by decide : 0 + 0 ≤ _)⟩)
  dsimp only [Pt.U, Pt.locs, Pt.cells, Pt.slots] at X4 l4 y4 z4 st4 hQ4
  subst l4 y4 z4
  obtain ⟨rfl, N4q, e4⟩ := hQ4
  have N4 := Fr.app N3 N4q
  obtain ⟨cq5, kq5, q5a, q5b, q5c⟩ := isOf hZ e4 E_w_ORDERED_SET
  obtain ⟨_, _, ⟨T5, L5, k5, n5⟩, -, X5, ⟨Lc5, hQ5, l5, y5, z5⟩, st5⟩ := X4.virtualBack hx (y := (⟨"com/example/modelward/modelward/ocl/OclCollection$Kind", "isOrdered", "()Z"⟩ : MethodName)) (z := (⟨"com/example/modelward/modelward/ocl/OclCollection$Kind", "isOrdered", "()Z"⟩ : MethodName)) hown (mvT hZ (hw _ (List.mem_of_getElem? (i := 13) rfl))) (mvT hZ (hw _ (List.mem_of_getElem? (i := 14) rfl))) (notFace_of_selects (args := #[]) (mvT hZ (hw _ (List.mem_of_getElem? (i := 16) rfl)))) (mvT hZ (hw _ (List.mem_of_getElem? (i := 16) rfl))) (mvT hZ (hw _ (List.mem_of_getElem? (i := 15) rfl))) (by decide) (backOf (W := 1) (own_b2_x l Z a0 hw [] w_ORDERED_SET (1 : Int32) h0 n0 Z0 F_ordered_w_ORDERED_SET (by decide)) hZ (hw _ (List.mem_of_getElem? (i := 17) rfl)) (hw _ (List.mem_of_getElem? (i := 1) rfl)) (by decide) (by decide)) q5a q5c (g := (mkF m 77 #[.val (.int p0_), .val (.int (1 : Int32)), .val (.ref w_ORDERED_SET), .val (.ref w_SEQUENCE), .val (.ref w_SEQUENCE)] [(.ref w_ORDERED_SET), (.int (1 : Int32))])) rfl (by rw [hml]; rfl) (Steps.refl _) (argsL := []) (rest := [(.int (1 : Int32))]) (lenOf own_pd1 rfl) rfl (by show 2 * 0 + _ ≤ _; exact Nat.le_of_eq rfl) (hb hby at_77) (fun _ _ => ⟨rfl, e4, (by decide : 0 + 0 ≤ _), (by decide : 0 + 0 ≤ _)⟩)
  dsimp only [Pt.U, Pt.locs, Pt.cells, Pt.slots] at X5 l5 y5 z5 st5 hQ5
  subst l5 y5 z5
  obtain ⟨rfl, N5q, e5⟩ := hQ5
  have N5 := Fr.app N4 N5q
  obtain ⟨cq6, kq6, q6a, q6b, q6c⟩ := isOf hZ e5 E_w_SEQUENCE
  obtain ⟨_, _, ⟨T6, L6, k6, n6⟩, -, X6, ⟨Lc6, hQ6, l6, y6, z6⟩, st6⟩ := X5.virtualBack hx (y := (⟨"com/example/modelward/modelward/ocl/OclCollection$Kind", "isUnique", "()Z"⟩ : MethodName)) (z := (⟨"com/example/modelward/modelward/ocl/OclCollection$Kind", "isUnique", "()Z"⟩ : MethodName)) hown (mvT hZ (hw _ (List.mem_of_getElem? (i := 18) rfl))) (mvT hZ (hw _ (List.mem_of_getElem? (i := 19) rfl))) (notFace_of_selects (args := #[]) (mvT hZ (hw _ (List.mem_of_getElem? (i := 21) rfl)))) (mvT hZ (hw _ (List.mem_of_getElem? (i := 21) rfl))) (mvT hZ (hw _ (List.mem_of_getElem? (i := 20) rfl))) (by decide) (backOf (W := 0) (own_b3_x l Z a0 hw [] w_SEQUENCE (0 : Int32) h0 n0 Z0 F_unique_w_SEQUENCE (by decide)) hZ (hw _ (List.mem_of_getElem? (i := 22) rfl)) (hw _ (List.mem_of_getElem? (i := 1) rfl)) (by decide) (by decide)) q6a q6c (g := (mkF m 85 #[.val (.int p0_), .val (.int (1 : Int32)), .val (.ref w_ORDERED_SET), .val (.ref w_SEQUENCE), .val (.ref w_SEQUENCE)] [(.ref w_SEQUENCE)])) rfl (by rw [hml]; rfl) (Steps.refl _) (argsL := []) (rest := []) (lenOf own_pd1 rfl) rfl (by show 2 * 0 + _ ≤ _; exact Nat.le_of_eq rfl) (hb hby at_85) (fun _ _ => ⟨rfl, e5, (by decide : 0 + 0 ≤ _), (by decide : 0 + 0 ≤ _)⟩)
  dsimp only [Pt.U, Pt.locs, Pt.cells, Pt.slots] at X6 l6 y6 z6 st6 hQ6
  subst l6 y6 z6
  obtain ⟨rfl, N6q, e6⟩ := hQ6
  have N6 := Fr.app N5 N6q
  obtain ⟨cq7, kq7, q7a, q7b, q7c⟩ := isOf hZ e6 E_w_SEQUENCE
  obtain ⟨_, _, ⟨T7, L7, k7, n7⟩, -, X7, ⟨Lc7, hQ7, l7, y7, z7⟩, st7⟩ := X6.virtualBack hx (y := (⟨"com/example/modelward/modelward/ocl/OclCollection$Kind", "collected", "()Lcom/example/modelward/modelward/ocl/OclCollection$Kind;"⟩ : MethodName)) (z := (⟨"com/example/modelward/modelward/ocl/OclCollection$Kind", "collected", "()Lcom/example/modelward/modelward/ocl/OclCollection$Kind;"⟩ : MethodName)) hown (mvT hZ (hw _ (List.mem_of_getElem? (i := 5) rfl))) (mvT hZ (hw _ (List.mem_of_getElem? (i := 6) rfl))) (notFace_of_selects (args := #[]) (mvT hZ (hw _ (List.mem_of_getElem? (i := 8) rfl)))) (mvT hZ (hw _ (List.mem_of_getElem? (i := 8) rfl))) (mvT hZ (hw _ (List.mem_of_getElem? (i := 7) rfl))) (by decide) (backOf (W := 0) (own_b1_f l Z a0 hw [] w_SEQUENCE (1 : Int32) w_SEQUENCE h0 n0 Z0 F_ordered_w_SEQUENCE S_SEQUENCE (by decide)) hZ (hw _ (List.mem_of_getElem? (i := 9) rfl)) (hw _ (List.mem_of_getElem? (i := 1) rfl)) (by decide) (by decide)) q7a q7c (g := (mkF m 93 #[.val (.int p0_), .val (.int (1 : Int32)), .val (.ref w_ORDERED_SET), .val (.ref w_SEQUENCE), .val (.ref w_SEQUENCE)] [(.ref w_SEQUENCE)])) rfl (by rw [hml]; rfl) (Steps.refl _) (argsL := []) (rest := []) (lenOf own_pd0 rfl) rfl (by show 2 * 0 + _ ≤ _; exact Nat.le_of_eq rfl) (hb hby at_93) (fun _ _ => ⟨rfl, e6, (by decide : 0 + 0 ≤ _), (by decide : 0 + 0 ≤ _)⟩)
  dsimp only [Pt.U, Pt.locs, Pt.cells, Pt.slots] at X7 l7 y7 z7 st7 hQ7
  subst l7 y7 z7
  obtain ⟨rfl, N7q, e7⟩ := hQ7
  have N7 := Fr.app N6 N7q
  obtain ⟨fs, hr, hrun, hended, hW, hsame⟩ := X7.leave (v := some (.int (1 : Int32))) (fun h => by rw [Bd.returns] at h; cases h)
  refine ⟨_, _, pre0 _ ?_, hrun, hended, _, _, rfl, ?_, ⟨_, rfl⟩, hW, hsame.mono (by decide) (by decide)⟩
  · show Steps p.tables e below (s₁.setTop (mkF m 0 #[.val (.int p0_), .unset, .unset, .unset, .unset] [])) _
    refine XS.iloadN X0.here hx rfl (hb hby at_0) rfl ?_
    show Steps p.tables e below (s₁.setTop (mkF m 1 #[.val (.int p0_), .unset, .unset, .unset, .unset] [(.int p0_)])) _
    refine XS.iconst X0.here hx rfl (hb hby at_1) ?_
    show Steps p.tables e below (s₁.setTop (mkF m 2 #[.val (.int p0_), .unset, .unset, .unset, .unset] [(.int (3 : Int32)), (.int p0_)])) _
    refine XS.iand X0.here hx rfl (hb hby at_2) rfl ?_
    show Steps p.tables e below (s₁.setTop (mkF m 3 #[.val (.int p0_), .unset, .unset, .unset, .unset] [(.int (p0_ &&& (3 : Int32)))])) _
    rw [hf0]
    show Steps p.tables e below (s₁.setTop (mkF m 3 #[.val (.int p0_), .unset, .unset, .unset, .unset] [(.int (1 : Int32))])) _
    refine XS.istoreN X0.here hx rfl (hb hby at_3) rfl (l' := #[.val (.int p0_), .val (.int (1 : Int32)), .unset, .unset, .unset]) rfl ?_
    show Steps p.tables e below (s₁.setTop (mkF m 4 #[.val (.int p0_), .val (.int (1 : Int32)), .unset, .unset, .unset] [])) _
    refine XS.iloadN X0.here hx rfl (hb hby at_4) rfl ?_
    show Steps p.tables e below (s₁.setTop (mkF m 5 #[.val (.int p0_), .val (.int (1 : Int32)), .unset, .unset, .unset] [(.int (1 : Int32))])) _
    refine XS.ifYes X0.here hx rfl (pc0 := 5) (pc' := 19) rfl (hb hby at_5) rfl ((if0 _ _).trans (feq (by decide : ¬ ((1 : Int32) = (0 : Int32)))).2) (by decide) (by decide) ?_
    show Steps p.tables e below (s₁.setTop (mkF m 19 #[.val (.int p0_), .val (.int (1 : Int32)), .unset, .unset, .unset] [])) _
    refine XS.iloadN X0.here hx rfl (hb hby at_19) rfl ?_
    show Steps p.tables e below (s₁.setTop (mkF m 20 #[.val (.int p0_), .val (.int (1 : Int32)), .unset, .unset, .unset] [(.int (1 : Int32))])) _
    refine XS.iconst X0.here hx rfl (hb hby at_20) ?_
    show Steps p.tables e below (s₁.setTop (mkF m 21 #[.val (.int p0_), .val (.int (1 : Int32)), .unset, .unset, .unset] [(.int (1 : Int32)), (.int (1 : Int32))])) _
    refine XS.icmpNo X0.here hx rfl (hb hby at_21) rfl (teq (rfl : (1 : Int32) = (1 : Int32))).2 ?_
    show Steps p.tables e below (s₁.setTop (mkF m 24 #[.val (.int p0_), .val (.int (1 : Int32)), .unset, .unset, .unset] [])) _
    refine st1 _ ?_
    show Steps p.tables e below (T1.setTop (mkF m 27 #[.val (.int p0_), .val (.int (1 : Int32)), .unset, .unset, .unset] [(.ref w_ORDERED_SET)])) _
    refine XS.astoreN X1.here hx rfl (hb hby at_27) rfl rfl (l' := #[.val (.int p0_), .val (.int (1 : Int32)), .val (.ref w_ORDERED_SET), .unset, .unset]) rfl ?_
    show Steps p.tables e below (T1.setTop (mkF m 28 #[.val (.int p0_), .val (.int (1 : Int32)), .val (.ref w_ORDERED_SET), .unset, .unset] [])) _
    refine st2 _ ?_
    show Steps p.tables e below (T2.setTop (mkF m 31 #[.val (.int p0_), .val (.int (1 : Int32)), .val (.ref w_ORDERED_SET), .unset, .unset] [(.ref w_SEQUENCE)])) _
    refine XS.astoreN X2.here hx rfl (hb hby at_31) rfl rfl (l' := #[.val (.int p0_), .val (.int (1 : Int32)), .val (.ref w_ORDERED_SET), .val (.ref w_SEQUENCE), .unset]) rfl ?_
    show Steps p.tables e below (T2.setTop (mkF m 32 #[.val (.int p0_), .val (.int (1 : Int32)), .val (.ref w_ORDERED_SET), .val (.ref w_SEQUENCE), .unset] [])) _
    refine XS.goto X2.here hx rfl (pc0 := 32) (pc' := 59) rfl (hb hby at_32) (by decide) (by decide) ?_
    show Steps p.tables e below (T2.setTop (mkF m 59 #[.val (.int p0_), .val (.int (1 : Int32)), .val (.ref w_ORDERED_SET), .val (.ref w_SEQUENCE), .unset] [])) _
    refine XS.aloadN X2.here hx rfl (hb hby at_59) rfl rfl ?_
    show Steps p.tables e below (T2.setTop (mkF m 60 #[.val (.int p0_), .val (.int (1 : Int32)), .val (.ref w_ORDERED_SET), .val (.ref w_SEQUENCE), .unset] [(.ref w_ORDERED_SET)])) _
    refine st3.trans ?_
    show Steps p.tables e below (T3.setTop (mkF m 63 #[.val (.int p0_), .val (.int (1 : Int32)), .val (.ref w_ORDERED_SET), .val (.ref w_SEQUENCE), .unset] [(.ref w_SEQUENCE)])) _
    refine XS.astore X3.here hx rfl (hb hby at_63) rfl rfl (l' := #[.val (.int p0_), .val (.int (1 : Int32)), .val (.ref w_ORDERED_SET), .val (.ref w_SEQUENCE), .val (.ref w_SEQUENCE)]) rfl ?_
    show Steps p.tables e below (T3.setTop (mkF m 65 #[.val (.int p0_), .val (.int (1 : Int32)), .val (.ref w_ORDERED_SET), .val (.ref w_SEQUENCE), .val (.ref w_SEQUENCE)] [])) _
    refine XS.aload X3.here hx rfl (hb hby at_65) rfl rfl ?_
    show Steps p.tables e below (T3.setTop (mkF m 67 #[.val (.int p0_), .val (.int (1 : Int32)), .val (.ref w_ORDERED_SET), .val (.ref w_SEQUENCE), .val (.ref w_SEQUENCE)] [(.ref w_SEQUENCE)])) _
    refine XS.aloadN X3.here hx rfl (hb hby at_67) rfl rfl ?_
    show Steps p.tables e below (T3.setTop (mkF m 68 #[.val (.int p0_), .val (.int (1 : Int32)), .val (.ref w_ORDERED_SET), .val (.ref w_SEQUENCE), .val (.ref w_SEQUENCE)] [(.ref w_SEQUENCE), (.ref w_SEQUENCE)])) _
    refine Jvm.RoadKit.acmp (g := (mkF m 68 #[.val (.int p0_), .val (.int (1 : Int32)), .val (.ref w_ORDERED_SET), .val (.ref w_SEQUENCE), .val (.ref w_SEQUENCE)] [(.ref w_SEQUENCE), (.ref w_SEQUENCE)])) X3 hx rfl rfl rfl (pc0 := 68) (pc' := 71) (same := true) rfl (hb hby at_68) rfl (decide_eq_true rfl) (by decide) (by decide) ?_
    show Steps p.tables e below (T3.setTop (mkF m 71 #[.val (.int p0_), .val (.int (1 : Int32)), .val (.ref w_ORDERED_SET), .val (.ref w_SEQUENCE), .val (.ref w_SEQUENCE)] [])) _
    refine XS.aload X3.here hx rfl (hb hby at_71) rfl rfl ?_
    show Steps p.tables e below (T3.setTop (mkF m 73 #[.val (.int p0_), .val (.int (1 : Int32)), .val (.ref w_ORDERED_SET), .val (.ref w_SEQUENCE), .val (.ref w_SEQUENCE)] [(.ref w_SEQUENCE)])) _
    refine st4.trans ?_
    show Steps p.tables e below (T4.setTop (mkF m 76 #[.val (.int p0_), .val (.int (1 : Int32)), .val (.ref w_ORDERED_SET), .val (.ref w_SEQUENCE), .val (.ref w_SEQUENCE)] [(.int (1 : Int32))])) _
    refine XS.aloadN X4.here hx rfl (hb hby at_76) rfl rfl ?_
    show Steps p.tables e below (T4.setTop (mkF m 77 #[.val (.int p0_), .val (.int (1 : Int32)), .val (.ref w_ORDERED_SET), .val (.ref w_SEQUENCE), .val (.ref w_SEQUENCE)] [(.ref w_ORDERED_SET), (.int (1 : Int32))])) _
    refine st5.trans ?_
    show Steps p.tables e below (T5.setTop (mkF m 80 #[.val (.int p0_), .val (.int (1 : Int32)), .val (.ref w_ORDERED_SET), .val (.ref w_SEQUENCE), .val (.ref w_SEQUENCE)] [(.int (1 : Int32)), (.int (1 : Int32))])) _
    refine XS.icmpNo X5.here hx rfl (hb hby at_80) rfl (teq (rfl : (1 : Int32) = (1 : Int32))).2 ?_
    show Steps p.tables e below (T5.setTop (mkF m 83 #[.val (.int p0_), .val (.int (1 : Int32)), .val (.ref w_ORDERED_SET), .val (.ref w_SEQUENCE), .val (.ref w_SEQUENCE)] [])) _
    refine XS.aload X5.here hx rfl (hb hby at_83) rfl rfl ?_
    show Steps p.tables e below (T5.setTop (mkF m 85 #[.val (.int p0_), .val (.int (1 : Int32)), .val (.ref w_ORDERED_SET), .val (.ref w_SEQUENCE), .val (.ref w_SEQUENCE)] [(.ref w_SEQUENCE)])) _
    refine st6.trans ?_
    show Steps p.tables e below (T6.setTop (mkF m 88 #[.val (.int p0_), .val (.int (1 : Int32)), .val (.ref w_ORDERED_SET), .val (.ref w_SEQUENCE), .val (.ref w_SEQUENCE)] [(.int (0 : Int32))])) _
    refine XS.ifNo X6.here hx rfl (hb hby at_88) rfl ((if0 _ _).trans (teq (rfl : (0 : Int32) = (0 : Int32))).2) ?_
    show Steps p.tables e below (T6.setTop (mkF m 91 #[.val (.int p0_), .val (.int (1 : Int32)), .val (.ref w_ORDERED_SET), .val (.ref w_SEQUENCE), .val (.ref w_SEQUENCE)] [])) _
    refine XS.aload X6.here hx rfl (hb hby at_91) rfl rfl ?_
    show Steps p.tables e below (T6.setTop (mkF m 93 #[.val (.int p0_), .val (.int (1 : Int32)), .val (.ref w_ORDERED_SET), .val (.ref w_SEQUENCE), .val (.ref w_SEQUENCE)] [(.ref w_SEQUENCE)])) _
    refine st7.trans ?_
    show Steps p.tables e below (T7.setTop (mkF m 96 #[.val (.int p0_), .val (.int (1 : Int32)), .val (.ref w_ORDERED_SET), .val (.ref w_SEQUENCE), .val (.ref w_SEQUENCE)] [(.ref w_SEQUENCE)])) _
    refine XS.aload X7.here hx rfl (hb hby at_96) rfl rfl ?_
    show Steps p.tables e below (T7.setTop (mkF m 98 #[.val (.int p0_), .val (.int (1 : Int32)), .val (.ref w_ORDERED_SET), .val (.ref w_SEQUENCE), .val (.ref w_SEQUENCE)] [(.ref w_SEQUENCE), (.ref w_SEQUENCE)])) _
    refine Jvm.RoadKit.acmp (g := (mkF m 98 #[.val (.int p0_), .val (.int (1 : Int32)), .val (.ref w_ORDERED_SET), .val (.ref w_SEQUENCE), .val (.ref w_SEQUENCE)] [(.ref w_SEQUENCE), (.ref w_SEQUENCE)])) X7 hx rfl rfl rfl (pc0 := 98) (pc' := 101) (same := true) rfl (hb hby at_98) rfl (decide_eq_true rfl) (by decide) (by decide) ?_
    show Steps p.tables e below (T7.setTop (mkF m 101 #[.val (.int p0_), .val (.int (1 : Int32)), .val (.ref w_ORDERED_SET), .val (.ref w_SEQUENCE), .val (.ref w_SEQUENCE)] [])) _
    refine XS.iconst X7.here hx rfl (hb hby at_101) ?_
    show Steps p.tables e below (T7.setTop (mkF m 102 #[.val (.int p0_), .val (.int (1 : Int32)), .val (.ref w_ORDERED_SET), .val (.ref w_SEQUENCE), .val (.ref w_SEQUENCE)] [(.int (1 : Int32))])) _
    refine XS.goto X7.here hx rfl (pc0 := 102) (pc' := 106) rfl (hb hby at_102) (by decide) (by decide) ?_
    show Steps p.tables e below (T7.setTop (mkF m 106 #[.val (.int p0_), .val (.int (1 : Int32)), .val (.ref w_ORDERED_SET), .val (.ref w_SEQUENCE), .val (.ref w_SEQUENCE)] [(.int (1 : Int32))])) _
    exact retN X7 hx (t := .boolean) Bd.returns (by simp) (hb hby at_106) hr
  · show own_QL n0 _ T7.heap _
    exact ⟨rfl, N7⟩
set_option maxRecDepth 65536 in
set_option maxHeartbeats 40000000 in
theorem own_law2 (l : Launch) (Z : State) (a0 : Array Value) (hw : ∀ d ∈ tables_1, d.before a0 Z = true) (ws : List Jvm.Cond) (p0_ : Int32) (w_BAG : Addr) (h0 : Heap) (n0 : Nat) (Z0 : n0 ≤ h0.size) (S_BAG : Sta Z h0 "com/example/modelward/modelward/ocl/OclCollection$Kind" "BAG" "Lcom/example/modelward/modelward/ocl/OclCollection$Kind;" (.ref w_BAG)) (F_ordered_w_BAG : Fld Z h0 w_BAG "com/example/modelward/modelward/ocl/OclCollection$Kind" "ordered" "Z" (.int (0 : Int32))) (E_w_BAG : Exa Z h0 w_BAG "com/example/modelward/modelward/ocl/OclCollection$Kind") (F_unique_w_BAG : Fld Z h0 w_BAG "com/example/modelward/modelward/ocl/OclCollection$Kind" "unique" "Z" (.int (0 : Int32))) (hf0 : (p0_ &&& (3 : Int32)) = (2 : Int32)) :
    MetFree l x (head1 (Jvm.Cond.code x code maxLocals ret :: ws) room_1) (fun a U => a = #[(.int p0_)] ∧ Z.Warmed39 U.vm ∧ U.heap = h0) (fun _ _ _ _ _ => True) (fun _ U o U' => ∃ v L, o = .returned v ∧ own_QL n0 v U'.heap L ∧ FrameEnd U o U' L room_1.cells room_1.slots) := by
  refine MetFree.of_bodySF (plainFor_of_name own_pn1) hisR ?_
  intro p e s m args below meth c s₁ Bd hml0 hP hK
  obtain ⟨rfl, hZ, hh⟩ := hP
  have hx := Bd.exec
  have hby := Bd.bytes
  have hml : c.maxLocals = 5 := hml0
  have hown : s.vm.findClass "com/example/modelward/modelward/ocl/KindCollectedPinLaw" = some m.cls := findClass_of_methodNamed Bd.named
  have hnm := (name_of_methodNamed Bd.named Bd.method).1
  have X0 : Stand p l e room_1 s m #[(.int p0_)] below meth c s₁ [] 0 0 := Stand.of_body Bd
  have e0 : s₁.heap = h0 := by rw [← hh, Bd.state]; rfl
  have N0 := Fr.nil n0
  have pre0 : ∀ t, Steps p.tables e below (s₁.setTop (mkF m 0 #[.val (.int p0_), .unset, .unset, .unset, .unset] [])) t → Steps p.tables e below (s₁.setTop (entryFrame m #[(.int p0_)] maxLocals)) t := fun t k => castTop (own_ef3 m p0_) k
  obtain ⟨T1, X1, e1, st1⟩ := getS2 X0 hx hZ hown (host := "") (Or.inl (hw _ (List.mem_of_getElem? (i := 3) rfl))) Via.refl e0 S_BAG (g := (mkF m 40 #[.val (.int p0_), .val (.int (2 : Int32)), .unset, .unset, .unset] [])) rfl (hb hby at_40)
  obtain ⟨T2, X2, e2, st2⟩ := getS2 X1 hx hZ hown (host := "") (Or.inl (hw _ (List.mem_of_getElem? (i := 3) rfl))) Via.refl e1 S_BAG (g := (mkF m 44 #[.val (.int p0_), .val (.int (2 : Int32)), .val (.ref w_BAG), .unset, .unset] [])) rfl (hb hby at_44)
  obtain ⟨cq3, kq3, q3a, q3b, q3c⟩ := isOf hZ e2 E_w_BAG
  obtain ⟨_, _, ⟨T3, L3, k3, n3⟩, -, X3, ⟨Lc3, hQ3, l3, y3, z3⟩, st3⟩ := X2.virtualBack hx (y := (⟨"com/example/modelward/modelward/ocl/OclCollection$Kind", "collected", "()Lcom/example/modelward/modelward/ocl/OclCollection$Kind;"⟩ : MethodName)) (z := (⟨"com/example/modelward/modelward/ocl/OclCollection$Kind", "collected", "()Lcom/example/modelward/modelward/ocl/OclCollection$Kind;"⟩ : MethodName)) hown (mvT hZ (hw _ (List.mem_of_getElem? (i := 5) rfl))) (mvT hZ (hw _ (List.mem_of_getElem? (i := 6) rfl))) (notFace_of_selects (args := #[]) (mvT hZ (hw _ (List.mem_of_getElem? (i := 8) rfl)))) (mvT hZ (hw _ (List.mem_of_getElem? (i := 8) rfl))) (mvT hZ (hw _ (List.mem_of_getElem? (i := 7) rfl))) (by decide) (backOf (W := 0) (own_b1_t l Z a0 hw [] w_BAG (0 : Int32) w_BAG h0 n0 Z0 F_ordered_w_BAG S_BAG rfl) hZ (hw _ (List.mem_of_getElem? (i := 9) rfl)) (hw _ (List.mem_of_getElem? (i := 1) rfl)) (by decide) (by decide)) q3a q3c (g := (mkF m 60 #[.val (.int p0_), .val (.int (2 : Int32)), .val (.ref w_BAG), .val (.ref w_BAG), .unset] [(.ref w_BAG)])) rfl (by rw [hml]; rfl) (Steps.refl _) (argsL := []) (rest := []) (lenOf own_pd0 rfl) rfl (by show 2 * 0 + _ ≤ _; exact Nat.le_of_eq rfl) (hb hby at_60) (fun _ _ => ⟨rfl, e2, (by decide : 0 + 0 ≤ _), (by decide : 0 + 0 ≤ _)⟩)
  dsimp only [Pt.U, Pt.locs, Pt.cells, Pt.slots] at X3 l3 y3 z3 st3 hQ3
  subst l3 y3 z3
  obtain ⟨rfl, N3q, e3⟩ := hQ3
  have N3 := Fr.app N0 N3q
  obtain ⟨cq4, kq4, q4a, q4b, q4c⟩ := isOf hZ e3 E_w_BAG
  obtain ⟨_, _, ⟨T4, L4, k4, n4⟩, -, X4, ⟨Lc4, hQ4, l4, y4, z4⟩, st4⟩ := X3.virtualBack hx (y := (⟨"com/example/modelward/modelward/ocl/OclCollection$Kind", "isOrdered", "()Z"⟩ : MethodName)) (z := (⟨"com/example/modelward/modelward/ocl/OclCollection$Kind", "isOrdered", "()Z"⟩ : MethodName)) hown (mvT hZ (hw _ (List.mem_of_getElem? (i := 13) rfl))) (mvT hZ (hw _ (List.mem_of_getElem? (i := 14) rfl))) (notFace_of_selects (args := #[]) (mvT hZ (hw _ (List.mem_of_getElem? (i := 16) rfl)))) (mvT hZ (hw _ (List.mem_of_getElem? (i := 16) rfl))) (mvT hZ (hw _ (List.mem_of_getElem? (i := 15) rfl))) (by decide) (backOf (W := 0) (own_b2_x l Z a0 hw [] w_BAG (0 : Int32) h0 n0 Z0 F_ordered_w_BAG (by decide)) hZ (hw _ (List.mem_of_getElem? (i := 17) rfl)) (hw _ (List.mem_of_getElem? (i := 1) rfl)) (by decide) (by decide)) q4a q4c (g := (mkF m 73 #[.val (.int p0_), .val (.int (2 : Int32)), .val (.ref w_BAG), .val (.ref w_BAG), .val (.ref w_BAG)] [(.ref w_BAG)])) rfl (by rw [hml]; rfl) (Steps.refl _) (argsL := []) (rest := []) (lenOf own_pd1 rfl) rfl (by show 2 * 0 + _ ≤ _; exact Nat.le_of_eq rfl) (hb hby at_73) (fun _ _ => ⟨rfl, e3, (by decide : 0 + 0 ≤ _), (by decide : 0 + 0 ≤ _)⟩)
  dsimp only [Pt.U, Pt.locs, Pt.cells, Pt.slots] at X4 l4 y4 z4 st4 hQ4
  subst l4 y4 z4
  obtain ⟨rfl, N4q, e4⟩ := hQ4
  have N4 := Fr.app N3 N4q
  obtain ⟨cq5, kq5, q5a, q5b, q5c⟩ := isOf hZ e4 E_w_BAG
  obtain ⟨_, _, ⟨T5, L5, k5, n5⟩, -, X5, ⟨Lc5, hQ5, l5, y5, z5⟩, st5⟩ := X4.virtualBack hx (y := (⟨"com/example/modelward/modelward/ocl/OclCollection$Kind", "isOrdered", "()Z"⟩ : MethodName)) (z := (⟨"com/example/modelward/modelward/ocl/OclCollection$Kind", "isOrdered", "()Z"⟩ : MethodName)) hown (mvT hZ (hw _ (List.mem_of_getElem? (i := 13) rfl))) (mvT hZ (hw _ (List.mem_of_getElem? (i := 14) rfl))) (notFace_of_selects (args := #[]) (mvT hZ (hw _ (List.mem_of_getElem? (i := 16) rfl)))) (mvT hZ (hw _ (List.mem_of_getElem? (i := 16) rfl))) (mvT hZ (hw _ (List.mem_of_getElem? (i := 15) rfl))) (by decide) (backOf (W := 1) (own_b2_x l Z a0 hw [] w_BAG (0 : Int32) h0 n0 Z0 F_ordered_w_BAG (by decide)) hZ (hw _ (List.mem_of_getElem? (i := 17) rfl)) (hw _ (List.mem_of_getElem? (i := 1) rfl)) (by decide) (by decide)) q5a q5c (g := (mkF m 77 #[.val (.int p0_), .val (.int (2 : Int32)), .val (.ref w_BAG), .val (.ref w_BAG), .val (.ref w_BAG)] [(.ref w_BAG), (.int (0 : Int32))])) rfl (by rw [hml]; rfl) (Steps.refl _) (argsL := []) (rest := [(.int (0 : Int32))]) (lenOf own_pd1 rfl) rfl (by show 2 * 0 + _ ≤ _; exact Nat.le_of_eq rfl) (hb hby at_77) (fun _ _ => ⟨rfl, e4, (by decide : 0 + 0 ≤ _), (by decide : 0 + 0 ≤ _)⟩)
  dsimp only [Pt.U, Pt.locs, Pt.cells, Pt.slots] at X5 l5 y5 z5 st5 hQ5
  subst l5 y5 z5
  obtain ⟨rfl, N5q, e5⟩ := hQ5
  have N5 := Fr.app N4 N5q
  obtain ⟨cq6, kq6, q6a, q6b, q6c⟩ := isOf hZ e5 E_w_BAG
  obtain ⟨_, _, ⟨T6, L6, k6, n6⟩, -, X6, ⟨Lc6, hQ6, l6, y6, z6⟩, st6⟩ := X5.virtualBack hx (y := (⟨"com/example/modelward/modelward/ocl/OclCollection$Kind", "isUnique", "()Z"⟩ : MethodName)) (z := (⟨"com/example/modelward/modelward/ocl/OclCollection$Kind", "isUnique", "()Z"⟩ : MethodName)) hown (mvT hZ (hw _ (List.mem_of_getElem? (i := 18) rfl))) (mvT hZ (hw _ (List.mem_of_getElem? (i := 19) rfl))) (notFace_of_selects (args := #[]) (mvT hZ (hw _ (List.mem_of_getElem? (i := 21) rfl)))) (mvT hZ (hw _ (List.mem_of_getElem? (i := 21) rfl))) (mvT hZ (hw _ (List.mem_of_getElem? (i := 20) rfl))) (by decide) (backOf (W := 0) (own_b3_x l Z a0 hw [] w_BAG (0 : Int32) h0 n0 Z0 F_unique_w_BAG (by decide)) hZ (hw _ (List.mem_of_getElem? (i := 22) rfl)) (hw _ (List.mem_of_getElem? (i := 1) rfl)) (by decide) (by decide)) q6a q6c (g := (mkF m 85 #[.val (.int p0_), .val (.int (2 : Int32)), .val (.ref w_BAG), .val (.ref w_BAG), .val (.ref w_BAG)] [(.ref w_BAG)])) rfl (by rw [hml]; rfl) (Steps.refl _) (argsL := []) (rest := []) (lenOf own_pd1 rfl) rfl (by show 2 * 0 + _ ≤ _; exact Nat.le_of_eq rfl) (hb hby at_85) (fun _ _ => ⟨rfl, e5, (by decide : 0 + 0 ≤ _), (by decide : 0 + 0 ≤ _)⟩)
  dsimp only [Pt.U, Pt.locs, Pt.cells, Pt.slots] at X6 l6 y6 z6 st6 hQ6
  subst l6 y6 z6
  obtain ⟨rfl, N6q, e6⟩ := hQ6
  have N6 := Fr.app N5 N6q
  obtain ⟨cq7, kq7, q7a, q7b, q7c⟩ := isOf hZ e6 E_w_BAG
  obtain ⟨_, _, ⟨T7, L7, k7, n7⟩, -, X7, ⟨Lc7, hQ7, l7, y7, z7⟩, st7⟩ := X6.virtualBack hx (y := (⟨"com/example/modelward/modelward/ocl/OclCollection$Kind", "collected", "()Lcom/example/modelward/modelward/ocl/OclCollection$Kind;"⟩ : MethodName)) (z := (⟨"com/example/modelward/modelward/ocl/OclCollection$Kind", "collected", "()Lcom/example/modelward/modelward/ocl/OclCollection$Kind;"⟩ : MethodName)) hown (mvT hZ (hw _ (List.mem_of_getElem? (i := 5) rfl))) (mvT hZ (hw _ (List.mem_of_getElem? (i := 6) rfl))) (notFace_of_selects (args := #[]) (mvT hZ (hw _ (List.mem_of_getElem? (i := 8) rfl)))) (mvT hZ (hw _ (List.mem_of_getElem? (i := 8) rfl))) (mvT hZ (hw _ (List.mem_of_getElem? (i := 7) rfl))) (by decide) (backOf (W := 0) (own_b1_t l Z a0 hw [] w_BAG (0 : Int32) w_BAG h0 n0 Z0 F_ordered_w_BAG S_BAG rfl) hZ (hw _ (List.mem_of_getElem? (i := 9) rfl)) (hw _ (List.mem_of_getElem? (i := 1) rfl)) (by decide) (by decide)) q7a q7c (g := (mkF m 93 #[.val (.int p0_), .val (.int (2 : Int32)), .val (.ref w_BAG), .val (.ref w_BAG), .val (.ref w_BAG)] [(.ref w_BAG)])) rfl (by rw [hml]; rfl) (Steps.refl _) (argsL := []) (rest := []) (lenOf own_pd0 rfl) rfl (by show 2 * 0 + _ ≤ _; exact Nat.le_of_eq rfl) (hb hby at_93) (fun _ _ => ⟨rfl, e6, (by decide : 0 + 0 ≤ _), (by decide : 0 + 0 ≤ _)⟩)
  dsimp only [Pt.U, Pt.locs, Pt.cells, Pt.slots] at X7 l7 y7 z7 st7 hQ7
  subst l7 y7 z7
  obtain ⟨rfl, N7q, e7⟩ := hQ7
  have N7 := Fr.app N6 N7q
  obtain ⟨fs, hr, hrun, hended, hW, hsame⟩ := X7.leave (v := some (.int (1 : Int32))) (fun h => by rw [Bd.returns] at h; cases h)
  refine ⟨_, _, pre0 _ ?_, hrun, hended, _, _, rfl, ?_, ⟨_, rfl⟩, hW, hsame.mono (by decide) (by decide)⟩
  · show Steps p.tables e below (s₁.setTop (mkF m 0 #[.val (.int p0_), .unset, .unset, .unset, .unset] [])) _
    refine XS.iloadN X0.here hx rfl (hb hby at_0) rfl ?_
    show Steps p.tables e below (s₁.setTop (mkF m 1 #[.val (.int p0_), .unset, .unset, .unset, .unset] [(.int p0_)])) _
    refine XS.iconst X0.here hx rfl (hb hby at_1) ?_
    show Steps p.tables e below (s₁.setTop (mkF m 2 #[.val (.int p0_), .unset, .unset, .unset, .unset] [(.int (3 : Int32)), (.int p0_)])) _
    refine XS.iand X0.here hx rfl (hb hby at_2) rfl ?_
    show Steps p.tables e below (s₁.setTop (mkF m 3 #[.val (.int p0_), .unset, .unset, .unset, .unset] [(.int (p0_ &&& (3 : Int32)))])) _
    rw [hf0]
    show Steps p.tables e below (s₁.setTop (mkF m 3 #[.val (.int p0_), .unset, .unset, .unset, .unset] [(.int (2 : Int32))])) _
    refine XS.istoreN X0.here hx rfl (hb hby at_3) rfl (l' := #[.val (.int p0_), .val (.int (2 : Int32)), .unset, .unset, .unset]) rfl ?_
    show Steps p.tables e below (s₁.setTop (mkF m 4 #[.val (.int p0_), .val (.int (2 : Int32)), .unset, .unset, .unset] [])) _
    refine XS.iloadN X0.here hx rfl (hb hby at_4) rfl ?_
    show Steps p.tables e below (s₁.setTop (mkF m 5 #[.val (.int p0_), .val (.int (2 : Int32)), .unset, .unset, .unset] [(.int (2 : Int32))])) _
    refine XS.ifYes X0.here hx rfl (pc0 := 5) (pc' := 19) rfl (hb hby at_5) rfl ((if0 _ _).trans (feq (by decide : ¬ ((2 : Int32) = (0 : Int32)))).2) (by decide) (by decide) ?_
    show Steps p.tables e below (s₁.setTop (mkF m 19 #[.val (.int p0_), .val (.int (2 : Int32)), .unset, .unset, .unset] [])) _
    refine XS.iloadN X0.here hx rfl (hb hby at_19) rfl ?_
    show Steps p.tables e below (s₁.setTop (mkF m 20 #[.val (.int p0_), .val (.int (2 : Int32)), .unset, .unset, .unset] [(.int (2 : Int32))])) _
    refine XS.iconst X0.here hx rfl (hb hby at_20) ?_
    show Steps p.tables e below (s₁.setTop (mkF m 21 #[.val (.int p0_), .val (.int (2 : Int32)), .unset, .unset, .unset] [(.int (1 : Int32)), (.int (2 : Int32))])) _
    refine XS.icmpYes X0.here hx rfl (pc0 := 21) (pc' := 35) rfl (hb hby at_21) rfl (feq (by decide : ¬ ((2 : Int32) = (1 : Int32)))).2 (by decide) (by decide) ?_
    show Steps p.tables e below (s₁.setTop (mkF m 35 #[.val (.int p0_), .val (.int (2 : Int32)), .unset, .unset, .unset] [])) _
    refine XS.iloadN X0.here hx rfl (hb hby at_35) rfl ?_
    show Steps p.tables e below (s₁.setTop (mkF m 36 #[.val (.int p0_), .val (.int (2 : Int32)), .unset, .unset, .unset] [(.int (2 : Int32))])) _
    refine XS.iconst X0.here hx rfl (hb hby at_36) ?_
    show Steps p.tables e below (s₁.setTop (mkF m 37 #[.val (.int p0_), .val (.int (2 : Int32)), .unset, .unset, .unset] [(.int (2 : Int32)), (.int (2 : Int32))])) _
    refine XS.icmpNo X0.here hx rfl (hb hby at_37) rfl (teq (rfl : (2 : Int32) = (2 : Int32))).2 ?_
    show Steps p.tables e below (s₁.setTop (mkF m 40 #[.val (.int p0_), .val (.int (2 : Int32)), .unset, .unset, .unset] [])) _
    refine st1 _ ?_
    show Steps p.tables e below (T1.setTop (mkF m 43 #[.val (.int p0_), .val (.int (2 : Int32)), .unset, .unset, .unset] [(.ref w_BAG)])) _
    refine XS.astoreN X1.here hx rfl (hb hby at_43) rfl rfl (l' := #[.val (.int p0_), .val (.int (2 : Int32)), .val (.ref w_BAG), .unset, .unset]) rfl ?_
    show Steps p.tables e below (T1.setTop (mkF m 44 #[.val (.int p0_), .val (.int (2 : Int32)), .val (.ref w_BAG), .unset, .unset] [])) _
    refine st2 _ ?_
    show Steps p.tables e below (T2.setTop (mkF m 47 #[.val (.int p0_), .val (.int (2 : Int32)), .val (.ref w_BAG), .unset, .unset] [(.ref w_BAG)])) _
    refine XS.astoreN X2.here hx rfl (hb hby at_47) rfl rfl (l' := #[.val (.int p0_), .val (.int (2 : Int32)), .val (.ref w_BAG), .val (.ref w_BAG), .unset]) rfl ?_
    show Steps p.tables e below (T2.setTop (mkF m 48 #[.val (.int p0_), .val (.int (2 : Int32)), .val (.ref w_BAG), .val (.ref w_BAG), .unset] [])) _
    refine XS.goto X2.here hx rfl (pc0 := 48) (pc' := 59) rfl (hb hby at_48) (by decide) (by decide) ?_
    show Steps p.tables e below (T2.setTop (mkF m 59 #[.val (.int p0_), .val (.int (2 : Int32)), .val (.ref w_BAG), .val (.ref w_BAG), .unset] [])) _
    refine XS.aloadN X2.here hx rfl (hb hby at_59) rfl rfl ?_
    show Steps p.tables e below (T2.setTop (mkF m 60 #[.val (.int p0_), .val (.int (2 : Int32)), .val (.ref w_BAG), .val (.ref w_BAG), .unset] [(.ref w_BAG)])) _
    refine st3.trans ?_
    show Steps p.tables e below (T3.setTop (mkF m 63 #[.val (.int p0_), .val (.int (2 : Int32)), .val (.ref w_BAG), .val (.ref w_BAG), .unset] [(.ref w_BAG)])) _
    refine XS.astore X3.here hx rfl (hb hby at_63) rfl rfl (l' := #[.val (.int p0_), .val (.int (2 : Int32)), .val (.ref w_BAG), .val (.ref w_BAG), .val (.ref w_BAG)]) rfl ?_
    show Steps p.tables e below (T3.setTop (mkF m 65 #[.val (.int p0_), .val (.int (2 : Int32)), .val (.ref w_BAG), .val (.ref w_BAG), .val (.ref w_BAG)] [])) _
    refine XS.aload X3.here hx rfl (hb hby at_65) rfl rfl ?_
    show Steps p.tables e below (T3.setTop (mkF m 67 #[.val (.int p0_), .val (.int (2 : Int32)), .val (.ref w_BAG), .val (.ref w_BAG), .val (.ref w_BAG)] [(.ref w_BAG)])) _
    refine XS.aloadN X3.here hx rfl (hb hby at_67) rfl rfl ?_
    show Steps p.tables e below (T3.setTop (mkF m 68 #[.val (.int p0_), .val (.int (2 : Int32)), .val (.ref w_BAG), .val (.ref w_BAG), .val (.ref w_BAG)] [(.ref w_BAG), (.ref w_BAG)])) _
    refine Jvm.RoadKit.acmp (g := (mkF m 68 #[.val (.int p0_), .val (.int (2 : Int32)), .val (.ref w_BAG), .val (.ref w_BAG), .val (.ref w_BAG)] [(.ref w_BAG), (.ref w_BAG)])) X3 hx rfl rfl rfl (pc0 := 68) (pc' := 71) (same := true) rfl (hb hby at_68) rfl (decide_eq_true rfl) (by decide) (by decide) ?_
    show Steps p.tables e below (T3.setTop (mkF m 71 #[.val (.int p0_), .val (.int (2 : Int32)), .val (.ref w_BAG), .val (.ref w_BAG), .val (.ref w_BAG)] [])) _
    refine XS.aload X3.here hx rfl (hb hby at_71) rfl rfl ?_
    show Steps p.tables e below (T3.setTop (mkF m 73 #[.val (.int p0_), .val (.int (2 : Int32)), .val (.ref w_BAG), .val (.ref w_BAG), .val (.ref w_BAG)] [(.ref w_BAG)])) _
    refine st4.trans ?_
    show Steps p.tables e below (T4.setTop (mkF m 76 #[.val (.int p0_), .val (.int (2 : Int32)), .val (.ref w_BAG), .val (.ref w_BAG), .val (.ref w_BAG)] [(.int (0 : Int32))])) _
    refine XS.aloadN X4.here hx rfl (hb hby at_76) rfl rfl ?_
    show Steps p.tables e below (T4.setTop (mkF m 77 #[.val (.int p0_), .val (.int (2 : Int32)), .val (.ref w_BAG), .val (.ref w_BAG), .val (.ref w_BAG)] [(.ref w_BAG), (.int (0 : Int32))])) _
    refine st5.trans ?_
    show Steps p.tables e below (T5.setTop (mkF m 80 #[.val (.int p0_), .val (.int (2 : Int32)), .val (.ref w_BAG), .val (.ref w_BAG), .val (.ref w_BAG)] [(.int (0 : Int32)), (.int (0 : Int32))])) _
    refine XS.icmpNo X5.here hx rfl (hb hby at_80) rfl (teq (rfl : (0 : Int32) = (0 : Int32))).2 ?_
    show Steps p.tables e below (T5.setTop (mkF m 83 #[.val (.int p0_), .val (.int (2 : Int32)), .val (.ref w_BAG), .val (.ref w_BAG), .val (.ref w_BAG)] [])) _
    refine XS.aload X5.here hx rfl (hb hby at_83) rfl rfl ?_
    show Steps p.tables e below (T5.setTop (mkF m 85 #[.val (.int p0_), .val (.int (2 : Int32)), .val (.ref w_BAG), .val (.ref w_BAG), .val (.ref w_BAG)] [(.ref w_BAG)])) _
    refine st6.trans ?_
    show Steps p.tables e below (T6.setTop (mkF m 88 #[.val (.int p0_), .val (.int (2 : Int32)), .val (.ref w_BAG), .val (.ref w_BAG), .val (.ref w_BAG)] [(.int (0 : Int32))])) _
    refine XS.ifNo X6.here hx rfl (hb hby at_88) rfl ((if0 _ _).trans (teq (rfl : (0 : Int32) = (0 : Int32))).2) ?_
    show Steps p.tables e below (T6.setTop (mkF m 91 #[.val (.int p0_), .val (.int (2 : Int32)), .val (.ref w_BAG), .val (.ref w_BAG), .val (.ref w_BAG)] [])) _
    refine XS.aload X6.here hx rfl (hb hby at_91) rfl rfl ?_
    show Steps p.tables e below (T6.setTop (mkF m 93 #[.val (.int p0_), .val (.int (2 : Int32)), .val (.ref w_BAG), .val (.ref w_BAG), .val (.ref w_BAG)] [(.ref w_BAG)])) _
    refine st7.trans ?_
    show Steps p.tables e below (T7.setTop (mkF m 96 #[.val (.int p0_), .val (.int (2 : Int32)), .val (.ref w_BAG), .val (.ref w_BAG), .val (.ref w_BAG)] [(.ref w_BAG)])) _
    refine XS.aload X7.here hx rfl (hb hby at_96) rfl rfl ?_
    show Steps p.tables e below (T7.setTop (mkF m 98 #[.val (.int p0_), .val (.int (2 : Int32)), .val (.ref w_BAG), .val (.ref w_BAG), .val (.ref w_BAG)] [(.ref w_BAG), (.ref w_BAG)])) _
    refine Jvm.RoadKit.acmp (g := (mkF m 98 #[.val (.int p0_), .val (.int (2 : Int32)), .val (.ref w_BAG), .val (.ref w_BAG), .val (.ref w_BAG)] [(.ref w_BAG), (.ref w_BAG)])) X7 hx rfl rfl rfl (pc0 := 98) (pc' := 101) (same := true) rfl (hb hby at_98) rfl (decide_eq_true rfl) (by decide) (by decide) ?_
    show Steps p.tables e below (T7.setTop (mkF m 101 #[.val (.int p0_), .val (.int (2 : Int32)), .val (.ref w_BAG), .val (.ref w_BAG), .val (.ref w_BAG)] [])) _
    refine XS.iconst X7.here hx rfl (hb hby at_101) ?_
    show Steps p.tables e below (T7.setTop (mkF m 102 #[.val (.int p0_), .val (.int (2 : Int32)), .val (.ref w_BAG), .val (.ref w_BAG), .val (.ref w_BAG)] [(.int (1 : Int32))])) _
    refine XS.goto X7.here hx rfl (pc0 := 102) (pc' := 106) rfl (hb hby at_102) (by decide) (by decide) ?_
    show Steps p.tables e below (T7.setTop (mkF m 106 #[.val (.int p0_), .val (.int (2 : Int32)), .val (.ref w_BAG), .val (.ref w_BAG), .val (.ref w_BAG)] [(.int (1 : Int32))])) _
    exact retN X7 hx (t := .boolean) Bd.returns (by simp) (hb hby at_106) hr
  · show own_QL n0 _ T7.heap _
    exact ⟨rfl, N7⟩
set_option maxRecDepth 65536 in
set_option maxHeartbeats 40000000 in
theorem own_law3 (l : Launch) (Z : State) (a0 : Array Value) (hw : ∀ d ∈ tables_1, d.before a0 Z = true) (ws : List Jvm.Cond) (p0_ : Int32) (w_SEQUENCE : Addr) (h0 : Heap) (n0 : Nat) (Z0 : n0 ≤ h0.size) (S_SEQUENCE : Sta Z h0 "com/example/modelward/modelward/ocl/OclCollection$Kind" "SEQUENCE" "Lcom/example/modelward/modelward/ocl/OclCollection$Kind;" (.ref w_SEQUENCE)) (F_ordered_w_SEQUENCE : Fld Z h0 w_SEQUENCE "com/example/modelward/modelward/ocl/OclCollection$Kind" "ordered" "Z" (.int (1 : Int32))) (E_w_SEQUENCE : Exa Z h0 w_SEQUENCE "com/example/modelward/modelward/ocl/OclCollection$Kind") (F_unique_w_SEQUENCE : Fld Z h0 w_SEQUENCE "com/example/modelward/modelward/ocl/OclCollection$Kind" "unique" "Z" (.int (0 : Int32))) (hf0 : (p0_ &&& (3 : Int32)) = (3 : Int32)) :
    MetFree l x (head1 (Jvm.Cond.code x code maxLocals ret :: ws) room_1) (fun a U => a = #[(.int p0_)] ∧ Z.Warmed39 U.vm ∧ U.heap = h0) (fun _ _ _ _ _ => True) (fun _ U o U' => ∃ v L, o = .returned v ∧ own_QL n0 v U'.heap L ∧ FrameEnd U o U' L room_1.cells room_1.slots) := by
  refine MetFree.of_bodySF (plainFor_of_name own_pn1) hisR ?_
  intro p e s m args below meth c s₁ Bd hml0 hP hK
  obtain ⟨rfl, hZ, hh⟩ := hP
  have hx := Bd.exec
  have hby := Bd.bytes
  have hml : c.maxLocals = 5 := hml0
  have hown : s.vm.findClass "com/example/modelward/modelward/ocl/KindCollectedPinLaw" = some m.cls := findClass_of_methodNamed Bd.named
  have hnm := (name_of_methodNamed Bd.named Bd.method).1
  have X0 : Stand p l e room_1 s m #[(.int p0_)] below meth c s₁ [] 0 0 := Stand.of_body Bd
  have e0 : s₁.heap = h0 := by rw [← hh, Bd.state]; rfl
  have N0 := Fr.nil n0
  have pre0 : ∀ t, Steps p.tables e below (s₁.setTop (mkF m 0 #[.val (.int p0_), .unset, .unset, .unset, .unset] [])) t → Steps p.tables e below (s₁.setTop (entryFrame m #[(.int p0_)] maxLocals)) t := fun t k => castTop (own_ef3 m p0_) k
  obtain ⟨T1, X1, e1, st1⟩ := getS2 X0 hx hZ hown (host := "") (Or.inl (hw _ (List.mem_of_getElem? (i := 25) rfl))) Via.refl e0 S_SEQUENCE (g := (mkF m 51 #[.val (.int p0_), .val (.int (3 : Int32)), .unset, .unset, .unset] [])) rfl (hb hby at_51)
  obtain ⟨T2, X2, e2, st2⟩ := getS2 X1 hx hZ hown (host := "") (Or.inl (hw _ (List.mem_of_getElem? (i := 25) rfl))) Via.refl e1 S_SEQUENCE (g := (mkF m 55 #[.val (.int p0_), .val (.int (3 : Int32)), .val (.ref w_SEQUENCE), .unset, .unset] [])) rfl (hb hby at_55)
  obtain ⟨cq3, kq3, q3a, q3b, q3c⟩ := isOf hZ e2 E_w_SEQUENCE
  obtain ⟨_, _, ⟨T3, L3, k3, n3⟩, -, X3, ⟨Lc3, hQ3, l3, y3, z3⟩, st3⟩ := X2.virtualBack hx (y := (⟨"com/example/modelward/modelward/ocl/OclCollection$Kind", "collected", "()Lcom/example/modelward/modelward/ocl/OclCollection$Kind;"⟩ : MethodName)) (z := (⟨"com/example/modelward/modelward/ocl/OclCollection$Kind", "collected", "()Lcom/example/modelward/modelward/ocl/OclCollection$Kind;"⟩ : MethodName)) hown (mvT hZ (hw _ (List.mem_of_getElem? (i := 5) rfl))) (mvT hZ (hw _ (List.mem_of_getElem? (i := 6) rfl))) (notFace_of_selects (args := #[]) (mvT hZ (hw _ (List.mem_of_getElem? (i := 8) rfl)))) (mvT hZ (hw _ (List.mem_of_getElem? (i := 8) rfl))) (mvT hZ (hw _ (List.mem_of_getElem? (i := 7) rfl))) (by decide) (backOf (W := 0) (own_b1_f l Z a0 hw [] w_SEQUENCE (1 : Int32) w_SEQUENCE h0 n0 Z0 F_ordered_w_SEQUENCE S_SEQUENCE (by decide)) hZ (hw _ (List.mem_of_getElem? (i := 9) rfl)) (hw _ (List.mem_of_getElem? (i := 1) rfl)) (by decide) (by decide)) q3a q3c (g := (mkF m 60 #[.val (.int p0_), .val (.int (3 : Int32)), .val (.ref w_SEQUENCE), .val (.ref w_SEQUENCE), .unset] [(.ref w_SEQUENCE)])) rfl (by rw [hml]; rfl) (Steps.refl _) (argsL := []) (rest := []) (lenOf own_pd0 rfl) rfl (by show 2 * 0 + _ ≤ _; exact Nat.le_of_eq rfl) (hb hby at_60) (fun _ _ => ⟨rfl, e2, (by decide : 0 + 0 ≤ _), (by decide : 0 + 0 ≤ _)⟩)
  dsimp only [Pt.U, Pt.locs, Pt.cells, Pt.slots] at X3 l3 y3 z3 st3 hQ3
  subst l3 y3 z3
  obtain ⟨rfl, N3q, e3⟩ := hQ3
  have N3 := Fr.app N0 N3q
  obtain ⟨cq4, kq4, q4a, q4b, q4c⟩ := isOf hZ e3 E_w_SEQUENCE
  obtain ⟨_, _, ⟨T4, L4, k4, n4⟩, -, X4, ⟨Lc4, hQ4, l4, y4, z4⟩, st4⟩ := X3.virtualBack hx (y := (⟨"com/example/modelward/modelward/ocl/OclCollection$Kind", "isOrdered", "()Z"⟩ : MethodName)) (z := (⟨"com/example/modelward/modelward/ocl/OclCollection$Kind", "isOrdered", "()Z"⟩ : MethodName)) hown (mvT hZ (hw _ (List.mem_of_getElem? (i := 13) rfl))) (mvT hZ (hw _ (List.mem_of_getElem? (i := 14) rfl))) (notFace_of_selects (args := #[]) (mvT hZ (hw _ (List.mem_of_getElem? (i := 16) rfl)))) (mvT hZ (hw _ (List.mem_of_getElem? (i := 16) rfl))) (mvT hZ (hw _ (List.mem_of_getElem? (i := 15) rfl))) (by decide) (backOf (W := 0) (own_b2_x l Z a0 hw [] w_SEQUENCE (1 : Int32) h0 n0 Z0 F_ordered_w_SEQUENCE (by decide)) hZ (hw _ (List.mem_of_getElem? (i := 17) rfl)) (hw _ (List.mem_of_getElem? (i := 1) rfl)) (by decide) (by decide)) q4a q4c (g := (mkF m 73 #[.val (.int p0_), .val (.int (3 : Int32)), .val (.ref w_SEQUENCE), .val (.ref w_SEQUENCE), .val (.ref w_SEQUENCE)] [(.ref w_SEQUENCE)])) rfl (by rw [hml]; rfl) (Steps.refl _) (argsL := []) (rest := []) (lenOf own_pd1 rfl) rfl (by show 2 * 0 + _ ≤ _; exact Nat.le_of_eq rfl) (hb hby at_73) (fun _ _ => ⟨rfl, e3, (by decide : 0 + 0 ≤ _), (by decide : 0 + 0 ≤ _)⟩)
  dsimp only [Pt.U, Pt.locs, Pt.cells, Pt.slots] at X4 l4 y4 z4 st4 hQ4
  subst l4 y4 z4
  obtain ⟨rfl, N4q, e4⟩ := hQ4
  have N4 := Fr.app N3 N4q
  obtain ⟨cq5, kq5, q5a, q5b, q5c⟩ := isOf hZ e4 E_w_SEQUENCE
  obtain ⟨_, _, ⟨T5, L5, k5, n5⟩, -, X5, ⟨Lc5, hQ5, l5, y5, z5⟩, st5⟩ := X4.virtualBack hx (y := (⟨"com/example/modelward/modelward/ocl/OclCollection$Kind", "isOrdered", "()Z"⟩ : MethodName)) (z := (⟨"com/example/modelward/modelward/ocl/OclCollection$Kind", "isOrdered", "()Z"⟩ : MethodName)) hown (mvT hZ (hw _ (List.mem_of_getElem? (i := 13) rfl))) (mvT hZ (hw _ (List.mem_of_getElem? (i := 14) rfl))) (notFace_of_selects (args := #[]) (mvT hZ (hw _ (List.mem_of_getElem? (i := 16) rfl)))) (mvT hZ (hw _ (List.mem_of_getElem? (i := 16) rfl))) (mvT hZ (hw _ (List.mem_of_getElem? (i := 15) rfl))) (by decide) (backOf (W := 1) (own_b2_x l Z a0 hw [] w_SEQUENCE (1 : Int32) h0 n0 Z0 F_ordered_w_SEQUENCE (by decide)) hZ (hw _ (List.mem_of_getElem? (i := 17) rfl)) (hw _ (List.mem_of_getElem? (i := 1) rfl)) (by decide) (by decide)) q5a q5c (g := (mkF m 77 #[.val (.int p0_), .val (.int (3 : Int32)), .val (.ref w_SEQUENCE), .val (.ref w_SEQUENCE), .val (.ref w_SEQUENCE)] [(.ref w_SEQUENCE), (.int (1 : Int32))])) rfl (by rw [hml]; rfl) (Steps.refl _) (argsL := []) (rest := [(.int (1 : Int32))]) (lenOf own_pd1 rfl) rfl (by show 2 * 0 + _ ≤ _; exact Nat.le_of_eq rfl) (hb hby at_77) (fun _ _ => ⟨rfl, e4, (by decide : 0 + 0 ≤ _), (by decide : 0 + 0 ≤ _)⟩)
  dsimp only [Pt.U, Pt.locs, Pt.cells, Pt.slots] at X5 l5 y5 z5 st5 hQ5
  subst l5 y5 z5
  obtain ⟨rfl, N5q, e5⟩ := hQ5
  have N5 := Fr.app N4 N5q
  obtain ⟨cq6, kq6, q6a, q6b, q6c⟩ := isOf hZ e5 E_w_SEQUENCE
  obtain ⟨_, _, ⟨T6, L6, k6, n6⟩, -, X6, ⟨Lc6, hQ6, l6, y6, z6⟩, st6⟩ := X5.virtualBack hx (y := (⟨"com/example/modelward/modelward/ocl/OclCollection$Kind", "isUnique", "()Z"⟩ : MethodName)) (z := (⟨"com/example/modelward/modelward/ocl/OclCollection$Kind", "isUnique", "()Z"⟩ : MethodName)) hown (mvT hZ (hw _ (List.mem_of_getElem? (i := 18) rfl))) (mvT hZ (hw _ (List.mem_of_getElem? (i := 19) rfl))) (notFace_of_selects (args := #[]) (mvT hZ (hw _ (List.mem_of_getElem? (i := 21) rfl)))) (mvT hZ (hw _ (List.mem_of_getElem? (i := 21) rfl))) (mvT hZ (hw _ (List.mem_of_getElem? (i := 20) rfl))) (by decide) (backOf (W := 0) (own_b3_x l Z a0 hw [] w_SEQUENCE (0 : Int32) h0 n0 Z0 F_unique_w_SEQUENCE (by decide)) hZ (hw _ (List.mem_of_getElem? (i := 22) rfl)) (hw _ (List.mem_of_getElem? (i := 1) rfl)) (by decide) (by decide)) q6a q6c (g := (mkF m 85 #[.val (.int p0_), .val (.int (3 : Int32)), .val (.ref w_SEQUENCE), .val (.ref w_SEQUENCE), .val (.ref w_SEQUENCE)] [(.ref w_SEQUENCE)])) rfl (by rw [hml]; rfl) (Steps.refl _) (argsL := []) (rest := []) (lenOf own_pd1 rfl) rfl (by show 2 * 0 + _ ≤ _; exact Nat.le_of_eq rfl) (hb hby at_85) (fun _ _ => ⟨rfl, e5, (by decide : 0 + 0 ≤ _), (by decide : 0 + 0 ≤ _)⟩)
  dsimp only [Pt.U, Pt.locs, Pt.cells, Pt.slots] at X6 l6 y6 z6 st6 hQ6
  subst l6 y6 z6
  obtain ⟨rfl, N6q, e6⟩ := hQ6
  have N6 := Fr.app N5 N6q
  obtain ⟨cq7, kq7, q7a, q7b, q7c⟩ := isOf hZ e6 E_w_SEQUENCE
  obtain ⟨_, _, ⟨T7, L7, k7, n7⟩, -, X7, ⟨Lc7, hQ7, l7, y7, z7⟩, st7⟩ := X6.virtualBack hx (y := (⟨"com/example/modelward/modelward/ocl/OclCollection$Kind", "collected", "()Lcom/example/modelward/modelward/ocl/OclCollection$Kind;"⟩ : MethodName)) (z := (⟨"com/example/modelward/modelward/ocl/OclCollection$Kind", "collected", "()Lcom/example/modelward/modelward/ocl/OclCollection$Kind;"⟩ : MethodName)) hown (mvT hZ (hw _ (List.mem_of_getElem? (i := 5) rfl))) (mvT hZ (hw _ (List.mem_of_getElem? (i := 6) rfl))) (notFace_of_selects (args := #[]) (mvT hZ (hw _ (List.mem_of_getElem? (i := 8) rfl)))) (mvT hZ (hw _ (List.mem_of_getElem? (i := 8) rfl))) (mvT hZ (hw _ (List.mem_of_getElem? (i := 7) rfl))) (by decide) (backOf (W := 0) (own_b1_f l Z a0 hw [] w_SEQUENCE (1 : Int32) w_SEQUENCE h0 n0 Z0 F_ordered_w_SEQUENCE S_SEQUENCE (by decide)) hZ (hw _ (List.mem_of_getElem? (i := 9) rfl)) (hw _ (List.mem_of_getElem? (i := 1) rfl)) (by decide) (by decide)) q7a q7c (g := (mkF m 93 #[.val (.int p0_), .val (.int (3 : Int32)), .val (.ref w_SEQUENCE), .val (.ref w_SEQUENCE), .val (.ref w_SEQUENCE)] [(.ref w_SEQUENCE)])) rfl (by rw [hml]; rfl) (Steps.refl _) (argsL := []) (rest := []) (lenOf own_pd0 rfl) rfl (by show 2 * 0 + _ ≤ _; exact Nat.le_of_eq rfl) (hb hby at_93) (fun _ _ => ⟨rfl, e6, (by decide : 0 + 0 ≤ _), (by decide : 0 + 0 ≤ _)⟩)
  dsimp only [Pt.U, Pt.locs, Pt.cells, Pt.slots] at X7 l7 y7 z7 st7 hQ7
  subst l7 y7 z7
  obtain ⟨rfl, N7q, e7⟩ := hQ7
  have N7 := Fr.app N6 N7q
  obtain ⟨fs, hr, hrun, hended, hW, hsame⟩ := X7.leave (v := some (.int (1 : Int32))) (fun h => by rw [Bd.returns] at h; cases h)
  refine ⟨_, _, pre0 _ ?_, hrun, hended, _, _, rfl, ?_, ⟨_, rfl⟩, hW, hsame.mono (by decide) (by decide)⟩
  · show Steps p.tables e below (s₁.setTop (mkF m 0 #[.val (.int p0_), .unset, .unset, .unset, .unset] [])) _
    refine XS.iloadN X0.here hx rfl (hb hby at_0) rfl ?_
    show Steps p.tables e below (s₁.setTop (mkF m 1 #[.val (.int p0_), .unset, .unset, .unset, .unset] [(.int p0_)])) _
    refine XS.iconst X0.here hx rfl (hb hby at_1) ?_
    show Steps p.tables e below (s₁.setTop (mkF m 2 #[.val (.int p0_), .unset, .unset, .unset, .unset] [(.int (3 : Int32)), (.int p0_)])) _
    refine XS.iand X0.here hx rfl (hb hby at_2) rfl ?_
    show Steps p.tables e below (s₁.setTop (mkF m 3 #[.val (.int p0_), .unset, .unset, .unset, .unset] [(.int (p0_ &&& (3 : Int32)))])) _
    rw [hf0]
    show Steps p.tables e below (s₁.setTop (mkF m 3 #[.val (.int p0_), .unset, .unset, .unset, .unset] [(.int (3 : Int32))])) _
    refine XS.istoreN X0.here hx rfl (hb hby at_3) rfl (l' := #[.val (.int p0_), .val (.int (3 : Int32)), .unset, .unset, .unset]) rfl ?_
    show Steps p.tables e below (s₁.setTop (mkF m 4 #[.val (.int p0_), .val (.int (3 : Int32)), .unset, .unset, .unset] [])) _
    refine XS.iloadN X0.here hx rfl (hb hby at_4) rfl ?_
    show Steps p.tables e below (s₁.setTop (mkF m 5 #[.val (.int p0_), .val (.int (3 : Int32)), .unset, .unset, .unset] [(.int (3 : Int32))])) _
    refine XS.ifYes X0.here hx rfl (pc0 := 5) (pc' := 19) rfl (hb hby at_5) rfl ((if0 _ _).trans (feq (by decide : ¬ ((3 : Int32) = (0 : Int32)))).2) (by decide) (by decide) ?_
    show Steps p.tables e below (s₁.setTop (mkF m 19 #[.val (.int p0_), .val (.int (3 : Int32)), .unset, .unset, .unset] [])) _
    refine XS.iloadN X0.here hx rfl (hb hby at_19) rfl ?_
    show Steps p.tables e below (s₁.setTop (mkF m 20 #[.val (.int p0_), .val (.int (3 : Int32)), .unset, .unset, .unset] [(.int (3 : Int32))])) _
    refine XS.iconst X0.here hx rfl (hb hby at_20) ?_
    show Steps p.tables e below (s₁.setTop (mkF m 21 #[.val (.int p0_), .val (.int (3 : Int32)), .unset, .unset, .unset] [(.int (1 : Int32)), (.int (3 : Int32))])) _
    refine XS.icmpYes X0.here hx rfl (pc0 := 21) (pc' := 35) rfl (hb hby at_21) rfl (feq (by decide : ¬ ((3 : Int32) = (1 : Int32)))).2 (by decide) (by decide) ?_
    show Steps p.tables e below (s₁.setTop (mkF m 35 #[.val (.int p0_), .val (.int (3 : Int32)), .unset, .unset, .unset] [])) _
    refine XS.iloadN X0.here hx rfl (hb hby at_35) rfl ?_
    show Steps p.tables e below (s₁.setTop (mkF m 36 #[.val (.int p0_), .val (.int (3 : Int32)), .unset, .unset, .unset] [(.int (3 : Int32))])) _
    refine XS.iconst X0.here hx rfl (hb hby at_36) ?_
    show Steps p.tables e below (s₁.setTop (mkF m 37 #[.val (.int p0_), .val (.int (3 : Int32)), .unset, .unset, .unset] [(.int (2 : Int32)), (.int (3 : Int32))])) _
    refine XS.icmpYes X0.here hx rfl (pc0 := 37) (pc' := 51) rfl (hb hby at_37) rfl (feq (by decide : ¬ ((3 : Int32) = (2 : Int32)))).2 (by decide) (by decide) ?_
    show Steps p.tables e below (s₁.setTop (mkF m 51 #[.val (.int p0_), .val (.int (3 : Int32)), .unset, .unset, .unset] [])) _
    refine st1 _ ?_
    show Steps p.tables e below (T1.setTop (mkF m 54 #[.val (.int p0_), .val (.int (3 : Int32)), .unset, .unset, .unset] [(.ref w_SEQUENCE)])) _
    refine XS.astoreN X1.here hx rfl (hb hby at_54) rfl rfl (l' := #[.val (.int p0_), .val (.int (3 : Int32)), .val (.ref w_SEQUENCE), .unset, .unset]) rfl ?_
    show Steps p.tables e below (T1.setTop (mkF m 55 #[.val (.int p0_), .val (.int (3 : Int32)), .val (.ref w_SEQUENCE), .unset, .unset] [])) _
    refine st2 _ ?_
    show Steps p.tables e below (T2.setTop (mkF m 58 #[.val (.int p0_), .val (.int (3 : Int32)), .val (.ref w_SEQUENCE), .unset, .unset] [(.ref w_SEQUENCE)])) _
    refine XS.astoreN X2.here hx rfl (hb hby at_58) rfl rfl (l' := #[.val (.int p0_), .val (.int (3 : Int32)), .val (.ref w_SEQUENCE), .val (.ref w_SEQUENCE), .unset]) rfl ?_
    show Steps p.tables e below (T2.setTop (mkF m 59 #[.val (.int p0_), .val (.int (3 : Int32)), .val (.ref w_SEQUENCE), .val (.ref w_SEQUENCE), .unset] [])) _
    refine XS.aloadN X2.here hx rfl (hb hby at_59) rfl rfl ?_
    show Steps p.tables e below (T2.setTop (mkF m 60 #[.val (.int p0_), .val (.int (3 : Int32)), .val (.ref w_SEQUENCE), .val (.ref w_SEQUENCE), .unset] [(.ref w_SEQUENCE)])) _
    refine st3.trans ?_
    show Steps p.tables e below (T3.setTop (mkF m 63 #[.val (.int p0_), .val (.int (3 : Int32)), .val (.ref w_SEQUENCE), .val (.ref w_SEQUENCE), .unset] [(.ref w_SEQUENCE)])) _
    refine XS.astore X3.here hx rfl (hb hby at_63) rfl rfl (l' := #[.val (.int p0_), .val (.int (3 : Int32)), .val (.ref w_SEQUENCE), .val (.ref w_SEQUENCE), .val (.ref w_SEQUENCE)]) rfl ?_
    show Steps p.tables e below (T3.setTop (mkF m 65 #[.val (.int p0_), .val (.int (3 : Int32)), .val (.ref w_SEQUENCE), .val (.ref w_SEQUENCE), .val (.ref w_SEQUENCE)] [])) _
    refine XS.aload X3.here hx rfl (hb hby at_65) rfl rfl ?_
    show Steps p.tables e below (T3.setTop (mkF m 67 #[.val (.int p0_), .val (.int (3 : Int32)), .val (.ref w_SEQUENCE), .val (.ref w_SEQUENCE), .val (.ref w_SEQUENCE)] [(.ref w_SEQUENCE)])) _
    refine XS.aloadN X3.here hx rfl (hb hby at_67) rfl rfl ?_
    show Steps p.tables e below (T3.setTop (mkF m 68 #[.val (.int p0_), .val (.int (3 : Int32)), .val (.ref w_SEQUENCE), .val (.ref w_SEQUENCE), .val (.ref w_SEQUENCE)] [(.ref w_SEQUENCE), (.ref w_SEQUENCE)])) _
    refine Jvm.RoadKit.acmp (g := (mkF m 68 #[.val (.int p0_), .val (.int (3 : Int32)), .val (.ref w_SEQUENCE), .val (.ref w_SEQUENCE), .val (.ref w_SEQUENCE)] [(.ref w_SEQUENCE), (.ref w_SEQUENCE)])) X3 hx rfl rfl rfl (pc0 := 68) (pc' := 71) (same := true) rfl (hb hby at_68) rfl (decide_eq_true rfl) (by decide) (by decide) ?_
    show Steps p.tables e below (T3.setTop (mkF m 71 #[.val (.int p0_), .val (.int (3 : Int32)), .val (.ref w_SEQUENCE), .val (.ref w_SEQUENCE), .val (.ref w_SEQUENCE)] [])) _
    refine XS.aload X3.here hx rfl (hb hby at_71) rfl rfl ?_
    show Steps p.tables e below (T3.setTop (mkF m 73 #[.val (.int p0_), .val (.int (3 : Int32)), .val (.ref w_SEQUENCE), .val (.ref w_SEQUENCE), .val (.ref w_SEQUENCE)] [(.ref w_SEQUENCE)])) _
    refine st4.trans ?_
    show Steps p.tables e below (T4.setTop (mkF m 76 #[.val (.int p0_), .val (.int (3 : Int32)), .val (.ref w_SEQUENCE), .val (.ref w_SEQUENCE), .val (.ref w_SEQUENCE)] [(.int (1 : Int32))])) _
    refine XS.aloadN X4.here hx rfl (hb hby at_76) rfl rfl ?_
    show Steps p.tables e below (T4.setTop (mkF m 77 #[.val (.int p0_), .val (.int (3 : Int32)), .val (.ref w_SEQUENCE), .val (.ref w_SEQUENCE), .val (.ref w_SEQUENCE)] [(.ref w_SEQUENCE), (.int (1 : Int32))])) _
    refine st5.trans ?_
    show Steps p.tables e below (T5.setTop (mkF m 80 #[.val (.int p0_), .val (.int (3 : Int32)), .val (.ref w_SEQUENCE), .val (.ref w_SEQUENCE), .val (.ref w_SEQUENCE)] [(.int (1 : Int32)), (.int (1 : Int32))])) _
    refine XS.icmpNo X5.here hx rfl (hb hby at_80) rfl (teq (rfl : (1 : Int32) = (1 : Int32))).2 ?_
    show Steps p.tables e below (T5.setTop (mkF m 83 #[.val (.int p0_), .val (.int (3 : Int32)), .val (.ref w_SEQUENCE), .val (.ref w_SEQUENCE), .val (.ref w_SEQUENCE)] [])) _
    refine XS.aload X5.here hx rfl (hb hby at_83) rfl rfl ?_
    show Steps p.tables e below (T5.setTop (mkF m 85 #[.val (.int p0_), .val (.int (3 : Int32)), .val (.ref w_SEQUENCE), .val (.ref w_SEQUENCE), .val (.ref w_SEQUENCE)] [(.ref w_SEQUENCE)])) _
    refine st6.trans ?_
    show Steps p.tables e below (T6.setTop (mkF m 88 #[.val (.int p0_), .val (.int (3 : Int32)), .val (.ref w_SEQUENCE), .val (.ref w_SEQUENCE), .val (.ref w_SEQUENCE)] [(.int (0 : Int32))])) _
    refine XS.ifNo X6.here hx rfl (hb hby at_88) rfl ((if0 _ _).trans (teq (rfl : (0 : Int32) = (0 : Int32))).2) ?_
    show Steps p.tables e below (T6.setTop (mkF m 91 #[.val (.int p0_), .val (.int (3 : Int32)), .val (.ref w_SEQUENCE), .val (.ref w_SEQUENCE), .val (.ref w_SEQUENCE)] [])) _
    refine XS.aload X6.here hx rfl (hb hby at_91) rfl rfl ?_
    show Steps p.tables e below (T6.setTop (mkF m 93 #[.val (.int p0_), .val (.int (3 : Int32)), .val (.ref w_SEQUENCE), .val (.ref w_SEQUENCE), .val (.ref w_SEQUENCE)] [(.ref w_SEQUENCE)])) _
    refine st7.trans ?_
    show Steps p.tables e below (T7.setTop (mkF m 96 #[.val (.int p0_), .val (.int (3 : Int32)), .val (.ref w_SEQUENCE), .val (.ref w_SEQUENCE), .val (.ref w_SEQUENCE)] [(.ref w_SEQUENCE)])) _
    refine XS.aload X7.here hx rfl (hb hby at_96) rfl rfl ?_
    show Steps p.tables e below (T7.setTop (mkF m 98 #[.val (.int p0_), .val (.int (3 : Int32)), .val (.ref w_SEQUENCE), .val (.ref w_SEQUENCE), .val (.ref w_SEQUENCE)] [(.ref w_SEQUENCE), (.ref w_SEQUENCE)])) _
    refine Jvm.RoadKit.acmp (g := (mkF m 98 #[.val (.int p0_), .val (.int (3 : Int32)), .val (.ref w_SEQUENCE), .val (.ref w_SEQUENCE), .val (.ref w_SEQUENCE)] [(.ref w_SEQUENCE), (.ref w_SEQUENCE)])) X7 hx rfl rfl rfl (pc0 := 98) (pc' := 101) (same := true) rfl (hb hby at_98) rfl (decide_eq_true rfl) (by decide) (by decide) ?_
    show Steps p.tables e below (T7.setTop (mkF m 101 #[.val (.int p0_), .val (.int (3 : Int32)), .val (.ref w_SEQUENCE), .val (.ref w_SEQUENCE), .val (.ref w_SEQUENCE)] [])) _
    refine XS.iconst X7.here hx rfl (hb hby at_101) ?_
    show Steps p.tables e below (T7.setTop (mkF m 102 #[.val (.int p0_), .val (.int (3 : Int32)), .val (.ref w_SEQUENCE), .val (.ref w_SEQUENCE), .val (.ref w_SEQUENCE)] [(.int (1 : Int32))])) _
    refine XS.goto X7.here hx rfl (pc0 := 102) (pc' := 106) rfl (hb hby at_102) (by decide) (by decide) ?_
    show Steps p.tables e below (T7.setTop (mkF m 106 #[.val (.int p0_), .val (.int (3 : Int32)), .val (.ref w_SEQUENCE), .val (.ref w_SEQUENCE), .val (.ref w_SEQUENCE)] [(.int (1 : Int32))])) _
    exact retN X7 hx (t := .boolean) Bd.returns (by simp) (hb hby at_106) hr
  · show own_QL n0 _ T7.heap _
    exact ⟨rfl, N7⟩
set_option maxRecDepth 65536 in
set_option maxHeartbeats 40000000 in
theorem comes_1 {Post : Tables → Env → Array Value → State → Outcome → State → Prop} (hpost : ∀ tb e args s v u, (limb_1_1.after args s (.returned v) u = true ∧ limb_1_2.after args s (.returned v) u = true ∧ True) → FrameEnd s (.returned v) u (Jvm.fieldLocs frame_1_writes args s ++ Jvm.arrayLocs frame_1_arrays args s ++ Jvm.staticLocs frame_1_statics s) 0 0 → Post tb e args s (.returned v) u) :
    ArmFor flags0 classFile x code maxLocals ret World_1 tables_1 room_1 Calls_1 rest_1 Pre_1 Post := by
  intro l hfl _ _ p e ha hc hk s m args below hf hA hF happ hP
  obtain ⟨hcalls, hrest, hpre⟩ := hP
  obtain ⟨-, -, -, hnamed, -, -, -, hat⟩ := (Spec.applies_iff hf).mp happ
  obtain ⟨hg, hn⟩ := and_e (Cond.before_iff.mp (show (Jvm.Cond.and given_1 narrow_1).before args s = true from hpre))
  obtain ⟨hg0, hgr⟩ := and_e hg
  have ga0 := hgr
  obtain ⟨w0_, rfl⟩ : ∃ w0_ : Value, args = #[w0_] := by
    have hs : args.size = 1 := by simpa [Cond.value, given_1] using hg0
    obtain ⟨L⟩ := args
    match L, hs with
    | [w0_], _ => exact ⟨w0_, rfl⟩
  have hw := fun d (hd : d ∈ tables_1) => atoms_spec (ws := Jvm.Cond.code x code maxLocals ret :: tables_1) hat d (List.mem_cons_of_mem _ hd)
  obtain ⟨p0_, ei0⟩ := is_v ga0
  obtain rfl : w0_ = (.int p0_) := Option.some.inj ei0
  obtain ⟨c0, r0⟩ := and_e hn
  obtain ⟨c1, r1⟩ := and_e r0
  obtain ⟨c2, r2⟩ := and_e r1
  obtain ⟨c3, r3⟩ := and_e r2
  obtain ⟨c4, r4⟩ := and_e r3
  obtain ⟨c5, r5⟩ := and_e r4
  obtain ⟨c6, r6⟩ := and_e r5
  obtain ⟨c7, r7⟩ := and_e r6
  obtain ⟨c8, r8⟩ := and_e r7
  obtain ⟨c9, r9⟩ := and_e r8
  obtain ⟨c10, r10⟩ := and_e r9
  have c11 := r10
  obtain ⟨w_SET, ev_SET⟩ := exa_v c0
  have S_SET := Sta.start ev_SET (Or.inr ⟨(hw _ (List.mem_of_getElem? (i := 1) rfl)), (hw _ (List.mem_of_getElem? (i := 2) rfl))⟩)
  have E_w_SET := Exa.start ev_SET c0
  obtain ⟨w_BAG, ev_BAG⟩ := exa_v c1
  have S_BAG := Sta.start ev_BAG (Or.inr ⟨(hw _ (List.mem_of_getElem? (i := 1) rfl)), (hw _ (List.mem_of_getElem? (i := 4) rfl))⟩)
  have E_w_BAG := Exa.start ev_BAG c1
  obtain ⟨w_SEQUENCE, ev_SEQUENCE⟩ := exa_v c5
  have S_SEQUENCE := Sta.start ev_SEQUENCE (Or.inr ⟨(hw _ (List.mem_of_getElem? (i := 1) rfl)), (hw _ (List.mem_of_getElem? (i := 26) rfl))⟩)
  have E_w_SEQUENCE := Exa.start ev_SEQUENCE c5
  obtain ⟨w_ORDERED_SET, ev_ORDERED_SET⟩ := exa_v c8
  have S_ORDERED_SET := Sta.start ev_ORDERED_SET (Or.inr ⟨(hw _ (List.mem_of_getElem? (i := 1) rfl)), (hw _ (List.mem_of_getElem? (i := 29) rfl))⟩)
  have E_w_ORDERED_SET := Exa.start ev_ORDERED_SET c8
  have F_ordered_w_SET := Fld.start ((fld_at ev_SET).symm.trans (own_eqI c2))
  have F_ordered_w_BAG := Fld.start ((fld_at ev_BAG).symm.trans (own_eqI c3))
  have F_unique_w_BAG := Fld.start ((fld_at ev_BAG).symm.trans (own_eqI c4))
  have F_ordered_w_SEQUENCE := Fld.start ((fld_at ev_SEQUENCE).symm.trans (own_eqI c6))
  have F_unique_w_SEQUENCE := Fld.start ((fld_at ev_SEQUENCE).symm.trans (own_eqI c7))
  have F_ordered_w_ORDERED_SET := Fld.start ((fld_at ev_ORDERED_SET).symm.trans (own_eqI c9))
  have F_unique_w_SET := Fld.start ((fld_at ev_SET).symm.trans (own_eqI c10))
  have F_unique_w_ORDERED_SET := Fld.start ((fld_at ev_ORDERED_SET).symm.trans (own_eqI c11))
  have key : MetFree l x (head1 (Jvm.Cond.code x code maxLocals ret :: tables_1) room_1) (fun a U => a = #[(.int p0_)] ∧ s.Warmed39 U.vm ∧ U.heap = s.heap) (fun _ _ _ _ _ => True) (fun _ U o U' => ∃ v L, o = .returned v ∧ own_QL s.heap.size v U'.heap L ∧ FrameEnd U o U' L room_1.cells room_1.slots) := by
    rcases own_and3 p0_ with q | q | q | q
    · exact own_law0 l s _ hw tables_1 p0_ w_SET w_BAG s.heap s.heap.size (Nat.le_refl _) S_SET S_BAG F_ordered_w_SET E_w_SET F_ordered_w_BAG E_w_BAG F_unique_w_BAG (by assumption)
    · exact own_law1 l s _ hw tables_1 p0_ w_ORDERED_SET w_SEQUENCE s.heap s.heap.size (Nat.le_refl _) S_ORDERED_SET S_SEQUENCE F_ordered_w_ORDERED_SET E_w_ORDERED_SET F_ordered_w_SEQUENCE E_w_SEQUENCE F_unique_w_SEQUENCE (by assumption)
    · exact own_law2 l s _ hw tables_1 p0_ w_BAG s.heap s.heap.size (Nat.le_refl _) S_BAG F_ordered_w_BAG E_w_BAG F_unique_w_BAG (by assumption)
    · exact own_law3 l s _ hw tables_1 p0_ w_SEQUENCE s.heap s.heap.size (Nat.le_refl _) S_SEQUENCE F_ordered_w_SEQUENCE E_w_SEQUENCE F_unique_w_SEQUENCE (by assumption)
  obtain ⟨n, o, h1, h2, h3, _, L, rfl, ⟨rfl, N⟩, hq⟩ := key p e ha hc hk s m _ below hf ((Spec.applies_iff_loose hf).mp happ).1 ⟨rfl, State.Warmed39.refl s, rfl⟩ trivial
  refine ⟨n, _, h1, h2, h3, hpost _ _ _ _ _ _ ⟨Cond.after_iff.mpr rfl, Cond.after_iff.mpr (eq_i res_at (Term.int_eval (1)) rfl), trivial⟩ ⟨hq.1, hq.2.1, (hq.2.2.sift fun y hy => Or.inr (N y hy)).mono (by decide) (by decide)⟩⟩
theorem main_1_1 : Claimed_1_1 := comes_1 fun _ _ _ _ _ _ h hF => ⟨h.1, hF⟩
theorem main_1_2 : Claimed_1_2 := comes_1 fun _ _ _ _ _ _ h hF => ⟨h.2.1, hF⟩
end Jvm.Pilot.@@N@@
namespace Jvm.Pilot.@@N@@
open Jvm Jvm.ClassFile Sem Op Lib Jvm.Free Jvm.Stand Jvm.Pilot.@@N@@.Jvm.D
/-! MADE BY PROGRAM (witnessworld.py) out of the Statement's table words and the real class files: 12 classes; the members and pool entries that the words name. The judged class is class 1, her method 1. -/
namespace start1
open Jvm.ClassFile
def u (s : String) : CpInfo := .utf8 (stringToUtf16 s)
/-- a pool by its gaps: so many unusable entries, then the entry; so many at the end -/
def gap : Nat → List CpInfo → List CpInfo
  | 0, r => r
  | n + 1, r => .unusable :: gap n r
def poolList (es : List (Nat × CpInfo)) (last : Nat) : List CpInfo := es.foldr (fun e r => gap e.1 (e.2 :: r)) (gap last [])
def pool (es : List (Nat × CpInfo)) (last : Nat) : Array CpInfo := ⟨poolList es last⟩
def fileOf (pool : Array CpInfo) (this : Nat) (attrs : Array Attribute := #[]) (ms : Array MethodInfo := #[]) (fl : Nat := 33) (sup : Nat := 0) (ifs : Array Nat := #[]) (fds : Array FieldInfo := #[]) : ClassFile where
  minorVersion := 0
  majorVersion := 65
  constantPool := pool
  accessFlags := fl
  thisClass := this
  superClass := sup
  interfaces := ifs
  fields := fds
  methods := ms
  attributes := attrs
def plain (name : String) (sup : Option ClassId) : Class where
  name := name
  kind := .ordinary
  loader := none
  accessFlags := 33
  super := sup
  interfaces := #[]
  cf := none
  fields := #[]
  methods := #[]
  instanceTypes := #[]
  staticTypes := #[]
  resolved := #[]
  callSites := []
  init := .initialized
  statics := none
  mirror := none

def pool0 : Array CpInfo := pool [(5, u "<init>"), (0, u "()V"), (1, .class_ 10), (1, u "java/lang/Object")] 113

def k0m0 : Method := { name := "<init>", desc := "()V", sig := { parameters := [], returnType := none }, accessFlags := 1, code := none }
/-- java/lang/Object -/
def k0 : Class := { plain "java/lang/Object" none with
  accessFlags := 33
  interfaces := #[]
  cf := some (fileOf pool0 8 #[] #[{ accessFlags := 1, nameIndex := 5, descriptorIndex := 6, attributes := #[] }] 33 0 #[] #[])
  fields := #[]
  methods := #[k0m0]
  instanceTypes := #[]
  staticTypes := #[]
  resolved := Array.replicate 124 none
  statics := none }

def pool1 : Array CpInfo := pool [(2, .class_ 4), (1, u "java/lang/Object"), (0, u "<init>"), (0, u "()V"), (0, .fieldref 8 9), (0, .class_ 10), (0, .nameAndType 11 12), (0, u "com/example/modelward/modelward/ocl/OclCollection$Kind"), (0, u "SET"), (0, u "Lcom/example/modelward/modelward/ocl/OclCollection$Kind;"), (0, .fieldref 8 14), (0, .nameAndType 15 12), (0, u "BAG"), (0, .fieldref 8 17), (0, .nameAndType 18 12), (0, u "ORDERED_SET"), (0, .fieldref 8 20), (0, .nameAndType 21 12), (0, u "SEQUENCE"), (0, .methodref 8 23), (0, .nameAndType 24 25), (0, u "collected"), (0, u "()Lcom/example/modelward/modelward/ocl/OclCollection$Kind;"), (0, .methodref 8 27), (0, .nameAndType 28 29), (0, u "isOrdered"), (0, u "()Z"), (0, .methodref 8 31), (0, .nameAndType 32 29), (0, u "isUnique"), (0, .class_ 34), (0, u "com/example/modelward/modelward/ocl/KindCollectedPinLaw"), (2, u "law"), (0, u "(I)Z")] 7

def k1m0 : Method := { name := "<init>", desc := "()V", sig := { parameters := [], returnType := none }, accessFlags := 2, code := none }
def k1c1 : Code := { maxStack := 2, maxLocals := 5, code := code, exceptionTable := #[], attributes := #[] }
def k1m1 : Method := { name := "law", desc := "(I)Z", sig := { parameters := [.int], returnType := some .boolean }, accessFlags := 9, code := some k1c1 }
/-- com/example/modelward/modelward/ocl/KindCollectedPinLaw -/
def k1 : Class := { plain "com/example/modelward/modelward/ocl/KindCollectedPinLaw" (some 0) with
  accessFlags := 49
  interfaces := #[]
  cf := some (fileOf pool1 33 #[] #[{ accessFlags := 2, nameIndex := 5, descriptorIndex := 6, attributes := #[] }, { accessFlags := 9, nameIndex := 37, descriptorIndex := 38, attributes := #[] }] 49 2 #[] #[])
  fields := #[]
  methods := #[k1m0, k1m1]
  instanceTypes := #[]
  staticTypes := #[]
  resolved := Array.replicate 46 none
  statics := none }

def pool2 : Array CpInfo := pool [(1, .class_ 2), (0, u "java/lang/constant/Constable"), (0, .class_ 4), (0, u "java/lang/Object")] 6

/-- java/lang/constant/Constable -/
def k2 : Class := { plain "java/lang/constant/Constable" (some 0) with
  accessFlags := 1537
  interfaces := #[]
  cf := some (fileOf pool2 1 #[] #[] 1537 3 #[] #[])
  fields := #[]
  methods := #[]
  instanceTypes := #[]
  staticTypes := #[]
  resolved := Array.replicate 11 none
  statics := none }

def pool3 : Array CpInfo := pool [(1, .class_ 2), (0, u "java/lang/Comparable"), (0, .class_ 4), (0, u "java/lang/Object")] 7

/-- java/lang/Comparable -/
def k3 : Class := { plain "java/lang/Comparable" (some 0) with
  accessFlags := 1537
  interfaces := #[]
  cf := some (fileOf pool3 1 #[] #[] 1537 3 #[] #[])
  fields := #[]
  methods := #[]
  instanceTypes := #[]
  staticTypes := #[]
  resolved := Array.replicate 12 none
  statics := none }

def pool4 : Array CpInfo := pool [(1, .class_ 2), (0, u "java/io/Serializable"), (0, .class_ 4), (0, u "java/lang/Object")] 2

/-- java/io/Serializable -/
def k4 : Class := { plain "java/io/Serializable" (some 0) with
  accessFlags := 1537
  interfaces := #[]
  cf := some (fileOf pool4 1 #[] #[] 1537 3 #[] #[])
  fields := #[]
  methods := #[]
  instanceTypes := #[]
  staticTypes := #[]
  resolved := Array.replicate 7 none
  statics := none }

def pool5 : Array CpInfo := pool [(2, .class_ 4), (1, u "java/lang/Enum"), (0, u "name"), (0, u "Ljava/lang/String;"), (2, u "ordinal"), (0, u "I"), (1, .class_ 14), (1, u "java/lang/Object"), (4, u "hash"), (86, .class_ 108), (1, u "java/lang/Enum$EnumDesc"), (2, .class_ 112), (0, u "java/lang/constant/Constable"), (0, .class_ 114), (0, u "java/lang/Comparable"), (0, .class_ 116), (0, u "java/io/Serializable")] 87

/-- java/lang/Enum -/
def k5 : Class := { plain "java/lang/Enum" (some 0) with
  accessFlags := 1057
  interfaces := #[2, 3, 4]
  cf := some (fileOf pool5 2 #[.nestMembers #[106]] #[] 1057 12 #[111, 113, 115] #[{ accessFlags := 18, nameIndex := 5, descriptorIndex := 6, attributes := #[] }, { accessFlags := 18, nameIndex := 9, descriptorIndex := 10, attributes := #[] }, { accessFlags := 2, nameIndex := 19, descriptorIndex := 10, attributes := #[] }])
  fields := #[{ name := "name", type := (.object "java/lang/String"), accessFlags := 18, slot := 0, constantValue := 0 }, { name := "ordinal", type := .int, accessFlags := 18, slot := 1, constantValue := 0 }, { name := "hash", type := .int, accessFlags := 2, slot := 2, constantValue := 0 }]
  methods := #[]
  instanceTypes := #[(.object "java/lang/String"), .int, .int]
  staticTypes := #[]
  resolved := Array.replicate 204 none
  statics := none }

def pool6 : Array CpInfo := pool [(1, .class_ 2), (0, u "com/example/modelward/modelward/ocl/OclCollection$Kind"), (2, u "SET"), (0, u "Lcom/example/modelward/modelward/ocl/OclCollection$Kind;"), (2, u "ORDERED_SET"), (0, .fieldref 1 11), (0, .nameAndType 12 6), (0, u "BAG"), (0, .fieldref 1 14), (0, .nameAndType 15 6), (0, u "SEQUENCE"), (2, u "$VALUES"), (0, u "[Lcom/example/modelward/modelward/ocl/OclCollection$Kind;"), (6, .class_ 28), (1, u "java/lang/Enum"), (8, u "name"), (0, u "Ljava/lang/String;"), (0, .fieldref 1 40), (0, .nameAndType 41 42), (0, u "ordered"), (0, u "Z"), (0, .fieldref 1 44), (0, .nameAndType 45 42), (0, u "unique"), (26, u "isOrdered"), (0, u "()Z"), (0, u "isUnique"), (3, u "collected"), (0, u "()Lcom/example/modelward/modelward/ocl/OclCollection$Kind;"), (8, .class_ 89), (0, u "com/example/modelward/modelward/ocl/OclCollection")] 2

def k6c0 : Code := { maxStack := 1, maxLocals := 1, code := prog_87_method_4_code, exceptionTable := #[], attributes := #[] }
def k6m0 : Method := { name := "isOrdered", desc := "()Z", sig := { parameters := [], returnType := some .boolean }, accessFlags := 0, code := some k6c0 }
def k6c1 : Code := { maxStack := 1, maxLocals := 1, code := prog_87_method_5_code, exceptionTable := #[], attributes := #[] }
def k6m1 : Method := { name := "isUnique", desc := "()Z", sig := { parameters := [], returnType := some .boolean }, accessFlags := 0, code := some k6c1 }
def k6c2 : Code := { maxStack := 1, maxLocals := 1, code := prog_87_method_7_code, exceptionTable := #[], attributes := #[] }
def k6m2 : Method := { name := "collected", desc := "()Lcom/example/modelward/modelward/ocl/OclCollection$Kind;", sig := { parameters := [], returnType := some (.object "com/example/modelward/modelward/ocl/OclCollection$Kind") }, accessFlags := 0, code := some k6c2 }
/-- com/example/modelward/modelward/ocl/OclCollection$Kind -/
def k6 : Class := { plain "com/example/modelward/modelward/ocl/OclCollection$Kind" (some 5) with
  accessFlags := 16432
  interfaces := #[]
  cf := some (fileOf pool6 1 #[.nestHost 88] #[{ accessFlags := 0, nameIndex := 72, descriptorIndex := 73, attributes := #[] }, { accessFlags := 0, nameIndex := 74, descriptorIndex := 73, attributes := #[] }, { accessFlags := 0, nameIndex := 78, descriptorIndex := 79, attributes := #[] }] 16432 26 #[] #[{ accessFlags := 16409, nameIndex := 5, descriptorIndex := 6, attributes := #[] }, { accessFlags := 16409, nameIndex := 9, descriptorIndex := 6, attributes := #[] }, { accessFlags := 16409, nameIndex := 12, descriptorIndex := 6, attributes := #[] }, { accessFlags := 16409, nameIndex := 15, descriptorIndex := 6, attributes := #[] }, { accessFlags := 18, nameIndex := 37, descriptorIndex := 38, attributes := #[] }, { accessFlags := 18, nameIndex := 41, descriptorIndex := 42, attributes := #[] }, { accessFlags := 18, nameIndex := 45, descriptorIndex := 42, attributes := #[] }, { accessFlags := 4122, nameIndex := 18, descriptorIndex := 19, attributes := #[] }])
  fields := #[{ name := "SET", type := (.object "com/example/modelward/modelward/ocl/OclCollection$Kind"), accessFlags := 16409, slot := 0, constantValue := 0 }, { name := "ORDERED_SET", type := (.object "com/example/modelward/modelward/ocl/OclCollection$Kind"), accessFlags := 16409, slot := 1, constantValue := 0 }, { name := "BAG", type := (.object "com/example/modelward/modelward/ocl/OclCollection$Kind"), accessFlags := 16409, slot := 2, constantValue := 0 }, { name := "SEQUENCE", type := (.object "com/example/modelward/modelward/ocl/OclCollection$Kind"), accessFlags := 16409, slot := 3, constantValue := 0 }, { name := "name", type := (.object "java/lang/String"), accessFlags := 18, slot := 3, constantValue := 0 }, { name := "ordered", type := .boolean, accessFlags := 18, slot := 4, constantValue := 0 }, { name := "unique", type := .boolean, accessFlags := 18, slot := 5, constantValue := 0 }, { name := "$VALUES", type := (.array (.object "com/example/modelward/modelward/ocl/OclCollection$Kind")), accessFlags := 4122, slot := 4, constantValue := 0 }]
  methods := #[k6m0, k6m1, k6m2]
  instanceTypes := #[(.object "java/lang/String"), .int, .int, (.object "java/lang/String"), .boolean, .boolean]
  staticTypes := #[(.object "com/example/modelward/modelward/ocl/OclCollection$Kind"), (.object "com/example/modelward/modelward/ocl/OclCollection$Kind"), (.object "com/example/modelward/modelward/ocl/OclCollection$Kind"), (.object "com/example/modelward/modelward/ocl/OclCollection$Kind"), (.array (.object "com/example/modelward/modelward/ocl/OclCollection$Kind"))]
  resolved := Array.replicate 92 none
  statics := some 0 }

def pool7 : Array CpInfo := pool [(1, u "java/lang/Cloneable"), (0, .class_ 1), (0, u "java/lang/Object"), (0, .class_ 3)] 3

/-- java/lang/Cloneable -/
def k7 : Class := { plain "java/lang/Cloneable" (some 0) with
  accessFlags := 1537
  interfaces := #[]
  cf := some (fileOf pool7 2 #[] #[] 1537 4 #[] #[])
  fields := #[]
  methods := #[]
  instanceTypes := #[]
  staticTypes := #[]
  resolved := Array.replicate 8 none
  statics := none }

/-- the primitive byte -/
def k8 : Class := { plain "byte" none with kind := .primitive 'B', accessFlags := 0x411 }
/-- [B -/
def k9 : Class := { plain "[B" (some 0) with kind := .array 8 .byte, interfaces := #[7, 4], accessFlags := 1041 }

/-- the primitive int -/
def k10 : Class := { plain "int" none with kind := .primitive 'I', accessFlags := 0x411 }
/-- [I -/
def k11 : Class := { plain "[I" (some 0) with kind := .array 10 .int, interfaces := #[7, 4], accessFlags := 1041 }

def heap : Heap := #[{ cls := 6, slots := #[.ref 1, .ref 4, .ref 2, .ref 3, .null], vm := .statics 6 },
  { cls := 6, slots := #[.null, .int 0, .int 0, .null, .int 0, .int 1], vm := .none },
  { cls := 6, slots := #[.null, .int 0, .int 0, .null, .int 0, .int 0], vm := .none },
  { cls := 6, slots := #[.null, .int 0, .int 0, .null, .int 1, .int 0], vm := .none },
  { cls := 6, slots := #[.null, .int 0, .int 0, .null, .int 1, .int 1], vm := .none }]
def classes : Array Class := #[k0, k1, k2, k3, k4, k5, k6, k7, k8, k9, k10, k11]
def interned : List (Array UInt16 × Addr) := []
def slotsUsed : Nat := 29
def theMethod : MethodId := ⟨1, 1⟩
def args0 : Array Value := #[.int 5]
def aboutOver (below : List Frame) : State where
  vm := { classes := classes, interned := interned.toArray }
  heap := heap
  slotsUsed := slotsUsed
  threads := #[{ frames := .invoking theMethod args0 :: below }]
def below0 : List Frame := [.native { method := ⟨0, 0⟩, args := #[] }]
def about1 : State := aboutOver below0
def p0 : Program := .bare "" "" ""
def e0 : Env := launch0.env 0 0 0
theorem w_frames : about1.frames = Frame.invoking theMethod args0 :: below0 := rfl
set_option maxRecDepth 65536 in
theorem w_args : argsFit about1.vm theMethod args0 = true := by decide +kernel
set_option maxRecDepth 65536 in
theorem w_heap : heapFits about1 = true := by decide +kernel
set_option maxRecDepth 65536 in
theorem w_runnable : about1.curStatus? = some .runnable := by decide +kernel
set_option maxRecDepth 65536 in
theorem w_alone : about1.alone = true := by decide +kernel
set_option maxRecDepth 65536 in
theorem w_named : about1.methodNamed? x = some theMethod := by decide +kernel
set_option maxRecDepth 65536 in
theorem w_hears : about1.hears theMethod below0 = true := by decide +kernel
set_option maxRecDepth 65536 in
theorem w_ripe : about1.ripe theMethod args0 below0 = true := by decide +kernel
theorem w_running : about1.status = .running := rfl
set_option maxRecDepth 65536 in
theorem w_room : about1.hasRoom e0.platform room_1 = true :=
  launch0.hasRoom_least _ room_1 (by decide +kernel) (by decide +kernel) (by decide +kernel) (by decide +kernel) (by decide +kernel) (by decide +kernel)
theorem allAtoms_all (ts : List Jvm.Cond) (a : Array Jvm.Value) (st : Jvm.State) : (allAtoms ts).before a st = ts.all (fun c => c.before a st) := by
  induction ts with
  | nil => rfl
  | cons c t ih =>
    show (Jvm.Cond.and c (allAtoms t)).before a st = _
    rw [Jvm.Cond.before_and, ih, List.all_cons]
def words1 : List Jvm.Cond := Jvm.Cond.code x code maxLocals ret :: tables_1
/-- a 'code' word, met by the world's own term for the bytes: nothing is compared byte by byte -/
theorem code_word {y : MethodName} {bytes : ByteArray} {mx : Nat} {rt : Option FieldType} {a : Array Value} {s : State} {m : MethodId} {meth : Method} {c : Code} (h1 : s.methodNamed? y = some m) (h2 : s.vm.method? m = some meth) (h3 : meth.code = some c) (h4 : c.code = bytes)
    (h5 : (c.maxLocals == mx && c.exceptionTable.isEmpty && decide (c.maxStack ≤ mostOperands) && decide (meth.sig.returnType = rt) && !meth.locks && decide (parseMethodDescriptor y.desc = some meth.sig)) = true) : (Jvm.Cond.code y bytes mx rt).before a s = true := by
  simp only [Bool.and_eq_true, beq_iff_eq, Bool.not_eq_true', decide_eq_true_eq] at h5
  obtain ⟨⟨⟨⟨⟨g1, g2⟩, g3⟩, g4⟩, g5⟩, g6⟩ := h5
  simp [Cond.before, Cond.holds, Cond.value, h1, h2, h3, h4, g1, g2, g3, g4, g5, g6]
def isCode : Jvm.Cond → Bool
  | .code _ _ _ _ => true
  | _ => false
theorem all_split {L : List Jvm.Cond} {P : Jvm.Cond → Bool} (h1 : L.all (fun c => isCode c || P c) = true) (h2 : ∀ c ∈ L.filter isCode, P c = true) : L.all P = true := by
  refine List.all_eq_true.mpr fun c hc => ?_
  have h := List.all_eq_true.mp h1 c hc
  rcases Bool.eq_false_or_eq_true (isCode c) with hi | hi
  · exact h2 c (List.mem_filter.mpr ⟨hc, hi⟩)
  · simpa [hi] using h
set_option maxRecDepth 65536 in
theorem w_c0 : (Jvm.Cond.code x code maxLocals ret).before args0 about1 = true := code_word (m := ⟨1, 1⟩) (meth := k1m1) (c := k1c1) (by decide +kernel) rfl rfl rfl (by decide +kernel)
set_option maxRecDepth 65536 in
theorem w_c1 : (Jvm.Cond.code ({ cls := "com/example/modelward/modelward/ocl/OclCollection$Kind", name := "collected", desc := "()Lcom/example/modelward/modelward/ocl/OclCollection$Kind;" } : Jvm.MethodName) prog_87_method_7_code (1 : Nat) (Option.some (Jvm.ClassFile.FieldType.object "com/example/modelward/modelward/ocl/OclCollection$Kind"))).before args0 about1 = true := code_word (m := ⟨6, 2⟩) (meth := k6m2) (c := k6c2) (by decide +kernel) rfl rfl rfl (by decide +kernel)
set_option maxRecDepth 65536 in
theorem w_c2 : (Jvm.Cond.code ({ cls := "com/example/modelward/modelward/ocl/OclCollection$Kind", name := "isOrdered", desc := "()Z" } : Jvm.MethodName) prog_87_method_4_code (1 : Nat) (Option.some Jvm.ClassFile.FieldType.boolean)).before args0 about1 = true := code_word (m := ⟨6, 0⟩) (meth := k6m0) (c := k6c0) (by decide +kernel) rfl rfl rfl (by decide +kernel)
set_option maxRecDepth 65536 in
theorem w_c3 : (Jvm.Cond.code ({ cls := "com/example/modelward/modelward/ocl/OclCollection$Kind", name := "isUnique", desc := "()Z" } : Jvm.MethodName) prog_87_method_5_code (1 : Nat) (Option.some Jvm.ClassFile.FieldType.boolean)).before args0 about1 = true := code_word (m := ⟨6, 1⟩) (meth := k6m1) (c := k6c1) (by decide +kernel) rfl rfl rfl (by decide +kernel)
def codes1 : List Jvm.Cond := [Jvm.Cond.code x code maxLocals ret, Jvm.Cond.code ({ cls := "com/example/modelward/modelward/ocl/OclCollection$Kind", name := "collected", desc := "()Lcom/example/modelward/modelward/ocl/OclCollection$Kind;" } : Jvm.MethodName) prog_87_method_7_code (1 : Nat) (Option.some (Jvm.ClassFile.FieldType.object "com/example/modelward/modelward/ocl/OclCollection$Kind")), Jvm.Cond.code ({ cls := "com/example/modelward/modelward/ocl/OclCollection$Kind", name := "isOrdered", desc := "()Z" } : Jvm.MethodName) prog_87_method_4_code (1 : Nat) (Option.some Jvm.ClassFile.FieldType.boolean), Jvm.Cond.code ({ cls := "com/example/modelward/modelward/ocl/OclCollection$Kind", name := "isUnique", desc := "()Z" } : Jvm.MethodName) prog_87_method_5_code (1 : Nat) (Option.some Jvm.ClassFile.FieldType.boolean)]
set_option maxRecDepth 65536 in
theorem codes_eq : words1.filter isCode = codes1 := rfl
theorem w_codes : ∀ c ∈ words1.filter isCode, c.before args0 about1 = true := by
  rw [codes_eq]
  intro c hc
  simp only [codes1, List.mem_cons, List.not_mem_nil, or_false] at hc
  rcases hc with rfl | rfl | rfl | rfl
  · exact w_c0
  · exact w_c1
  · exact w_c2
  · exact w_c3
set_option maxRecDepth 65536 in
theorem w_t1 : (words1.take 24).all (fun c => isCode c || c.before args0 about1) = true := by decide +kernel
set_option maxRecDepth 65536 in
theorem w_t2 : (words1.drop 24).all (fun c => isCode c || c.before args0 about1) = true := by decide +kernel
theorem w_tables : (allAtoms (Jvm.Cond.code x code maxLocals ret :: tables_1)).before args0 about1 = true := by
  rw [allAtoms_all]
  show words1.all (fun c => c.before args0 about1) = true
  refine all_split ?_ w_codes
  rw [← List.take_append_drop 24 words1, List.all_append, w_t1, w_t2]
  rfl
set_option maxRecDepth 65536 in
theorem w_case : (Jvm.Cond.and given_1 narrow_1).before args0 about1 = true := by decide +kernel
theorem w_applies : (headSpec (Jvm.Cond.code x code maxLocals ret :: tables_1) room_1).applies x e0.platform about1 = true :=
  (Spec.applies_iff w_frames).mpr ⟨w_running, w_runnable, w_alone, w_named, w_hears, w_ripe, w_room, w_tables⟩
theorem atStart : AtStart classFile x code maxLocals ret World_1 tables_1 room_1 Calls_1 rest_1 Pre_1 launch0 p0 e0 about1 theMethod args0 below0 :=
  ⟨lists_1, trivial, launch0.admits_env _ _ _, launch0.least_env, fairChoices_fair.cas, fairChoices_fair.clock, w_frames, w_args, w_heap, w_applies, trivial, trivial, w_case⟩
end start1
theorem witness_1 : WitnessClaimed_1 := ⟨start1.p0, start1.e0, start1.about1, start1.theMethod, start1.args0, start1.below0, start1.atStart⟩
end Jvm.Pilot.@@N@@
