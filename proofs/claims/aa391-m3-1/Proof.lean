import JvmDerived
import JvmDerived.Pilot.@@N@@Statement
import JvmDerived.Pilot.@@N@@Code
set_option linter.unusedVariables false
set_option linter.unusedSimpArgs false
@@BLOCK:NumsL.lean.txt@@
namespace Jvm.RoadKit
open Sem ClassFile Op Lib Jvm.Stand Jvm.Free Jvm.LawKit
section New
variable {p : Program} {l : Launch} {e : Env} {R : Room} {s : State} {m : MethodId} {args : Array Value} {below : List Frame} {meth : Method} {c : Code} {T : State} {locs : List Loc} {cells slots : Nat}
theorem retI (X : Stand p l e R s m args below meth c T locs cells slots) (hx : p.tables.exec = Jvm.exec) {pc : Nat} {Ls : Array Slot} {z : Int32} {rest : List Value} (hret : meth.sig.returnType = some .int) (hd : decode c.code pc = .ok (.ireturn, 1)) {fs : List Frame}
    (hl : ∀ (f : JFrame) (acts : List Action), f.method = m → f.locked = none → f.entered = [] → (doReturn e (T.setTop f) acts (some (.int z))).1 = T.setFrames fs) : Steps p.tables e below (T.setTop (mkF m pc Ls (.int z :: rest))) (T.setFrames fs) := by
  have hm' : T.vm.method? m = some meth := X.method'
  have hn : narrow .int (.int z) = .int z := rfl
  show Steps p.tables e below (T.setTop { method := m, pc := pc, locals := Ls, stack := _ :: rest, locked := none }) _
  jvm_step X.here [X.here.top, hx, hd, hm', hret, hn]
  first | (intro acts; rw [hl _ acts rfl rfl rfl]) | rw [hl _ _ rfl rfl rfl]
  exact Steps.refl _
end New
end Jvm.RoadKit
namespace Jvm.Pilot.@@N@@
open Jvm Jvm.ClassFile Sem Op Lib Jvm.Free Jvm.Stand Jvm.LawKit Jvm.RoadKit Bundle Jvm.Pilot.@@N@@.Jvm.D
def own_QP (v0 : Option Value) (h0 : Heap) (n0 : Nat) (v : Option Value) (h : Heap) (L : List Loc) : Prop := v = v0 ∧ Fr n0 L ∧ h = h0
def own_QL (n0 : Nat) (v : Option Value) (h : Heap) (L : List Loc) : Prop := v = some (.int (1 : Int32)) ∧ Fr n0 L
theorem own_ext {h h' : Heap} (K : Keep h h' []) : Ext h h' := ⟨K.1, fun x c q => K.2.1 x c q (by simp)⟩
theorem own_sta_keep {Z : State} {h h' : Heap} {a : Addr} {C K n d : String} {w : Value} (S : Sta Z h C n d w) (k : Keep h h' [a]) (E : Exa Z h a K) : Sta Z h' C n d w := by
  obtain ⟨cf, i, kk, f, st, cell, h1, h2, h3, h4, h5, h6, h7⟩ := S
  refine ⟨cf, i, kk, f, st, cell, h1, h2, h3, h4, k.2.1 st cell h5 ?_, h6, h7⟩
  intro q
  cases List.mem_singleton.mp q
  obtain ⟨c2, _, g1, -, -, g4, -⟩ := E
  cases h5.symm.trans g1
  rw [g4] at h6
  cases h6
theorem own_fld_ne {Z : State} {h : Heap} {a b : Addr} {C n d : String} {v w : Value} (F : Fld Z h a C n d v) (G : Fld Z h b C n d w) (q : v ≠ w) : ¬ (a = b) := fun e => by
  subst e
  obtain ⟨c1, f1, k1, i1, g1, a1, a2, -, -, -, -, a7⟩ := F
  obtain ⟨c2, f2, k2, i2, g2, b1, b2, -, -, -, -, b7⟩ := G
  cases a1.symm.trans b1
  cases a2.symm.trans b2
  exact q (Option.some.inj (a7.symm.trans b7))
theorem own_eqI {t : Term} {args : Array Value} {s : State} {k : Int32} (h : (Cond.eq t (.int k)).value args s none s [] = some true) : t.eval args s none [] s = some (.int k) := by
  cases ht : t.eval args s none [] s with
  | none => simp [Cond.value, Term.eval, ht] at h
  | some v => cases v <;> simp [Cond.value, Term.eval, ht] at h ⊢; exact h
theorem own_eqL {t : Term} {args : Array Value} {s : State} {k : Int64} (h : (Cond.eq t (.long k)).value args s none s [] = some true) : t.eval args s none [] s = some (.long k) := by
  cases ht : t.eval args s none [] s with
  | none => simp [Cond.value, Term.eval, ht] at h
  | some v => cases v <;> simp [Cond.value, Term.eval, ht] at h ⊢; exact h
theorem own_and3 (k : Int32) : (k &&& (3 : Int32)) = (0 : Int32) ∨ (k &&& (3 : Int32)) = (1 : Int32) ∨ (k &&& (3 : Int32)) = (2 : Int32) ∨ (k &&& (3 : Int32)) = (3 : Int32) := by
  have e1 : (k &&& (3 : Int32)).toInt = k.toInt % 2 ^ 2 := Jvm.Kit.i32_mask k 3 (k := 2) (by decide) (by decide)
  generalize (k &&& (3 : Int32)) = z at *
  have e4 : z.toInt = 0 ∨ z.toInt = 1 ∨ z.toInt = 2 ∨ z.toInt = 3 := by omega
  rcases e4 with q | q | q | q
  · exact Or.inl (Int32.toInt_inj.mp (q.trans (by decide)))
  · exact Or.inr (Or.inl (Int32.toInt_inj.mp (q.trans (by decide))))
  · exact Or.inr (Or.inr (Or.inl (Int32.toInt_inj.mp (q.trans (by decide)))))
  · exact Or.inr (Or.inr (Or.inr ((Int32.toInt_inj.mp (q.trans (by decide))))))
theorem own_lcA (x y : Int64) : ((0 : Int32) < lcmpW x y) ↔ y < x := by rw [lcW]; exact lc_gt x y
theorem own_lcB (x y : Int64) : (lcmpW x y < (0 : Int32)) ↔ x < y := by rw [lcW]; exact lc_lt x y
theorem d1_0 : decode prog_137_method_2_code 0 = .ok (.lload_n 0, 1) := by decide +kernel
theorem d1_1 : decode prog_137_method_2_code 1 = .ok (.getstatic 9, 3) := by decide +kernel
theorem d1_4 : decode prog_137_method_2_code 4 = .ok (.lcmp, 1) := by decide +kernel
theorem d1_5 : decode prog_137_method_2_code 5 = .ok (.ifCond .lt 15, 3) := by decide +kernel
theorem d1_8 : decode prog_137_method_2_code 8 = .ok (.lload_n 0, 1) := by decide +kernel
theorem d1_9 : decode prog_137_method_2_code 9 = .ok (.getstatic 13, 3) := by decide +kernel
theorem d1_12 : decode prog_137_method_2_code 12 = .ok (.lcmp, 1) := by decide +kernel
theorem d1_13 : decode prog_137_method_2_code 13 = .ok (.ifCond .gt 7, 3) := by decide +kernel
theorem d1_16 : decode prog_137_method_2_code 16 = .ok (.iconst 1, 1) := by decide +kernel
theorem d1_17 : decode prog_137_method_2_code 17 = .ok (.goto 4, 3) := by decide +kernel
theorem d1_20 : decode prog_137_method_2_code 20 = .ok (.iconst 0, 1) := by decide +kernel
theorem d1_21 : decode prog_137_method_2_code 21 = .ok (.ireturn, 1) := by decide +kernel
theorem own_pn0 : plainName "com/example/tidewell/tidewell/types/Timestamps" = true := by first | (simp [plainName, overriddenIn]; done) | decide +kernel
theorem own_pn1 : plainName "com/example/tidewell/tidewell/types/TimestampsInRangePinLaw" = true := by first | (simp [plainName, overriddenIn]; done) | decide +kernel
theorem own_pd0 : parseMethodDescriptor "(J)Z" = some ⟨[.long], some .boolean⟩ := by decide +kernel
theorem own_ef0 (m : MethodId) (x0 : Int64) : entryFrame m #[(.long x0)] 2 = mkF m 0 #[.val (.long x0), .second] [] := by first | (simp [entryFrame, mkF, argsToLocals, Value.category]; done) | rfl
theorem own_ef1 (m : MethodId) (x0 : Int64) (x1 : Int32) (x2 : Int32) : entryFrame m #[(.long x0), (.int x1), (.int x2)] maxLocals = mkF m 0 #[.val (.long x0), .second, .val (.int x1), .val (.int x2), .unset, .unset, .unset, .unset, .unset, .unset, .unset, .unset] [] := by first | (simp [entryFrame, mkF, argsToLocals, Value.category, maxLocals]; done) | rfl
set_option maxRecDepth 65536 in
set_option maxHeartbeats 40000000 in
theorem own_b1_t (l : Launch) (Z : State) (a0 : Array Value) (hw : ∀ d ∈ tables_1, d.before a0 Z = true) (ws : List Jvm.Cond) (q0_ : Int64) (w_MIN_MILLIS : Int64) (h0 : Heap) (n0 : Nat) (Z0 : n0 ≤ h0.size) (S_MIN_MILLIS : Sta Z h0 "com/example/tidewell/tidewell/types/Timestamps" "MIN_MILLIS" "J" (.long w_MIN_MILLIS)) (hf0 : (lcmpW q0_ w_MIN_MILLIS) < (0 : Int32)) :
    MetFree l (⟨"com/example/tidewell/tidewell/types/Timestamps", "inRange", "(J)Z"⟩ : MethodName) (head1 (Jvm.Cond.code (⟨"com/example/tidewell/tidewell/types/Timestamps", "inRange", "(J)Z"⟩ : MethodName) prog_137_method_2_code 2 (some .boolean) :: ws) ({ frames := 0, cells := 0, slots := 0, locals := 0 } : Room)) (fun a U => a = #[(.long q0_)] ∧ Z.Warmed39 U.vm ∧ U.heap = h0) (fun _ _ _ _ _ => True) (fun _ U o U' => ∃ v L, o = .returned v ∧ own_QP (some (.int (0 : Int32))) h0 n0 v U'.heap L ∧ FrameEnd U o U' L ({ frames := 0, cells := 0, slots := 0, locals := 0 } : Room).cells ({ frames := 0, cells := 0, slots := 0, locals := 0 } : Room).slots) := by
  refine MetFree.of_bodySF (plainFor_of_name own_pn0) hisR ?_
  intro p e s m args below meth c s₁ Bd hml0 hP hK
  obtain ⟨rfl, hZ, hh⟩ := hP
  have hx := Bd.exec
  have hby := Bd.bytes
  have hml : c.maxLocals = 2 := hml0
  have hown : s.vm.findClass "com/example/tidewell/tidewell/types/Timestamps" = some m.cls := findClass_of_methodNamed Bd.named
  have hnm := (name_of_methodNamed Bd.named Bd.method).1
  have X0 : Stand p l e ({ frames := 0, cells := 0, slots := 0, locals := 0 } : Room) s m #[(.long q0_)] below meth c s₁ [] 0 0 := Stand.of_body Bd
  have e0 : s₁.heap = h0 := by rw [← hh, Bd.state]; rfl
  have N0 := Fr.nil n0
  have pre0 : ∀ t, Steps p.tables e below (s₁.setTop (mkF m 0 #[.val (.long q0_), .second] [])) t → Steps p.tables e below (s₁.setTop (entryFrame m #[(.long q0_)] 2)) t := fun t k => castTop (own_ef0 m q0_) k
  obtain ⟨T1, X1, e1, st1⟩ := getS2 X0 hx hZ hown (host := "") (Or.inl (hw _ (List.mem_of_getElem? (i := 6) rfl))) Via.refl e0 S_MIN_MILLIS (g := (mkF m 1 #[.val (.long q0_), .second] [(.long q0_)])) rfl (hb hby d1_1)
  obtain ⟨fs, hr, hrun, hended, hW, hsame⟩ := X1.leave (v := some (.int (0 : Int32))) (fun h => by rw [Bd.returns] at h; cases h)
  refine ⟨_, _, pre0 _ ?_, hrun, hended, _, _, rfl, ?_, ⟨_, rfl⟩, hW, hsame.mono (by decide) (by decide)⟩
  · show Steps p.tables e below (s₁.setTop (mkF m 0 #[.val (.long q0_), .second] [])) _
    refine XS.lloadN X0.here hx rfl (hb hby d1_0) rfl ?_
    show Steps p.tables e below (s₁.setTop (mkF m 1 #[.val (.long q0_), .second] [(.long q0_)])) _
    refine st1 _ ?_
    show Steps p.tables e below (T1.setTop (mkF m 4 #[.val (.long q0_), .second] [(.long w_MIN_MILLIS), (.long q0_)])) _
    refine XS.lcmp X1.here hx rfl (hb hby d1_4) rfl ?_
    show Steps p.tables e below (T1.setTop (mkF m 5 #[.val (.long q0_), .second] [(.int (lcmpW q0_ w_MIN_MILLIS))])) _
    refine XS.ifYes X1.here hx rfl (pc0 := 5) (pc' := 20) rfl (hb hby d1_5) rfl ((if0 _ _).trans (tlt hf0).1) (by decide) (by decide) ?_
    show Steps p.tables e below (T1.setTop (mkF m 20 #[.val (.long q0_), .second] [])) _
    refine XS.iconst X1.here hx rfl (hb hby d1_20) ?_
    show Steps p.tables e below (T1.setTop (mkF m 21 #[.val (.long q0_), .second] [(.int (0 : Int32))])) _
    exact retN X1 hx (t := .boolean) Bd.returns (by simp) (hb hby d1_21) hr
  · show own_QP (some (.int (0 : Int32))) h0 n0 _ T1.heap _
    exact ⟨rfl, N0, e1⟩
set_option maxRecDepth 65536 in
set_option maxHeartbeats 40000000 in
theorem own_b1_ft (l : Launch) (Z : State) (a0 : Array Value) (hw : ∀ d ∈ tables_1, d.before a0 Z = true) (ws : List Jvm.Cond) (q0_ : Int64) (w_MIN_MILLIS : Int64) (w_MAX_MILLIS : Int64) (h0 : Heap) (n0 : Nat) (Z0 : n0 ≤ h0.size) (S_MIN_MILLIS : Sta Z h0 "com/example/tidewell/tidewell/types/Timestamps" "MIN_MILLIS" "J" (.long w_MIN_MILLIS)) (S_MAX_MILLIS : Sta Z h0 "com/example/tidewell/tidewell/types/Timestamps" "MAX_MILLIS" "J" (.long w_MAX_MILLIS)) (hf0 : ¬ ((lcmpW q0_ w_MIN_MILLIS) < (0 : Int32))) (hf1 : (0 : Int32) < (lcmpW q0_ w_MAX_MILLIS)) :
    MetFree l (⟨"com/example/tidewell/tidewell/types/Timestamps", "inRange", "(J)Z"⟩ : MethodName) (head1 (Jvm.Cond.code (⟨"com/example/tidewell/tidewell/types/Timestamps", "inRange", "(J)Z"⟩ : MethodName) prog_137_method_2_code 2 (some .boolean) :: ws) ({ frames := 0, cells := 0, slots := 0, locals := 0 } : Room)) (fun a U => a = #[(.long q0_)] ∧ Z.Warmed39 U.vm ∧ U.heap = h0) (fun _ _ _ _ _ => True) (fun _ U o U' => ∃ v L, o = .returned v ∧ own_QP (some (.int (0 : Int32))) h0 n0 v U'.heap L ∧ FrameEnd U o U' L ({ frames := 0, cells := 0, slots := 0, locals := 0 } : Room).cells ({ frames := 0, cells := 0, slots := 0, locals := 0 } : Room).slots) := by
  refine MetFree.of_bodySF (plainFor_of_name own_pn0) hisR ?_
  intro p e s m args below meth c s₁ Bd hml0 hP hK
  obtain ⟨rfl, hZ, hh⟩ := hP
  have hx := Bd.exec
  have hby := Bd.bytes
  have hml : c.maxLocals = 2 := hml0
  have hown : s.vm.findClass "com/example/tidewell/tidewell/types/Timestamps" = some m.cls := findClass_of_methodNamed Bd.named
  have hnm := (name_of_methodNamed Bd.named Bd.method).1
  have X0 : Stand p l e ({ frames := 0, cells := 0, slots := 0, locals := 0 } : Room) s m #[(.long q0_)] below meth c s₁ [] 0 0 := Stand.of_body Bd
  have e0 : s₁.heap = h0 := by rw [← hh, Bd.state]; rfl
  have N0 := Fr.nil n0
  have pre0 : ∀ t, Steps p.tables e below (s₁.setTop (mkF m 0 #[.val (.long q0_), .second] [])) t → Steps p.tables e below (s₁.setTop (entryFrame m #[(.long q0_)] 2)) t := fun t k => castTop (own_ef0 m q0_) k
  obtain ⟨T1, X1, e1, st1⟩ := getS2 X0 hx hZ hown (host := "") (Or.inl (hw _ (List.mem_of_getElem? (i := 6) rfl))) Via.refl e0 S_MIN_MILLIS (g := (mkF m 1 #[.val (.long q0_), .second] [(.long q0_)])) rfl (hb hby d1_1)
  obtain ⟨T2, X2, e2, st2⟩ := getS2 X1 hx hZ hown (host := "") (Or.inl (hw _ (List.mem_of_getElem? (i := 8) rfl))) Via.refl e1 S_MAX_MILLIS (g := (mkF m 9 #[.val (.long q0_), .second] [(.long q0_)])) rfl (hb hby d1_9)
  obtain ⟨fs, hr, hrun, hended, hW, hsame⟩ := X2.leave (v := some (.int (0 : Int32))) (fun h => by rw [Bd.returns] at h; cases h)
  refine ⟨_, _, pre0 _ ?_, hrun, hended, _, _, rfl, ?_, ⟨_, rfl⟩, hW, hsame.mono (by decide) (by decide)⟩
  · show Steps p.tables e below (s₁.setTop (mkF m 0 #[.val (.long q0_), .second] [])) _
    refine XS.lloadN X0.here hx rfl (hb hby d1_0) rfl ?_
    show Steps p.tables e below (s₁.setTop (mkF m 1 #[.val (.long q0_), .second] [(.long q0_)])) _
    refine st1 _ ?_
    show Steps p.tables e below (T1.setTop (mkF m 4 #[.val (.long q0_), .second] [(.long w_MIN_MILLIS), (.long q0_)])) _
    refine XS.lcmp X1.here hx rfl (hb hby d1_4) rfl ?_
    show Steps p.tables e below (T1.setTop (mkF m 5 #[.val (.long q0_), .second] [(.int (lcmpW q0_ w_MIN_MILLIS))])) _
    refine XS.ifNo X1.here hx rfl (hb hby d1_5) rfl ((if0 _ _).trans (flt hf0).1) ?_
    show Steps p.tables e below (T1.setTop (mkF m 8 #[.val (.long q0_), .second] [])) _
    refine XS.lloadN X1.here hx rfl (hb hby d1_8) rfl ?_
    show Steps p.tables e below (T1.setTop (mkF m 9 #[.val (.long q0_), .second] [(.long q0_)])) _
    refine st2 _ ?_
    show Steps p.tables e below (T2.setTop (mkF m 12 #[.val (.long q0_), .second] [(.long w_MAX_MILLIS), (.long q0_)])) _
    refine XS.lcmp X2.here hx rfl (hb hby d1_12) rfl ?_
    show Steps p.tables e below (T2.setTop (mkF m 13 #[.val (.long q0_), .second] [(.int (lcmpW q0_ w_MAX_MILLIS))])) _
    refine XS.ifYes X2.here hx rfl (pc0 := 13) (pc' := 20) rfl (hb hby d1_13) rfl ((if0 _ _).trans (tlt hf1).2.2.1) (by decide) (by decide) ?_
    show Steps p.tables e below (T2.setTop (mkF m 20 #[.val (.long q0_), .second] [])) _
    refine XS.iconst X2.here hx rfl (hb hby d1_20) ?_
    show Steps p.tables e below (T2.setTop (mkF m 21 #[.val (.long q0_), .second] [(.int (0 : Int32))])) _
    exact retN X2 hx (t := .boolean) Bd.returns (by simp) (hb hby d1_21) hr
  · show own_QP (some (.int (0 : Int32))) h0 n0 _ T2.heap _
    exact ⟨rfl, N0, e2⟩
set_option maxRecDepth 65536 in
set_option maxHeartbeats 40000000 in
theorem own_b1_ff (l : Launch) (Z : State) (a0 : Array Value) (hw : ∀ d ∈ tables_1, d.before a0 Z = true) (ws : List Jvm.Cond) (q0_ : Int64) (w_MIN_MILLIS : Int64) (w_MAX_MILLIS : Int64) (h0 : Heap) (n0 : Nat) (Z0 : n0 ≤ h0.size) (S_MIN_MILLIS : Sta Z h0 "com/example/tidewell/tidewell/types/Timestamps" "MIN_MILLIS" "J" (.long w_MIN_MILLIS)) (S_MAX_MILLIS : Sta Z h0 "com/example/tidewell/tidewell/types/Timestamps" "MAX_MILLIS" "J" (.long w_MAX_MILLIS)) (hf0 : ¬ ((lcmpW q0_ w_MIN_MILLIS) < (0 : Int32))) (hf1 : ¬ ((0 : Int32) < (lcmpW q0_ w_MAX_MILLIS))) :
    MetFree l (⟨"com/example/tidewell/tidewell/types/Timestamps", "inRange", "(J)Z"⟩ : MethodName) (head1 (Jvm.Cond.code (⟨"com/example/tidewell/tidewell/types/Timestamps", "inRange", "(J)Z"⟩ : MethodName) prog_137_method_2_code 2 (some .boolean) :: ws) ({ frames := 0, cells := 0, slots := 0, locals := 0 } : Room)) (fun a U => a = #[(.long q0_)] ∧ Z.Warmed39 U.vm ∧ U.heap = h0) (fun _ _ _ _ _ => True) (fun _ U o U' => ∃ v L, o = .returned v ∧ own_QP (some (.int (1 : Int32))) h0 n0 v U'.heap L ∧ FrameEnd U o U' L ({ frames := 0, cells := 0, slots := 0, locals := 0 } : Room).cells ({ frames := 0, cells := 0, slots := 0, locals := 0 } : Room).slots) := by
  refine MetFree.of_bodySF (plainFor_of_name own_pn0) hisR ?_
  intro p e s m args below meth c s₁ Bd hml0 hP hK
  obtain ⟨rfl, hZ, hh⟩ := hP
  have hx := Bd.exec
  have hby := Bd.bytes
  have hml : c.maxLocals = 2 := hml0
  have hown : s.vm.findClass "com/example/tidewell/tidewell/types/Timestamps" = some m.cls := findClass_of_methodNamed Bd.named
  have hnm := (name_of_methodNamed Bd.named Bd.method).1
  have X0 : Stand p l e ({ frames := 0, cells := 0, slots := 0, locals := 0 } : Room) s m #[(.long q0_)] below meth c s₁ [] 0 0 := Stand.of_body Bd
  have e0 : s₁.heap = h0 := by rw [← hh, Bd.state]; rfl
  have N0 := Fr.nil n0
  have pre0 : ∀ t, Steps p.tables e below (s₁.setTop (mkF m 0 #[.val (.long q0_), .second] [])) t → Steps p.tables e below (s₁.setTop (entryFrame m #[(.long q0_)] 2)) t := fun t k => castTop (own_ef0 m q0_) k
  obtain ⟨T1, X1, e1, st1⟩ := getS2 X0 hx hZ hown (host := "") (Or.inl (hw _ (List.mem_of_getElem? (i := 6) rfl))) Via.refl e0 S_MIN_MILLIS (g := (mkF m 1 #[.val (.long q0_), .second] [(.long q0_)])) rfl (hb hby d1_1)
  obtain ⟨T2, X2, e2, st2⟩ := getS2 X1 hx hZ hown (host := "") (Or.inl (hw _ (List.mem_of_getElem? (i := 8) rfl))) Via.refl e1 S_MAX_MILLIS (g := (mkF m 9 #[.val (.long q0_), .second] [(.long q0_)])) rfl (hb hby d1_9)
  obtain ⟨fs, hr, hrun, hended, hW, hsame⟩ := X2.leave (v := some (.int (1 : Int32))) (fun h => by rw [Bd.returns] at h; cases h)
  refine ⟨_, _, pre0 _ ?_, hrun, hended, _, _, rfl, ?_, ⟨_, rfl⟩, hW, hsame.mono (by decide) (by decide)⟩
  · show Steps p.tables e below (s₁.setTop (mkF m 0 #[.val (.long q0_), .second] [])) _
    refine XS.lloadN X0.here hx rfl (hb hby d1_0) rfl ?_
    show Steps p.tables e below (s₁.setTop (mkF m 1 #[.val (.long q0_), .second] [(.long q0_)])) _
    refine st1 _ ?_
    show Steps p.tables e below (T1.setTop (mkF m 4 #[.val (.long q0_), .second] [(.long w_MIN_MILLIS), (.long q0_)])) _
    refine XS.lcmp X1.here hx rfl (hb hby d1_4) rfl ?_
    show Steps p.tables e below (T1.setTop (mkF m 5 #[.val (.long q0_), .second] [(.int (lcmpW q0_ w_MIN_MILLIS))])) _
    refine XS.ifNo X1.here hx rfl (hb hby d1_5) rfl ((if0 _ _).trans (flt hf0).1) ?_
    show Steps p.tables e below (T1.setTop (mkF m 8 #[.val (.long q0_), .second] [])) _
    refine XS.lloadN X1.here hx rfl (hb hby d1_8) rfl ?_
    show Steps p.tables e below (T1.setTop (mkF m 9 #[.val (.long q0_), .second] [(.long q0_)])) _
    refine st2 _ ?_
    show Steps p.tables e below (T2.setTop (mkF m 12 #[.val (.long q0_), .second] [(.long w_MAX_MILLIS), (.long q0_)])) _
    refine XS.lcmp X2.here hx rfl (hb hby d1_12) rfl ?_
    show Steps p.tables e below (T2.setTop (mkF m 13 #[.val (.long q0_), .second] [(.int (lcmpW q0_ w_MAX_MILLIS))])) _
    refine XS.ifNo X2.here hx rfl (hb hby d1_13) rfl ((if0 _ _).trans (flt hf1).2.2.1) ?_
    show Steps p.tables e below (T2.setTop (mkF m 16 #[.val (.long q0_), .second] [])) _
    refine XS.iconst X2.here hx rfl (hb hby d1_16) ?_
    show Steps p.tables e below (T2.setTop (mkF m 17 #[.val (.long q0_), .second] [(.int (1 : Int32))])) _
    refine XS.goto X2.here hx rfl (pc0 := 17) (pc' := 21) rfl (hb hby d1_17) (by decide) (by decide) ?_
    show Steps p.tables e below (T2.setTop (mkF m 21 #[.val (.long q0_), .second] [(.int (1 : Int32))])) _
    exact retN X2 hx (t := .boolean) Bd.returns (by simp) (hb hby d1_21) hr
  · show own_QP (some (.int (1 : Int32))) h0 n0 _ T2.heap _
    exact ⟨rfl, N0, e2⟩
set_option maxRecDepth 65536 in
set_option maxHeartbeats 40000000 in
theorem own_law0b (l : Launch) (Z : State) (a0 : Array Value) (hw : ∀ d ∈ tables_1, d.before a0 Z = true) (ws : List Jvm.Cond) (q0_ : Int64) (p1_ : Int32) (p2_ : Int32) (h0 : Heap) (n0 : Nat) (Z0 : n0 ≤ h0.size) (S_MIN_MILLIS : Sta Z h0 "com/example/tidewell/tidewell/types/Timestamps" "MIN_MILLIS" "J" (.long (-62167219200000 : Int64))) (hf0 : (p2_ &&& (3 : Int32)) = (0 : Int32)) (hf1 : (0 : Int32) < (lcmpW (-62167219200000 : Int64) q0_)) (hf2 : (lcmpW q0_ (-62167219200000 : Int64)) < (0 : Int32)) :
    MetFree l x (head1 (Jvm.Cond.code x code maxLocals ret :: ws) room_1) (fun a U => a = #[(.long q0_), (.int p1_), (.int p2_)] ∧ Z.Warmed39 U.vm ∧ U.heap = h0) (fun _ _ _ _ _ => True) (fun _ U o U' => ∃ v L, o = .returned v ∧ own_QL n0 v U'.heap L ∧ FrameEnd U o U' L room_1.cells room_1.slots) := by
  refine MetFree.of_bodySF (plainFor_of_name own_pn1) hisR ?_
  intro p e s m args below meth c s₁ Bd hml0 hP hK
  obtain ⟨rfl, hZ, hh⟩ := hP
  have hx := Bd.exec
  have hby := Bd.bytes
  have hml : c.maxLocals = 12 := hml0
  have hown : s.vm.findClass "com/example/tidewell/tidewell/types/TimestampsInRangePinLaw" = some m.cls := findClass_of_methodNamed Bd.named
  have hnm := (name_of_methodNamed Bd.named Bd.method).1
  have X0 : Stand p l e room_1 s m #[(.long q0_), (.int p1_), (.int p2_)] below meth c s₁ [] 0 0 := Stand.of_body Bd
  have e0 : s₁.heap = h0 := by rw [← hh, Bd.state]; rfl
  have N0 := Fr.nil n0
  have pre0 : ∀ t, Steps p.tables e below (s₁.setTop (mkF m 0 #[.val (.long q0_), .second, .val (.int p1_), .val (.int p2_), .unset, .unset, .unset, .unset, .unset, .unset, .unset, .unset] [])) t → Steps p.tables e below (s₁.setTop (entryFrame m #[(.long q0_), (.int p1_), (.int p2_)] maxLocals)) t := fun t k => castTop (own_ef1 m q0_ p1_ p2_) k
  obtain ⟨_, _, ⟨T1, L1, k1, n1⟩, -, X1, ⟨Lc1, hQ1, l1, y1, z1⟩, st1⟩ := Jvm.LawKit.callS X0 hx (y := (⟨"com/example/tidewell/tidewell/types/Timestamps", "inRange", "(J)Z"⟩ : MethodName)) hown (mvT hZ (hw _ (List.mem_of_getElem? (i := 2) rfl))) (mvT hZ (hw _ (List.mem_of_getElem? (i := 3) rfl))) (mvT hZ (hw _ (List.mem_of_getElem? (i := 4) rfl))) (mvT hZ (hw _ (List.mem_of_getElem? (i := 5) rfl))) (by decide) (backOf (W := 0) (own_b1_t l Z a0 hw [] q0_ (-62167219200000 : Int64) h0 n0 Z0 S_MIN_MILLIS hf2) hZ (hw _ (List.mem_of_getElem? (i := 5) rfl)) (hw _ (List.mem_of_getElem? (i := 4) rfl)) (by decide) (by decide)) (g := (mkF m 87 #[.val (.long q0_), .second, .val (.int p1_), .val (.int p2_), .val (.long (-62167219200000 : Int64)), .second, .val (.long (253402300799999 : Int64)), .second, .val (.int (0 : Int32)), .val (.long q0_), .second, .val (.int (0 : Int32))] [(.long q0_)])) rfl (by rw [hml]; rfl) (argsL := [(.long q0_)]) (rest := []) (lenOf own_pd0 rfl) rfl (by show 2 * 0 + _ ≤ _; exact Nat.le_of_eq rfl) (hb hby at_87) (fun _ _ => ⟨rfl, e0, (by decide : 0 + 0 ≤ _), (by decide : 0 + 0 ≤ _)⟩)
  dsimp only [Pt.U, Pt.locs, Pt.cells, Pt.slots] at X1 l1 y1 z1 st1 hQ1
  subst l1 y1 z1
  obtain ⟨rfl, N1q, e1⟩ := hQ1
  have N1 := Fr.app N0 N1q
  obtain ⟨fs, hr, hrun, hended, hW, hsame⟩ := X1.leave (v := some (.int (1 : Int32))) (fun h => by rw [Bd.returns] at h; cases h)
  refine ⟨_, _, pre0 _ ?_, hrun, hended, _, _, rfl, ?_, ⟨_, rfl⟩, hW, hsame.mono (by decide) (by decide)⟩
  · show Steps p.tables e below (s₁.setTop (mkF m 0 #[.val (.long q0_), .second, .val (.int p1_), .val (.int p2_), .unset, .unset, .unset, .unset, .unset, .unset, .unset, .unset] [])) _
    refine X0.ldc2Long hx hown (mvT hZ (hw _ (List.mem_of_getElem? (i := 0) rfl))) (g := (mkF m 0 #[.val (.long q0_), .second, .val (.int p1_), .val (.int p2_), .unset, .unset, .unset, .unset, .unset, .unset, .unset, .unset] [])) rfl (hb hby at_0) _ ?_
    show Steps p.tables e below (s₁.setTop (mkF m 3 #[.val (.long q0_), .second, .val (.int p1_), .val (.int p2_), .unset, .unset, .unset, .unset, .unset, .unset, .unset, .unset] [(.long (-62167219200000 : Int64))])) _
    refine XS.lstore X0.here hx rfl (hb hby at_3) rfl (l' := #[.val (.long q0_), .second, .val (.int p1_), .val (.int p2_), .val (.long (-62167219200000 : Int64)), .second, .unset, .unset, .unset, .unset, .unset, .unset]) rfl ?_
    show Steps p.tables e below (s₁.setTop (mkF m 5 #[.val (.long q0_), .second, .val (.int p1_), .val (.int p2_), .val (.long (-62167219200000 : Int64)), .second, .unset, .unset, .unset, .unset, .unset, .unset] [])) _
    refine X0.ldc2Long hx hown (mvT hZ (hw _ (List.mem_of_getElem? (i := 1) rfl))) (g := (mkF m 5 #[.val (.long q0_), .second, .val (.int p1_), .val (.int p2_), .val (.long (-62167219200000 : Int64)), .second, .unset, .unset, .unset, .unset, .unset, .unset] [])) rfl (hb hby at_5) _ ?_
    show Steps p.tables e below (s₁.setTop (mkF m 8 #[.val (.long q0_), .second, .val (.int p1_), .val (.int p2_), .val (.long (-62167219200000 : Int64)), .second, .unset, .unset, .unset, .unset, .unset, .unset] [(.long (253402300799999 : Int64))])) _
    refine XS.lstore X0.here hx rfl (hb hby at_8) rfl (l' := #[.val (.long q0_), .second, .val (.int p1_), .val (.int p2_), .val (.long (-62167219200000 : Int64)), .second, .val (.long (253402300799999 : Int64)), .second, .unset, .unset, .unset, .unset]) rfl ?_
    show Steps p.tables e below (s₁.setTop (mkF m 10 #[.val (.long q0_), .second, .val (.int p1_), .val (.int p2_), .val (.long (-62167219200000 : Int64)), .second, .val (.long (253402300799999 : Int64)), .second, .unset, .unset, .unset, .unset] [])) _
    refine XS.iloadN X0.here hx rfl (hb hby at_10) rfl ?_
    show Steps p.tables e below (s₁.setTop (mkF m 11 #[.val (.long q0_), .second, .val (.int p1_), .val (.int p2_), .val (.long (-62167219200000 : Int64)), .second, .val (.long (253402300799999 : Int64)), .second, .unset, .unset, .unset, .unset] [(.int p2_)])) _
    refine XS.iconst X0.here hx rfl (hb hby at_11) ?_
    show Steps p.tables e below (s₁.setTop (mkF m 12 #[.val (.long q0_), .second, .val (.int p1_), .val (.int p2_), .val (.long (-62167219200000 : Int64)), .second, .val (.long (253402300799999 : Int64)), .second, .unset, .unset, .unset, .unset] [(.int (3 : Int32)), (.int p2_)])) _
    refine XS.iand X0.here hx rfl (hb hby at_12) rfl ?_
    show Steps p.tables e below (s₁.setTop (mkF m 13 #[.val (.long q0_), .second, .val (.int p1_), .val (.int p2_), .val (.long (-62167219200000 : Int64)), .second, .val (.long (253402300799999 : Int64)), .second, .unset, .unset, .unset, .unset] [(.int (p2_ &&& (3 : Int32)))])) _
    rw [hf0]
    show Steps p.tables e below (s₁.setTop (mkF m 13 #[.val (.long q0_), .second, .val (.int p1_), .val (.int p2_), .val (.long (-62167219200000 : Int64)), .second, .val (.long (253402300799999 : Int64)), .second, .unset, .unset, .unset, .unset] [(.int (0 : Int32))])) _
    refine XS.istore X0.here hx rfl (hb hby at_13) rfl (l' := #[.val (.long q0_), .second, .val (.int p1_), .val (.int p2_), .val (.long (-62167219200000 : Int64)), .second, .val (.long (253402300799999 : Int64)), .second, .val (.int (0 : Int32)), .unset, .unset, .unset]) rfl ?_
    show Steps p.tables e below (s₁.setTop (mkF m 15 #[.val (.long q0_), .second, .val (.int p1_), .val (.int p2_), .val (.long (-62167219200000 : Int64)), .second, .val (.long (253402300799999 : Int64)), .second, .val (.int (0 : Int32)), .unset, .unset, .unset] [])) _
    refine XS.iload X0.here hx rfl (hb hby at_15) rfl ?_
    show Steps p.tables e below (s₁.setTop (mkF m 17 #[.val (.long q0_), .second, .val (.int p1_), .val (.int p2_), .val (.long (-62167219200000 : Int64)), .second, .val (.long (253402300799999 : Int64)), .second, .val (.int (0 : Int32)), .unset, .unset, .unset] [(.int (0 : Int32))])) _
    refine XS.ifNo X0.here hx rfl (hb hby at_17) rfl ((if0 _ _).trans (teq (rfl : (0 : Int32) = (0 : Int32))).2) ?_
    show Steps p.tables e below (s₁.setTop (mkF m 20 #[.val (.long q0_), .second, .val (.int p1_), .val (.int p2_), .val (.long (-62167219200000 : Int64)), .second, .val (.long (253402300799999 : Int64)), .second, .val (.int (0 : Int32)), .unset, .unset, .unset] [])) _
    refine XS.lloadN X0.here hx rfl (hb hby at_20) rfl ?_
    show Steps p.tables e below (s₁.setTop (mkF m 21 #[.val (.long q0_), .second, .val (.int p1_), .val (.int p2_), .val (.long (-62167219200000 : Int64)), .second, .val (.long (253402300799999 : Int64)), .second, .val (.int (0 : Int32)), .unset, .unset, .unset] [(.long q0_)])) _
    refine XS.lstore X0.here hx rfl (hb hby at_21) rfl (l' := #[.val (.long q0_), .second, .val (.int p1_), .val (.int p2_), .val (.long (-62167219200000 : Int64)), .second, .val (.long (253402300799999 : Int64)), .second, .val (.int (0 : Int32)), .val (.long q0_), .second, .unset]) rfl ?_
    show Steps p.tables e below (s₁.setTop (mkF m 23 #[.val (.long q0_), .second, .val (.int p1_), .val (.int p2_), .val (.long (-62167219200000 : Int64)), .second, .val (.long (253402300799999 : Int64)), .second, .val (.int (0 : Int32)), .val (.long q0_), .second, .unset] [])) _
    refine XS.goto X0.here hx rfl (pc0 := 23) (pc' := 62) rfl (hb hby at_23) (by decide) (by decide) ?_
    show Steps p.tables e below (s₁.setTop (mkF m 62 #[.val (.long q0_), .second, .val (.int p1_), .val (.int p2_), .val (.long (-62167219200000 : Int64)), .second, .val (.long (253402300799999 : Int64)), .second, .val (.int (0 : Int32)), .val (.long q0_), .second, .unset] [])) _
    refine XS.lload X0.here hx rfl (hb hby at_62) rfl ?_
    show Steps p.tables e below (s₁.setTop (mkF m 64 #[.val (.long q0_), .second, .val (.int p1_), .val (.int p2_), .val (.long (-62167219200000 : Int64)), .second, .val (.long (253402300799999 : Int64)), .second, .val (.int (0 : Int32)), .val (.long q0_), .second, .unset] [(.long (-62167219200000 : Int64))])) _
    refine XS.lload X0.here hx rfl (hb hby at_64) rfl ?_
    show Steps p.tables e below (s₁.setTop (mkF m 66 #[.val (.long q0_), .second, .val (.int p1_), .val (.int p2_), .val (.long (-62167219200000 : Int64)), .second, .val (.long (253402300799999 : Int64)), .second, .val (.int (0 : Int32)), .val (.long q0_), .second, .unset] [(.long q0_), (.long (-62167219200000 : Int64))])) _
    refine XS.lcmp X0.here hx rfl (hb hby at_66) rfl ?_
    show Steps p.tables e below (s₁.setTop (mkF m 67 #[.val (.long q0_), .second, .val (.int p1_), .val (.int p2_), .val (.long (-62167219200000 : Int64)), .second, .val (.long (253402300799999 : Int64)), .second, .val (.int (0 : Int32)), .val (.long q0_), .second, .unset] [(.int (lcmpW (-62167219200000 : Int64) q0_))])) _
    refine XS.ifYes X0.here hx rfl (pc0 := 67) (pc' := 82) rfl (hb hby at_67) rfl ((if0 _ _).trans (tlt hf1).2.2.1) (by decide) (by decide) ?_
    show Steps p.tables e below (s₁.setTop (mkF m 82 #[.val (.long q0_), .second, .val (.int p1_), .val (.int p2_), .val (.long (-62167219200000 : Int64)), .second, .val (.long (253402300799999 : Int64)), .second, .val (.int (0 : Int32)), .val (.long q0_), .second, .unset] [])) _
    refine XS.iconst X0.here hx rfl (hb hby at_82) ?_
    show Steps p.tables e below (s₁.setTop (mkF m 83 #[.val (.long q0_), .second, .val (.int p1_), .val (.int p2_), .val (.long (-62167219200000 : Int64)), .second, .val (.long (253402300799999 : Int64)), .second, .val (.int (0 : Int32)), .val (.long q0_), .second, .unset] [(.int (0 : Int32))])) _
    refine XS.istore X0.here hx rfl (hb hby at_83) rfl (l' := #[.val (.long q0_), .second, .val (.int p1_), .val (.int p2_), .val (.long (-62167219200000 : Int64)), .second, .val (.long (253402300799999 : Int64)), .second, .val (.int (0 : Int32)), .val (.long q0_), .second, .val (.int (0 : Int32))]) rfl ?_
    show Steps p.tables e below (s₁.setTop (mkF m 85 #[.val (.long q0_), .second, .val (.int p1_), .val (.int p2_), .val (.long (-62167219200000 : Int64)), .second, .val (.long (253402300799999 : Int64)), .second, .val (.int (0 : Int32)), .val (.long q0_), .second, .val (.int (0 : Int32))] [])) _
    refine XS.lload X0.here hx rfl (hb hby at_85) rfl ?_
    show Steps p.tables e below (s₁.setTop (mkF m 87 #[.val (.long q0_), .second, .val (.int p1_), .val (.int p2_), .val (.long (-62167219200000 : Int64)), .second, .val (.long (253402300799999 : Int64)), .second, .val (.int (0 : Int32)), .val (.long q0_), .second, .val (.int (0 : Int32))] [(.long q0_)])) _
    refine st1 _ ?_
    show Steps p.tables e below (T1.setTop (mkF m 90 #[.val (.long q0_), .second, .val (.int p1_), .val (.int p2_), .val (.long (-62167219200000 : Int64)), .second, .val (.long (253402300799999 : Int64)), .second, .val (.int (0 : Int32)), .val (.long q0_), .second, .val (.int (0 : Int32))] [(.int (0 : Int32))])) _
    refine XS.iload X1.here hx rfl (hb hby at_90) rfl ?_
    show Steps p.tables e below (T1.setTop (mkF m 92 #[.val (.long q0_), .second, .val (.int p1_), .val (.int p2_), .val (.long (-62167219200000 : Int64)), .second, .val (.long (253402300799999 : Int64)), .second, .val (.int (0 : Int32)), .val (.long q0_), .second, .val (.int (0 : Int32))] [(.int (0 : Int32)), (.int (0 : Int32))])) _
    refine XS.icmpNo X1.here hx rfl (hb hby at_92) rfl (teq (rfl : (0 : Int32) = (0 : Int32))).2 ?_
    show Steps p.tables e below (T1.setTop (mkF m 95 #[.val (.long q0_), .second, .val (.int p1_), .val (.int p2_), .val (.long (-62167219200000 : Int64)), .second, .val (.long (253402300799999 : Int64)), .second, .val (.int (0 : Int32)), .val (.long q0_), .second, .val (.int (0 : Int32))] [])) _
    refine XS.iconst X1.here hx rfl (hb hby at_95) ?_
    show Steps p.tables e below (T1.setTop (mkF m 96 #[.val (.long q0_), .second, .val (.int p1_), .val (.int p2_), .val (.long (-62167219200000 : Int64)), .second, .val (.long (253402300799999 : Int64)), .second, .val (.int (0 : Int32)), .val (.long q0_), .second, .val (.int (0 : Int32))] [(.int (1 : Int32))])) _
    refine XS.goto X1.here hx rfl (pc0 := 96) (pc' := 100) rfl (hb hby at_96) (by decide) (by decide) ?_
    show Steps p.tables e below (T1.setTop (mkF m 100 #[.val (.long q0_), .second, .val (.int p1_), .val (.int p2_), .val (.long (-62167219200000 : Int64)), .second, .val (.long (253402300799999 : Int64)), .second, .val (.int (0 : Int32)), .val (.long q0_), .second, .val (.int (0 : Int32))] [(.int (1 : Int32))])) _
    exact retN X1 hx (t := .boolean) Bd.returns (by simp) (hb hby at_100) hr
  · show own_QL n0 _ T1.heap _
    exact ⟨rfl, N1⟩
set_option maxRecDepth 65536 in
set_option maxHeartbeats 40000000 in
theorem own_law0a (l : Launch) (Z : State) (a0 : Array Value) (hw : ∀ d ∈ tables_1, d.before a0 Z = true) (ws : List Jvm.Cond) (q0_ : Int64) (p1_ : Int32) (p2_ : Int32) (h0 : Heap) (n0 : Nat) (Z0 : n0 ≤ h0.size) (S_MIN_MILLIS : Sta Z h0 "com/example/tidewell/tidewell/types/Timestamps" "MIN_MILLIS" "J" (.long (-62167219200000 : Int64))) (S_MAX_MILLIS : Sta Z h0 "com/example/tidewell/tidewell/types/Timestamps" "MAX_MILLIS" "J" (.long (253402300799999 : Int64))) (hf0 : (p2_ &&& (3 : Int32)) = (0 : Int32)) (hf1 : ¬ ((0 : Int32) < (lcmpW (-62167219200000 : Int64) q0_))) (hf2 : (0 : Int32) < (lcmpW q0_ (253402300799999 : Int64))) (hf3 : ¬ ((lcmpW q0_ (-62167219200000 : Int64)) < (0 : Int32))) :
    MetFree l x (head1 (Jvm.Cond.code x code maxLocals ret :: ws) room_1) (fun a U => a = #[(.long q0_), (.int p1_), (.int p2_)] ∧ Z.Warmed39 U.vm ∧ U.heap = h0) (fun _ _ _ _ _ => True) (fun _ U o U' => ∃ v L, o = .returned v ∧ own_QL n0 v U'.heap L ∧ FrameEnd U o U' L room_1.cells room_1.slots) := by
  refine MetFree.of_bodySF (plainFor_of_name own_pn1) hisR ?_
  intro p e s m args below meth c s₁ Bd hml0 hP hK
  obtain ⟨rfl, hZ, hh⟩ := hP
  have hx := Bd.exec
  have hby := Bd.bytes
  have hml : c.maxLocals = 12 := hml0
  have hown : s.vm.findClass "com/example/tidewell/tidewell/types/TimestampsInRangePinLaw" = some m.cls := findClass_of_methodNamed Bd.named
  have hnm := (name_of_methodNamed Bd.named Bd.method).1
  have X0 : Stand p l e room_1 s m #[(.long q0_), (.int p1_), (.int p2_)] below meth c s₁ [] 0 0 := Stand.of_body Bd
  have e0 : s₁.heap = h0 := by rw [← hh, Bd.state]; rfl
  have N0 := Fr.nil n0
  have pre0 : ∀ t, Steps p.tables e below (s₁.setTop (mkF m 0 #[.val (.long q0_), .second, .val (.int p1_), .val (.int p2_), .unset, .unset, .unset, .unset, .unset, .unset, .unset, .unset] [])) t → Steps p.tables e below (s₁.setTop (entryFrame m #[(.long q0_), (.int p1_), (.int p2_)] maxLocals)) t := fun t k => castTop (own_ef1 m q0_ p1_ p2_) k
  obtain ⟨_, _, ⟨T1, L1, k1, n1⟩, -, X1, ⟨Lc1, hQ1, l1, y1, z1⟩, st1⟩ := Jvm.LawKit.callS X0 hx (y := (⟨"com/example/tidewell/tidewell/types/Timestamps", "inRange", "(J)Z"⟩ : MethodName)) hown (mvT hZ (hw _ (List.mem_of_getElem? (i := 2) rfl))) (mvT hZ (hw _ (List.mem_of_getElem? (i := 3) rfl))) (mvT hZ (hw _ (List.mem_of_getElem? (i := 4) rfl))) (mvT hZ (hw _ (List.mem_of_getElem? (i := 5) rfl))) (by decide) (backOf (W := 0) (own_b1_ft l Z a0 hw [] q0_ (-62167219200000 : Int64) (253402300799999 : Int64) h0 n0 Z0 S_MIN_MILLIS S_MAX_MILLIS hf3 hf2) hZ (hw _ (List.mem_of_getElem? (i := 5) rfl)) (hw _ (List.mem_of_getElem? (i := 4) rfl)) (by decide) (by decide)) (g := (mkF m 87 #[.val (.long q0_), .second, .val (.int p1_), .val (.int p2_), .val (.long (-62167219200000 : Int64)), .second, .val (.long (253402300799999 : Int64)), .second, .val (.int (0 : Int32)), .val (.long q0_), .second, .val (.int (0 : Int32))] [(.long q0_)])) rfl (by rw [hml]; rfl) (argsL := [(.long q0_)]) (rest := []) (lenOf own_pd0 rfl) rfl (by show 2 * 0 + _ ≤ _; exact Nat.le_of_eq rfl) (hb hby at_87) (fun _ _ => ⟨rfl, e0, (by decide : 0 + 0 ≤ _), (by decide : 0 + 0 ≤ _)⟩)
  dsimp only [Pt.U, Pt.locs, Pt.cells, Pt.slots] at X1 l1 y1 z1 st1 hQ1
  subst l1 y1 z1
  obtain ⟨rfl, N1q, e1⟩ := hQ1
  have N1 := Fr.app N0 N1q
  obtain ⟨fs, hr, hrun, hended, hW, hsame⟩ := X1.leave (v := some (.int (1 : Int32))) (fun h => by rw [Bd.returns] at h; cases h)
  refine ⟨_, _, pre0 _ ?_, hrun, hended, _, _, rfl, ?_, ⟨_, rfl⟩, hW, hsame.mono (by decide) (by decide)⟩
  · show Steps p.tables e below (s₁.setTop (mkF m 0 #[.val (.long q0_), .second, .val (.int p1_), .val (.int p2_), .unset, .unset, .unset, .unset, .unset, .unset, .unset, .unset] [])) _
    refine X0.ldc2Long hx hown (mvT hZ (hw _ (List.mem_of_getElem? (i := 0) rfl))) (g := (mkF m 0 #[.val (.long q0_), .second, .val (.int p1_), .val (.int p2_), .unset, .unset, .unset, .unset, .unset, .unset, .unset, .unset] [])) rfl (hb hby at_0) _ ?_
    show Steps p.tables e below (s₁.setTop (mkF m 3 #[.val (.long q0_), .second, .val (.int p1_), .val (.int p2_), .unset, .unset, .unset, .unset, .unset, .unset, .unset, .unset] [(.long (-62167219200000 : Int64))])) _
    refine XS.lstore X0.here hx rfl (hb hby at_3) rfl (l' := #[.val (.long q0_), .second, .val (.int p1_), .val (.int p2_), .val (.long (-62167219200000 : Int64)), .second, .unset, .unset, .unset, .unset, .unset, .unset]) rfl ?_
    show Steps p.tables e below (s₁.setTop (mkF m 5 #[.val (.long q0_), .second, .val (.int p1_), .val (.int p2_), .val (.long (-62167219200000 : Int64)), .second, .unset, .unset, .unset, .unset, .unset, .unset] [])) _
    refine X0.ldc2Long hx hown (mvT hZ (hw _ (List.mem_of_getElem? (i := 1) rfl))) (g := (mkF m 5 #[.val (.long q0_), .second, .val (.int p1_), .val (.int p2_), .val (.long (-62167219200000 : Int64)), .second, .unset, .unset, .unset, .unset, .unset, .unset] [])) rfl (hb hby at_5) _ ?_
    show Steps p.tables e below (s₁.setTop (mkF m 8 #[.val (.long q0_), .second, .val (.int p1_), .val (.int p2_), .val (.long (-62167219200000 : Int64)), .second, .unset, .unset, .unset, .unset, .unset, .unset] [(.long (253402300799999 : Int64))])) _
    refine XS.lstore X0.here hx rfl (hb hby at_8) rfl (l' := #[.val (.long q0_), .second, .val (.int p1_), .val (.int p2_), .val (.long (-62167219200000 : Int64)), .second, .val (.long (253402300799999 : Int64)), .second, .unset, .unset, .unset, .unset]) rfl ?_
    show Steps p.tables e below (s₁.setTop (mkF m 10 #[.val (.long q0_), .second, .val (.int p1_), .val (.int p2_), .val (.long (-62167219200000 : Int64)), .second, .val (.long (253402300799999 : Int64)), .second, .unset, .unset, .unset, .unset] [])) _
    refine XS.iloadN X0.here hx rfl (hb hby at_10) rfl ?_
    show Steps p.tables e below (s₁.setTop (mkF m 11 #[.val (.long q0_), .second, .val (.int p1_), .val (.int p2_), .val (.long (-62167219200000 : Int64)), .second, .val (.long (253402300799999 : Int64)), .second, .unset, .unset, .unset, .unset] [(.int p2_)])) _
    refine XS.iconst X0.here hx rfl (hb hby at_11) ?_
    show Steps p.tables e below (s₁.setTop (mkF m 12 #[.val (.long q0_), .second, .val (.int p1_), .val (.int p2_), .val (.long (-62167219200000 : Int64)), .second, .val (.long (253402300799999 : Int64)), .second, .unset, .unset, .unset, .unset] [(.int (3 : Int32)), (.int p2_)])) _
    refine XS.iand X0.here hx rfl (hb hby at_12) rfl ?_
    show Steps p.tables e below (s₁.setTop (mkF m 13 #[.val (.long q0_), .second, .val (.int p1_), .val (.int p2_), .val (.long (-62167219200000 : Int64)), .second, .val (.long (253402300799999 : Int64)), .second, .unset, .unset, .unset, .unset] [(.int (p2_ &&& (3 : Int32)))])) _
    rw [hf0]
    show Steps p.tables e below (s₁.setTop (mkF m 13 #[.val (.long q0_), .second, .val (.int p1_), .val (.int p2_), .val (.long (-62167219200000 : Int64)), .second, .val (.long (253402300799999 : Int64)), .second, .unset, .unset, .unset, .unset] [(.int (0 : Int32))])) _
    refine XS.istore X0.here hx rfl (hb hby at_13) rfl (l' := #[.val (.long q0_), .second, .val (.int p1_), .val (.int p2_), .val (.long (-62167219200000 : Int64)), .second, .val (.long (253402300799999 : Int64)), .second, .val (.int (0 : Int32)), .unset, .unset, .unset]) rfl ?_
    show Steps p.tables e below (s₁.setTop (mkF m 15 #[.val (.long q0_), .second, .val (.int p1_), .val (.int p2_), .val (.long (-62167219200000 : Int64)), .second, .val (.long (253402300799999 : Int64)), .second, .val (.int (0 : Int32)), .unset, .unset, .unset] [])) _
    refine XS.iload X0.here hx rfl (hb hby at_15) rfl ?_
    show Steps p.tables e below (s₁.setTop (mkF m 17 #[.val (.long q0_), .second, .val (.int p1_), .val (.int p2_), .val (.long (-62167219200000 : Int64)), .second, .val (.long (253402300799999 : Int64)), .second, .val (.int (0 : Int32)), .unset, .unset, .unset] [(.int (0 : Int32))])) _
    refine XS.ifNo X0.here hx rfl (hb hby at_17) rfl ((if0 _ _).trans (teq (rfl : (0 : Int32) = (0 : Int32))).2) ?_
    show Steps p.tables e below (s₁.setTop (mkF m 20 #[.val (.long q0_), .second, .val (.int p1_), .val (.int p2_), .val (.long (-62167219200000 : Int64)), .second, .val (.long (253402300799999 : Int64)), .second, .val (.int (0 : Int32)), .unset, .unset, .unset] [])) _
    refine XS.lloadN X0.here hx rfl (hb hby at_20) rfl ?_
    show Steps p.tables e below (s₁.setTop (mkF m 21 #[.val (.long q0_), .second, .val (.int p1_), .val (.int p2_), .val (.long (-62167219200000 : Int64)), .second, .val (.long (253402300799999 : Int64)), .second, .val (.int (0 : Int32)), .unset, .unset, .unset] [(.long q0_)])) _
    refine XS.lstore X0.here hx rfl (hb hby at_21) rfl (l' := #[.val (.long q0_), .second, .val (.int p1_), .val (.int p2_), .val (.long (-62167219200000 : Int64)), .second, .val (.long (253402300799999 : Int64)), .second, .val (.int (0 : Int32)), .val (.long q0_), .second, .unset]) rfl ?_
    show Steps p.tables e below (s₁.setTop (mkF m 23 #[.val (.long q0_), .second, .val (.int p1_), .val (.int p2_), .val (.long (-62167219200000 : Int64)), .second, .val (.long (253402300799999 : Int64)), .second, .val (.int (0 : Int32)), .val (.long q0_), .second, .unset] [])) _
    refine XS.goto X0.here hx rfl (pc0 := 23) (pc' := 62) rfl (hb hby at_23) (by decide) (by decide) ?_
    show Steps p.tables e below (s₁.setTop (mkF m 62 #[.val (.long q0_), .second, .val (.int p1_), .val (.int p2_), .val (.long (-62167219200000 : Int64)), .second, .val (.long (253402300799999 : Int64)), .second, .val (.int (0 : Int32)), .val (.long q0_), .second, .unset] [])) _
    refine XS.lload X0.here hx rfl (hb hby at_62) rfl ?_
    show Steps p.tables e below (s₁.setTop (mkF m 64 #[.val (.long q0_), .second, .val (.int p1_), .val (.int p2_), .val (.long (-62167219200000 : Int64)), .second, .val (.long (253402300799999 : Int64)), .second, .val (.int (0 : Int32)), .val (.long q0_), .second, .unset] [(.long (-62167219200000 : Int64))])) _
    refine XS.lload X0.here hx rfl (hb hby at_64) rfl ?_
    show Steps p.tables e below (s₁.setTop (mkF m 66 #[.val (.long q0_), .second, .val (.int p1_), .val (.int p2_), .val (.long (-62167219200000 : Int64)), .second, .val (.long (253402300799999 : Int64)), .second, .val (.int (0 : Int32)), .val (.long q0_), .second, .unset] [(.long q0_), (.long (-62167219200000 : Int64))])) _
    refine XS.lcmp X0.here hx rfl (hb hby at_66) rfl ?_
    show Steps p.tables e below (s₁.setTop (mkF m 67 #[.val (.long q0_), .second, .val (.int p1_), .val (.int p2_), .val (.long (-62167219200000 : Int64)), .second, .val (.long (253402300799999 : Int64)), .second, .val (.int (0 : Int32)), .val (.long q0_), .second, .unset] [(.int (lcmpW (-62167219200000 : Int64) q0_))])) _
    refine XS.ifNo X0.here hx rfl (hb hby at_67) rfl ((if0 _ _).trans (flt hf1).2.2.1) ?_
    show Steps p.tables e below (s₁.setTop (mkF m 70 #[.val (.long q0_), .second, .val (.int p1_), .val (.int p2_), .val (.long (-62167219200000 : Int64)), .second, .val (.long (253402300799999 : Int64)), .second, .val (.int (0 : Int32)), .val (.long q0_), .second, .unset] [])) _
    refine XS.lload X0.here hx rfl (hb hby at_70) rfl ?_
    show Steps p.tables e below (s₁.setTop (mkF m 72 #[.val (.long q0_), .second, .val (.int p1_), .val (.int p2_), .val (.long (-62167219200000 : Int64)), .second, .val (.long (253402300799999 : Int64)), .second, .val (.int (0 : Int32)), .val (.long q0_), .second, .unset] [(.long q0_)])) _
    refine XS.lload X0.here hx rfl (hb hby at_72) rfl ?_
    show Steps p.tables e below (s₁.setTop (mkF m 74 #[.val (.long q0_), .second, .val (.int p1_), .val (.int p2_), .val (.long (-62167219200000 : Int64)), .second, .val (.long (253402300799999 : Int64)), .second, .val (.int (0 : Int32)), .val (.long q0_), .second, .unset] [(.long (253402300799999 : Int64)), (.long q0_)])) _
    refine XS.lcmp X0.here hx rfl (hb hby at_74) rfl ?_
    show Steps p.tables e below (s₁.setTop (mkF m 75 #[.val (.long q0_), .second, .val (.int p1_), .val (.int p2_), .val (.long (-62167219200000 : Int64)), .second, .val (.long (253402300799999 : Int64)), .second, .val (.int (0 : Int32)), .val (.long q0_), .second, .unset] [(.int (lcmpW q0_ (253402300799999 : Int64)))])) _
    refine XS.ifYes X0.here hx rfl (pc0 := 75) (pc' := 82) rfl (hb hby at_75) rfl ((if0 _ _).trans (tlt hf2).2.2.1) (by decide) (by decide) ?_
    show Steps p.tables e below (s₁.setTop (mkF m 82 #[.val (.long q0_), .second, .val (.int p1_), .val (.int p2_), .val (.long (-62167219200000 : Int64)), .second, .val (.long (253402300799999 : Int64)), .second, .val (.int (0 : Int32)), .val (.long q0_), .second, .unset] [])) _
    refine XS.iconst X0.here hx rfl (hb hby at_82) ?_
    show Steps p.tables e below (s₁.setTop (mkF m 83 #[.val (.long q0_), .second, .val (.int p1_), .val (.int p2_), .val (.long (-62167219200000 : Int64)), .second, .val (.long (253402300799999 : Int64)), .second, .val (.int (0 : Int32)), .val (.long q0_), .second, .unset] [(.int (0 : Int32))])) _
    refine XS.istore X0.here hx rfl (hb hby at_83) rfl (l' := #[.val (.long q0_), .second, .val (.int p1_), .val (.int p2_), .val (.long (-62167219200000 : Int64)), .second, .val (.long (253402300799999 : Int64)), .second, .val (.int (0 : Int32)), .val (.long q0_), .second, .val (.int (0 : Int32))]) rfl ?_
    show Steps p.tables e below (s₁.setTop (mkF m 85 #[.val (.long q0_), .second, .val (.int p1_), .val (.int p2_), .val (.long (-62167219200000 : Int64)), .second, .val (.long (253402300799999 : Int64)), .second, .val (.int (0 : Int32)), .val (.long q0_), .second, .val (.int (0 : Int32))] [])) _
    refine XS.lload X0.here hx rfl (hb hby at_85) rfl ?_
    show Steps p.tables e below (s₁.setTop (mkF m 87 #[.val (.long q0_), .second, .val (.int p1_), .val (.int p2_), .val (.long (-62167219200000 : Int64)), .second, .val (.long (253402300799999 : Int64)), .second, .val (.int (0 : Int32)), .val (.long q0_), .second, .val (.int (0 : Int32))] [(.long q0_)])) _
    refine st1 _ ?_
    show Steps p.tables e below (T1.setTop (mkF m 90 #[.val (.long q0_), .second, .val (.int p1_), .val (.int p2_), .val (.long (-62167219200000 : Int64)), .second, .val (.long (253402300799999 : Int64)), .second, .val (.int (0 : Int32)), .val (.long q0_), .second, .val (.int (0 : Int32))] [(.int (0 : Int32))])) _
    refine XS.iload X1.here hx rfl (hb hby at_90) rfl ?_
    show Steps p.tables e below (T1.setTop (mkF m 92 #[.val (.long q0_), .second, .val (.int p1_), .val (.int p2_), .val (.long (-62167219200000 : Int64)), .second, .val (.long (253402300799999 : Int64)), .second, .val (.int (0 : Int32)), .val (.long q0_), .second, .val (.int (0 : Int32))] [(.int (0 : Int32)), (.int (0 : Int32))])) _
    refine XS.icmpNo X1.here hx rfl (hb hby at_92) rfl (teq (rfl : (0 : Int32) = (0 : Int32))).2 ?_
    show Steps p.tables e below (T1.setTop (mkF m 95 #[.val (.long q0_), .second, .val (.int p1_), .val (.int p2_), .val (.long (-62167219200000 : Int64)), .second, .val (.long (253402300799999 : Int64)), .second, .val (.int (0 : Int32)), .val (.long q0_), .second, .val (.int (0 : Int32))] [])) _
    refine XS.iconst X1.here hx rfl (hb hby at_95) ?_
    show Steps p.tables e below (T1.setTop (mkF m 96 #[.val (.long q0_), .second, .val (.int p1_), .val (.int p2_), .val (.long (-62167219200000 : Int64)), .second, .val (.long (253402300799999 : Int64)), .second, .val (.int (0 : Int32)), .val (.long q0_), .second, .val (.int (0 : Int32))] [(.int (1 : Int32))])) _
    refine XS.goto X1.here hx rfl (pc0 := 96) (pc' := 100) rfl (hb hby at_96) (by decide) (by decide) ?_
    show Steps p.tables e below (T1.setTop (mkF m 100 #[.val (.long q0_), .second, .val (.int p1_), .val (.int p2_), .val (.long (-62167219200000 : Int64)), .second, .val (.long (253402300799999 : Int64)), .second, .val (.int (0 : Int32)), .val (.long q0_), .second, .val (.int (0 : Int32))] [(.int (1 : Int32))])) _
    exact retN X1 hx (t := .boolean) Bd.returns (by simp) (hb hby at_100) hr
  · show own_QL n0 _ T1.heap _
    exact ⟨rfl, N1⟩
set_option maxRecDepth 65536 in
set_option maxHeartbeats 40000000 in
theorem own_law0i (l : Launch) (Z : State) (a0 : Array Value) (hw : ∀ d ∈ tables_1, d.before a0 Z = true) (ws : List Jvm.Cond) (q0_ : Int64) (p1_ : Int32) (p2_ : Int32) (h0 : Heap) (n0 : Nat) (Z0 : n0 ≤ h0.size) (S_MIN_MILLIS : Sta Z h0 "com/example/tidewell/tidewell/types/Timestamps" "MIN_MILLIS" "J" (.long (-62167219200000 : Int64))) (S_MAX_MILLIS : Sta Z h0 "com/example/tidewell/tidewell/types/Timestamps" "MAX_MILLIS" "J" (.long (253402300799999 : Int64))) (hf0 : (p2_ &&& (3 : Int32)) = (0 : Int32)) (hf1 : ¬ ((0 : Int32) < (lcmpW (-62167219200000 : Int64) q0_))) (hf2 : ¬ ((0 : Int32) < (lcmpW q0_ (253402300799999 : Int64)))) (hf3 : ¬ ((lcmpW q0_ (-62167219200000 : Int64)) < (0 : Int32))) :
    MetFree l x (head1 (Jvm.Cond.code x code maxLocals ret :: ws) room_1) (fun a U => a = #[(.long q0_), (.int p1_), (.int p2_)] ∧ Z.Warmed39 U.vm ∧ U.heap = h0) (fun _ _ _ _ _ => True) (fun _ U o U' => ∃ v L, o = .returned v ∧ own_QL n0 v U'.heap L ∧ FrameEnd U o U' L room_1.cells room_1.slots) := by
  refine MetFree.of_bodySF (plainFor_of_name own_pn1) hisR ?_
  intro p e s m args below meth c s₁ Bd hml0 hP hK
  obtain ⟨rfl, hZ, hh⟩ := hP
  have hx := Bd.exec
  have hby := Bd.bytes
  have hml : c.maxLocals = 12 := hml0
  have hown : s.vm.findClass "com/example/tidewell/tidewell/types/TimestampsInRangePinLaw" = some m.cls := findClass_of_methodNamed Bd.named
  have hnm := (name_of_methodNamed Bd.named Bd.method).1
  have X0 : Stand p l e room_1 s m #[(.long q0_), (.int p1_), (.int p2_)] below meth c s₁ [] 0 0 := Stand.of_body Bd
  have e0 : s₁.heap = h0 := by rw [← hh, Bd.state]; rfl
  have N0 := Fr.nil n0
  have pre0 : ∀ t, Steps p.tables e below (s₁.setTop (mkF m 0 #[.val (.long q0_), .second, .val (.int p1_), .val (.int p2_), .unset, .unset, .unset, .unset, .unset, .unset, .unset, .unset] [])) t → Steps p.tables e below (s₁.setTop (entryFrame m #[(.long q0_), (.int p1_), (.int p2_)] maxLocals)) t := fun t k => castTop (own_ef1 m q0_ p1_ p2_) k
  obtain ⟨_, _, ⟨T1, L1, k1, n1⟩, -, X1, ⟨Lc1, hQ1, l1, y1, z1⟩, st1⟩ := Jvm.LawKit.callS X0 hx (y := (⟨"com/example/tidewell/tidewell/types/Timestamps", "inRange", "(J)Z"⟩ : MethodName)) hown (mvT hZ (hw _ (List.mem_of_getElem? (i := 2) rfl))) (mvT hZ (hw _ (List.mem_of_getElem? (i := 3) rfl))) (mvT hZ (hw _ (List.mem_of_getElem? (i := 4) rfl))) (mvT hZ (hw _ (List.mem_of_getElem? (i := 5) rfl))) (by decide) (backOf (W := 0) (own_b1_ff l Z a0 hw [] q0_ (-62167219200000 : Int64) (253402300799999 : Int64) h0 n0 Z0 S_MIN_MILLIS S_MAX_MILLIS hf3 hf2) hZ (hw _ (List.mem_of_getElem? (i := 5) rfl)) (hw _ (List.mem_of_getElem? (i := 4) rfl)) (by decide) (by decide)) (g := (mkF m 87 #[.val (.long q0_), .second, .val (.int p1_), .val (.int p2_), .val (.long (-62167219200000 : Int64)), .second, .val (.long (253402300799999 : Int64)), .second, .val (.int (0 : Int32)), .val (.long q0_), .second, .val (.int (1 : Int32))] [(.long q0_)])) rfl (by rw [hml]; rfl) (argsL := [(.long q0_)]) (rest := []) (lenOf own_pd0 rfl) rfl (by show 2 * 0 + _ ≤ _; exact Nat.le_of_eq rfl) (hb hby at_87) (fun _ _ => ⟨rfl, e0, (by decide : 0 + 0 ≤ _), (by decide : 0 + 0 ≤ _)⟩)
  dsimp only [Pt.U, Pt.locs, Pt.cells, Pt.slots] at X1 l1 y1 z1 st1 hQ1
  subst l1 y1 z1
  obtain ⟨rfl, N1q, e1⟩ := hQ1
  have N1 := Fr.app N0 N1q
  obtain ⟨fs, hr, hrun, hended, hW, hsame⟩ := X1.leave (v := some (.int (1 : Int32))) (fun h => by rw [Bd.returns] at h; cases h)
  refine ⟨_, _, pre0 _ ?_, hrun, hended, _, _, rfl, ?_, ⟨_, rfl⟩, hW, hsame.mono (by decide) (by decide)⟩
  · show Steps p.tables e below (s₁.setTop (mkF m 0 #[.val (.long q0_), .second, .val (.int p1_), .val (.int p2_), .unset, .unset, .unset, .unset, .unset, .unset, .unset, .unset] [])) _
    refine X0.ldc2Long hx hown (mvT hZ (hw _ (List.mem_of_getElem? (i := 0) rfl))) (g := (mkF m 0 #[.val (.long q0_), .second, .val (.int p1_), .val (.int p2_), .unset, .unset, .unset, .unset, .unset, .unset, .unset, .unset] [])) rfl (hb hby at_0) _ ?_
    show Steps p.tables e below (s₁.setTop (mkF m 3 #[.val (.long q0_), .second, .val (.int p1_), .val (.int p2_), .unset, .unset, .unset, .unset, .unset, .unset, .unset, .unset] [(.long (-62167219200000 : Int64))])) _
    refine XS.lstore X0.here hx rfl (hb hby at_3) rfl (l' := #[.val (.long q0_), .second, .val (.int p1_), .val (.int p2_), .val (.long (-62167219200000 : Int64)), .second, .unset, .unset, .unset, .unset, .unset, .unset]) rfl ?_
    show Steps p.tables e below (s₁.setTop (mkF m 5 #[.val (.long q0_), .second, .val (.int p1_), .val (.int p2_), .val (.long (-62167219200000 : Int64)), .second, .unset, .unset, .unset, .unset, .unset, .unset] [])) _
    refine X0.ldc2Long hx hown (mvT hZ (hw _ (List.mem_of_getElem? (i := 1) rfl))) (g := (mkF m 5 #[.val (.long q0_), .second, .val (.int p1_), .val (.int p2_), .val (.long (-62167219200000 : Int64)), .second, .unset, .unset, .unset, .unset, .unset, .unset] [])) rfl (hb hby at_5) _ ?_
    show Steps p.tables e below (s₁.setTop (mkF m 8 #[.val (.long q0_), .second, .val (.int p1_), .val (.int p2_), .val (.long (-62167219200000 : Int64)), .second, .unset, .unset, .unset, .unset, .unset, .unset] [(.long (253402300799999 : Int64))])) _
    refine XS.lstore X0.here hx rfl (hb hby at_8) rfl (l' := #[.val (.long q0_), .second, .val (.int p1_), .val (.int p2_), .val (.long (-62167219200000 : Int64)), .second, .val (.long (253402300799999 : Int64)), .second, .unset, .unset, .unset, .unset]) rfl ?_
    show Steps p.tables e below (s₁.setTop (mkF m 10 #[.val (.long q0_), .second, .val (.int p1_), .val (.int p2_), .val (.long (-62167219200000 : Int64)), .second, .val (.long (253402300799999 : Int64)), .second, .unset, .unset, .unset, .unset] [])) _
    refine XS.iloadN X0.here hx rfl (hb hby at_10) rfl ?_
    show Steps p.tables e below (s₁.setTop (mkF m 11 #[.val (.long q0_), .second, .val (.int p1_), .val (.int p2_), .val (.long (-62167219200000 : Int64)), .second, .val (.long (253402300799999 : Int64)), .second, .unset, .unset, .unset, .unset] [(.int p2_)])) _
    refine XS.iconst X0.here hx rfl (hb hby at_11) ?_
    show Steps p.tables e below (s₁.setTop (mkF m 12 #[.val (.long q0_), .second, .val (.int p1_), .val (.int p2_), .val (.long (-62167219200000 : Int64)), .second, .val (.long (253402300799999 : Int64)), .second, .unset, .unset, .unset, .unset] [(.int (3 : Int32)), (.int p2_)])) _
    refine XS.iand X0.here hx rfl (hb hby at_12) rfl ?_
    show Steps p.tables e below (s₁.setTop (mkF m 13 #[.val (.long q0_), .second, .val (.int p1_), .val (.int p2_), .val (.long (-62167219200000 : Int64)), .second, .val (.long (253402300799999 : Int64)), .second, .unset, .unset, .unset, .unset] [(.int (p2_ &&& (3 : Int32)))])) _
    rw [hf0]
    show Steps p.tables e below (s₁.setTop (mkF m 13 #[.val (.long q0_), .second, .val (.int p1_), .val (.int p2_), .val (.long (-62167219200000 : Int64)), .second, .val (.long (253402300799999 : Int64)), .second, .unset, .unset, .unset, .unset] [(.int (0 : Int32))])) _
    refine XS.istore X0.here hx rfl (hb hby at_13) rfl (l' := #[.val (.long q0_), .second, .val (.int p1_), .val (.int p2_), .val (.long (-62167219200000 : Int64)), .second, .val (.long (253402300799999 : Int64)), .second, .val (.int (0 : Int32)), .unset, .unset, .unset]) rfl ?_
    show Steps p.tables e below (s₁.setTop (mkF m 15 #[.val (.long q0_), .second, .val (.int p1_), .val (.int p2_), .val (.long (-62167219200000 : Int64)), .second, .val (.long (253402300799999 : Int64)), .second, .val (.int (0 : Int32)), .unset, .unset, .unset] [])) _
    refine XS.iload X0.here hx rfl (hb hby at_15) rfl ?_
    show Steps p.tables e below (s₁.setTop (mkF m 17 #[.val (.long q0_), .second, .val (.int p1_), .val (.int p2_), .val (.long (-62167219200000 : Int64)), .second, .val (.long (253402300799999 : Int64)), .second, .val (.int (0 : Int32)), .unset, .unset, .unset] [(.int (0 : Int32))])) _
    refine XS.ifNo X0.here hx rfl (hb hby at_17) rfl ((if0 _ _).trans (teq (rfl : (0 : Int32) = (0 : Int32))).2) ?_
    show Steps p.tables e below (s₁.setTop (mkF m 20 #[.val (.long q0_), .second, .val (.int p1_), .val (.int p2_), .val (.long (-62167219200000 : Int64)), .second, .val (.long (253402300799999 : Int64)), .second, .val (.int (0 : Int32)), .unset, .unset, .unset] [])) _
    refine XS.lloadN X0.here hx rfl (hb hby at_20) rfl ?_
    show Steps p.tables e below (s₁.setTop (mkF m 21 #[.val (.long q0_), .second, .val (.int p1_), .val (.int p2_), .val (.long (-62167219200000 : Int64)), .second, .val (.long (253402300799999 : Int64)), .second, .val (.int (0 : Int32)), .unset, .unset, .unset] [(.long q0_)])) _
    refine XS.lstore X0.here hx rfl (hb hby at_21) rfl (l' := #[.val (.long q0_), .second, .val (.int p1_), .val (.int p2_), .val (.long (-62167219200000 : Int64)), .second, .val (.long (253402300799999 : Int64)), .second, .val (.int (0 : Int32)), .val (.long q0_), .second, .unset]) rfl ?_
    show Steps p.tables e below (s₁.setTop (mkF m 23 #[.val (.long q0_), .second, .val (.int p1_), .val (.int p2_), .val (.long (-62167219200000 : Int64)), .second, .val (.long (253402300799999 : Int64)), .second, .val (.int (0 : Int32)), .val (.long q0_), .second, .unset] [])) _
    refine XS.goto X0.here hx rfl (pc0 := 23) (pc' := 62) rfl (hb hby at_23) (by decide) (by decide) ?_
    show Steps p.tables e below (s₁.setTop (mkF m 62 #[.val (.long q0_), .second, .val (.int p1_), .val (.int p2_), .val (.long (-62167219200000 : Int64)), .second, .val (.long (253402300799999 : Int64)), .second, .val (.int (0 : Int32)), .val (.long q0_), .second, .unset] [])) _
    refine XS.lload X0.here hx rfl (hb hby at_62) rfl ?_
    show Steps p.tables e below (s₁.setTop (mkF m 64 #[.val (.long q0_), .second, .val (.int p1_), .val (.int p2_), .val (.long (-62167219200000 : Int64)), .second, .val (.long (253402300799999 : Int64)), .second, .val (.int (0 : Int32)), .val (.long q0_), .second, .unset] [(.long (-62167219200000 : Int64))])) _
    refine XS.lload X0.here hx rfl (hb hby at_64) rfl ?_
    show Steps p.tables e below (s₁.setTop (mkF m 66 #[.val (.long q0_), .second, .val (.int p1_), .val (.int p2_), .val (.long (-62167219200000 : Int64)), .second, .val (.long (253402300799999 : Int64)), .second, .val (.int (0 : Int32)), .val (.long q0_), .second, .unset] [(.long q0_), (.long (-62167219200000 : Int64))])) _
    refine XS.lcmp X0.here hx rfl (hb hby at_66) rfl ?_
    show Steps p.tables e below (s₁.setTop (mkF m 67 #[.val (.long q0_), .second, .val (.int p1_), .val (.int p2_), .val (.long (-62167219200000 : Int64)), .second, .val (.long (253402300799999 : Int64)), .second, .val (.int (0 : Int32)), .val (.long q0_), .second, .unset] [(.int (lcmpW (-62167219200000 : Int64) q0_))])) _
    refine XS.ifNo X0.here hx rfl (hb hby at_67) rfl ((if0 _ _).trans (flt hf1).2.2.1) ?_
    show Steps p.tables e below (s₁.setTop (mkF m 70 #[.val (.long q0_), .second, .val (.int p1_), .val (.int p2_), .val (.long (-62167219200000 : Int64)), .second, .val (.long (253402300799999 : Int64)), .second, .val (.int (0 : Int32)), .val (.long q0_), .second, .unset] [])) _
    refine XS.lload X0.here hx rfl (hb hby at_70) rfl ?_
    show Steps p.tables e below (s₁.setTop (mkF m 72 #[.val (.long q0_), .second, .val (.int p1_), .val (.int p2_), .val (.long (-62167219200000 : Int64)), .second, .val (.long (253402300799999 : Int64)), .second, .val (.int (0 : Int32)), .val (.long q0_), .second, .unset] [(.long q0_)])) _
    refine XS.lload X0.here hx rfl (hb hby at_72) rfl ?_
    show Steps p.tables e below (s₁.setTop (mkF m 74 #[.val (.long q0_), .second, .val (.int p1_), .val (.int p2_), .val (.long (-62167219200000 : Int64)), .second, .val (.long (253402300799999 : Int64)), .second, .val (.int (0 : Int32)), .val (.long q0_), .second, .unset] [(.long (253402300799999 : Int64)), (.long q0_)])) _
    refine XS.lcmp X0.here hx rfl (hb hby at_74) rfl ?_
    show Steps p.tables e below (s₁.setTop (mkF m 75 #[.val (.long q0_), .second, .val (.int p1_), .val (.int p2_), .val (.long (-62167219200000 : Int64)), .second, .val (.long (253402300799999 : Int64)), .second, .val (.int (0 : Int32)), .val (.long q0_), .second, .unset] [(.int (lcmpW q0_ (253402300799999 : Int64)))])) _
    refine XS.ifNo X0.here hx rfl (hb hby at_75) rfl ((if0 _ _).trans (flt hf2).2.2.1) ?_
    show Steps p.tables e below (s₁.setTop (mkF m 78 #[.val (.long q0_), .second, .val (.int p1_), .val (.int p2_), .val (.long (-62167219200000 : Int64)), .second, .val (.long (253402300799999 : Int64)), .second, .val (.int (0 : Int32)), .val (.long q0_), .second, .unset] [])) _
    refine XS.iconst X0.here hx rfl (hb hby at_78) ?_
    show Steps p.tables e below (s₁.setTop (mkF m 79 #[.val (.long q0_), .second, .val (.int p1_), .val (.int p2_), .val (.long (-62167219200000 : Int64)), .second, .val (.long (253402300799999 : Int64)), .second, .val (.int (0 : Int32)), .val (.long q0_), .second, .unset] [(.int (1 : Int32))])) _
    refine XS.goto X0.here hx rfl (pc0 := 79) (pc' := 83) rfl (hb hby at_79) (by decide) (by decide) ?_
    show Steps p.tables e below (s₁.setTop (mkF m 83 #[.val (.long q0_), .second, .val (.int p1_), .val (.int p2_), .val (.long (-62167219200000 : Int64)), .second, .val (.long (253402300799999 : Int64)), .second, .val (.int (0 : Int32)), .val (.long q0_), .second, .unset] [(.int (1 : Int32))])) _
    refine XS.istore X0.here hx rfl (hb hby at_83) rfl (l' := #[.val (.long q0_), .second, .val (.int p1_), .val (.int p2_), .val (.long (-62167219200000 : Int64)), .second, .val (.long (253402300799999 : Int64)), .second, .val (.int (0 : Int32)), .val (.long q0_), .second, .val (.int (1 : Int32))]) rfl ?_
    show Steps p.tables e below (s₁.setTop (mkF m 85 #[.val (.long q0_), .second, .val (.int p1_), .val (.int p2_), .val (.long (-62167219200000 : Int64)), .second, .val (.long (253402300799999 : Int64)), .second, .val (.int (0 : Int32)), .val (.long q0_), .second, .val (.int (1 : Int32))] [])) _
    refine XS.lload X0.here hx rfl (hb hby at_85) rfl ?_
    show Steps p.tables e below (s₁.setTop (mkF m 87 #[.val (.long q0_), .second, .val (.int p1_), .val (.int p2_), .val (.long (-62167219200000 : Int64)), .second, .val (.long (253402300799999 : Int64)), .second, .val (.int (0 : Int32)), .val (.long q0_), .second, .val (.int (1 : Int32))] [(.long q0_)])) _
    refine st1 _ ?_
    show Steps p.tables e below (T1.setTop (mkF m 90 #[.val (.long q0_), .second, .val (.int p1_), .val (.int p2_), .val (.long (-62167219200000 : Int64)), .second, .val (.long (253402300799999 : Int64)), .second, .val (.int (0 : Int32)), .val (.long q0_), .second, .val (.int (1 : Int32))] [(.int (1 : Int32))])) _
    refine XS.iload X1.here hx rfl (hb hby at_90) rfl ?_
    show Steps p.tables e below (T1.setTop (mkF m 92 #[.val (.long q0_), .second, .val (.int p1_), .val (.int p2_), .val (.long (-62167219200000 : Int64)), .second, .val (.long (253402300799999 : Int64)), .second, .val (.int (0 : Int32)), .val (.long q0_), .second, .val (.int (1 : Int32))] [(.int (1 : Int32)), (.int (1 : Int32))])) _
    refine XS.icmpNo X1.here hx rfl (hb hby at_92) rfl (teq (rfl : (1 : Int32) = (1 : Int32))).2 ?_
    show Steps p.tables e below (T1.setTop (mkF m 95 #[.val (.long q0_), .second, .val (.int p1_), .val (.int p2_), .val (.long (-62167219200000 : Int64)), .second, .val (.long (253402300799999 : Int64)), .second, .val (.int (0 : Int32)), .val (.long q0_), .second, .val (.int (1 : Int32))] [])) _
    refine XS.iconst X1.here hx rfl (hb hby at_95) ?_
    show Steps p.tables e below (T1.setTop (mkF m 96 #[.val (.long q0_), .second, .val (.int p1_), .val (.int p2_), .val (.long (-62167219200000 : Int64)), .second, .val (.long (253402300799999 : Int64)), .second, .val (.int (0 : Int32)), .val (.long q0_), .second, .val (.int (1 : Int32))] [(.int (1 : Int32))])) _
    refine XS.goto X1.here hx rfl (pc0 := 96) (pc' := 100) rfl (hb hby at_96) (by decide) (by decide) ?_
    show Steps p.tables e below (T1.setTop (mkF m 100 #[.val (.long q0_), .second, .val (.int p1_), .val (.int p2_), .val (.long (-62167219200000 : Int64)), .second, .val (.long (253402300799999 : Int64)), .second, .val (.int (0 : Int32)), .val (.long q0_), .second, .val (.int (1 : Int32))] [(.int (1 : Int32))])) _
    exact retN X1 hx (t := .boolean) Bd.returns (by simp) (hb hby at_100) hr
  · show own_QL n0 _ T1.heap _
    exact ⟨rfl, N1⟩
set_option maxRecDepth 65536 in
set_option maxHeartbeats 40000000 in
theorem own_law1b (l : Launch) (Z : State) (a0 : Array Value) (hw : ∀ d ∈ tables_1, d.before a0 Z = true) (ws : List Jvm.Cond) (q0_ : Int64) (p1_ : Int32) (p2_ : Int32) (h0 : Heap) (n0 : Nat) (Z0 : n0 ≤ h0.size) (S_MIN_MILLIS : Sta Z h0 "com/example/tidewell/tidewell/types/Timestamps" "MIN_MILLIS" "J" (.long (-62167219200000 : Int64))) (hf0 : (p2_ &&& (3 : Int32)) = (1 : Int32)) (hf1 : (0 : Int32) < (lcmpW (-62167219200000 : Int64) ((-62167219200000 : Int64) + (p1_.toInt64)))) (hf2 : (lcmpW ((-62167219200000 : Int64) + (p1_.toInt64)) (-62167219200000 : Int64)) < (0 : Int32)) :
    MetFree l x (head1 (Jvm.Cond.code x code maxLocals ret :: ws) room_1) (fun a U => a = #[(.long q0_), (.int p1_), (.int p2_)] ∧ Z.Warmed39 U.vm ∧ U.heap = h0) (fun _ _ _ _ _ => True) (fun _ U o U' => ∃ v L, o = .returned v ∧ own_QL n0 v U'.heap L ∧ FrameEnd U o U' L room_1.cells room_1.slots) := by
  refine MetFree.of_bodySF (plainFor_of_name own_pn1) hisR ?_
  intro p e s m args below meth c s₁ Bd hml0 hP hK
  obtain ⟨rfl, hZ, hh⟩ := hP
  have hx := Bd.exec
  have hby := Bd.bytes
  have hml : c.maxLocals = 12 := hml0
  have hown : s.vm.findClass "com/example/tidewell/tidewell/types/TimestampsInRangePinLaw" = some m.cls := findClass_of_methodNamed Bd.named
  have hnm := (name_of_methodNamed Bd.named Bd.method).1
  have X0 : Stand p l e room_1 s m #[(.long q0_), (.int p1_), (.int p2_)] below meth c s₁ [] 0 0 := Stand.of_body Bd
  have e0 : s₁.heap = h0 := by rw [← hh, Bd.state]; rfl
  have N0 := Fr.nil n0
  have pre0 : ∀ t, Steps p.tables e below (s₁.setTop (mkF m 0 #[.val (.long q0_), .second, .val (.int p1_), .val (.int p2_), .unset, .unset, .unset, .unset, .unset, .unset, .unset, .unset] [])) t → Steps p.tables e below (s₁.setTop (entryFrame m #[(.long q0_), (.int p1_), (.int p2_)] maxLocals)) t := fun t k => castTop (own_ef1 m q0_ p1_ p2_) k
  obtain ⟨_, _, ⟨T1, L1, k1, n1⟩, -, X1, ⟨Lc1, hQ1, l1, y1, z1⟩, st1⟩ := Jvm.LawKit.callS X0 hx (y := (⟨"com/example/tidewell/tidewell/types/Timestamps", "inRange", "(J)Z"⟩ : MethodName)) hown (mvT hZ (hw _ (List.mem_of_getElem? (i := 2) rfl))) (mvT hZ (hw _ (List.mem_of_getElem? (i := 3) rfl))) (mvT hZ (hw _ (List.mem_of_getElem? (i := 4) rfl))) (mvT hZ (hw _ (List.mem_of_getElem? (i := 5) rfl))) (by decide) (backOf (W := 0) (own_b1_t l Z a0 hw [] ((-62167219200000 : Int64) + (p1_.toInt64)) (-62167219200000 : Int64) h0 n0 Z0 S_MIN_MILLIS hf2) hZ (hw _ (List.mem_of_getElem? (i := 5) rfl)) (hw _ (List.mem_of_getElem? (i := 4) rfl)) (by decide) (by decide)) (g := (mkF m 87 #[.val (.long q0_), .second, .val (.int p1_), .val (.int p2_), .val (.long (-62167219200000 : Int64)), .second, .val (.long (253402300799999 : Int64)), .second, .val (.int (1 : Int32)), .val (.long ((-62167219200000 : Int64) + (p1_.toInt64))), .second, .val (.int (0 : Int32))] [(.long ((-62167219200000 : Int64) + (p1_.toInt64)))])) rfl (by rw [hml]; rfl) (argsL := [(.long ((-62167219200000 : Int64) + (p1_.toInt64)))]) (rest := []) (lenOf own_pd0 rfl) rfl (by show 2 * 0 + _ ≤ _; exact Nat.le_of_eq rfl) (hb hby at_87) (fun _ _ => ⟨rfl, e0, (by decide : 0 + 0 ≤ _), (by decide : 0 + 0 ≤ _)⟩)
  dsimp only [Pt.U, Pt.locs, Pt.cells, Pt.slots] at X1 l1 y1 z1 st1 hQ1
  subst l1 y1 z1
  obtain ⟨rfl, N1q, e1⟩ := hQ1
  have N1 := Fr.app N0 N1q
  obtain ⟨fs, hr, hrun, hended, hW, hsame⟩ := X1.leave (v := some (.int (1 : Int32))) (fun h => by rw [Bd.returns] at h; cases h)
  refine ⟨_, _, pre0 _ ?_, hrun, hended, _, _, rfl, ?_, ⟨_, rfl⟩, hW, hsame.mono (by decide) (by decide)⟩
  · show Steps p.tables e below (s₁.setTop (mkF m 0 #[.val (.long q0_), .second, .val (.int p1_), .val (.int p2_), .unset, .unset, .unset, .unset, .unset, .unset, .unset, .unset] [])) _
    refine X0.ldc2Long hx hown (mvT hZ (hw _ (List.mem_of_getElem? (i := 0) rfl))) (g := (mkF m 0 #[.val (.long q0_), .second, .val (.int p1_), .val (.int p2_), .unset, .unset, .unset, .unset, .unset, .unset, .unset, .unset] [])) rfl (hb hby at_0) _ ?_
    show Steps p.tables e below (s₁.setTop (mkF m 3 #[.val (.long q0_), .second, .val (.int p1_), .val (.int p2_), .unset, .unset, .unset, .unset, .unset, .unset, .unset, .unset] [(.long (-62167219200000 : Int64))])) _
    refine XS.lstore X0.here hx rfl (hb hby at_3) rfl (l' := #[.val (.long q0_), .second, .val (.int p1_), .val (.int p2_), .val (.long (-62167219200000 : Int64)), .second, .unset, .unset, .unset, .unset, .unset, .unset]) rfl ?_
    show Steps p.tables e below (s₁.setTop (mkF m 5 #[.val (.long q0_), .second, .val (.int p1_), .val (.int p2_), .val (.long (-62167219200000 : Int64)), .second, .unset, .unset, .unset, .unset, .unset, .unset] [])) _
    refine X0.ldc2Long hx hown (mvT hZ (hw _ (List.mem_of_getElem? (i := 1) rfl))) (g := (mkF m 5 #[.val (.long q0_), .second, .val (.int p1_), .val (.int p2_), .val (.long (-62167219200000 : Int64)), .second, .unset, .unset, .unset, .unset, .unset, .unset] [])) rfl (hb hby at_5) _ ?_
    show Steps p.tables e below (s₁.setTop (mkF m 8 #[.val (.long q0_), .second, .val (.int p1_), .val (.int p2_), .val (.long (-62167219200000 : Int64)), .second, .unset, .unset, .unset, .unset, .unset, .unset] [(.long (253402300799999 : Int64))])) _
    refine XS.lstore X0.here hx rfl (hb hby at_8) rfl (l' := #[.val (.long q0_), .second, .val (.int p1_), .val (.int p2_), .val (.long (-62167219200000 : Int64)), .second, .val (.long (253402300799999 : Int64)), .second, .unset, .unset, .unset, .unset]) rfl ?_
    show Steps p.tables e below (s₁.setTop (mkF m 10 #[.val (.long q0_), .second, .val (.int p1_), .val (.int p2_), .val (.long (-62167219200000 : Int64)), .second, .val (.long (253402300799999 : Int64)), .second, .unset, .unset, .unset, .unset] [])) _
    refine XS.iloadN X0.here hx rfl (hb hby at_10) rfl ?_
    show Steps p.tables e below (s₁.setTop (mkF m 11 #[.val (.long q0_), .second, .val (.int p1_), .val (.int p2_), .val (.long (-62167219200000 : Int64)), .second, .val (.long (253402300799999 : Int64)), .second, .unset, .unset, .unset, .unset] [(.int p2_)])) _
    refine XS.iconst X0.here hx rfl (hb hby at_11) ?_
    show Steps p.tables e below (s₁.setTop (mkF m 12 #[.val (.long q0_), .second, .val (.int p1_), .val (.int p2_), .val (.long (-62167219200000 : Int64)), .second, .val (.long (253402300799999 : Int64)), .second, .unset, .unset, .unset, .unset] [(.int (3 : Int32)), (.int p2_)])) _
    refine XS.iand X0.here hx rfl (hb hby at_12) rfl ?_
    show Steps p.tables e below (s₁.setTop (mkF m 13 #[.val (.long q0_), .second, .val (.int p1_), .val (.int p2_), .val (.long (-62167219200000 : Int64)), .second, .val (.long (253402300799999 : Int64)), .second, .unset, .unset, .unset, .unset] [(.int (p2_ &&& (3 : Int32)))])) _
    rw [hf0]
    show Steps p.tables e below (s₁.setTop (mkF m 13 #[.val (.long q0_), .second, .val (.int p1_), .val (.int p2_), .val (.long (-62167219200000 : Int64)), .second, .val (.long (253402300799999 : Int64)), .second, .unset, .unset, .unset, .unset] [(.int (1 : Int32))])) _
    refine XS.istore X0.here hx rfl (hb hby at_13) rfl (l' := #[.val (.long q0_), .second, .val (.int p1_), .val (.int p2_), .val (.long (-62167219200000 : Int64)), .second, .val (.long (253402300799999 : Int64)), .second, .val (.int (1 : Int32)), .unset, .unset, .unset]) rfl ?_
    show Steps p.tables e below (s₁.setTop (mkF m 15 #[.val (.long q0_), .second, .val (.int p1_), .val (.int p2_), .val (.long (-62167219200000 : Int64)), .second, .val (.long (253402300799999 : Int64)), .second, .val (.int (1 : Int32)), .unset, .unset, .unset] [])) _
    refine XS.iload X0.here hx rfl (hb hby at_15) rfl ?_
    show Steps p.tables e below (s₁.setTop (mkF m 17 #[.val (.long q0_), .second, .val (.int p1_), .val (.int p2_), .val (.long (-62167219200000 : Int64)), .second, .val (.long (253402300799999 : Int64)), .second, .val (.int (1 : Int32)), .unset, .unset, .unset] [(.int (1 : Int32))])) _
    refine XS.ifYes X0.here hx rfl (pc0 := 17) (pc' := 26) rfl (hb hby at_17) rfl ((if0 _ _).trans (feq (by decide : ¬ ((1 : Int32) = (0 : Int32)))).2) (by decide) (by decide) ?_
    show Steps p.tables e below (s₁.setTop (mkF m 26 #[.val (.long q0_), .second, .val (.int p1_), .val (.int p2_), .val (.long (-62167219200000 : Int64)), .second, .val (.long (253402300799999 : Int64)), .second, .val (.int (1 : Int32)), .unset, .unset, .unset] [])) _
    refine XS.iload X0.here hx rfl (hb hby at_26) rfl ?_
    show Steps p.tables e below (s₁.setTop (mkF m 28 #[.val (.long q0_), .second, .val (.int p1_), .val (.int p2_), .val (.long (-62167219200000 : Int64)), .second, .val (.long (253402300799999 : Int64)), .second, .val (.int (1 : Int32)), .unset, .unset, .unset] [(.int (1 : Int32))])) _
    refine XS.iconst X0.here hx rfl (hb hby at_28) ?_
    show Steps p.tables e below (s₁.setTop (mkF m 29 #[.val (.long q0_), .second, .val (.int p1_), .val (.int p2_), .val (.long (-62167219200000 : Int64)), .second, .val (.long (253402300799999 : Int64)), .second, .val (.int (1 : Int32)), .unset, .unset, .unset] [(.int (1 : Int32)), (.int (1 : Int32))])) _
    refine XS.icmpNo X0.here hx rfl (hb hby at_29) rfl (teq (rfl : (1 : Int32) = (1 : Int32))).2 ?_
    show Steps p.tables e below (s₁.setTop (mkF m 32 #[.val (.long q0_), .second, .val (.int p1_), .val (.int p2_), .val (.long (-62167219200000 : Int64)), .second, .val (.long (253402300799999 : Int64)), .second, .val (.int (1 : Int32)), .unset, .unset, .unset] [])) _
    refine XS.lload X0.here hx rfl (hb hby at_32) rfl ?_
    show Steps p.tables e below (s₁.setTop (mkF m 34 #[.val (.long q0_), .second, .val (.int p1_), .val (.int p2_), .val (.long (-62167219200000 : Int64)), .second, .val (.long (253402300799999 : Int64)), .second, .val (.int (1 : Int32)), .unset, .unset, .unset] [(.long (-62167219200000 : Int64))])) _
    refine XS.iloadN X0.here hx rfl (hb hby at_34) rfl ?_
    show Steps p.tables e below (s₁.setTop (mkF m 35 #[.val (.long q0_), .second, .val (.int p1_), .val (.int p2_), .val (.long (-62167219200000 : Int64)), .second, .val (.long (253402300799999 : Int64)), .second, .val (.int (1 : Int32)), .unset, .unset, .unset] [(.int p1_), (.long (-62167219200000 : Int64))])) _
    refine XS.i2l X0.here hx rfl (hb hby at_35) rfl ?_
    show Steps p.tables e below (s₁.setTop (mkF m 36 #[.val (.long q0_), .second, .val (.int p1_), .val (.int p2_), .val (.long (-62167219200000 : Int64)), .second, .val (.long (253402300799999 : Int64)), .second, .val (.int (1 : Int32)), .unset, .unset, .unset] [(.long (p1_.toInt64)), (.long (-62167219200000 : Int64))])) _
    refine XS.ladd X0.here hx rfl (hb hby at_36) rfl ?_
    show Steps p.tables e below (s₁.setTop (mkF m 37 #[.val (.long q0_), .second, .val (.int p1_), .val (.int p2_), .val (.long (-62167219200000 : Int64)), .second, .val (.long (253402300799999 : Int64)), .second, .val (.int (1 : Int32)), .unset, .unset, .unset] [(.long ((-62167219200000 : Int64) + (p1_.toInt64)))])) _
    refine XS.lstore X0.here hx rfl (hb hby at_37) rfl (l' := #[.val (.long q0_), .second, .val (.int p1_), .val (.int p2_), .val (.long (-62167219200000 : Int64)), .second, .val (.long (253402300799999 : Int64)), .second, .val (.int (1 : Int32)), .val (.long ((-62167219200000 : Int64) + (p1_.toInt64))), .second, .unset]) rfl ?_
    show Steps p.tables e below (s₁.setTop (mkF m 39 #[.val (.long q0_), .second, .val (.int p1_), .val (.int p2_), .val (.long (-62167219200000 : Int64)), .second, .val (.long (253402300799999 : Int64)), .second, .val (.int (1 : Int32)), .val (.long ((-62167219200000 : Int64) + (p1_.toInt64))), .second, .unset] [])) _
    refine XS.goto X0.here hx rfl (pc0 := 39) (pc' := 62) rfl (hb hby at_39) (by decide) (by decide) ?_
    show Steps p.tables e below (s₁.setTop (mkF m 62 #[.val (.long q0_), .second, .val (.int p1_), .val (.int p2_), .val (.long (-62167219200000 : Int64)), .second, .val (.long (253402300799999 : Int64)), .second, .val (.int (1 : Int32)), .val (.long ((-62167219200000 : Int64) + (p1_.toInt64))), .second, .unset] [])) _
    refine XS.lload X0.here hx rfl (hb hby at_62) rfl ?_
    show Steps p.tables e below (s₁.setTop (mkF m 64 #[.val (.long q0_), .second, .val (.int p1_), .val (.int p2_), .val (.long (-62167219200000 : Int64)), .second, .val (.long (253402300799999 : Int64)), .second, .val (.int (1 : Int32)), .val (.long ((-62167219200000 : Int64) + (p1_.toInt64))), .second, .unset] [(.long (-62167219200000 : Int64))])) _
    refine XS.lload X0.here hx rfl (hb hby at_64) rfl ?_
    show Steps p.tables e below (s₁.setTop (mkF m 66 #[.val (.long q0_), .second, .val (.int p1_), .val (.int p2_), .val (.long (-62167219200000 : Int64)), .second, .val (.long (253402300799999 : Int64)), .second, .val (.int (1 : Int32)), .val (.long ((-62167219200000 : Int64) + (p1_.toInt64))), .second, .unset] [(.long ((-62167219200000 : Int64) + (p1_.toInt64))), (.long (-62167219200000 : Int64))])) _
    refine XS.lcmp X0.here hx rfl (hb hby at_66) rfl ?_
    show Steps p.tables e below (s₁.setTop (mkF m 67 #[.val (.long q0_), .second, .val (.int p1_), .val (.int p2_), .val (.long (-62167219200000 : Int64)), .second, .val (.long (253402300799999 : Int64)), .second, .val (.int (1 : Int32)), .val (.long ((-62167219200000 : Int64) + (p1_.toInt64))), .second, .unset] [(.int (lcmpW (-62167219200000 : Int64) ((-62167219200000 : Int64) + (p1_.toInt64))))])) _
    refine XS.ifYes X0.here hx rfl (pc0 := 67) (pc' := 82) rfl (hb hby at_67) rfl ((if0 _ _).trans (tlt hf1).2.2.1) (by decide) (by decide) ?_
    show Steps p.tables e below (s₁.setTop (mkF m 82 #[.val (.long q0_), .second, .val (.int p1_), .val (.int p2_), .val (.long (-62167219200000 : Int64)), .second, .val (.long (253402300799999 : Int64)), .second, .val (.int (1 : Int32)), .val (.long ((-62167219200000 : Int64) + (p1_.toInt64))), .second, .unset] [])) _
    refine XS.iconst X0.here hx rfl (hb hby at_82) ?_
    show Steps p.tables e below (s₁.setTop (mkF m 83 #[.val (.long q0_), .second, .val (.int p1_), .val (.int p2_), .val (.long (-62167219200000 : Int64)), .second, .val (.long (253402300799999 : Int64)), .second, .val (.int (1 : Int32)), .val (.long ((-62167219200000 : Int64) + (p1_.toInt64))), .second, .unset] [(.int (0 : Int32))])) _
    refine XS.istore X0.here hx rfl (hb hby at_83) rfl (l' := #[.val (.long q0_), .second, .val (.int p1_), .val (.int p2_), .val (.long (-62167219200000 : Int64)), .second, .val (.long (253402300799999 : Int64)), .second, .val (.int (1 : Int32)), .val (.long ((-62167219200000 : Int64) + (p1_.toInt64))), .second, .val (.int (0 : Int32))]) rfl ?_
    show Steps p.tables e below (s₁.setTop (mkF m 85 #[.val (.long q0_), .second, .val (.int p1_), .val (.int p2_), .val (.long (-62167219200000 : Int64)), .second, .val (.long (253402300799999 : Int64)), .second, .val (.int (1 : Int32)), .val (.long ((-62167219200000 : Int64) + (p1_.toInt64))), .second, .val (.int (0 : Int32))] [])) _
    refine XS.lload X0.here hx rfl (hb hby at_85) rfl ?_
    show Steps p.tables e below (s₁.setTop (mkF m 87 #[.val (.long q0_), .second, .val (.int p1_), .val (.int p2_), .val (.long (-62167219200000 : Int64)), .second, .val (.long (253402300799999 : Int64)), .second, .val (.int (1 : Int32)), .val (.long ((-62167219200000 : Int64) + (p1_.toInt64))), .second, .val (.int (0 : Int32))] [(.long ((-62167219200000 : Int64) + (p1_.toInt64)))])) _
    refine st1 _ ?_
    show Steps p.tables e below (T1.setTop (mkF m 90 #[.val (.long q0_), .second, .val (.int p1_), .val (.int p2_), .val (.long (-62167219200000 : Int64)), .second, .val (.long (253402300799999 : Int64)), .second, .val (.int (1 : Int32)), .val (.long ((-62167219200000 : Int64) + (p1_.toInt64))), .second, .val (.int (0 : Int32))] [(.int (0 : Int32))])) _
    refine XS.iload X1.here hx rfl (hb hby at_90) rfl ?_
    show Steps p.tables e below (T1.setTop (mkF m 92 #[.val (.long q0_), .second, .val (.int p1_), .val (.int p2_), .val (.long (-62167219200000 : Int64)), .second, .val (.long (253402300799999 : Int64)), .second, .val (.int (1 : Int32)), .val (.long ((-62167219200000 : Int64) + (p1_.toInt64))), .second, .val (.int (0 : Int32))] [(.int (0 : Int32)), (.int (0 : Int32))])) _
    refine XS.icmpNo X1.here hx rfl (hb hby at_92) rfl (teq (rfl : (0 : Int32) = (0 : Int32))).2 ?_
    show Steps p.tables e below (T1.setTop (mkF m 95 #[.val (.long q0_), .second, .val (.int p1_), .val (.int p2_), .val (.long (-62167219200000 : Int64)), .second, .val (.long (253402300799999 : Int64)), .second, .val (.int (1 : Int32)), .val (.long ((-62167219200000 : Int64) + (p1_.toInt64))), .second, .val (.int (0 : Int32))] [])) _
    refine XS.iconst X1.here hx rfl (hb hby at_95) ?_
    show Steps p.tables e below (T1.setTop (mkF m 96 #[.val (.long q0_), .second, .val (.int p1_), .val (.int p2_), .val (.long (-62167219200000 : Int64)), .second, .val (.long (253402300799999 : Int64)), .second, .val (.int (1 : Int32)), .val (.long ((-62167219200000 : Int64) + (p1_.toInt64))), .second, .val (.int (0 : Int32))] [(.int (1 : Int32))])) _
    refine XS.goto X1.here hx rfl (pc0 := 96) (pc' := 100) rfl (hb hby at_96) (by decide) (by decide) ?_
    show Steps p.tables e below (T1.setTop (mkF m 100 #[.val (.long q0_), .second, .val (.int p1_), .val (.int p2_), .val (.long (-62167219200000 : Int64)), .second, .val (.long (253402300799999 : Int64)), .second, .val (.int (1 : Int32)), .val (.long ((-62167219200000 : Int64) + (p1_.toInt64))), .second, .val (.int (0 : Int32))] [(.int (1 : Int32))])) _
    exact retN X1 hx (t := .boolean) Bd.returns (by simp) (hb hby at_100) hr
  · show own_QL n0 _ T1.heap _
    exact ⟨rfl, N1⟩
set_option maxRecDepth 65536 in
set_option maxHeartbeats 40000000 in
theorem own_law1a (l : Launch) (Z : State) (a0 : Array Value) (hw : ∀ d ∈ tables_1, d.before a0 Z = true) (ws : List Jvm.Cond) (q0_ : Int64) (p1_ : Int32) (p2_ : Int32) (h0 : Heap) (n0 : Nat) (Z0 : n0 ≤ h0.size) (S_MIN_MILLIS : Sta Z h0 "com/example/tidewell/tidewell/types/Timestamps" "MIN_MILLIS" "J" (.long (-62167219200000 : Int64))) (S_MAX_MILLIS : Sta Z h0 "com/example/tidewell/tidewell/types/Timestamps" "MAX_MILLIS" "J" (.long (253402300799999 : Int64))) (hf0 : (p2_ &&& (3 : Int32)) = (1 : Int32)) (hf1 : ¬ ((0 : Int32) < (lcmpW (-62167219200000 : Int64) ((-62167219200000 : Int64) + (p1_.toInt64))))) (hf2 : (0 : Int32) < (lcmpW ((-62167219200000 : Int64) + (p1_.toInt64)) (253402300799999 : Int64))) (hf3 : ¬ ((lcmpW ((-62167219200000 : Int64) + (p1_.toInt64)) (-62167219200000 : Int64)) < (0 : Int32))) :
    MetFree l x (head1 (Jvm.Cond.code x code maxLocals ret :: ws) room_1) (fun a U => a = #[(.long q0_), (.int p1_), (.int p2_)] ∧ Z.Warmed39 U.vm ∧ U.heap = h0) (fun _ _ _ _ _ => True) (fun _ U o U' => ∃ v L, o = .returned v ∧ own_QL n0 v U'.heap L ∧ FrameEnd U o U' L room_1.cells room_1.slots) := by
  refine MetFree.of_bodySF (plainFor_of_name own_pn1) hisR ?_
  intro p e s m args below meth c s₁ Bd hml0 hP hK
  obtain ⟨rfl, hZ, hh⟩ := hP
  have hx := Bd.exec
  have hby := Bd.bytes
  have hml : c.maxLocals = 12 := hml0
  have hown : s.vm.findClass "com/example/tidewell/tidewell/types/TimestampsInRangePinLaw" = some m.cls := findClass_of_methodNamed Bd.named
  have hnm := (name_of_methodNamed Bd.named Bd.method).1
  have X0 : Stand p l e room_1 s m #[(.long q0_), (.int p1_), (.int p2_)] below meth c s₁ [] 0 0 := Stand.of_body Bd
  have e0 : s₁.heap = h0 := by rw [← hh, Bd.state]; rfl
  have N0 := Fr.nil n0
  have pre0 : ∀ t, Steps p.tables e below (s₁.setTop (mkF m 0 #[.val (.long q0_), .second, .val (.int p1_), .val (.int p2_), .unset, .unset, .unset, .unset, .unset, .unset, .unset, .unset] [])) t → Steps p.tables e below (s₁.setTop (entryFrame m #[(.long q0_), (.int p1_), (.int p2_)] maxLocals)) t := fun t k => castTop (own_ef1 m q0_ p1_ p2_) k
  obtain ⟨_, _, ⟨T1, L1, k1, n1⟩, -, X1, ⟨Lc1, hQ1, l1, y1, z1⟩, st1⟩ := Jvm.LawKit.callS X0 hx (y := (⟨"com/example/tidewell/tidewell/types/Timestamps", "inRange", "(J)Z"⟩ : MethodName)) hown (mvT hZ (hw _ (List.mem_of_getElem? (i := 2) rfl))) (mvT hZ (hw _ (List.mem_of_getElem? (i := 3) rfl))) (mvT hZ (hw _ (List.mem_of_getElem? (i := 4) rfl))) (mvT hZ (hw _ (List.mem_of_getElem? (i := 5) rfl))) (by decide) (backOf (W := 0) (own_b1_ft l Z a0 hw [] ((-62167219200000 : Int64) + (p1_.toInt64)) (-62167219200000 : Int64) (253402300799999 : Int64) h0 n0 Z0 S_MIN_MILLIS S_MAX_MILLIS hf3 hf2) hZ (hw _ (List.mem_of_getElem? (i := 5) rfl)) (hw _ (List.mem_of_getElem? (i := 4) rfl)) (by decide) (by decide)) (g := (mkF m 87 #[.val (.long q0_), .second, .val (.int p1_), .val (.int p2_), .val (.long (-62167219200000 : Int64)), .second, .val (.long (253402300799999 : Int64)), .second, .val (.int (1 : Int32)), .val (.long ((-62167219200000 : Int64) + (p1_.toInt64))), .second, .val (.int (0 : Int32))] [(.long ((-62167219200000 : Int64) + (p1_.toInt64)))])) rfl (by rw [hml]; rfl) (argsL := [(.long ((-62167219200000 : Int64) + (p1_.toInt64)))]) (rest := []) (lenOf own_pd0 rfl) rfl (by show 2 * 0 + _ ≤ _; exact Nat.le_of_eq rfl) (hb hby at_87) (fun _ _ => ⟨rfl, e0, (by decide : 0 + 0 ≤ _), (by decide : 0 + 0 ≤ _)⟩)
  dsimp only [Pt.U, Pt.locs, Pt.cells, Pt.slots] at X1 l1 y1 z1 st1 hQ1
  subst l1 y1 z1
  obtain ⟨rfl, N1q, e1⟩ := hQ1
  have N1 := Fr.app N0 N1q
  obtain ⟨fs, hr, hrun, hended, hW, hsame⟩ := X1.leave (v := some (.int (1 : Int32))) (fun h => by rw [Bd.returns] at h; cases h)
  refine ⟨_, _, pre0 _ ?_, hrun, hended, _, _, rfl, ?_, ⟨_, rfl⟩, hW, hsame.mono (by decide) (by decide)⟩
  · show Steps p.tables e below (s₁.setTop (mkF m 0 #[.val (.long q0_), .second, .val (.int p1_), .val (.int p2_), .unset, .unset, .unset, .unset, .unset, .unset, .unset, .unset] [])) _
    refine X0.ldc2Long hx hown (mvT hZ (hw _ (List.mem_of_getElem? (i := 0) rfl))) (g := (mkF m 0 #[.val (.long q0_), .second, .val (.int p1_), .val (.int p2_), .unset, .unset, .unset, .unset, .unset, .unset, .unset, .unset] [])) rfl (hb hby at_0) _ ?_
    show Steps p.tables e below (s₁.setTop (mkF m 3 #[.val (.long q0_), .second, .val (.int p1_), .val (.int p2_), .unset, .unset, .unset, .unset, .unset, .unset, .unset, .unset] [(.long (-62167219200000 : Int64))])) _
    refine XS.lstore X0.here hx rfl (hb hby at_3) rfl (l' := #[.val (.long q0_), .second, .val (.int p1_), .val (.int p2_), .val (.long (-62167219200000 : Int64)), .second, .unset, .unset, .unset, .unset, .unset, .unset]) rfl ?_
    show Steps p.tables e below (s₁.setTop (mkF m 5 #[.val (.long q0_), .second, .val (.int p1_), .val (.int p2_), .val (.long (-62167219200000 : Int64)), .second, .unset, .unset, .unset, .unset, .unset, .unset] [])) _
    refine X0.ldc2Long hx hown (mvT hZ (hw _ (List.mem_of_getElem? (i := 1) rfl))) (g := (mkF m 5 #[.val (.long q0_), .second, .val (.int p1_), .val (.int p2_), .val (.long (-62167219200000 : Int64)), .second, .unset, .unset, .unset, .unset, .unset, .unset] [])) rfl (hb hby at_5) _ ?_
    show Steps p.tables e below (s₁.setTop (mkF m 8 #[.val (.long q0_), .second, .val (.int p1_), .val (.int p2_), .val (.long (-62167219200000 : Int64)), .second, .unset, .unset, .unset, .unset, .unset, .unset] [(.long (253402300799999 : Int64))])) _
    refine XS.lstore X0.here hx rfl (hb hby at_8) rfl (l' := #[.val (.long q0_), .second, .val (.int p1_), .val (.int p2_), .val (.long (-62167219200000 : Int64)), .second, .val (.long (253402300799999 : Int64)), .second, .unset, .unset, .unset, .unset]) rfl ?_
    show Steps p.tables e below (s₁.setTop (mkF m 10 #[.val (.long q0_), .second, .val (.int p1_), .val (.int p2_), .val (.long (-62167219200000 : Int64)), .second, .val (.long (253402300799999 : Int64)), .second, .unset, .unset, .unset, .unset] [])) _
    refine XS.iloadN X0.here hx rfl (hb hby at_10) rfl ?_
    show Steps p.tables e below (s₁.setTop (mkF m 11 #[.val (.long q0_), .second, .val (.int p1_), .val (.int p2_), .val (.long (-62167219200000 : Int64)), .second, .val (.long (253402300799999 : Int64)), .second, .unset, .unset, .unset, .unset] [(.int p2_)])) _
    refine XS.iconst X0.here hx rfl (hb hby at_11) ?_
    show Steps p.tables e below (s₁.setTop (mkF m 12 #[.val (.long q0_), .second, .val (.int p1_), .val (.int p2_), .val (.long (-62167219200000 : Int64)), .second, .val (.long (253402300799999 : Int64)), .second, .unset, .unset, .unset, .unset] [(.int (3 : Int32)), (.int p2_)])) _
    refine XS.iand X0.here hx rfl (hb hby at_12) rfl ?_
    show Steps p.tables e below (s₁.setTop (mkF m 13 #[.val (.long q0_), .second, .val (.int p1_), .val (.int p2_), .val (.long (-62167219200000 : Int64)), .second, .val (.long (253402300799999 : Int64)), .second, .unset, .unset, .unset, .unset] [(.int (p2_ &&& (3 : Int32)))])) _
    rw [hf0]
    show Steps p.tables e below (s₁.setTop (mkF m 13 #[.val (.long q0_), .second, .val (.int p1_), .val (.int p2_), .val (.long (-62167219200000 : Int64)), .second, .val (.long (253402300799999 : Int64)), .second, .unset, .unset, .unset, .unset] [(.int (1 : Int32))])) _
    refine XS.istore X0.here hx rfl (hb hby at_13) rfl (l' := #[.val (.long q0_), .second, .val (.int p1_), .val (.int p2_), .val (.long (-62167219200000 : Int64)), .second, .val (.long (253402300799999 : Int64)), .second, .val (.int (1 : Int32)), .unset, .unset, .unset]) rfl ?_
    show Steps p.tables e below (s₁.setTop (mkF m 15 #[.val (.long q0_), .second, .val (.int p1_), .val (.int p2_), .val (.long (-62167219200000 : Int64)), .second, .val (.long (253402300799999 : Int64)), .second, .val (.int (1 : Int32)), .unset, .unset, .unset] [])) _
    refine XS.iload X0.here hx rfl (hb hby at_15) rfl ?_
    show Steps p.tables e below (s₁.setTop (mkF m 17 #[.val (.long q0_), .second, .val (.int p1_), .val (.int p2_), .val (.long (-62167219200000 : Int64)), .second, .val (.long (253402300799999 : Int64)), .second, .val (.int (1 : Int32)), .unset, .unset, .unset] [(.int (1 : Int32))])) _
    refine XS.ifYes X0.here hx rfl (pc0 := 17) (pc' := 26) rfl (hb hby at_17) rfl ((if0 _ _).trans (feq (by decide : ¬ ((1 : Int32) = (0 : Int32)))).2) (by decide) (by decide) ?_
    show Steps p.tables e below (s₁.setTop (mkF m 26 #[.val (.long q0_), .second, .val (.int p1_), .val (.int p2_), .val (.long (-62167219200000 : Int64)), .second, .val (.long (253402300799999 : Int64)), .second, .val (.int (1 : Int32)), .unset, .unset, .unset] [])) _
    refine XS.iload X0.here hx rfl (hb hby at_26) rfl ?_
    show Steps p.tables e below (s₁.setTop (mkF m 28 #[.val (.long q0_), .second, .val (.int p1_), .val (.int p2_), .val (.long (-62167219200000 : Int64)), .second, .val (.long (253402300799999 : Int64)), .second, .val (.int (1 : Int32)), .unset, .unset, .unset] [(.int (1 : Int32))])) _
    refine XS.iconst X0.here hx rfl (hb hby at_28) ?_
    show Steps p.tables e below (s₁.setTop (mkF m 29 #[.val (.long q0_), .second, .val (.int p1_), .val (.int p2_), .val (.long (-62167219200000 : Int64)), .second, .val (.long (253402300799999 : Int64)), .second, .val (.int (1 : Int32)), .unset, .unset, .unset] [(.int (1 : Int32)), (.int (1 : Int32))])) _
    refine XS.icmpNo X0.here hx rfl (hb hby at_29) rfl (teq (rfl : (1 : Int32) = (1 : Int32))).2 ?_
    show Steps p.tables e below (s₁.setTop (mkF m 32 #[.val (.long q0_), .second, .val (.int p1_), .val (.int p2_), .val (.long (-62167219200000 : Int64)), .second, .val (.long (253402300799999 : Int64)), .second, .val (.int (1 : Int32)), .unset, .unset, .unset] [])) _
    refine XS.lload X0.here hx rfl (hb hby at_32) rfl ?_
    show Steps p.tables e below (s₁.setTop (mkF m 34 #[.val (.long q0_), .second, .val (.int p1_), .val (.int p2_), .val (.long (-62167219200000 : Int64)), .second, .val (.long (253402300799999 : Int64)), .second, .val (.int (1 : Int32)), .unset, .unset, .unset] [(.long (-62167219200000 : Int64))])) _
    refine XS.iloadN X0.here hx rfl (hb hby at_34) rfl ?_
    show Steps p.tables e below (s₁.setTop (mkF m 35 #[.val (.long q0_), .second, .val (.int p1_), .val (.int p2_), .val (.long (-62167219200000 : Int64)), .second, .val (.long (253402300799999 : Int64)), .second, .val (.int (1 : Int32)), .unset, .unset, .unset] [(.int p1_), (.long (-62167219200000 : Int64))])) _
    refine XS.i2l X0.here hx rfl (hb hby at_35) rfl ?_
    show Steps p.tables e below (s₁.setTop (mkF m 36 #[.val (.long q0_), .second, .val (.int p1_), .val (.int p2_), .val (.long (-62167219200000 : Int64)), .second, .val (.long (253402300799999 : Int64)), .second, .val (.int (1 : Int32)), .unset, .unset, .unset] [(.long (p1_.toInt64)), (.long (-62167219200000 : Int64))])) _
    refine XS.ladd X0.here hx rfl (hb hby at_36) rfl ?_
    show Steps p.tables e below (s₁.setTop (mkF m 37 #[.val (.long q0_), .second, .val (.int p1_), .val (.int p2_), .val (.long (-62167219200000 : Int64)), .second, .val (.long (253402300799999 : Int64)), .second, .val (.int (1 : Int32)), .unset, .unset, .unset] [(.long ((-62167219200000 : Int64) + (p1_.toInt64)))])) _
    refine XS.lstore X0.here hx rfl (hb hby at_37) rfl (l' := #[.val (.long q0_), .second, .val (.int p1_), .val (.int p2_), .val (.long (-62167219200000 : Int64)), .second, .val (.long (253402300799999 : Int64)), .second, .val (.int (1 : Int32)), .val (.long ((-62167219200000 : Int64) + (p1_.toInt64))), .second, .unset]) rfl ?_
    show Steps p.tables e below (s₁.setTop (mkF m 39 #[.val (.long q0_), .second, .val (.int p1_), .val (.int p2_), .val (.long (-62167219200000 : Int64)), .second, .val (.long (253402300799999 : Int64)), .second, .val (.int (1 : Int32)), .val (.long ((-62167219200000 : Int64) + (p1_.toInt64))), .second, .unset] [])) _
    refine XS.goto X0.here hx rfl (pc0 := 39) (pc' := 62) rfl (hb hby at_39) (by decide) (by decide) ?_
    show Steps p.tables e below (s₁.setTop (mkF m 62 #[.val (.long q0_), .second, .val (.int p1_), .val (.int p2_), .val (.long (-62167219200000 : Int64)), .second, .val (.long (253402300799999 : Int64)), .second, .val (.int (1 : Int32)), .val (.long ((-62167219200000 : Int64) + (p1_.toInt64))), .second, .unset] [])) _
    refine XS.lload X0.here hx rfl (hb hby at_62) rfl ?_
    show Steps p.tables e below (s₁.setTop (mkF m 64 #[.val (.long q0_), .second, .val (.int p1_), .val (.int p2_), .val (.long (-62167219200000 : Int64)), .second, .val (.long (253402300799999 : Int64)), .second, .val (.int (1 : Int32)), .val (.long ((-62167219200000 : Int64) + (p1_.toInt64))), .second, .unset] [(.long (-62167219200000 : Int64))])) _
    refine XS.lload X0.here hx rfl (hb hby at_64) rfl ?_
    show Steps p.tables e below (s₁.setTop (mkF m 66 #[.val (.long q0_), .second, .val (.int p1_), .val (.int p2_), .val (.long (-62167219200000 : Int64)), .second, .val (.long (253402300799999 : Int64)), .second, .val (.int (1 : Int32)), .val (.long ((-62167219200000 : Int64) + (p1_.toInt64))), .second, .unset] [(.long ((-62167219200000 : Int64) + (p1_.toInt64))), (.long (-62167219200000 : Int64))])) _
    refine XS.lcmp X0.here hx rfl (hb hby at_66) rfl ?_
    show Steps p.tables e below (s₁.setTop (mkF m 67 #[.val (.long q0_), .second, .val (.int p1_), .val (.int p2_), .val (.long (-62167219200000 : Int64)), .second, .val (.long (253402300799999 : Int64)), .second, .val (.int (1 : Int32)), .val (.long ((-62167219200000 : Int64) + (p1_.toInt64))), .second, .unset] [(.int (lcmpW (-62167219200000 : Int64) ((-62167219200000 : Int64) + (p1_.toInt64))))])) _
    refine XS.ifNo X0.here hx rfl (hb hby at_67) rfl ((if0 _ _).trans (flt hf1).2.2.1) ?_
    show Steps p.tables e below (s₁.setTop (mkF m 70 #[.val (.long q0_), .second, .val (.int p1_), .val (.int p2_), .val (.long (-62167219200000 : Int64)), .second, .val (.long (253402300799999 : Int64)), .second, .val (.int (1 : Int32)), .val (.long ((-62167219200000 : Int64) + (p1_.toInt64))), .second, .unset] [])) _
    refine XS.lload X0.here hx rfl (hb hby at_70) rfl ?_
    show Steps p.tables e below (s₁.setTop (mkF m 72 #[.val (.long q0_), .second, .val (.int p1_), .val (.int p2_), .val (.long (-62167219200000 : Int64)), .second, .val (.long (253402300799999 : Int64)), .second, .val (.int (1 : Int32)), .val (.long ((-62167219200000 : Int64) + (p1_.toInt64))), .second, .unset] [(.long ((-62167219200000 : Int64) + (p1_.toInt64)))])) _
    refine XS.lload X0.here hx rfl (hb hby at_72) rfl ?_
    show Steps p.tables e below (s₁.setTop (mkF m 74 #[.val (.long q0_), .second, .val (.int p1_), .val (.int p2_), .val (.long (-62167219200000 : Int64)), .second, .val (.long (253402300799999 : Int64)), .second, .val (.int (1 : Int32)), .val (.long ((-62167219200000 : Int64) + (p1_.toInt64))), .second, .unset] [(.long (253402300799999 : Int64)), (.long ((-62167219200000 : Int64) + (p1_.toInt64)))])) _
    refine XS.lcmp X0.here hx rfl (hb hby at_74) rfl ?_
    show Steps p.tables e below (s₁.setTop (mkF m 75 #[.val (.long q0_), .second, .val (.int p1_), .val (.int p2_), .val (.long (-62167219200000 : Int64)), .second, .val (.long (253402300799999 : Int64)), .second, .val (.int (1 : Int32)), .val (.long ((-62167219200000 : Int64) + (p1_.toInt64))), .second, .unset] [(.int (lcmpW ((-62167219200000 : Int64) + (p1_.toInt64)) (253402300799999 : Int64)))])) _
    refine XS.ifYes X0.here hx rfl (pc0 := 75) (pc' := 82) rfl (hb hby at_75) rfl ((if0 _ _).trans (tlt hf2).2.2.1) (by decide) (by decide) ?_
    show Steps p.tables e below (s₁.setTop (mkF m 82 #[.val (.long q0_), .second, .val (.int p1_), .val (.int p2_), .val (.long (-62167219200000 : Int64)), .second, .val (.long (253402300799999 : Int64)), .second, .val (.int (1 : Int32)), .val (.long ((-62167219200000 : Int64) + (p1_.toInt64))), .second, .unset] [])) _
    refine XS.iconst X0.here hx rfl (hb hby at_82) ?_
    show Steps p.tables e below (s₁.setTop (mkF m 83 #[.val (.long q0_), .second, .val (.int p1_), .val (.int p2_), .val (.long (-62167219200000 : Int64)), .second, .val (.long (253402300799999 : Int64)), .second, .val (.int (1 : Int32)), .val (.long ((-62167219200000 : Int64) + (p1_.toInt64))), .second, .unset] [(.int (0 : Int32))])) _
    refine XS.istore X0.here hx rfl (hb hby at_83) rfl (l' := #[.val (.long q0_), .second, .val (.int p1_), .val (.int p2_), .val (.long (-62167219200000 : Int64)), .second, .val (.long (253402300799999 : Int64)), .second, .val (.int (1 : Int32)), .val (.long ((-62167219200000 : Int64) + (p1_.toInt64))), .second, .val (.int (0 : Int32))]) rfl ?_
    show Steps p.tables e below (s₁.setTop (mkF m 85 #[.val (.long q0_), .second, .val (.int p1_), .val (.int p2_), .val (.long (-62167219200000 : Int64)), .second, .val (.long (253402300799999 : Int64)), .second, .val (.int (1 : Int32)), .val (.long ((-62167219200000 : Int64) + (p1_.toInt64))), .second, .val (.int (0 : Int32))] [])) _
    refine XS.lload X0.here hx rfl (hb hby at_85) rfl ?_
    show Steps p.tables e below (s₁.setTop (mkF m 87 #[.val (.long q0_), .second, .val (.int p1_), .val (.int p2_), .val (.long (-62167219200000 : Int64)), .second, .val (.long (253402300799999 : Int64)), .second, .val (.int (1 : Int32)), .val (.long ((-62167219200000 : Int64) + (p1_.toInt64))), .second, .val (.int (0 : Int32))] [(.long ((-62167219200000 : Int64) + (p1_.toInt64)))])) _
    refine st1 _ ?_
    show Steps p.tables e below (T1.setTop (mkF m 90 #[.val (.long q0_), .second, .val (.int p1_), .val (.int p2_), .val (.long (-62167219200000 : Int64)), .second, .val (.long (253402300799999 : Int64)), .second, .val (.int (1 : Int32)), .val (.long ((-62167219200000 : Int64) + (p1_.toInt64))), .second, .val (.int (0 : Int32))] [(.int (0 : Int32))])) _
    refine XS.iload X1.here hx rfl (hb hby at_90) rfl ?_
    show Steps p.tables e below (T1.setTop (mkF m 92 #[.val (.long q0_), .second, .val (.int p1_), .val (.int p2_), .val (.long (-62167219200000 : Int64)), .second, .val (.long (253402300799999 : Int64)), .second, .val (.int (1 : Int32)), .val (.long ((-62167219200000 : Int64) + (p1_.toInt64))), .second, .val (.int (0 : Int32))] [(.int (0 : Int32)), (.int (0 : Int32))])) _
    refine XS.icmpNo X1.here hx rfl (hb hby at_92) rfl (teq (rfl : (0 : Int32) = (0 : Int32))).2 ?_
    show Steps p.tables e below (T1.setTop (mkF m 95 #[.val (.long q0_), .second, .val (.int p1_), .val (.int p2_), .val (.long (-62167219200000 : Int64)), .second, .val (.long (253402300799999 : Int64)), .second, .val (.int (1 : Int32)), .val (.long ((-62167219200000 : Int64) + (p1_.toInt64))), .second, .val (.int (0 : Int32))] [])) _
    refine XS.iconst X1.here hx rfl (hb hby at_95) ?_
    show Steps p.tables e below (T1.setTop (mkF m 96 #[.val (.long q0_), .second, .val (.int p1_), .val (.int p2_), .val (.long (-62167219200000 : Int64)), .second, .val (.long (253402300799999 : Int64)), .second, .val (.int (1 : Int32)), .val (.long ((-62167219200000 : Int64) + (p1_.toInt64))), .second, .val (.int (0 : Int32))] [(.int (1 : Int32))])) _
    refine XS.goto X1.here hx rfl (pc0 := 96) (pc' := 100) rfl (hb hby at_96) (by decide) (by decide) ?_
    show Steps p.tables e below (T1.setTop (mkF m 100 #[.val (.long q0_), .second, .val (.int p1_), .val (.int p2_), .val (.long (-62167219200000 : Int64)), .second, .val (.long (253402300799999 : Int64)), .second, .val (.int (1 : Int32)), .val (.long ((-62167219200000 : Int64) + (p1_.toInt64))), .second, .val (.int (0 : Int32))] [(.int (1 : Int32))])) _
    exact retN X1 hx (t := .boolean) Bd.returns (by simp) (hb hby at_100) hr
  · show own_QL n0 _ T1.heap _
    exact ⟨rfl, N1⟩
set_option maxRecDepth 65536 in
set_option maxHeartbeats 40000000 in
theorem own_law1i (l : Launch) (Z : State) (a0 : Array Value) (hw : ∀ d ∈ tables_1, d.before a0 Z = true) (ws : List Jvm.Cond) (q0_ : Int64) (p1_ : Int32) (p2_ : Int32) (h0 : Heap) (n0 : Nat) (Z0 : n0 ≤ h0.size) (S_MIN_MILLIS : Sta Z h0 "com/example/tidewell/tidewell/types/Timestamps" "MIN_MILLIS" "J" (.long (-62167219200000 : Int64))) (S_MAX_MILLIS : Sta Z h0 "com/example/tidewell/tidewell/types/Timestamps" "MAX_MILLIS" "J" (.long (253402300799999 : Int64))) (hf0 : (p2_ &&& (3 : Int32)) = (1 : Int32)) (hf1 : ¬ ((0 : Int32) < (lcmpW (-62167219200000 : Int64) ((-62167219200000 : Int64) + (p1_.toInt64))))) (hf2 : ¬ ((0 : Int32) < (lcmpW ((-62167219200000 : Int64) + (p1_.toInt64)) (253402300799999 : Int64)))) (hf3 : ¬ ((lcmpW ((-62167219200000 : Int64) + (p1_.toInt64)) (-62167219200000 : Int64)) < (0 : Int32))) :
    MetFree l x (head1 (Jvm.Cond.code x code maxLocals ret :: ws) room_1) (fun a U => a = #[(.long q0_), (.int p1_), (.int p2_)] ∧ Z.Warmed39 U.vm ∧ U.heap = h0) (fun _ _ _ _ _ => True) (fun _ U o U' => ∃ v L, o = .returned v ∧ own_QL n0 v U'.heap L ∧ FrameEnd U o U' L room_1.cells room_1.slots) := by
  refine MetFree.of_bodySF (plainFor_of_name own_pn1) hisR ?_
  intro p e s m args below meth c s₁ Bd hml0 hP hK
  obtain ⟨rfl, hZ, hh⟩ := hP
  have hx := Bd.exec
  have hby := Bd.bytes
  have hml : c.maxLocals = 12 := hml0
  have hown : s.vm.findClass "com/example/tidewell/tidewell/types/TimestampsInRangePinLaw" = some m.cls := findClass_of_methodNamed Bd.named
  have hnm := (name_of_methodNamed Bd.named Bd.method).1
  have X0 : Stand p l e room_1 s m #[(.long q0_), (.int p1_), (.int p2_)] below meth c s₁ [] 0 0 := Stand.of_body Bd
  have e0 : s₁.heap = h0 := by rw [← hh, Bd.state]; rfl
  have N0 := Fr.nil n0
  have pre0 : ∀ t, Steps p.tables e below (s₁.setTop (mkF m 0 #[.val (.long q0_), .second, .val (.int p1_), .val (.int p2_), .unset, .unset, .unset, .unset, .unset, .unset, .unset, .unset] [])) t → Steps p.tables e below (s₁.setTop (entryFrame m #[(.long q0_), (.int p1_), (.int p2_)] maxLocals)) t := fun t k => castTop (own_ef1 m q0_ p1_ p2_) k
  obtain ⟨_, _, ⟨T1, L1, k1, n1⟩, -, X1, ⟨Lc1, hQ1, l1, y1, z1⟩, st1⟩ := Jvm.LawKit.callS X0 hx (y := (⟨"com/example/tidewell/tidewell/types/Timestamps", "inRange", "(J)Z"⟩ : MethodName)) hown (mvT hZ (hw _ (List.mem_of_getElem? (i := 2) rfl))) (mvT hZ (hw _ (List.mem_of_getElem? (i := 3) rfl))) (mvT hZ (hw _ (List.mem_of_getElem? (i := 4) rfl))) (mvT hZ (hw _ (List.mem_of_getElem? (i := 5) rfl))) (by decide) (backOf (W := 0) (own_b1_ff l Z a0 hw [] ((-62167219200000 : Int64) + (p1_.toInt64)) (-62167219200000 : Int64) (253402300799999 : Int64) h0 n0 Z0 S_MIN_MILLIS S_MAX_MILLIS hf3 hf2) hZ (hw _ (List.mem_of_getElem? (i := 5) rfl)) (hw _ (List.mem_of_getElem? (i := 4) rfl)) (by decide) (by decide)) (g := (mkF m 87 #[.val (.long q0_), .second, .val (.int p1_), .val (.int p2_), .val (.long (-62167219200000 : Int64)), .second, .val (.long (253402300799999 : Int64)), .second, .val (.int (1 : Int32)), .val (.long ((-62167219200000 : Int64) + (p1_.toInt64))), .second, .val (.int (1 : Int32))] [(.long ((-62167219200000 : Int64) + (p1_.toInt64)))])) rfl (by rw [hml]; rfl) (argsL := [(.long ((-62167219200000 : Int64) + (p1_.toInt64)))]) (rest := []) (lenOf own_pd0 rfl) rfl (by show 2 * 0 + _ ≤ _; exact Nat.le_of_eq rfl) (hb hby at_87) (fun _ _ => ⟨rfl, e0, (by decide : 0 + 0 ≤ _), (by decide : 0 + 0 ≤ _)⟩)
  dsimp only [Pt.U, Pt.locs, Pt.cells, Pt.slots] at X1 l1 y1 z1 st1 hQ1
  subst l1 y1 z1
  obtain ⟨rfl, N1q, e1⟩ := hQ1
  have N1 := Fr.app N0 N1q
  obtain ⟨fs, hr, hrun, hended, hW, hsame⟩ := X1.leave (v := some (.int (1 : Int32))) (fun h => by rw [Bd.returns] at h; cases h)
  refine ⟨_, _, pre0 _ ?_, hrun, hended, _, _, rfl, ?_, ⟨_, rfl⟩, hW, hsame.mono (by decide) (by decide)⟩
  · show Steps p.tables e below (s₁.setTop (mkF m 0 #[.val (.long q0_), .second, .val (.int p1_), .val (.int p2_), .unset, .unset, .unset, .unset, .unset, .unset, .unset, .unset] [])) _
    refine X0.ldc2Long hx hown (mvT hZ (hw _ (List.mem_of_getElem? (i := 0) rfl))) (g := (mkF m 0 #[.val (.long q0_), .second, .val (.int p1_), .val (.int p2_), .unset, .unset, .unset, .unset, .unset, .unset, .unset, .unset] [])) rfl (hb hby at_0) _ ?_
    show Steps p.tables e below (s₁.setTop (mkF m 3 #[.val (.long q0_), .second, .val (.int p1_), .val (.int p2_), .unset, .unset, .unset, .unset, .unset, .unset, .unset, .unset] [(.long (-62167219200000 : Int64))])) _
    refine XS.lstore X0.here hx rfl (hb hby at_3) rfl (l' := #[.val (.long q0_), .second, .val (.int p1_), .val (.int p2_), .val (.long (-62167219200000 : Int64)), .second, .unset, .unset, .unset, .unset, .unset, .unset]) rfl ?_
    show Steps p.tables e below (s₁.setTop (mkF m 5 #[.val (.long q0_), .second, .val (.int p1_), .val (.int p2_), .val (.long (-62167219200000 : Int64)), .second, .unset, .unset, .unset, .unset, .unset, .unset] [])) _
    refine X0.ldc2Long hx hown (mvT hZ (hw _ (List.mem_of_getElem? (i := 1) rfl))) (g := (mkF m 5 #[.val (.long q0_), .second, .val (.int p1_), .val (.int p2_), .val (.long (-62167219200000 : Int64)), .second, .unset, .unset, .unset, .unset, .unset, .unset] [])) rfl (hb hby at_5) _ ?_
    show Steps p.tables e below (s₁.setTop (mkF m 8 #[.val (.long q0_), .second, .val (.int p1_), .val (.int p2_), .val (.long (-62167219200000 : Int64)), .second, .unset, .unset, .unset, .unset, .unset, .unset] [(.long (253402300799999 : Int64))])) _
    refine XS.lstore X0.here hx rfl (hb hby at_8) rfl (l' := #[.val (.long q0_), .second, .val (.int p1_), .val (.int p2_), .val (.long (-62167219200000 : Int64)), .second, .val (.long (253402300799999 : Int64)), .second, .unset, .unset, .unset, .unset]) rfl ?_
    show Steps p.tables e below (s₁.setTop (mkF m 10 #[.val (.long q0_), .second, .val (.int p1_), .val (.int p2_), .val (.long (-62167219200000 : Int64)), .second, .val (.long (253402300799999 : Int64)), .second, .unset, .unset, .unset, .unset] [])) _
    refine XS.iloadN X0.here hx rfl (hb hby at_10) rfl ?_
    show Steps p.tables e below (s₁.setTop (mkF m 11 #[.val (.long q0_), .second, .val (.int p1_), .val (.int p2_), .val (.long (-62167219200000 : Int64)), .second, .val (.long (253402300799999 : Int64)), .second, .unset, .unset, .unset, .unset] [(.int p2_)])) _
    refine XS.iconst X0.here hx rfl (hb hby at_11) ?_
    show Steps p.tables e below (s₁.setTop (mkF m 12 #[.val (.long q0_), .second, .val (.int p1_), .val (.int p2_), .val (.long (-62167219200000 : Int64)), .second, .val (.long (253402300799999 : Int64)), .second, .unset, .unset, .unset, .unset] [(.int (3 : Int32)), (.int p2_)])) _
    refine XS.iand X0.here hx rfl (hb hby at_12) rfl ?_
    show Steps p.tables e below (s₁.setTop (mkF m 13 #[.val (.long q0_), .second, .val (.int p1_), .val (.int p2_), .val (.long (-62167219200000 : Int64)), .second, .val (.long (253402300799999 : Int64)), .second, .unset, .unset, .unset, .unset] [(.int (p2_ &&& (3 : Int32)))])) _
    rw [hf0]
    show Steps p.tables e below (s₁.setTop (mkF m 13 #[.val (.long q0_), .second, .val (.int p1_), .val (.int p2_), .val (.long (-62167219200000 : Int64)), .second, .val (.long (253402300799999 : Int64)), .second, .unset, .unset, .unset, .unset] [(.int (1 : Int32))])) _
    refine XS.istore X0.here hx rfl (hb hby at_13) rfl (l' := #[.val (.long q0_), .second, .val (.int p1_), .val (.int p2_), .val (.long (-62167219200000 : Int64)), .second, .val (.long (253402300799999 : Int64)), .second, .val (.int (1 : Int32)), .unset, .unset, .unset]) rfl ?_
    show Steps p.tables e below (s₁.setTop (mkF m 15 #[.val (.long q0_), .second, .val (.int p1_), .val (.int p2_), .val (.long (-62167219200000 : Int64)), .second, .val (.long (253402300799999 : Int64)), .second, .val (.int (1 : Int32)), .unset, .unset, .unset] [])) _
    refine XS.iload X0.here hx rfl (hb hby at_15) rfl ?_
    show Steps p.tables e below (s₁.setTop (mkF m 17 #[.val (.long q0_), .second, .val (.int p1_), .val (.int p2_), .val (.long (-62167219200000 : Int64)), .second, .val (.long (253402300799999 : Int64)), .second, .val (.int (1 : Int32)), .unset, .unset, .unset] [(.int (1 : Int32))])) _
    refine XS.ifYes X0.here hx rfl (pc0 := 17) (pc' := 26) rfl (hb hby at_17) rfl ((if0 _ _).trans (feq (by decide : ¬ ((1 : Int32) = (0 : Int32)))).2) (by decide) (by decide) ?_
    show Steps p.tables e below (s₁.setTop (mkF m 26 #[.val (.long q0_), .second, .val (.int p1_), .val (.int p2_), .val (.long (-62167219200000 : Int64)), .second, .val (.long (253402300799999 : Int64)), .second, .val (.int (1 : Int32)), .unset, .unset, .unset] [])) _
    refine XS.iload X0.here hx rfl (hb hby at_26) rfl ?_
    show Steps p.tables e below (s₁.setTop (mkF m 28 #[.val (.long q0_), .second, .val (.int p1_), .val (.int p2_), .val (.long (-62167219200000 : Int64)), .second, .val (.long (253402300799999 : Int64)), .second, .val (.int (1 : Int32)), .unset, .unset, .unset] [(.int (1 : Int32))])) _
    refine XS.iconst X0.here hx rfl (hb hby at_28) ?_
    show Steps p.tables e below (s₁.setTop (mkF m 29 #[.val (.long q0_), .second, .val (.int p1_), .val (.int p2_), .val (.long (-62167219200000 : Int64)), .second, .val (.long (253402300799999 : Int64)), .second, .val (.int (1 : Int32)), .unset, .unset, .unset] [(.int (1 : Int32)), (.int (1 : Int32))])) _
    refine XS.icmpNo X0.here hx rfl (hb hby at_29) rfl (teq (rfl : (1 : Int32) = (1 : Int32))).2 ?_
    show Steps p.tables e below (s₁.setTop (mkF m 32 #[.val (.long q0_), .second, .val (.int p1_), .val (.int p2_), .val (.long (-62167219200000 : Int64)), .second, .val (.long (253402300799999 : Int64)), .second, .val (.int (1 : Int32)), .unset, .unset, .unset] [])) _
    refine XS.lload X0.here hx rfl (hb hby at_32) rfl ?_
    show Steps p.tables e below (s₁.setTop (mkF m 34 #[.val (.long q0_), .second, .val (.int p1_), .val (.int p2_), .val (.long (-62167219200000 : Int64)), .second, .val (.long (253402300799999 : Int64)), .second, .val (.int (1 : Int32)), .unset, .unset, .unset] [(.long (-62167219200000 : Int64))])) _
    refine XS.iloadN X0.here hx rfl (hb hby at_34) rfl ?_
    show Steps p.tables e below (s₁.setTop (mkF m 35 #[.val (.long q0_), .second, .val (.int p1_), .val (.int p2_), .val (.long (-62167219200000 : Int64)), .second, .val (.long (253402300799999 : Int64)), .second, .val (.int (1 : Int32)), .unset, .unset, .unset] [(.int p1_), (.long (-62167219200000 : Int64))])) _
    refine XS.i2l X0.here hx rfl (hb hby at_35) rfl ?_
    show Steps p.tables e below (s₁.setTop (mkF m 36 #[.val (.long q0_), .second, .val (.int p1_), .val (.int p2_), .val (.long (-62167219200000 : Int64)), .second, .val (.long (253402300799999 : Int64)), .second, .val (.int (1 : Int32)), .unset, .unset, .unset] [(.long (p1_.toInt64)), (.long (-62167219200000 : Int64))])) _
    refine XS.ladd X0.here hx rfl (hb hby at_36) rfl ?_
    show Steps p.tables e below (s₁.setTop (mkF m 37 #[.val (.long q0_), .second, .val (.int p1_), .val (.int p2_), .val (.long (-62167219200000 : Int64)), .second, .val (.long (253402300799999 : Int64)), .second, .val (.int (1 : Int32)), .unset, .unset, .unset] [(.long ((-62167219200000 : Int64) + (p1_.toInt64)))])) _
    refine XS.lstore X0.here hx rfl (hb hby at_37) rfl (l' := #[.val (.long q0_), .second, .val (.int p1_), .val (.int p2_), .val (.long (-62167219200000 : Int64)), .second, .val (.long (253402300799999 : Int64)), .second, .val (.int (1 : Int32)), .val (.long ((-62167219200000 : Int64) + (p1_.toInt64))), .second, .unset]) rfl ?_
    show Steps p.tables e below (s₁.setTop (mkF m 39 #[.val (.long q0_), .second, .val (.int p1_), .val (.int p2_), .val (.long (-62167219200000 : Int64)), .second, .val (.long (253402300799999 : Int64)), .second, .val (.int (1 : Int32)), .val (.long ((-62167219200000 : Int64) + (p1_.toInt64))), .second, .unset] [])) _
    refine XS.goto X0.here hx rfl (pc0 := 39) (pc' := 62) rfl (hb hby at_39) (by decide) (by decide) ?_
    show Steps p.tables e below (s₁.setTop (mkF m 62 #[.val (.long q0_), .second, .val (.int p1_), .val (.int p2_), .val (.long (-62167219200000 : Int64)), .second, .val (.long (253402300799999 : Int64)), .second, .val (.int (1 : Int32)), .val (.long ((-62167219200000 : Int64) + (p1_.toInt64))), .second, .unset] [])) _
    refine XS.lload X0.here hx rfl (hb hby at_62) rfl ?_
    show Steps p.tables e below (s₁.setTop (mkF m 64 #[.val (.long q0_), .second, .val (.int p1_), .val (.int p2_), .val (.long (-62167219200000 : Int64)), .second, .val (.long (253402300799999 : Int64)), .second, .val (.int (1 : Int32)), .val (.long ((-62167219200000 : Int64) + (p1_.toInt64))), .second, .unset] [(.long (-62167219200000 : Int64))])) _
    refine XS.lload X0.here hx rfl (hb hby at_64) rfl ?_
    show Steps p.tables e below (s₁.setTop (mkF m 66 #[.val (.long q0_), .second, .val (.int p1_), .val (.int p2_), .val (.long (-62167219200000 : Int64)), .second, .val (.long (253402300799999 : Int64)), .second, .val (.int (1 : Int32)), .val (.long ((-62167219200000 : Int64) + (p1_.toInt64))), .second, .unset] [(.long ((-62167219200000 : Int64) + (p1_.toInt64))), (.long (-62167219200000 : Int64))])) _
    refine XS.lcmp X0.here hx rfl (hb hby at_66) rfl ?_
    show Steps p.tables e below (s₁.setTop (mkF m 67 #[.val (.long q0_), .second, .val (.int p1_), .val (.int p2_), .val (.long (-62167219200000 : Int64)), .second, .val (.long (253402300799999 : Int64)), .second, .val (.int (1 : Int32)), .val (.long ((-62167219200000 : Int64) + (p1_.toInt64))), .second, .unset] [(.int (lcmpW (-62167219200000 : Int64) ((-62167219200000 : Int64) + (p1_.toInt64))))])) _
    refine XS.ifNo X0.here hx rfl (hb hby at_67) rfl ((if0 _ _).trans (flt hf1).2.2.1) ?_
    show Steps p.tables e below (s₁.setTop (mkF m 70 #[.val (.long q0_), .second, .val (.int p1_), .val (.int p2_), .val (.long (-62167219200000 : Int64)), .second, .val (.long (253402300799999 : Int64)), .second, .val (.int (1 : Int32)), .val (.long ((-62167219200000 : Int64) + (p1_.toInt64))), .second, .unset] [])) _
    refine XS.lload X0.here hx rfl (hb hby at_70) rfl ?_
    show Steps p.tables e below (s₁.setTop (mkF m 72 #[.val (.long q0_), .second, .val (.int p1_), .val (.int p2_), .val (.long (-62167219200000 : Int64)), .second, .val (.long (253402300799999 : Int64)), .second, .val (.int (1 : Int32)), .val (.long ((-62167219200000 : Int64) + (p1_.toInt64))), .second, .unset] [(.long ((-62167219200000 : Int64) + (p1_.toInt64)))])) _
    refine XS.lload X0.here hx rfl (hb hby at_72) rfl ?_
    show Steps p.tables e below (s₁.setTop (mkF m 74 #[.val (.long q0_), .second, .val (.int p1_), .val (.int p2_), .val (.long (-62167219200000 : Int64)), .second, .val (.long (253402300799999 : Int64)), .second, .val (.int (1 : Int32)), .val (.long ((-62167219200000 : Int64) + (p1_.toInt64))), .second, .unset] [(.long (253402300799999 : Int64)), (.long ((-62167219200000 : Int64) + (p1_.toInt64)))])) _
    refine XS.lcmp X0.here hx rfl (hb hby at_74) rfl ?_
    show Steps p.tables e below (s₁.setTop (mkF m 75 #[.val (.long q0_), .second, .val (.int p1_), .val (.int p2_), .val (.long (-62167219200000 : Int64)), .second, .val (.long (253402300799999 : Int64)), .second, .val (.int (1 : Int32)), .val (.long ((-62167219200000 : Int64) + (p1_.toInt64))), .second, .unset] [(.int (lcmpW ((-62167219200000 : Int64) + (p1_.toInt64)) (253402300799999 : Int64)))])) _
    refine XS.ifNo X0.here hx rfl (hb hby at_75) rfl ((if0 _ _).trans (flt hf2).2.2.1) ?_
    show Steps p.tables e below (s₁.setTop (mkF m 78 #[.val (.long q0_), .second, .val (.int p1_), .val (.int p2_), .val (.long (-62167219200000 : Int64)), .second, .val (.long (253402300799999 : Int64)), .second, .val (.int (1 : Int32)), .val (.long ((-62167219200000 : Int64) + (p1_.toInt64))), .second, .unset] [])) _
    refine XS.iconst X0.here hx rfl (hb hby at_78) ?_
    show Steps p.tables e below (s₁.setTop (mkF m 79 #[.val (.long q0_), .second, .val (.int p1_), .val (.int p2_), .val (.long (-62167219200000 : Int64)), .second, .val (.long (253402300799999 : Int64)), .second, .val (.int (1 : Int32)), .val (.long ((-62167219200000 : Int64) + (p1_.toInt64))), .second, .unset] [(.int (1 : Int32))])) _
    refine XS.goto X0.here hx rfl (pc0 := 79) (pc' := 83) rfl (hb hby at_79) (by decide) (by decide) ?_
    show Steps p.tables e below (s₁.setTop (mkF m 83 #[.val (.long q0_), .second, .val (.int p1_), .val (.int p2_), .val (.long (-62167219200000 : Int64)), .second, .val (.long (253402300799999 : Int64)), .second, .val (.int (1 : Int32)), .val (.long ((-62167219200000 : Int64) + (p1_.toInt64))), .second, .unset] [(.int (1 : Int32))])) _
    refine XS.istore X0.here hx rfl (hb hby at_83) rfl (l' := #[.val (.long q0_), .second, .val (.int p1_), .val (.int p2_), .val (.long (-62167219200000 : Int64)), .second, .val (.long (253402300799999 : Int64)), .second, .val (.int (1 : Int32)), .val (.long ((-62167219200000 : Int64) + (p1_.toInt64))), .second, .val (.int (1 : Int32))]) rfl ?_
    show Steps p.tables e below (s₁.setTop (mkF m 85 #[.val (.long q0_), .second, .val (.int p1_), .val (.int p2_), .val (.long (-62167219200000 : Int64)), .second, .val (.long (253402300799999 : Int64)), .second, .val (.int (1 : Int32)), .val (.long ((-62167219200000 : Int64) + (p1_.toInt64))), .second, .val (.int (1 : Int32))] [])) _
    refine XS.lload X0.here hx rfl (hb hby at_85) rfl ?_
    show Steps p.tables e below (s₁.setTop (mkF m 87 #[.val (.long q0_), .second, .val (.int p1_), .val (.int p2_), .val (.long (-62167219200000 : Int64)), .second, .val (.long (253402300799999 : Int64)), .second, .val (.int (1 : Int32)), .val (.long ((-62167219200000 : Int64) + (p1_.toInt64))), .second, .val (.int (1 : Int32))] [(.long ((-62167219200000 : Int64) + (p1_.toInt64)))])) _
    refine st1 _ ?_
    show Steps p.tables e below (T1.setTop (mkF m 90 #[.val (.long q0_), .second, .val (.int p1_), .val (.int p2_), .val (.long (-62167219200000 : Int64)), .second, .val (.long (253402300799999 : Int64)), .second, .val (.int (1 : Int32)), .val (.long ((-62167219200000 : Int64) + (p1_.toInt64))), .second, .val (.int (1 : Int32))] [(.int (1 : Int32))])) _
    refine XS.iload X1.here hx rfl (hb hby at_90) rfl ?_
    show Steps p.tables e below (T1.setTop (mkF m 92 #[.val (.long q0_), .second, .val (.int p1_), .val (.int p2_), .val (.long (-62167219200000 : Int64)), .second, .val (.long (253402300799999 : Int64)), .second, .val (.int (1 : Int32)), .val (.long ((-62167219200000 : Int64) + (p1_.toInt64))), .second, .val (.int (1 : Int32))] [(.int (1 : Int32)), (.int (1 : Int32))])) _
    refine XS.icmpNo X1.here hx rfl (hb hby at_92) rfl (teq (rfl : (1 : Int32) = (1 : Int32))).2 ?_
    show Steps p.tables e below (T1.setTop (mkF m 95 #[.val (.long q0_), .second, .val (.int p1_), .val (.int p2_), .val (.long (-62167219200000 : Int64)), .second, .val (.long (253402300799999 : Int64)), .second, .val (.int (1 : Int32)), .val (.long ((-62167219200000 : Int64) + (p1_.toInt64))), .second, .val (.int (1 : Int32))] [])) _
    refine XS.iconst X1.here hx rfl (hb hby at_95) ?_
    show Steps p.tables e below (T1.setTop (mkF m 96 #[.val (.long q0_), .second, .val (.int p1_), .val (.int p2_), .val (.long (-62167219200000 : Int64)), .second, .val (.long (253402300799999 : Int64)), .second, .val (.int (1 : Int32)), .val (.long ((-62167219200000 : Int64) + (p1_.toInt64))), .second, .val (.int (1 : Int32))] [(.int (1 : Int32))])) _
    refine XS.goto X1.here hx rfl (pc0 := 96) (pc' := 100) rfl (hb hby at_96) (by decide) (by decide) ?_
    show Steps p.tables e below (T1.setTop (mkF m 100 #[.val (.long q0_), .second, .val (.int p1_), .val (.int p2_), .val (.long (-62167219200000 : Int64)), .second, .val (.long (253402300799999 : Int64)), .second, .val (.int (1 : Int32)), .val (.long ((-62167219200000 : Int64) + (p1_.toInt64))), .second, .val (.int (1 : Int32))] [(.int (1 : Int32))])) _
    exact retN X1 hx (t := .boolean) Bd.returns (by simp) (hb hby at_100) hr
  · show own_QL n0 _ T1.heap _
    exact ⟨rfl, N1⟩
set_option maxRecDepth 65536 in
set_option maxHeartbeats 40000000 in
theorem own_law2b (l : Launch) (Z : State) (a0 : Array Value) (hw : ∀ d ∈ tables_1, d.before a0 Z = true) (ws : List Jvm.Cond) (q0_ : Int64) (p1_ : Int32) (p2_ : Int32) (h0 : Heap) (n0 : Nat) (Z0 : n0 ≤ h0.size) (S_MIN_MILLIS : Sta Z h0 "com/example/tidewell/tidewell/types/Timestamps" "MIN_MILLIS" "J" (.long (-62167219200000 : Int64))) (hf0 : (p2_ &&& (3 : Int32)) = (2 : Int32)) (hf1 : (0 : Int32) < (lcmpW (-62167219200000 : Int64) ((253402300799999 : Int64) + (p1_.toInt64)))) (hf2 : (lcmpW ((253402300799999 : Int64) + (p1_.toInt64)) (-62167219200000 : Int64)) < (0 : Int32)) :
    MetFree l x (head1 (Jvm.Cond.code x code maxLocals ret :: ws) room_1) (fun a U => a = #[(.long q0_), (.int p1_), (.int p2_)] ∧ Z.Warmed39 U.vm ∧ U.heap = h0) (fun _ _ _ _ _ => True) (fun _ U o U' => ∃ v L, o = .returned v ∧ own_QL n0 v U'.heap L ∧ FrameEnd U o U' L room_1.cells room_1.slots) := by
  refine MetFree.of_bodySF (plainFor_of_name own_pn1) hisR ?_
  intro p e s m args below meth c s₁ Bd hml0 hP hK
  obtain ⟨rfl, hZ, hh⟩ := hP
  have hx := Bd.exec
  have hby := Bd.bytes
  have hml : c.maxLocals = 12 := hml0
  have hown : s.vm.findClass "com/example/tidewell/tidewell/types/TimestampsInRangePinLaw" = some m.cls := findClass_of_methodNamed Bd.named
  have hnm := (name_of_methodNamed Bd.named Bd.method).1
  have X0 : Stand p l e room_1 s m #[(.long q0_), (.int p1_), (.int p2_)] below meth c s₁ [] 0 0 := Stand.of_body Bd
  have e0 : s₁.heap = h0 := by rw [← hh, Bd.state]; rfl
  have N0 := Fr.nil n0
  have pre0 : ∀ t, Steps p.tables e below (s₁.setTop (mkF m 0 #[.val (.long q0_), .second, .val (.int p1_), .val (.int p2_), .unset, .unset, .unset, .unset, .unset, .unset, .unset, .unset] [])) t → Steps p.tables e below (s₁.setTop (entryFrame m #[(.long q0_), (.int p1_), (.int p2_)] maxLocals)) t := fun t k => castTop (own_ef1 m q0_ p1_ p2_) k
  obtain ⟨_, _, ⟨T1, L1, k1, n1⟩, -, X1, ⟨Lc1, hQ1, l1, y1, z1⟩, st1⟩ := Jvm.LawKit.callS X0 hx (y := (⟨"com/example/tidewell/tidewell/types/Timestamps", "inRange", "(J)Z"⟩ : MethodName)) hown (mvT hZ (hw _ (List.mem_of_getElem? (i := 2) rfl))) (mvT hZ (hw _ (List.mem_of_getElem? (i := 3) rfl))) (mvT hZ (hw _ (List.mem_of_getElem? (i := 4) rfl))) (mvT hZ (hw _ (List.mem_of_getElem? (i := 5) rfl))) (by decide) (backOf (W := 0) (own_b1_t l Z a0 hw [] ((253402300799999 : Int64) + (p1_.toInt64)) (-62167219200000 : Int64) h0 n0 Z0 S_MIN_MILLIS hf2) hZ (hw _ (List.mem_of_getElem? (i := 5) rfl)) (hw _ (List.mem_of_getElem? (i := 4) rfl)) (by decide) (by decide)) (g := (mkF m 87 #[.val (.long q0_), .second, .val (.int p1_), .val (.int p2_), .val (.long (-62167219200000 : Int64)), .second, .val (.long (253402300799999 : Int64)), .second, .val (.int (2 : Int32)), .val (.long ((253402300799999 : Int64) + (p1_.toInt64))), .second, .val (.int (0 : Int32))] [(.long ((253402300799999 : Int64) + (p1_.toInt64)))])) rfl (by rw [hml]; rfl) (argsL := [(.long ((253402300799999 : Int64) + (p1_.toInt64)))]) (rest := []) (lenOf own_pd0 rfl) rfl (by show 2 * 0 + _ ≤ _; exact Nat.le_of_eq rfl) (hb hby at_87) (fun _ _ => ⟨rfl, e0, (by decide : 0 + 0 ≤ _), (by decide : 0 + 0 ≤ _)⟩)
  dsimp only [Pt.U, Pt.locs, Pt.cells, Pt.slots] at X1 l1 y1 z1 st1 hQ1
  subst l1 y1 z1
  obtain ⟨rfl, N1q, e1⟩ := hQ1
  have N1 := Fr.app N0 N1q
  obtain ⟨fs, hr, hrun, hended, hW, hsame⟩ := X1.leave (v := some (.int (1 : Int32))) (fun h => by rw [Bd.returns] at h; cases h)
  refine ⟨_, _, pre0 _ ?_, hrun, hended, _, _, rfl, ?_, ⟨_, rfl⟩, hW, hsame.mono (by decide) (by decide)⟩
  · show Steps p.tables e below (s₁.setTop (mkF m 0 #[.val (.long q0_), .second, .val (.int p1_), .val (.int p2_), .unset, .unset, .unset, .unset, .unset, .unset, .unset, .unset] [])) _
    refine X0.ldc2Long hx hown (mvT hZ (hw _ (List.mem_of_getElem? (i := 0) rfl))) (g := (mkF m 0 #[.val (.long q0_), .second, .val (.int p1_), .val (.int p2_), .unset, .unset, .unset, .unset, .unset, .unset, .unset, .unset] [])) rfl (hb hby at_0) _ ?_
    show Steps p.tables e below (s₁.setTop (mkF m 3 #[.val (.long q0_), .second, .val (.int p1_), .val (.int p2_), .unset, .unset, .unset, .unset, .unset, .unset, .unset, .unset] [(.long (-62167219200000 : Int64))])) _
    refine XS.lstore X0.here hx rfl (hb hby at_3) rfl (l' := #[.val (.long q0_), .second, .val (.int p1_), .val (.int p2_), .val (.long (-62167219200000 : Int64)), .second, .unset, .unset, .unset, .unset, .unset, .unset]) rfl ?_
    show Steps p.tables e below (s₁.setTop (mkF m 5 #[.val (.long q0_), .second, .val (.int p1_), .val (.int p2_), .val (.long (-62167219200000 : Int64)), .second, .unset, .unset, .unset, .unset, .unset, .unset] [])) _
    refine X0.ldc2Long hx hown (mvT hZ (hw _ (List.mem_of_getElem? (i := 1) rfl))) (g := (mkF m 5 #[.val (.long q0_), .second, .val (.int p1_), .val (.int p2_), .val (.long (-62167219200000 : Int64)), .second, .unset, .unset, .unset, .unset, .unset, .unset] [])) rfl (hb hby at_5) _ ?_
    show Steps p.tables e below (s₁.setTop (mkF m 8 #[.val (.long q0_), .second, .val (.int p1_), .val (.int p2_), .val (.long (-62167219200000 : Int64)), .second, .unset, .unset, .unset, .unset, .unset, .unset] [(.long (253402300799999 : Int64))])) _
    refine XS.lstore X0.here hx rfl (hb hby at_8) rfl (l' := #[.val (.long q0_), .second, .val (.int p1_), .val (.int p2_), .val (.long (-62167219200000 : Int64)), .second, .val (.long (253402300799999 : Int64)), .second, .unset, .unset, .unset, .unset]) rfl ?_
    show Steps p.tables e below (s₁.setTop (mkF m 10 #[.val (.long q0_), .second, .val (.int p1_), .val (.int p2_), .val (.long (-62167219200000 : Int64)), .second, .val (.long (253402300799999 : Int64)), .second, .unset, .unset, .unset, .unset] [])) _
    refine XS.iloadN X0.here hx rfl (hb hby at_10) rfl ?_
    show Steps p.tables e below (s₁.setTop (mkF m 11 #[.val (.long q0_), .second, .val (.int p1_), .val (.int p2_), .val (.long (-62167219200000 : Int64)), .second, .val (.long (253402300799999 : Int64)), .second, .unset, .unset, .unset, .unset] [(.int p2_)])) _
    refine XS.iconst X0.here hx rfl (hb hby at_11) ?_
    show Steps p.tables e below (s₁.setTop (mkF m 12 #[.val (.long q0_), .second, .val (.int p1_), .val (.int p2_), .val (.long (-62167219200000 : Int64)), .second, .val (.long (253402300799999 : Int64)), .second, .unset, .unset, .unset, .unset] [(.int (3 : Int32)), (.int p2_)])) _
    refine XS.iand X0.here hx rfl (hb hby at_12) rfl ?_
    show Steps p.tables e below (s₁.setTop (mkF m 13 #[.val (.long q0_), .second, .val (.int p1_), .val (.int p2_), .val (.long (-62167219200000 : Int64)), .second, .val (.long (253402300799999 : Int64)), .second, .unset, .unset, .unset, .unset] [(.int (p2_ &&& (3 : Int32)))])) _
    rw [hf0]
    show Steps p.tables e below (s₁.setTop (mkF m 13 #[.val (.long q0_), .second, .val (.int p1_), .val (.int p2_), .val (.long (-62167219200000 : Int64)), .second, .val (.long (253402300799999 : Int64)), .second, .unset, .unset, .unset, .unset] [(.int (2 : Int32))])) _
    refine XS.istore X0.here hx rfl (hb hby at_13) rfl (l' := #[.val (.long q0_), .second, .val (.int p1_), .val (.int p2_), .val (.long (-62167219200000 : Int64)), .second, .val (.long (253402300799999 : Int64)), .second, .val (.int (2 : Int32)), .unset, .unset, .unset]) rfl ?_
    show Steps p.tables e below (s₁.setTop (mkF m 15 #[.val (.long q0_), .second, .val (.int p1_), .val (.int p2_), .val (.long (-62167219200000 : Int64)), .second, .val (.long (253402300799999 : Int64)), .second, .val (.int (2 : Int32)), .unset, .unset, .unset] [])) _
    refine XS.iload X0.here hx rfl (hb hby at_15) rfl ?_
    show Steps p.tables e below (s₁.setTop (mkF m 17 #[.val (.long q0_), .second, .val (.int p1_), .val (.int p2_), .val (.long (-62167219200000 : Int64)), .second, .val (.long (253402300799999 : Int64)), .second, .val (.int (2 : Int32)), .unset, .unset, .unset] [(.int (2 : Int32))])) _
    refine XS.ifYes X0.here hx rfl (pc0 := 17) (pc' := 26) rfl (hb hby at_17) rfl ((if0 _ _).trans (feq (by decide : ¬ ((2 : Int32) = (0 : Int32)))).2) (by decide) (by decide) ?_
    show Steps p.tables e below (s₁.setTop (mkF m 26 #[.val (.long q0_), .second, .val (.int p1_), .val (.int p2_), .val (.long (-62167219200000 : Int64)), .second, .val (.long (253402300799999 : Int64)), .second, .val (.int (2 : Int32)), .unset, .unset, .unset] [])) _
    refine XS.iload X0.here hx rfl (hb hby at_26) rfl ?_
    show Steps p.tables e below (s₁.setTop (mkF m 28 #[.val (.long q0_), .second, .val (.int p1_), .val (.int p2_), .val (.long (-62167219200000 : Int64)), .second, .val (.long (253402300799999 : Int64)), .second, .val (.int (2 : Int32)), .unset, .unset, .unset] [(.int (2 : Int32))])) _
    refine XS.iconst X0.here hx rfl (hb hby at_28) ?_
    show Steps p.tables e below (s₁.setTop (mkF m 29 #[.val (.long q0_), .second, .val (.int p1_), .val (.int p2_), .val (.long (-62167219200000 : Int64)), .second, .val (.long (253402300799999 : Int64)), .second, .val (.int (2 : Int32)), .unset, .unset, .unset] [(.int (1 : Int32)), (.int (2 : Int32))])) _
    refine XS.icmpYes X0.here hx rfl (pc0 := 29) (pc' := 42) rfl (hb hby at_29) rfl (feq (by decide : ¬ ((2 : Int32) = (1 : Int32)))).2 (by decide) (by decide) ?_
    show Steps p.tables e below (s₁.setTop (mkF m 42 #[.val (.long q0_), .second, .val (.int p1_), .val (.int p2_), .val (.long (-62167219200000 : Int64)), .second, .val (.long (253402300799999 : Int64)), .second, .val (.int (2 : Int32)), .unset, .unset, .unset] [])) _
    refine XS.iload X0.here hx rfl (hb hby at_42) rfl ?_
    show Steps p.tables e below (s₁.setTop (mkF m 44 #[.val (.long q0_), .second, .val (.int p1_), .val (.int p2_), .val (.long (-62167219200000 : Int64)), .second, .val (.long (253402300799999 : Int64)), .second, .val (.int (2 : Int32)), .unset, .unset, .unset] [(.int (2 : Int32))])) _
    refine XS.iconst X0.here hx rfl (hb hby at_44) ?_
    show Steps p.tables e below (s₁.setTop (mkF m 45 #[.val (.long q0_), .second, .val (.int p1_), .val (.int p2_), .val (.long (-62167219200000 : Int64)), .second, .val (.long (253402300799999 : Int64)), .second, .val (.int (2 : Int32)), .unset, .unset, .unset] [(.int (2 : Int32)), (.int (2 : Int32))])) _
    refine XS.icmpNo X0.here hx rfl (hb hby at_45) rfl (teq (rfl : (2 : Int32) = (2 : Int32))).2 ?_
    show Steps p.tables e below (s₁.setTop (mkF m 48 #[.val (.long q0_), .second, .val (.int p1_), .val (.int p2_), .val (.long (-62167219200000 : Int64)), .second, .val (.long (253402300799999 : Int64)), .second, .val (.int (2 : Int32)), .unset, .unset, .unset] [])) _
    refine XS.lload X0.here hx rfl (hb hby at_48) rfl ?_
    show Steps p.tables e below (s₁.setTop (mkF m 50 #[.val (.long q0_), .second, .val (.int p1_), .val (.int p2_), .val (.long (-62167219200000 : Int64)), .second, .val (.long (253402300799999 : Int64)), .second, .val (.int (2 : Int32)), .unset, .unset, .unset] [(.long (253402300799999 : Int64))])) _
    refine XS.iloadN X0.here hx rfl (hb hby at_50) rfl ?_
    show Steps p.tables e below (s₁.setTop (mkF m 51 #[.val (.long q0_), .second, .val (.int p1_), .val (.int p2_), .val (.long (-62167219200000 : Int64)), .second, .val (.long (253402300799999 : Int64)), .second, .val (.int (2 : Int32)), .unset, .unset, .unset] [(.int p1_), (.long (253402300799999 : Int64))])) _
    refine XS.i2l X0.here hx rfl (hb hby at_51) rfl ?_
    show Steps p.tables e below (s₁.setTop (mkF m 52 #[.val (.long q0_), .second, .val (.int p1_), .val (.int p2_), .val (.long (-62167219200000 : Int64)), .second, .val (.long (253402300799999 : Int64)), .second, .val (.int (2 : Int32)), .unset, .unset, .unset] [(.long (p1_.toInt64)), (.long (253402300799999 : Int64))])) _
    refine XS.ladd X0.here hx rfl (hb hby at_52) rfl ?_
    show Steps p.tables e below (s₁.setTop (mkF m 53 #[.val (.long q0_), .second, .val (.int p1_), .val (.int p2_), .val (.long (-62167219200000 : Int64)), .second, .val (.long (253402300799999 : Int64)), .second, .val (.int (2 : Int32)), .unset, .unset, .unset] [(.long ((253402300799999 : Int64) + (p1_.toInt64)))])) _
    refine XS.lstore X0.here hx rfl (hb hby at_53) rfl (l' := #[.val (.long q0_), .second, .val (.int p1_), .val (.int p2_), .val (.long (-62167219200000 : Int64)), .second, .val (.long (253402300799999 : Int64)), .second, .val (.int (2 : Int32)), .val (.long ((253402300799999 : Int64) + (p1_.toInt64))), .second, .unset]) rfl ?_
    show Steps p.tables e below (s₁.setTop (mkF m 55 #[.val (.long q0_), .second, .val (.int p1_), .val (.int p2_), .val (.long (-62167219200000 : Int64)), .second, .val (.long (253402300799999 : Int64)), .second, .val (.int (2 : Int32)), .val (.long ((253402300799999 : Int64) + (p1_.toInt64))), .second, .unset] [])) _
    refine XS.goto X0.here hx rfl (pc0 := 55) (pc' := 62) rfl (hb hby at_55) (by decide) (by decide) ?_
    show Steps p.tables e below (s₁.setTop (mkF m 62 #[.val (.long q0_), .second, .val (.int p1_), .val (.int p2_), .val (.long (-62167219200000 : Int64)), .second, .val (.long (253402300799999 : Int64)), .second, .val (.int (2 : Int32)), .val (.long ((253402300799999 : Int64) + (p1_.toInt64))), .second, .unset] [])) _
    refine XS.lload X0.here hx rfl (hb hby at_62) rfl ?_
    show Steps p.tables e below (s₁.setTop (mkF m 64 #[.val (.long q0_), .second, .val (.int p1_), .val (.int p2_), .val (.long (-62167219200000 : Int64)), .second, .val (.long (253402300799999 : Int64)), .second, .val (.int (2 : Int32)), .val (.long ((253402300799999 : Int64) + (p1_.toInt64))), .second, .unset] [(.long (-62167219200000 : Int64))])) _
    refine XS.lload X0.here hx rfl (hb hby at_64) rfl ?_
    show Steps p.tables e below (s₁.setTop (mkF m 66 #[.val (.long q0_), .second, .val (.int p1_), .val (.int p2_), .val (.long (-62167219200000 : Int64)), .second, .val (.long (253402300799999 : Int64)), .second, .val (.int (2 : Int32)), .val (.long ((253402300799999 : Int64) + (p1_.toInt64))), .second, .unset] [(.long ((253402300799999 : Int64) + (p1_.toInt64))), (.long (-62167219200000 : Int64))])) _
    refine XS.lcmp X0.here hx rfl (hb hby at_66) rfl ?_
    show Steps p.tables e below (s₁.setTop (mkF m 67 #[.val (.long q0_), .second, .val (.int p1_), .val (.int p2_), .val (.long (-62167219200000 : Int64)), .second, .val (.long (253402300799999 : Int64)), .second, .val (.int (2 : Int32)), .val (.long ((253402300799999 : Int64) + (p1_.toInt64))), .second, .unset] [(.int (lcmpW (-62167219200000 : Int64) ((253402300799999 : Int64) + (p1_.toInt64))))])) _
    refine XS.ifYes X0.here hx rfl (pc0 := 67) (pc' := 82) rfl (hb hby at_67) rfl ((if0 _ _).trans (tlt hf1).2.2.1) (by decide) (by decide) ?_
    show Steps p.tables e below (s₁.setTop (mkF m 82 #[.val (.long q0_), .second, .val (.int p1_), .val (.int p2_), .val (.long (-62167219200000 : Int64)), .second, .val (.long (253402300799999 : Int64)), .second, .val (.int (2 : Int32)), .val (.long ((253402300799999 : Int64) + (p1_.toInt64))), .second, .unset] [])) _
    refine XS.iconst X0.here hx rfl (hb hby at_82) ?_
    show Steps p.tables e below (s₁.setTop (mkF m 83 #[.val (.long q0_), .second, .val (.int p1_), .val (.int p2_), .val (.long (-62167219200000 : Int64)), .second, .val (.long (253402300799999 : Int64)), .second, .val (.int (2 : Int32)), .val (.long ((253402300799999 : Int64) + (p1_.toInt64))), .second, .unset] [(.int (0 : Int32))])) _
    refine XS.istore X0.here hx rfl (hb hby at_83) rfl (l' := #[.val (.long q0_), .second, .val (.int p1_), .val (.int p2_), .val (.long (-62167219200000 : Int64)), .second, .val (.long (253402300799999 : Int64)), .second, .val (.int (2 : Int32)), .val (.long ((253402300799999 : Int64) + (p1_.toInt64))), .second, .val (.int (0 : Int32))]) rfl ?_
    show Steps p.tables e below (s₁.setTop (mkF m 85 #[.val (.long q0_), .second, .val (.int p1_), .val (.int p2_), .val (.long (-62167219200000 : Int64)), .second, .val (.long (253402300799999 : Int64)), .second, .val (.int (2 : Int32)), .val (.long ((253402300799999 : Int64) + (p1_.toInt64))), .second, .val (.int (0 : Int32))] [])) _
    refine XS.lload X0.here hx rfl (hb hby at_85) rfl ?_
    show Steps p.tables e below (s₁.setTop (mkF m 87 #[.val (.long q0_), .second, .val (.int p1_), .val (.int p2_), .val (.long (-62167219200000 : Int64)), .second, .val (.long (253402300799999 : Int64)), .second, .val (.int (2 : Int32)), .val (.long ((253402300799999 : Int64) + (p1_.toInt64))), .second, .val (.int (0 : Int32))] [(.long ((253402300799999 : Int64) + (p1_.toInt64)))])) _
    refine st1 _ ?_
    show Steps p.tables e below (T1.setTop (mkF m 90 #[.val (.long q0_), .second, .val (.int p1_), .val (.int p2_), .val (.long (-62167219200000 : Int64)), .second, .val (.long (253402300799999 : Int64)), .second, .val (.int (2 : Int32)), .val (.long ((253402300799999 : Int64) + (p1_.toInt64))), .second, .val (.int (0 : Int32))] [(.int (0 : Int32))])) _
    refine XS.iload X1.here hx rfl (hb hby at_90) rfl ?_
    show Steps p.tables e below (T1.setTop (mkF m 92 #[.val (.long q0_), .second, .val (.int p1_), .val (.int p2_), .val (.long (-62167219200000 : Int64)), .second, .val (.long (253402300799999 : Int64)), .second, .val (.int (2 : Int32)), .val (.long ((253402300799999 : Int64) + (p1_.toInt64))), .second, .val (.int (0 : Int32))] [(.int (0 : Int32)), (.int (0 : Int32))])) _
    refine XS.icmpNo X1.here hx rfl (hb hby at_92) rfl (teq (rfl : (0 : Int32) = (0 : Int32))).2 ?_
    show Steps p.tables e below (T1.setTop (mkF m 95 #[.val (.long q0_), .second, .val (.int p1_), .val (.int p2_), .val (.long (-62167219200000 : Int64)), .second, .val (.long (253402300799999 : Int64)), .second, .val (.int (2 : Int32)), .val (.long ((253402300799999 : Int64) + (p1_.toInt64))), .second, .val (.int (0 : Int32))] [])) _
    refine XS.iconst X1.here hx rfl (hb hby at_95) ?_
    show Steps p.tables e below (T1.setTop (mkF m 96 #[.val (.long q0_), .second, .val (.int p1_), .val (.int p2_), .val (.long (-62167219200000 : Int64)), .second, .val (.long (253402300799999 : Int64)), .second, .val (.int (2 : Int32)), .val (.long ((253402300799999 : Int64) + (p1_.toInt64))), .second, .val (.int (0 : Int32))] [(.int (1 : Int32))])) _
    refine XS.goto X1.here hx rfl (pc0 := 96) (pc' := 100) rfl (hb hby at_96) (by decide) (by decide) ?_
    show Steps p.tables e below (T1.setTop (mkF m 100 #[.val (.long q0_), .second, .val (.int p1_), .val (.int p2_), .val (.long (-62167219200000 : Int64)), .second, .val (.long (253402300799999 : Int64)), .second, .val (.int (2 : Int32)), .val (.long ((253402300799999 : Int64) + (p1_.toInt64))), .second, .val (.int (0 : Int32))] [(.int (1 : Int32))])) _
    exact retN X1 hx (t := .boolean) Bd.returns (by simp) (hb hby at_100) hr
  · show own_QL n0 _ T1.heap _
    exact ⟨rfl, N1⟩
set_option maxRecDepth 65536 in
set_option maxHeartbeats 40000000 in
theorem own_law2a (l : Launch) (Z : State) (a0 : Array Value) (hw : ∀ d ∈ tables_1, d.before a0 Z = true) (ws : List Jvm.Cond) (q0_ : Int64) (p1_ : Int32) (p2_ : Int32) (h0 : Heap) (n0 : Nat) (Z0 : n0 ≤ h0.size) (S_MIN_MILLIS : Sta Z h0 "com/example/tidewell/tidewell/types/Timestamps" "MIN_MILLIS" "J" (.long (-62167219200000 : Int64))) (S_MAX_MILLIS : Sta Z h0 "com/example/tidewell/tidewell/types/Timestamps" "MAX_MILLIS" "J" (.long (253402300799999 : Int64))) (hf0 : (p2_ &&& (3 : Int32)) = (2 : Int32)) (hf1 : ¬ ((0 : Int32) < (lcmpW (-62167219200000 : Int64) ((253402300799999 : Int64) + (p1_.toInt64))))) (hf2 : (0 : Int32) < (lcmpW ((253402300799999 : Int64) + (p1_.toInt64)) (253402300799999 : Int64))) (hf3 : ¬ ((lcmpW ((253402300799999 : Int64) + (p1_.toInt64)) (-62167219200000 : Int64)) < (0 : Int32))) :
    MetFree l x (head1 (Jvm.Cond.code x code maxLocals ret :: ws) room_1) (fun a U => a = #[(.long q0_), (.int p1_), (.int p2_)] ∧ Z.Warmed39 U.vm ∧ U.heap = h0) (fun _ _ _ _ _ => True) (fun _ U o U' => ∃ v L, o = .returned v ∧ own_QL n0 v U'.heap L ∧ FrameEnd U o U' L room_1.cells room_1.slots) := by
  refine MetFree.of_bodySF (plainFor_of_name own_pn1) hisR ?_
  intro p e s m args below meth c s₁ Bd hml0 hP hK
  obtain ⟨rfl, hZ, hh⟩ := hP
  have hx := Bd.exec
  have hby := Bd.bytes
  have hml : c.maxLocals = 12 := hml0
  have hown : s.vm.findClass "com/example/tidewell/tidewell/types/TimestampsInRangePinLaw" = some m.cls := findClass_of_methodNamed Bd.named
  have hnm := (name_of_methodNamed Bd.named Bd.method).1
  have X0 : Stand p l e room_1 s m #[(.long q0_), (.int p1_), (.int p2_)] below meth c s₁ [] 0 0 := Stand.of_body Bd
  have e0 : s₁.heap = h0 := by rw [← hh, Bd.state]; rfl
  have N0 := Fr.nil n0
  have pre0 : ∀ t, Steps p.tables e below (s₁.setTop (mkF m 0 #[.val (.long q0_), .second, .val (.int p1_), .val (.int p2_), .unset, .unset, .unset, .unset, .unset, .unset, .unset, .unset] [])) t → Steps p.tables e below (s₁.setTop (entryFrame m #[(.long q0_), (.int p1_), (.int p2_)] maxLocals)) t := fun t k => castTop (own_ef1 m q0_ p1_ p2_) k
  obtain ⟨_, _, ⟨T1, L1, k1, n1⟩, -, X1, ⟨Lc1, hQ1, l1, y1, z1⟩, st1⟩ := Jvm.LawKit.callS X0 hx (y := (⟨"com/example/tidewell/tidewell/types/Timestamps", "inRange", "(J)Z"⟩ : MethodName)) hown (mvT hZ (hw _ (List.mem_of_getElem? (i := 2) rfl))) (mvT hZ (hw _ (List.mem_of_getElem? (i := 3) rfl))) (mvT hZ (hw _ (List.mem_of_getElem? (i := 4) rfl))) (mvT hZ (hw _ (List.mem_of_getElem? (i := 5) rfl))) (by decide) (backOf (W := 0) (own_b1_ft l Z a0 hw [] ((253402300799999 : Int64) + (p1_.toInt64)) (-62167219200000 : Int64) (253402300799999 : Int64) h0 n0 Z0 S_MIN_MILLIS S_MAX_MILLIS hf3 hf2) hZ (hw _ (List.mem_of_getElem? (i := 5) rfl)) (hw _ (List.mem_of_getElem? (i := 4) rfl)) (by decide) (by decide)) (g := (mkF m 87 #[.val (.long q0_), .second, .val (.int p1_), .val (.int p2_), .val (.long (-62167219200000 : Int64)), .second, .val (.long (253402300799999 : Int64)), .second, .val (.int (2 : Int32)), .val (.long ((253402300799999 : Int64) + (p1_.toInt64))), .second, .val (.int (0 : Int32))] [(.long ((253402300799999 : Int64) + (p1_.toInt64)))])) rfl (by rw [hml]; rfl) (argsL := [(.long ((253402300799999 : Int64) + (p1_.toInt64)))]) (rest := []) (lenOf own_pd0 rfl) rfl (by show 2 * 0 + _ ≤ _; exact Nat.le_of_eq rfl) (hb hby at_87) (fun _ _ => ⟨rfl, e0, (by decide : 0 + 0 ≤ _), (by decide : 0 + 0 ≤ _)⟩)
  dsimp only [Pt.U, Pt.locs, Pt.cells, Pt.slots] at X1 l1 y1 z1 st1 hQ1
  subst l1 y1 z1
  obtain ⟨rfl, N1q, e1⟩ := hQ1
  have N1 := Fr.app N0 N1q
  obtain ⟨fs, hr, hrun, hended, hW, hsame⟩ := X1.leave (v := some (.int (1 : Int32))) (fun h => by rw [Bd.returns] at h; cases h)
  refine ⟨_, _, pre0 _ ?_, hrun, hended, _, _, rfl, ?_, ⟨_, rfl⟩, hW, hsame.mono (by decide) (by decide)⟩
  · show Steps p.tables e below (s₁.setTop (mkF m 0 #[.val (.long q0_), .second, .val (.int p1_), .val (.int p2_), .unset, .unset, .unset, .unset, .unset, .unset, .unset, .unset] [])) _
    refine X0.ldc2Long hx hown (mvT hZ (hw _ (List.mem_of_getElem? (i := 0) rfl))) (g := (mkF m 0 #[.val (.long q0_), .second, .val (.int p1_), .val (.int p2_), .unset, .unset, .unset, .unset, .unset, .unset, .unset, .unset] [])) rfl (hb hby at_0) _ ?_
    show Steps p.tables e below (s₁.setTop (mkF m 3 #[.val (.long q0_), .second, .val (.int p1_), .val (.int p2_), .unset, .unset, .unset, .unset, .unset, .unset, .unset, .unset] [(.long (-62167219200000 : Int64))])) _
    refine XS.lstore X0.here hx rfl (hb hby at_3) rfl (l' := #[.val (.long q0_), .second, .val (.int p1_), .val (.int p2_), .val (.long (-62167219200000 : Int64)), .second, .unset, .unset, .unset, .unset, .unset, .unset]) rfl ?_
    show Steps p.tables e below (s₁.setTop (mkF m 5 #[.val (.long q0_), .second, .val (.int p1_), .val (.int p2_), .val (.long (-62167219200000 : Int64)), .second, .unset, .unset, .unset, .unset, .unset, .unset] [])) _
    refine X0.ldc2Long hx hown (mvT hZ (hw _ (List.mem_of_getElem? (i := 1) rfl))) (g := (mkF m 5 #[.val (.long q0_), .second, .val (.int p1_), .val (.int p2_), .val (.long (-62167219200000 : Int64)), .second, .unset, .unset, .unset, .unset, .unset, .unset] [])) rfl (hb hby at_5) _ ?_
    show Steps p.tables e below (s₁.setTop (mkF m 8 #[.val (.long q0_), .second, .val (.int p1_), .val (.int p2_), .val (.long (-62167219200000 : Int64)), .second, .unset, .unset, .unset, .unset, .unset, .unset] [(.long (253402300799999 : Int64))])) _
    refine XS.lstore X0.here hx rfl (hb hby at_8) rfl (l' := #[.val (.long q0_), .second, .val (.int p1_), .val (.int p2_), .val (.long (-62167219200000 : Int64)), .second, .val (.long (253402300799999 : Int64)), .second, .unset, .unset, .unset, .unset]) rfl ?_
    show Steps p.tables e below (s₁.setTop (mkF m 10 #[.val (.long q0_), .second, .val (.int p1_), .val (.int p2_), .val (.long (-62167219200000 : Int64)), .second, .val (.long (253402300799999 : Int64)), .second, .unset, .unset, .unset, .unset] [])) _
    refine XS.iloadN X0.here hx rfl (hb hby at_10) rfl ?_
    show Steps p.tables e below (s₁.setTop (mkF m 11 #[.val (.long q0_), .second, .val (.int p1_), .val (.int p2_), .val (.long (-62167219200000 : Int64)), .second, .val (.long (253402300799999 : Int64)), .second, .unset, .unset, .unset, .unset] [(.int p2_)])) _
    refine XS.iconst X0.here hx rfl (hb hby at_11) ?_
    show Steps p.tables e below (s₁.setTop (mkF m 12 #[.val (.long q0_), .second, .val (.int p1_), .val (.int p2_), .val (.long (-62167219200000 : Int64)), .second, .val (.long (253402300799999 : Int64)), .second, .unset, .unset, .unset, .unset] [(.int (3 : Int32)), (.int p2_)])) _
    refine XS.iand X0.here hx rfl (hb hby at_12) rfl ?_
    show Steps p.tables e below (s₁.setTop (mkF m 13 #[.val (.long q0_), .second, .val (.int p1_), .val (.int p2_), .val (.long (-62167219200000 : Int64)), .second, .val (.long (253402300799999 : Int64)), .second, .unset, .unset, .unset, .unset] [(.int (p2_ &&& (3 : Int32)))])) _
    rw [hf0]
    show Steps p.tables e below (s₁.setTop (mkF m 13 #[.val (.long q0_), .second, .val (.int p1_), .val (.int p2_), .val (.long (-62167219200000 : Int64)), .second, .val (.long (253402300799999 : Int64)), .second, .unset, .unset, .unset, .unset] [(.int (2 : Int32))])) _
    refine XS.istore X0.here hx rfl (hb hby at_13) rfl (l' := #[.val (.long q0_), .second, .val (.int p1_), .val (.int p2_), .val (.long (-62167219200000 : Int64)), .second, .val (.long (253402300799999 : Int64)), .second, .val (.int (2 : Int32)), .unset, .unset, .unset]) rfl ?_
    show Steps p.tables e below (s₁.setTop (mkF m 15 #[.val (.long q0_), .second, .val (.int p1_), .val (.int p2_), .val (.long (-62167219200000 : Int64)), .second, .val (.long (253402300799999 : Int64)), .second, .val (.int (2 : Int32)), .unset, .unset, .unset] [])) _
    refine XS.iload X0.here hx rfl (hb hby at_15) rfl ?_
    show Steps p.tables e below (s₁.setTop (mkF m 17 #[.val (.long q0_), .second, .val (.int p1_), .val (.int p2_), .val (.long (-62167219200000 : Int64)), .second, .val (.long (253402300799999 : Int64)), .second, .val (.int (2 : Int32)), .unset, .unset, .unset] [(.int (2 : Int32))])) _
    refine XS.ifYes X0.here hx rfl (pc0 := 17) (pc' := 26) rfl (hb hby at_17) rfl ((if0 _ _).trans (feq (by decide : ¬ ((2 : Int32) = (0 : Int32)))).2) (by decide) (by decide) ?_
    show Steps p.tables e below (s₁.setTop (mkF m 26 #[.val (.long q0_), .second, .val (.int p1_), .val (.int p2_), .val (.long (-62167219200000 : Int64)), .second, .val (.long (253402300799999 : Int64)), .second, .val (.int (2 : Int32)), .unset, .unset, .unset] [])) _
    refine XS.iload X0.here hx rfl (hb hby at_26) rfl ?_
    show Steps p.tables e below (s₁.setTop (mkF m 28 #[.val (.long q0_), .second, .val (.int p1_), .val (.int p2_), .val (.long (-62167219200000 : Int64)), .second, .val (.long (253402300799999 : Int64)), .second, .val (.int (2 : Int32)), .unset, .unset, .unset] [(.int (2 : Int32))])) _
    refine XS.iconst X0.here hx rfl (hb hby at_28) ?_
    show Steps p.tables e below (s₁.setTop (mkF m 29 #[.val (.long q0_), .second, .val (.int p1_), .val (.int p2_), .val (.long (-62167219200000 : Int64)), .second, .val (.long (253402300799999 : Int64)), .second, .val (.int (2 : Int32)), .unset, .unset, .unset] [(.int (1 : Int32)), (.int (2 : Int32))])) _
    refine XS.icmpYes X0.here hx rfl (pc0 := 29) (pc' := 42) rfl (hb hby at_29) rfl (feq (by decide : ¬ ((2 : Int32) = (1 : Int32)))).2 (by decide) (by decide) ?_
    show Steps p.tables e below (s₁.setTop (mkF m 42 #[.val (.long q0_), .second, .val (.int p1_), .val (.int p2_), .val (.long (-62167219200000 : Int64)), .second, .val (.long (253402300799999 : Int64)), .second, .val (.int (2 : Int32)), .unset, .unset, .unset] [])) _
    refine XS.iload X0.here hx rfl (hb hby at_42) rfl ?_
    show Steps p.tables e below (s₁.setTop (mkF m 44 #[.val (.long q0_), .second, .val (.int p1_), .val (.int p2_), .val (.long (-62167219200000 : Int64)), .second, .val (.long (253402300799999 : Int64)), .second, .val (.int (2 : Int32)), .unset, .unset, .unset] [(.int (2 : Int32))])) _
    refine XS.iconst X0.here hx rfl (hb hby at_44) ?_
    show Steps p.tables e below (s₁.setTop (mkF m 45 #[.val (.long q0_), .second, .val (.int p1_), .val (.int p2_), .val (.long (-62167219200000 : Int64)), .second, .val (.long (253402300799999 : Int64)), .second, .val (.int (2 : Int32)), .unset, .unset, .unset] [(.int (2 : Int32)), (.int (2 : Int32))])) _
    refine XS.icmpNo X0.here hx rfl (hb hby at_45) rfl (teq (rfl : (2 : Int32) = (2 : Int32))).2 ?_
    show Steps p.tables e below (s₁.setTop (mkF m 48 #[.val (.long q0_), .second, .val (.int p1_), .val (.int p2_), .val (.long (-62167219200000 : Int64)), .second, .val (.long (253402300799999 : Int64)), .second, .val (.int (2 : Int32)), .unset, .unset, .unset] [])) _
    refine XS.lload X0.here hx rfl (hb hby at_48) rfl ?_
    show Steps p.tables e below (s₁.setTop (mkF m 50 #[.val (.long q0_), .second, .val (.int p1_), .val (.int p2_), .val (.long (-62167219200000 : Int64)), .second, .val (.long (253402300799999 : Int64)), .second, .val (.int (2 : Int32)), .unset, .unset, .unset] [(.long (253402300799999 : Int64))])) _
    refine XS.iloadN X0.here hx rfl (hb hby at_50) rfl ?_
    show Steps p.tables e below (s₁.setTop (mkF m 51 #[.val (.long q0_), .second, .val (.int p1_), .val (.int p2_), .val (.long (-62167219200000 : Int64)), .second, .val (.long (253402300799999 : Int64)), .second, .val (.int (2 : Int32)), .unset, .unset, .unset] [(.int p1_), (.long (253402300799999 : Int64))])) _
    refine XS.i2l X0.here hx rfl (hb hby at_51) rfl ?_
    show Steps p.tables e below (s₁.setTop (mkF m 52 #[.val (.long q0_), .second, .val (.int p1_), .val (.int p2_), .val (.long (-62167219200000 : Int64)), .second, .val (.long (253402300799999 : Int64)), .second, .val (.int (2 : Int32)), .unset, .unset, .unset] [(.long (p1_.toInt64)), (.long (253402300799999 : Int64))])) _
    refine XS.ladd X0.here hx rfl (hb hby at_52) rfl ?_
    show Steps p.tables e below (s₁.setTop (mkF m 53 #[.val (.long q0_), .second, .val (.int p1_), .val (.int p2_), .val (.long (-62167219200000 : Int64)), .second, .val (.long (253402300799999 : Int64)), .second, .val (.int (2 : Int32)), .unset, .unset, .unset] [(.long ((253402300799999 : Int64) + (p1_.toInt64)))])) _
    refine XS.lstore X0.here hx rfl (hb hby at_53) rfl (l' := #[.val (.long q0_), .second, .val (.int p1_), .val (.int p2_), .val (.long (-62167219200000 : Int64)), .second, .val (.long (253402300799999 : Int64)), .second, .val (.int (2 : Int32)), .val (.long ((253402300799999 : Int64) + (p1_.toInt64))), .second, .unset]) rfl ?_
    show Steps p.tables e below (s₁.setTop (mkF m 55 #[.val (.long q0_), .second, .val (.int p1_), .val (.int p2_), .val (.long (-62167219200000 : Int64)), .second, .val (.long (253402300799999 : Int64)), .second, .val (.int (2 : Int32)), .val (.long ((253402300799999 : Int64) + (p1_.toInt64))), .second, .unset] [])) _
    refine XS.goto X0.here hx rfl (pc0 := 55) (pc' := 62) rfl (hb hby at_55) (by decide) (by decide) ?_
    show Steps p.tables e below (s₁.setTop (mkF m 62 #[.val (.long q0_), .second, .val (.int p1_), .val (.int p2_), .val (.long (-62167219200000 : Int64)), .second, .val (.long (253402300799999 : Int64)), .second, .val (.int (2 : Int32)), .val (.long ((253402300799999 : Int64) + (p1_.toInt64))), .second, .unset] [])) _
    refine XS.lload X0.here hx rfl (hb hby at_62) rfl ?_
    show Steps p.tables e below (s₁.setTop (mkF m 64 #[.val (.long q0_), .second, .val (.int p1_), .val (.int p2_), .val (.long (-62167219200000 : Int64)), .second, .val (.long (253402300799999 : Int64)), .second, .val (.int (2 : Int32)), .val (.long ((253402300799999 : Int64) + (p1_.toInt64))), .second, .unset] [(.long (-62167219200000 : Int64))])) _
    refine XS.lload X0.here hx rfl (hb hby at_64) rfl ?_
    show Steps p.tables e below (s₁.setTop (mkF m 66 #[.val (.long q0_), .second, .val (.int p1_), .val (.int p2_), .val (.long (-62167219200000 : Int64)), .second, .val (.long (253402300799999 : Int64)), .second, .val (.int (2 : Int32)), .val (.long ((253402300799999 : Int64) + (p1_.toInt64))), .second, .unset] [(.long ((253402300799999 : Int64) + (p1_.toInt64))), (.long (-62167219200000 : Int64))])) _
    refine XS.lcmp X0.here hx rfl (hb hby at_66) rfl ?_
    show Steps p.tables e below (s₁.setTop (mkF m 67 #[.val (.long q0_), .second, .val (.int p1_), .val (.int p2_), .val (.long (-62167219200000 : Int64)), .second, .val (.long (253402300799999 : Int64)), .second, .val (.int (2 : Int32)), .val (.long ((253402300799999 : Int64) + (p1_.toInt64))), .second, .unset] [(.int (lcmpW (-62167219200000 : Int64) ((253402300799999 : Int64) + (p1_.toInt64))))])) _
    refine XS.ifNo X0.here hx rfl (hb hby at_67) rfl ((if0 _ _).trans (flt hf1).2.2.1) ?_
    show Steps p.tables e below (s₁.setTop (mkF m 70 #[.val (.long q0_), .second, .val (.int p1_), .val (.int p2_), .val (.long (-62167219200000 : Int64)), .second, .val (.long (253402300799999 : Int64)), .second, .val (.int (2 : Int32)), .val (.long ((253402300799999 : Int64) + (p1_.toInt64))), .second, .unset] [])) _
    refine XS.lload X0.here hx rfl (hb hby at_70) rfl ?_
    show Steps p.tables e below (s₁.setTop (mkF m 72 #[.val (.long q0_), .second, .val (.int p1_), .val (.int p2_), .val (.long (-62167219200000 : Int64)), .second, .val (.long (253402300799999 : Int64)), .second, .val (.int (2 : Int32)), .val (.long ((253402300799999 : Int64) + (p1_.toInt64))), .second, .unset] [(.long ((253402300799999 : Int64) + (p1_.toInt64)))])) _
    refine XS.lload X0.here hx rfl (hb hby at_72) rfl ?_
    show Steps p.tables e below (s₁.setTop (mkF m 74 #[.val (.long q0_), .second, .val (.int p1_), .val (.int p2_), .val (.long (-62167219200000 : Int64)), .second, .val (.long (253402300799999 : Int64)), .second, .val (.int (2 : Int32)), .val (.long ((253402300799999 : Int64) + (p1_.toInt64))), .second, .unset] [(.long (253402300799999 : Int64)), (.long ((253402300799999 : Int64) + (p1_.toInt64)))])) _
    refine XS.lcmp X0.here hx rfl (hb hby at_74) rfl ?_
    show Steps p.tables e below (s₁.setTop (mkF m 75 #[.val (.long q0_), .second, .val (.int p1_), .val (.int p2_), .val (.long (-62167219200000 : Int64)), .second, .val (.long (253402300799999 : Int64)), .second, .val (.int (2 : Int32)), .val (.long ((253402300799999 : Int64) + (p1_.toInt64))), .second, .unset] [(.int (lcmpW ((253402300799999 : Int64) + (p1_.toInt64)) (253402300799999 : Int64)))])) _
    refine XS.ifYes X0.here hx rfl (pc0 := 75) (pc' := 82) rfl (hb hby at_75) rfl ((if0 _ _).trans (tlt hf2).2.2.1) (by decide) (by decide) ?_
    show Steps p.tables e below (s₁.setTop (mkF m 82 #[.val (.long q0_), .second, .val (.int p1_), .val (.int p2_), .val (.long (-62167219200000 : Int64)), .second, .val (.long (253402300799999 : Int64)), .second, .val (.int (2 : Int32)), .val (.long ((253402300799999 : Int64) + (p1_.toInt64))), .second, .unset] [])) _
    refine XS.iconst X0.here hx rfl (hb hby at_82) ?_
    show Steps p.tables e below (s₁.setTop (mkF m 83 #[.val (.long q0_), .second, .val (.int p1_), .val (.int p2_), .val (.long (-62167219200000 : Int64)), .second, .val (.long (253402300799999 : Int64)), .second, .val (.int (2 : Int32)), .val (.long ((253402300799999 : Int64) + (p1_.toInt64))), .second, .unset] [(.int (0 : Int32))])) _
    refine XS.istore X0.here hx rfl (hb hby at_83) rfl (l' := #[.val (.long q0_), .second, .val (.int p1_), .val (.int p2_), .val (.long (-62167219200000 : Int64)), .second, .val (.long (253402300799999 : Int64)), .second, .val (.int (2 : Int32)), .val (.long ((253402300799999 : Int64) + (p1_.toInt64))), .second, .val (.int (0 : Int32))]) rfl ?_
    show Steps p.tables e below (s₁.setTop (mkF m 85 #[.val (.long q0_), .second, .val (.int p1_), .val (.int p2_), .val (.long (-62167219200000 : Int64)), .second, .val (.long (253402300799999 : Int64)), .second, .val (.int (2 : Int32)), .val (.long ((253402300799999 : Int64) + (p1_.toInt64))), .second, .val (.int (0 : Int32))] [])) _
    refine XS.lload X0.here hx rfl (hb hby at_85) rfl ?_
    show Steps p.tables e below (s₁.setTop (mkF m 87 #[.val (.long q0_), .second, .val (.int p1_), .val (.int p2_), .val (.long (-62167219200000 : Int64)), .second, .val (.long (253402300799999 : Int64)), .second, .val (.int (2 : Int32)), .val (.long ((253402300799999 : Int64) + (p1_.toInt64))), .second, .val (.int (0 : Int32))] [(.long ((253402300799999 : Int64) + (p1_.toInt64)))])) _
    refine st1 _ ?_
    show Steps p.tables e below (T1.setTop (mkF m 90 #[.val (.long q0_), .second, .val (.int p1_), .val (.int p2_), .val (.long (-62167219200000 : Int64)), .second, .val (.long (253402300799999 : Int64)), .second, .val (.int (2 : Int32)), .val (.long ((253402300799999 : Int64) + (p1_.toInt64))), .second, .val (.int (0 : Int32))] [(.int (0 : Int32))])) _
    refine XS.iload X1.here hx rfl (hb hby at_90) rfl ?_
    show Steps p.tables e below (T1.setTop (mkF m 92 #[.val (.long q0_), .second, .val (.int p1_), .val (.int p2_), .val (.long (-62167219200000 : Int64)), .second, .val (.long (253402300799999 : Int64)), .second, .val (.int (2 : Int32)), .val (.long ((253402300799999 : Int64) + (p1_.toInt64))), .second, .val (.int (0 : Int32))] [(.int (0 : Int32)), (.int (0 : Int32))])) _
    refine XS.icmpNo X1.here hx rfl (hb hby at_92) rfl (teq (rfl : (0 : Int32) = (0 : Int32))).2 ?_
    show Steps p.tables e below (T1.setTop (mkF m 95 #[.val (.long q0_), .second, .val (.int p1_), .val (.int p2_), .val (.long (-62167219200000 : Int64)), .second, .val (.long (253402300799999 : Int64)), .second, .val (.int (2 : Int32)), .val (.long ((253402300799999 : Int64) + (p1_.toInt64))), .second, .val (.int (0 : Int32))] [])) _
    refine XS.iconst X1.here hx rfl (hb hby at_95) ?_
    show Steps p.tables e below (T1.setTop (mkF m 96 #[.val (.long q0_), .second, .val (.int p1_), .val (.int p2_), .val (.long (-62167219200000 : Int64)), .second, .val (.long (253402300799999 : Int64)), .second, .val (.int (2 : Int32)), .val (.long ((253402300799999 : Int64) + (p1_.toInt64))), .second, .val (.int (0 : Int32))] [(.int (1 : Int32))])) _
    refine XS.goto X1.here hx rfl (pc0 := 96) (pc' := 100) rfl (hb hby at_96) (by decide) (by decide) ?_
    show Steps p.tables e below (T1.setTop (mkF m 100 #[.val (.long q0_), .second, .val (.int p1_), .val (.int p2_), .val (.long (-62167219200000 : Int64)), .second, .val (.long (253402300799999 : Int64)), .second, .val (.int (2 : Int32)), .val (.long ((253402300799999 : Int64) + (p1_.toInt64))), .second, .val (.int (0 : Int32))] [(.int (1 : Int32))])) _
    exact retN X1 hx (t := .boolean) Bd.returns (by simp) (hb hby at_100) hr
  · show own_QL n0 _ T1.heap _
    exact ⟨rfl, N1⟩
set_option maxRecDepth 65536 in
set_option maxHeartbeats 40000000 in
theorem own_law2i (l : Launch) (Z : State) (a0 : Array Value) (hw : ∀ d ∈ tables_1, d.before a0 Z = true) (ws : List Jvm.Cond) (q0_ : Int64) (p1_ : Int32) (p2_ : Int32) (h0 : Heap) (n0 : Nat) (Z0 : n0 ≤ h0.size) (S_MIN_MILLIS : Sta Z h0 "com/example/tidewell/tidewell/types/Timestamps" "MIN_MILLIS" "J" (.long (-62167219200000 : Int64))) (S_MAX_MILLIS : Sta Z h0 "com/example/tidewell/tidewell/types/Timestamps" "MAX_MILLIS" "J" (.long (253402300799999 : Int64))) (hf0 : (p2_ &&& (3 : Int32)) = (2 : Int32)) (hf1 : ¬ ((0 : Int32) < (lcmpW (-62167219200000 : Int64) ((253402300799999 : Int64) + (p1_.toInt64))))) (hf2 : ¬ ((0 : Int32) < (lcmpW ((253402300799999 : Int64) + (p1_.toInt64)) (253402300799999 : Int64)))) (hf3 : ¬ ((lcmpW ((253402300799999 : Int64) + (p1_.toInt64)) (-62167219200000 : Int64)) < (0 : Int32))) :
    MetFree l x (head1 (Jvm.Cond.code x code maxLocals ret :: ws) room_1) (fun a U => a = #[(.long q0_), (.int p1_), (.int p2_)] ∧ Z.Warmed39 U.vm ∧ U.heap = h0) (fun _ _ _ _ _ => True) (fun _ U o U' => ∃ v L, o = .returned v ∧ own_QL n0 v U'.heap L ∧ FrameEnd U o U' L room_1.cells room_1.slots) := by
  refine MetFree.of_bodySF (plainFor_of_name own_pn1) hisR ?_
  intro p e s m args below meth c s₁ Bd hml0 hP hK
  obtain ⟨rfl, hZ, hh⟩ := hP
  have hx := Bd.exec
  have hby := Bd.bytes
  have hml : c.maxLocals = 12 := hml0
  have hown : s.vm.findClass "com/example/tidewell/tidewell/types/TimestampsInRangePinLaw" = some m.cls := findClass_of_methodNamed Bd.named
  have hnm := (name_of_methodNamed Bd.named Bd.method).1
  have X0 : Stand p l e room_1 s m #[(.long q0_), (.int p1_), (.int p2_)] below meth c s₁ [] 0 0 := Stand.of_body Bd
  have e0 : s₁.heap = h0 := by rw [← hh, Bd.state]; rfl
  have N0 := Fr.nil n0
  have pre0 : ∀ t, Steps p.tables e below (s₁.setTop (mkF m 0 #[.val (.long q0_), .second, .val (.int p1_), .val (.int p2_), .unset, .unset, .unset, .unset, .unset, .unset, .unset, .unset] [])) t → Steps p.tables e below (s₁.setTop (entryFrame m #[(.long q0_), (.int p1_), (.int p2_)] maxLocals)) t := fun t k => castTop (own_ef1 m q0_ p1_ p2_) k
  obtain ⟨_, _, ⟨T1, L1, k1, n1⟩, -, X1, ⟨Lc1, hQ1, l1, y1, z1⟩, st1⟩ := Jvm.LawKit.callS X0 hx (y := (⟨"com/example/tidewell/tidewell/types/Timestamps", "inRange", "(J)Z"⟩ : MethodName)) hown (mvT hZ (hw _ (List.mem_of_getElem? (i := 2) rfl))) (mvT hZ (hw _ (List.mem_of_getElem? (i := 3) rfl))) (mvT hZ (hw _ (List.mem_of_getElem? (i := 4) rfl))) (mvT hZ (hw _ (List.mem_of_getElem? (i := 5) rfl))) (by decide) (backOf (W := 0) (own_b1_ff l Z a0 hw [] ((253402300799999 : Int64) + (p1_.toInt64)) (-62167219200000 : Int64) (253402300799999 : Int64) h0 n0 Z0 S_MIN_MILLIS S_MAX_MILLIS hf3 hf2) hZ (hw _ (List.mem_of_getElem? (i := 5) rfl)) (hw _ (List.mem_of_getElem? (i := 4) rfl)) (by decide) (by decide)) (g := (mkF m 87 #[.val (.long q0_), .second, .val (.int p1_), .val (.int p2_), .val (.long (-62167219200000 : Int64)), .second, .val (.long (253402300799999 : Int64)), .second, .val (.int (2 : Int32)), .val (.long ((253402300799999 : Int64) + (p1_.toInt64))), .second, .val (.int (1 : Int32))] [(.long ((253402300799999 : Int64) + (p1_.toInt64)))])) rfl (by rw [hml]; rfl) (argsL := [(.long ((253402300799999 : Int64) + (p1_.toInt64)))]) (rest := []) (lenOf own_pd0 rfl) rfl (by show 2 * 0 + _ ≤ _; exact Nat.le_of_eq rfl) (hb hby at_87) (fun _ _ => ⟨rfl, e0, (by decide : 0 + 0 ≤ _), (by decide : 0 + 0 ≤ _)⟩)
  dsimp only [Pt.U, Pt.locs, Pt.cells, Pt.slots] at X1 l1 y1 z1 st1 hQ1
  subst l1 y1 z1
  obtain ⟨rfl, N1q, e1⟩ := hQ1
  have N1 := Fr.app N0 N1q
  obtain ⟨fs, hr, hrun, hended, hW, hsame⟩ := X1.leave (v := some (.int (1 : Int32))) (fun h => by rw [Bd.returns] at h; cases h)
  refine ⟨_, _, pre0 _ ?_, hrun, hended, _, _, rfl, ?_, ⟨_, rfl⟩, hW, hsame.mono (by decide) (by decide)⟩
  · show Steps p.tables e below (s₁.setTop (mkF m 0 #[.val (.long q0_), .second, .val (.int p1_), .val (.int p2_), .unset, .unset, .unset, .unset, .unset, .unset, .unset, .unset] [])) _
    refine X0.ldc2Long hx hown (mvT hZ (hw _ (List.mem_of_getElem? (i := 0) rfl))) (g := (mkF m 0 #[.val (.long q0_), .second, .val (.int p1_), .val (.int p2_), .unset, .unset, .unset, .unset, .unset, .unset, .unset, .unset] [])) rfl (hb hby at_0) _ ?_
    show Steps p.tables e below (s₁.setTop (mkF m 3 #[.val (.long q0_), .second, .val (.int p1_), .val (.int p2_), .unset, .unset, .unset, .unset, .unset, .unset, .unset, .unset] [(.long (-62167219200000 : Int64))])) _
    refine XS.lstore X0.here hx rfl (hb hby at_3) rfl (l' := #[.val (.long q0_), .second, .val (.int p1_), .val (.int p2_), .val (.long (-62167219200000 : Int64)), .second, .unset, .unset, .unset, .unset, .unset, .unset]) rfl ?_
    show Steps p.tables e below (s₁.setTop (mkF m 5 #[.val (.long q0_), .second, .val (.int p1_), .val (.int p2_), .val (.long (-62167219200000 : Int64)), .second, .unset, .unset, .unset, .unset, .unset, .unset] [])) _
    refine X0.ldc2Long hx hown (mvT hZ (hw _ (List.mem_of_getElem? (i := 1) rfl))) (g := (mkF m 5 #[.val (.long q0_), .second, .val (.int p1_), .val (.int p2_), .val (.long (-62167219200000 : Int64)), .second, .unset, .unset, .unset, .unset, .unset, .unset] [])) rfl (hb hby at_5) _ ?_
    show Steps p.tables e below (s₁.setTop (mkF m 8 #[.val (.long q0_), .second, .val (.int p1_), .val (.int p2_), .val (.long (-62167219200000 : Int64)), .second, .unset, .unset, .unset, .unset, .unset, .unset] [(.long (253402300799999 : Int64))])) _
    refine XS.lstore X0.here hx rfl (hb hby at_8) rfl (l' := #[.val (.long q0_), .second, .val (.int p1_), .val (.int p2_), .val (.long (-62167219200000 : Int64)), .second, .val (.long (253402300799999 : Int64)), .second, .unset, .unset, .unset, .unset]) rfl ?_
    show Steps p.tables e below (s₁.setTop (mkF m 10 #[.val (.long q0_), .second, .val (.int p1_), .val (.int p2_), .val (.long (-62167219200000 : Int64)), .second, .val (.long (253402300799999 : Int64)), .second, .unset, .unset, .unset, .unset] [])) _
    refine XS.iloadN X0.here hx rfl (hb hby at_10) rfl ?_
    show Steps p.tables e below (s₁.setTop (mkF m 11 #[.val (.long q0_), .second, .val (.int p1_), .val (.int p2_), .val (.long (-62167219200000 : Int64)), .second, .val (.long (253402300799999 : Int64)), .second, .unset, .unset, .unset, .unset] [(.int p2_)])) _
    refine XS.iconst X0.here hx rfl (hb hby at_11) ?_
    show Steps p.tables e below (s₁.setTop (mkF m 12 #[.val (.long q0_), .second, .val (.int p1_), .val (.int p2_), .val (.long (-62167219200000 : Int64)), .second, .val (.long (253402300799999 : Int64)), .second, .unset, .unset, .unset, .unset] [(.int (3 : Int32)), (.int p2_)])) _
    refine XS.iand X0.here hx rfl (hb hby at_12) rfl ?_
    show Steps p.tables e below (s₁.setTop (mkF m 13 #[.val (.long q0_), .second, .val (.int p1_), .val (.int p2_), .val (.long (-62167219200000 : Int64)), .second, .val (.long (253402300799999 : Int64)), .second, .unset, .unset, .unset, .unset] [(.int (p2_ &&& (3 : Int32)))])) _
    rw [hf0]
    show Steps p.tables e below (s₁.setTop (mkF m 13 #[.val (.long q0_), .second, .val (.int p1_), .val (.int p2_), .val (.long (-62167219200000 : Int64)), .second, .val (.long (253402300799999 : Int64)), .second, .unset, .unset, .unset, .unset] [(.int (2 : Int32))])) _
    refine XS.istore X0.here hx rfl (hb hby at_13) rfl (l' := #[.val (.long q0_), .second, .val (.int p1_), .val (.int p2_), .val (.long (-62167219200000 : Int64)), .second, .val (.long (253402300799999 : Int64)), .second, .val (.int (2 : Int32)), .unset, .unset, .unset]) rfl ?_
    show Steps p.tables e below (s₁.setTop (mkF m 15 #[.val (.long q0_), .second, .val (.int p1_), .val (.int p2_), .val (.long (-62167219200000 : Int64)), .second, .val (.long (253402300799999 : Int64)), .second, .val (.int (2 : Int32)), .unset, .unset, .unset] [])) _
    refine XS.iload X0.here hx rfl (hb hby at_15) rfl ?_
    show Steps p.tables e below (s₁.setTop (mkF m 17 #[.val (.long q0_), .second, .val (.int p1_), .val (.int p2_), .val (.long (-62167219200000 : Int64)), .second, .val (.long (253402300799999 : Int64)), .second, .val (.int (2 : Int32)), .unset, .unset, .unset] [(.int (2 : Int32))])) _
    refine XS.ifYes X0.here hx rfl (pc0 := 17) (pc' := 26) rfl (hb hby at_17) rfl ((if0 _ _).trans (feq (by decide : ¬ ((2 : Int32) = (0 : Int32)))).2) (by decide) (by decide) ?_
    show Steps p.tables e below (s₁.setTop (mkF m 26 #[.val (.long q0_), .second, .val (.int p1_), .val (.int p2_), .val (.long (-62167219200000 : Int64)), .second, .val (.long (253402300799999 : Int64)), .second, .val (.int (2 : Int32)), .unset, .unset, .unset] [])) _
    refine XS.iload X0.here hx rfl (hb hby at_26) rfl ?_
    show Steps p.tables e below (s₁.setTop (mkF m 28 #[.val (.long q0_), .second, .val (.int p1_), .val (.int p2_), .val (.long (-62167219200000 : Int64)), .second, .val (.long (253402300799999 : Int64)), .second, .val (.int (2 : Int32)), .unset, .unset, .unset] [(.int (2 : Int32))])) _
    refine XS.iconst X0.here hx rfl (hb hby at_28) ?_
    show Steps p.tables e below (s₁.setTop (mkF m 29 #[.val (.long q0_), .second, .val (.int p1_), .val (.int p2_), .val (.long (-62167219200000 : Int64)), .second, .val (.long (253402300799999 : Int64)), .second, .val (.int (2 : Int32)), .unset, .unset, .unset] [(.int (1 : Int32)), (.int (2 : Int32))])) _
    refine XS.icmpYes X0.here hx rfl (pc0 := 29) (pc' := 42) rfl (hb hby at_29) rfl (feq (by decide : ¬ ((2 : Int32) = (1 : Int32)))).2 (by decide) (by decide) ?_
    show Steps p.tables e below (s₁.setTop (mkF m 42 #[.val (.long q0_), .second, .val (.int p1_), .val (.int p2_), .val (.long (-62167219200000 : Int64)), .second, .val (.long (253402300799999 : Int64)), .second, .val (.int (2 : Int32)), .unset, .unset, .unset] [])) _
    refine XS.iload X0.here hx rfl (hb hby at_42) rfl ?_
    show Steps p.tables e below (s₁.setTop (mkF m 44 #[.val (.long q0_), .second, .val (.int p1_), .val (.int p2_), .val (.long (-62167219200000 : Int64)), .second, .val (.long (253402300799999 : Int64)), .second, .val (.int (2 : Int32)), .unset, .unset, .unset] [(.int (2 : Int32))])) _
    refine XS.iconst X0.here hx rfl (hb hby at_44) ?_
    show Steps p.tables e below (s₁.setTop (mkF m 45 #[.val (.long q0_), .second, .val (.int p1_), .val (.int p2_), .val (.long (-62167219200000 : Int64)), .second, .val (.long (253402300799999 : Int64)), .second, .val (.int (2 : Int32)), .unset, .unset, .unset] [(.int (2 : Int32)), (.int (2 : Int32))])) _
    refine XS.icmpNo X0.here hx rfl (hb hby at_45) rfl (teq (rfl : (2 : Int32) = (2 : Int32))).2 ?_
    show Steps p.tables e below (s₁.setTop (mkF m 48 #[.val (.long q0_), .second, .val (.int p1_), .val (.int p2_), .val (.long (-62167219200000 : Int64)), .second, .val (.long (253402300799999 : Int64)), .second, .val (.int (2 : Int32)), .unset, .unset, .unset] [])) _
    refine XS.lload X0.here hx rfl (hb hby at_48) rfl ?_
    show Steps p.tables e below (s₁.setTop (mkF m 50 #[.val (.long q0_), .second, .val (.int p1_), .val (.int p2_), .val (.long (-62167219200000 : Int64)), .second, .val (.long (253402300799999 : Int64)), .second, .val (.int (2 : Int32)), .unset, .unset, .unset] [(.long (253402300799999 : Int64))])) _
    refine XS.iloadN X0.here hx rfl (hb hby at_50) rfl ?_
    show Steps p.tables e below (s₁.setTop (mkF m 51 #[.val (.long q0_), .second, .val (.int p1_), .val (.int p2_), .val (.long (-62167219200000 : Int64)), .second, .val (.long (253402300799999 : Int64)), .second, .val (.int (2 : Int32)), .unset, .unset, .unset] [(.int p1_), (.long (253402300799999 : Int64))])) _
    refine XS.i2l X0.here hx rfl (hb hby at_51) rfl ?_
    show Steps p.tables e below (s₁.setTop (mkF m 52 #[.val (.long q0_), .second, .val (.int p1_), .val (.int p2_), .val (.long (-62167219200000 : Int64)), .second, .val (.long (253402300799999 : Int64)), .second, .val (.int (2 : Int32)), .unset, .unset, .unset] [(.long (p1_.toInt64)), (.long (253402300799999 : Int64))])) _
    refine XS.ladd X0.here hx rfl (hb hby at_52) rfl ?_
    show Steps p.tables e below (s₁.setTop (mkF m 53 #[.val (.long q0_), .second, .val (.int p1_), .val (.int p2_), .val (.long (-62167219200000 : Int64)), .second, .val (.long (253402300799999 : Int64)), .second, .val (.int (2 : Int32)), .unset, .unset, .unset] [(.long ((253402300799999 : Int64) + (p1_.toInt64)))])) _
    refine XS.lstore X0.here hx rfl (hb hby at_53) rfl (l' := #[.val (.long q0_), .second, .val (.int p1_), .val (.int p2_), .val (.long (-62167219200000 : Int64)), .second, .val (.long (253402300799999 : Int64)), .second, .val (.int (2 : Int32)), .val (.long ((253402300799999 : Int64) + (p1_.toInt64))), .second, .unset]) rfl ?_
    show Steps p.tables e below (s₁.setTop (mkF m 55 #[.val (.long q0_), .second, .val (.int p1_), .val (.int p2_), .val (.long (-62167219200000 : Int64)), .second, .val (.long (253402300799999 : Int64)), .second, .val (.int (2 : Int32)), .val (.long ((253402300799999 : Int64) + (p1_.toInt64))), .second, .unset] [])) _
    refine XS.goto X0.here hx rfl (pc0 := 55) (pc' := 62) rfl (hb hby at_55) (by decide) (by decide) ?_
    show Steps p.tables e below (s₁.setTop (mkF m 62 #[.val (.long q0_), .second, .val (.int p1_), .val (.int p2_), .val (.long (-62167219200000 : Int64)), .second, .val (.long (253402300799999 : Int64)), .second, .val (.int (2 : Int32)), .val (.long ((253402300799999 : Int64) + (p1_.toInt64))), .second, .unset] [])) _
    refine XS.lload X0.here hx rfl (hb hby at_62) rfl ?_
    show Steps p.tables e below (s₁.setTop (mkF m 64 #[.val (.long q0_), .second, .val (.int p1_), .val (.int p2_), .val (.long (-62167219200000 : Int64)), .second, .val (.long (253402300799999 : Int64)), .second, .val (.int (2 : Int32)), .val (.long ((253402300799999 : Int64) + (p1_.toInt64))), .second, .unset] [(.long (-62167219200000 : Int64))])) _
    refine XS.lload X0.here hx rfl (hb hby at_64) rfl ?_
    show Steps p.tables e below (s₁.setTop (mkF m 66 #[.val (.long q0_), .second, .val (.int p1_), .val (.int p2_), .val (.long (-62167219200000 : Int64)), .second, .val (.long (253402300799999 : Int64)), .second, .val (.int (2 : Int32)), .val (.long ((253402300799999 : Int64) + (p1_.toInt64))), .second, .unset] [(.long ((253402300799999 : Int64) + (p1_.toInt64))), (.long (-62167219200000 : Int64))])) _
    refine XS.lcmp X0.here hx rfl (hb hby at_66) rfl ?_
    show Steps p.tables e below (s₁.setTop (mkF m 67 #[.val (.long q0_), .second, .val (.int p1_), .val (.int p2_), .val (.long (-62167219200000 : Int64)), .second, .val (.long (253402300799999 : Int64)), .second, .val (.int (2 : Int32)), .val (.long ((253402300799999 : Int64) + (p1_.toInt64))), .second, .unset] [(.int (lcmpW (-62167219200000 : Int64) ((253402300799999 : Int64) + (p1_.toInt64))))])) _
    refine XS.ifNo X0.here hx rfl (hb hby at_67) rfl ((if0 _ _).trans (flt hf1).2.2.1) ?_
    show Steps p.tables e below (s₁.setTop (mkF m 70 #[.val (.long q0_), .second, .val (.int p1_), .val (.int p2_), .val (.long (-62167219200000 : Int64)), .second, .val (.long (253402300799999 : Int64)), .second, .val (.int (2 : Int32)), .val (.long ((253402300799999 : Int64) + (p1_.toInt64))), .second, .unset] [])) _
    refine XS.lload X0.here hx rfl (hb hby at_70) rfl ?_
    show Steps p.tables e below (s₁.setTop (mkF m 72 #[.val (.long q0_), .second, .val (.int p1_), .val (.int p2_), .val (.long (-62167219200000 : Int64)), .second, .val (.long (253402300799999 : Int64)), .second, .val (.int (2 : Int32)), .val (.long ((253402300799999 : Int64) + (p1_.toInt64))), .second, .unset] [(.long ((253402300799999 : Int64) + (p1_.toInt64)))])) _
    refine XS.lload X0.here hx rfl (hb hby at_72) rfl ?_
    show Steps p.tables e below (s₁.setTop (mkF m 74 #[.val (.long q0_), .second, .val (.int p1_), .val (.int p2_), .val (.long (-62167219200000 : Int64)), .second, .val (.long (253402300799999 : Int64)), .second, .val (.int (2 : Int32)), .val (.long ((253402300799999 : Int64) + (p1_.toInt64))), .second, .unset] [(.long (253402300799999 : Int64)), (.long ((253402300799999 : Int64) + (p1_.toInt64)))])) _
    refine XS.lcmp X0.here hx rfl (hb hby at_74) rfl ?_
    show Steps p.tables e below (s₁.setTop (mkF m 75 #[.val (.long q0_), .second, .val (.int p1_), .val (.int p2_), .val (.long (-62167219200000 : Int64)), .second, .val (.long (253402300799999 : Int64)), .second, .val (.int (2 : Int32)), .val (.long ((253402300799999 : Int64) + (p1_.toInt64))), .second, .unset] [(.int (lcmpW ((253402300799999 : Int64) + (p1_.toInt64)) (253402300799999 : Int64)))])) _
    refine XS.ifNo X0.here hx rfl (hb hby at_75) rfl ((if0 _ _).trans (flt hf2).2.2.1) ?_
    show Steps p.tables e below (s₁.setTop (mkF m 78 #[.val (.long q0_), .second, .val (.int p1_), .val (.int p2_), .val (.long (-62167219200000 : Int64)), .second, .val (.long (253402300799999 : Int64)), .second, .val (.int (2 : Int32)), .val (.long ((253402300799999 : Int64) + (p1_.toInt64))), .second, .unset] [])) _
    refine XS.iconst X0.here hx rfl (hb hby at_78) ?_
    show Steps p.tables e below (s₁.setTop (mkF m 79 #[.val (.long q0_), .second, .val (.int p1_), .val (.int p2_), .val (.long (-62167219200000 : Int64)), .second, .val (.long (253402300799999 : Int64)), .second, .val (.int (2 : Int32)), .val (.long ((253402300799999 : Int64) + (p1_.toInt64))), .second, .unset] [(.int (1 : Int32))])) _
    refine XS.goto X0.here hx rfl (pc0 := 79) (pc' := 83) rfl (hb hby at_79) (by decide) (by decide) ?_
    show Steps p.tables e below (s₁.setTop (mkF m 83 #[.val (.long q0_), .second, .val (.int p1_), .val (.int p2_), .val (.long (-62167219200000 : Int64)), .second, .val (.long (253402300799999 : Int64)), .second, .val (.int (2 : Int32)), .val (.long ((253402300799999 : Int64) + (p1_.toInt64))), .second, .unset] [(.int (1 : Int32))])) _
    refine XS.istore X0.here hx rfl (hb hby at_83) rfl (l' := #[.val (.long q0_), .second, .val (.int p1_), .val (.int p2_), .val (.long (-62167219200000 : Int64)), .second, .val (.long (253402300799999 : Int64)), .second, .val (.int (2 : Int32)), .val (.long ((253402300799999 : Int64) + (p1_.toInt64))), .second, .val (.int (1 : Int32))]) rfl ?_
    show Steps p.tables e below (s₁.setTop (mkF m 85 #[.val (.long q0_), .second, .val (.int p1_), .val (.int p2_), .val (.long (-62167219200000 : Int64)), .second, .val (.long (253402300799999 : Int64)), .second, .val (.int (2 : Int32)), .val (.long ((253402300799999 : Int64) + (p1_.toInt64))), .second, .val (.int (1 : Int32))] [])) _
    refine XS.lload X0.here hx rfl (hb hby at_85) rfl ?_
    show Steps p.tables e below (s₁.setTop (mkF m 87 #[.val (.long q0_), .second, .val (.int p1_), .val (.int p2_), .val (.long (-62167219200000 : Int64)), .second, .val (.long (253402300799999 : Int64)), .second, .val (.int (2 : Int32)), .val (.long ((253402300799999 : Int64) + (p1_.toInt64))), .second, .val (.int (1 : Int32))] [(.long ((253402300799999 : Int64) + (p1_.toInt64)))])) _
    refine st1 _ ?_
    show Steps p.tables e below (T1.setTop (mkF m 90 #[.val (.long q0_), .second, .val (.int p1_), .val (.int p2_), .val (.long (-62167219200000 : Int64)), .second, .val (.long (253402300799999 : Int64)), .second, .val (.int (2 : Int32)), .val (.long ((253402300799999 : Int64) + (p1_.toInt64))), .second, .val (.int (1 : Int32))] [(.int (1 : Int32))])) _
    refine XS.iload X1.here hx rfl (hb hby at_90) rfl ?_
    show Steps p.tables e below (T1.setTop (mkF m 92 #[.val (.long q0_), .second, .val (.int p1_), .val (.int p2_), .val (.long (-62167219200000 : Int64)), .second, .val (.long (253402300799999 : Int64)), .second, .val (.int (2 : Int32)), .val (.long ((253402300799999 : Int64) + (p1_.toInt64))), .second, .val (.int (1 : Int32))] [(.int (1 : Int32)), (.int (1 : Int32))])) _
    refine XS.icmpNo X1.here hx rfl (hb hby at_92) rfl (teq (rfl : (1 : Int32) = (1 : Int32))).2 ?_
    show Steps p.tables e below (T1.setTop (mkF m 95 #[.val (.long q0_), .second, .val (.int p1_), .val (.int p2_), .val (.long (-62167219200000 : Int64)), .second, .val (.long (253402300799999 : Int64)), .second, .val (.int (2 : Int32)), .val (.long ((253402300799999 : Int64) + (p1_.toInt64))), .second, .val (.int (1 : Int32))] [])) _
    refine XS.iconst X1.here hx rfl (hb hby at_95) ?_
    show Steps p.tables e below (T1.setTop (mkF m 96 #[.val (.long q0_), .second, .val (.int p1_), .val (.int p2_), .val (.long (-62167219200000 : Int64)), .second, .val (.long (253402300799999 : Int64)), .second, .val (.int (2 : Int32)), .val (.long ((253402300799999 : Int64) + (p1_.toInt64))), .second, .val (.int (1 : Int32))] [(.int (1 : Int32))])) _
    refine XS.goto X1.here hx rfl (pc0 := 96) (pc' := 100) rfl (hb hby at_96) (by decide) (by decide) ?_
    show Steps p.tables e below (T1.setTop (mkF m 100 #[.val (.long q0_), .second, .val (.int p1_), .val (.int p2_), .val (.long (-62167219200000 : Int64)), .second, .val (.long (253402300799999 : Int64)), .second, .val (.int (2 : Int32)), .val (.long ((253402300799999 : Int64) + (p1_.toInt64))), .second, .val (.int (1 : Int32))] [(.int (1 : Int32))])) _
    exact retN X1 hx (t := .boolean) Bd.returns (by simp) (hb hby at_100) hr
  · show own_QL n0 _ T1.heap _
    exact ⟨rfl, N1⟩
set_option maxRecDepth 65536 in
set_option maxHeartbeats 40000000 in
theorem own_law3b (l : Launch) (Z : State) (a0 : Array Value) (hw : ∀ d ∈ tables_1, d.before a0 Z = true) (ws : List Jvm.Cond) (q0_ : Int64) (p1_ : Int32) (p2_ : Int32) (h0 : Heap) (n0 : Nat) (Z0 : n0 ≤ h0.size) (S_MIN_MILLIS : Sta Z h0 "com/example/tidewell/tidewell/types/Timestamps" "MIN_MILLIS" "J" (.long (-62167219200000 : Int64))) (hf0 : (p2_ &&& (3 : Int32)) = (3 : Int32)) (hf1 : (0 : Int32) < (lcmpW (-62167219200000 : Int64) (p1_.toInt64))) (hf2 : (lcmpW (p1_.toInt64) (-62167219200000 : Int64)) < (0 : Int32)) :
    MetFree l x (head1 (Jvm.Cond.code x code maxLocals ret :: ws) room_1) (fun a U => a = #[(.long q0_), (.int p1_), (.int p2_)] ∧ Z.Warmed39 U.vm ∧ U.heap = h0) (fun _ _ _ _ _ => True) (fun _ U o U' => ∃ v L, o = .returned v ∧ own_QL n0 v U'.heap L ∧ FrameEnd U o U' L room_1.cells room_1.slots) := by
  refine MetFree.of_bodySF (plainFor_of_name own_pn1) hisR ?_
  intro p e s m args below meth c s₁ Bd hml0 hP hK
  obtain ⟨rfl, hZ, hh⟩ := hP
  have hx := Bd.exec
  have hby := Bd.bytes
  have hml : c.maxLocals = 12 := hml0
  have hown : s.vm.findClass "com/example/tidewell/tidewell/types/TimestampsInRangePinLaw" = some m.cls := findClass_of_methodNamed Bd.named
  have hnm := (name_of_methodNamed Bd.named Bd.method).1
  have X0 : Stand p l e room_1 s m #[(.long q0_), (.int p1_), (.int p2_)] below meth c s₁ [] 0 0 := Stand.of_body Bd
  have e0 : s₁.heap = h0 := by rw [← hh, Bd.state]; rfl
  have N0 := Fr.nil n0
  have pre0 : ∀ t, Steps p.tables e below (s₁.setTop (mkF m 0 #[.val (.long q0_), .second, .val (.int p1_), .val (.int p2_), .unset, .unset, .unset, .unset, .unset, .unset, .unset, .unset] [])) t → Steps p.tables e below (s₁.setTop (entryFrame m #[(.long q0_), (.int p1_), (.int p2_)] maxLocals)) t := fun t k => castTop (own_ef1 m q0_ p1_ p2_) k
  obtain ⟨_, _, ⟨T1, L1, k1, n1⟩, -, X1, ⟨Lc1, hQ1, l1, y1, z1⟩, st1⟩ := Jvm.LawKit.callS X0 hx (y := (⟨"com/example/tidewell/tidewell/types/Timestamps", "inRange", "(J)Z"⟩ : MethodName)) hown (mvT hZ (hw _ (List.mem_of_getElem? (i := 2) rfl))) (mvT hZ (hw _ (List.mem_of_getElem? (i := 3) rfl))) (mvT hZ (hw _ (List.mem_of_getElem? (i := 4) rfl))) (mvT hZ (hw _ (List.mem_of_getElem? (i := 5) rfl))) (by decide) (backOf (W := 0) (own_b1_t l Z a0 hw [] (p1_.toInt64) (-62167219200000 : Int64) h0 n0 Z0 S_MIN_MILLIS hf2) hZ (hw _ (List.mem_of_getElem? (i := 5) rfl)) (hw _ (List.mem_of_getElem? (i := 4) rfl)) (by decide) (by decide)) (g := (mkF m 87 #[.val (.long q0_), .second, .val (.int p1_), .val (.int p2_), .val (.long (-62167219200000 : Int64)), .second, .val (.long (253402300799999 : Int64)), .second, .val (.int (3 : Int32)), .val (.long (p1_.toInt64)), .second, .val (.int (0 : Int32))] [(.long (p1_.toInt64))])) rfl (by rw [hml]; rfl) (argsL := [(.long (p1_.toInt64))]) (rest := []) (lenOf own_pd0 rfl) rfl (by show 2 * 0 + _ ≤ _; exact Nat.le_of_eq rfl) (hb hby at_87) (fun _ _ => ⟨rfl, e0, (by decide : 0 + 0 ≤ _), (by decide : 0 + 0 ≤ _)⟩)
  dsimp only [Pt.U, Pt.locs, Pt.cells, Pt.slots] at X1 l1 y1 z1 st1 hQ1
  subst l1 y1 z1
  obtain ⟨rfl, N1q, e1⟩ := hQ1
  have N1 := Fr.app N0 N1q
  obtain ⟨fs, hr, hrun, hended, hW, hsame⟩ := X1.leave (v := some (.int (1 : Int32))) (fun h => by rw [Bd.returns] at h; cases h)
  refine ⟨_, _, pre0 _ ?_, hrun, hended, _, _, rfl, ?_, ⟨_, rfl⟩, hW, hsame.mono (by decide) (by decide)⟩
  · show Steps p.tables e below (s₁.setTop (mkF m 0 #[.val (.long q0_), .second, .val (.int p1_), .val (.int p2_), .unset, .unset, .unset, .unset, .unset, .unset, .unset, .unset] [])) _
    refine X0.ldc2Long hx hown (mvT hZ (hw _ (List.mem_of_getElem? (i := 0) rfl))) (g := (mkF m 0 #[.val (.long q0_), .second, .val (.int p1_), .val (.int p2_), .unset, .unset, .unset, .unset, .unset, .unset, .unset, .unset] [])) rfl (hb hby at_0) _ ?_
    show Steps p.tables e below (s₁.setTop (mkF m 3 #[.val (.long q0_), .second, .val (.int p1_), .val (.int p2_), .unset, .unset, .unset, .unset, .unset, .unset, .unset, .unset] [(.long (-62167219200000 : Int64))])) _
    refine XS.lstore X0.here hx rfl (hb hby at_3) rfl (l' := #[.val (.long q0_), .second, .val (.int p1_), .val (.int p2_), .val (.long (-62167219200000 : Int64)), .second, .unset, .unset, .unset, .unset, .unset, .unset]) rfl ?_
    show Steps p.tables e below (s₁.setTop (mkF m 5 #[.val (.long q0_), .second, .val (.int p1_), .val (.int p2_), .val (.long (-62167219200000 : Int64)), .second, .unset, .unset, .unset, .unset, .unset, .unset] [])) _
    refine X0.ldc2Long hx hown (mvT hZ (hw _ (List.mem_of_getElem? (i := 1) rfl))) (g := (mkF m 5 #[.val (.long q0_), .second, .val (.int p1_), .val (.int p2_), .val (.long (-62167219200000 : Int64)), .second, .unset, .unset, .unset, .unset, .unset, .unset] [])) rfl (hb hby at_5) _ ?_
    show Steps p.tables e below (s₁.setTop (mkF m 8 #[.val (.long q0_), .second, .val (.int p1_), .val (.int p2_), .val (.long (-62167219200000 : Int64)), .second, .unset, .unset, .unset, .unset, .unset, .unset] [(.long (253402300799999 : Int64))])) _
    refine XS.lstore X0.here hx rfl (hb hby at_8) rfl (l' := #[.val (.long q0_), .second, .val (.int p1_), .val (.int p2_), .val (.long (-62167219200000 : Int64)), .second, .val (.long (253402300799999 : Int64)), .second, .unset, .unset, .unset, .unset]) rfl ?_
    show Steps p.tables e below (s₁.setTop (mkF m 10 #[.val (.long q0_), .second, .val (.int p1_), .val (.int p2_), .val (.long (-62167219200000 : Int64)), .second, .val (.long (253402300799999 : Int64)), .second, .unset, .unset, .unset, .unset] [])) _
    refine XS.iloadN X0.here hx rfl (hb hby at_10) rfl ?_
    show Steps p.tables e below (s₁.setTop (mkF m 11 #[.val (.long q0_), .second, .val (.int p1_), .val (.int p2_), .val (.long (-62167219200000 : Int64)), .second, .val (.long (253402300799999 : Int64)), .second, .unset, .unset, .unset, .unset] [(.int p2_)])) _
    refine XS.iconst X0.here hx rfl (hb hby at_11) ?_
    show Steps p.tables e below (s₁.setTop (mkF m 12 #[.val (.long q0_), .second, .val (.int p1_), .val (.int p2_), .val (.long (-62167219200000 : Int64)), .second, .val (.long (253402300799999 : Int64)), .second, .unset, .unset, .unset, .unset] [(.int (3 : Int32)), (.int p2_)])) _
    refine XS.iand X0.here hx rfl (hb hby at_12) rfl ?_
    show Steps p.tables e below (s₁.setTop (mkF m 13 #[.val (.long q0_), .second, .val (.int p1_), .val (.int p2_), .val (.long (-62167219200000 : Int64)), .second, .val (.long (253402300799999 : Int64)), .second, .unset, .unset, .unset, .unset] [(.int (p2_ &&& (3 : Int32)))])) _
    rw [hf0]
    show Steps p.tables e below (s₁.setTop (mkF m 13 #[.val (.long q0_), .second, .val (.int p1_), .val (.int p2_), .val (.long (-62167219200000 : Int64)), .second, .val (.long (253402300799999 : Int64)), .second, .unset, .unset, .unset, .unset] [(.int (3 : Int32))])) _
    refine XS.istore X0.here hx rfl (hb hby at_13) rfl (l' := #[.val (.long q0_), .second, .val (.int p1_), .val (.int p2_), .val (.long (-62167219200000 : Int64)), .second, .val (.long (253402300799999 : Int64)), .second, .val (.int (3 : Int32)), .unset, .unset, .unset]) rfl ?_
    show Steps p.tables e below (s₁.setTop (mkF m 15 #[.val (.long q0_), .second, .val (.int p1_), .val (.int p2_), .val (.long (-62167219200000 : Int64)), .second, .val (.long (253402300799999 : Int64)), .second, .val (.int (3 : Int32)), .unset, .unset, .unset] [])) _
    refine XS.iload X0.here hx rfl (hb hby at_15) rfl ?_
    show Steps p.tables e below (s₁.setTop (mkF m 17 #[.val (.long q0_), .second, .val (.int p1_), .val (.int p2_), .val (.long (-62167219200000 : Int64)), .second, .val (.long (253402300799999 : Int64)), .second, .val (.int (3 : Int32)), .unset, .unset, .unset] [(.int (3 : Int32))])) _
    refine XS.ifYes X0.here hx rfl (pc0 := 17) (pc' := 26) rfl (hb hby at_17) rfl ((if0 _ _).trans (feq (by decide : ¬ ((3 : Int32) = (0 : Int32)))).2) (by decide) (by decide) ?_
    show Steps p.tables e below (s₁.setTop (mkF m 26 #[.val (.long q0_), .second, .val (.int p1_), .val (.int p2_), .val (.long (-62167219200000 : Int64)), .second, .val (.long (253402300799999 : Int64)), .second, .val (.int (3 : Int32)), .unset, .unset, .unset] [])) _
    refine XS.iload X0.here hx rfl (hb hby at_26) rfl ?_
    show Steps p.tables e below (s₁.setTop (mkF m 28 #[.val (.long q0_), .second, .val (.int p1_), .val (.int p2_), .val (.long (-62167219200000 : Int64)), .second, .val (.long (253402300799999 : Int64)), .second, .val (.int (3 : Int32)), .unset, .unset, .unset] [(.int (3 : Int32))])) _
    refine XS.iconst X0.here hx rfl (hb hby at_28) ?_
    show Steps p.tables e below (s₁.setTop (mkF m 29 #[.val (.long q0_), .second, .val (.int p1_), .val (.int p2_), .val (.long (-62167219200000 : Int64)), .second, .val (.long (253402300799999 : Int64)), .second, .val (.int (3 : Int32)), .unset, .unset, .unset] [(.int (1 : Int32)), (.int (3 : Int32))])) _
    refine XS.icmpYes X0.here hx rfl (pc0 := 29) (pc' := 42) rfl (hb hby at_29) rfl (feq (by decide : ¬ ((3 : Int32) = (1 : Int32)))).2 (by decide) (by decide) ?_
    show Steps p.tables e below (s₁.setTop (mkF m 42 #[.val (.long q0_), .second, .val (.int p1_), .val (.int p2_), .val (.long (-62167219200000 : Int64)), .second, .val (.long (253402300799999 : Int64)), .second, .val (.int (3 : Int32)), .unset, .unset, .unset] [])) _
    refine XS.iload X0.here hx rfl (hb hby at_42) rfl ?_
    show Steps p.tables e below (s₁.setTop (mkF m 44 #[.val (.long q0_), .second, .val (.int p1_), .val (.int p2_), .val (.long (-62167219200000 : Int64)), .second, .val (.long (253402300799999 : Int64)), .second, .val (.int (3 : Int32)), .unset, .unset, .unset] [(.int (3 : Int32))])) _
    refine XS.iconst X0.here hx rfl (hb hby at_44) ?_
    show Steps p.tables e below (s₁.setTop (mkF m 45 #[.val (.long q0_), .second, .val (.int p1_), .val (.int p2_), .val (.long (-62167219200000 : Int64)), .second, .val (.long (253402300799999 : Int64)), .second, .val (.int (3 : Int32)), .unset, .unset, .unset] [(.int (2 : Int32)), (.int (3 : Int32))])) _
    refine XS.icmpYes X0.here hx rfl (pc0 := 45) (pc' := 58) rfl (hb hby at_45) rfl (feq (by decide : ¬ ((3 : Int32) = (2 : Int32)))).2 (by decide) (by decide) ?_
    show Steps p.tables e below (s₁.setTop (mkF m 58 #[.val (.long q0_), .second, .val (.int p1_), .val (.int p2_), .val (.long (-62167219200000 : Int64)), .second, .val (.long (253402300799999 : Int64)), .second, .val (.int (3 : Int32)), .unset, .unset, .unset] [])) _
    refine XS.iloadN X0.here hx rfl (hb hby at_58) rfl ?_
    show Steps p.tables e below (s₁.setTop (mkF m 59 #[.val (.long q0_), .second, .val (.int p1_), .val (.int p2_), .val (.long (-62167219200000 : Int64)), .second, .val (.long (253402300799999 : Int64)), .second, .val (.int (3 : Int32)), .unset, .unset, .unset] [(.int p1_)])) _
    refine XS.i2l X0.here hx rfl (hb hby at_59) rfl ?_
    show Steps p.tables e below (s₁.setTop (mkF m 60 #[.val (.long q0_), .second, .val (.int p1_), .val (.int p2_), .val (.long (-62167219200000 : Int64)), .second, .val (.long (253402300799999 : Int64)), .second, .val (.int (3 : Int32)), .unset, .unset, .unset] [(.long (p1_.toInt64))])) _
    refine XS.lstore X0.here hx rfl (hb hby at_60) rfl (l' := #[.val (.long q0_), .second, .val (.int p1_), .val (.int p2_), .val (.long (-62167219200000 : Int64)), .second, .val (.long (253402300799999 : Int64)), .second, .val (.int (3 : Int32)), .val (.long (p1_.toInt64)), .second, .unset]) rfl ?_
    show Steps p.tables e below (s₁.setTop (mkF m 62 #[.val (.long q0_), .second, .val (.int p1_), .val (.int p2_), .val (.long (-62167219200000 : Int64)), .second, .val (.long (253402300799999 : Int64)), .second, .val (.int (3 : Int32)), .val (.long (p1_.toInt64)), .second, .unset] [])) _
    refine XS.lload X0.here hx rfl (hb hby at_62) rfl ?_
    show Steps p.tables e below (s₁.setTop (mkF m 64 #[.val (.long q0_), .second, .val (.int p1_), .val (.int p2_), .val (.long (-62167219200000 : Int64)), .second, .val (.long (253402300799999 : Int64)), .second, .val (.int (3 : Int32)), .val (.long (p1_.toInt64)), .second, .unset] [(.long (-62167219200000 : Int64))])) _
    refine XS.lload X0.here hx rfl (hb hby at_64) rfl ?_
    show Steps p.tables e below (s₁.setTop (mkF m 66 #[.val (.long q0_), .second, .val (.int p1_), .val (.int p2_), .val (.long (-62167219200000 : Int64)), .second, .val (.long (253402300799999 : Int64)), .second, .val (.int (3 : Int32)), .val (.long (p1_.toInt64)), .second, .unset] [(.long (p1_.toInt64)), (.long (-62167219200000 : Int64))])) _
    refine XS.lcmp X0.here hx rfl (hb hby at_66) rfl ?_
    show Steps p.tables e below (s₁.setTop (mkF m 67 #[.val (.long q0_), .second, .val (.int p1_), .val (.int p2_), .val (.long (-62167219200000 : Int64)), .second, .val (.long (253402300799999 : Int64)), .second, .val (.int (3 : Int32)), .val (.long (p1_.toInt64)), .second, .unset] [(.int (lcmpW (-62167219200000 : Int64) (p1_.toInt64)))])) _
    refine XS.ifYes X0.here hx rfl (pc0 := 67) (pc' := 82) rfl (hb hby at_67) rfl ((if0 _ _).trans (tlt hf1).2.2.1) (by decide) (by decide) ?_
    show Steps p.tables e below (s₁.setTop (mkF m 82 #[.val (.long q0_), .second, .val (.int p1_), .val (.int p2_), .val (.long (-62167219200000 : Int64)), .second, .val (.long (253402300799999 : Int64)), .second, .val (.int (3 : Int32)), .val (.long (p1_.toInt64)), .second, .unset] [])) _
    refine XS.iconst X0.here hx rfl (hb hby at_82) ?_
    show Steps p.tables e below (s₁.setTop (mkF m 83 #[.val (.long q0_), .second, .val (.int p1_), .val (.int p2_), .val (.long (-62167219200000 : Int64)), .second, .val (.long (253402300799999 : Int64)), .second, .val (.int (3 : Int32)), .val (.long (p1_.toInt64)), .second, .unset] [(.int (0 : Int32))])) _
    refine XS.istore X0.here hx rfl (hb hby at_83) rfl (l' := #[.val (.long q0_), .second, .val (.int p1_), .val (.int p2_), .val (.long (-62167219200000 : Int64)), .second, .val (.long (253402300799999 : Int64)), .second, .val (.int (3 : Int32)), .val (.long (p1_.toInt64)), .second, .val (.int (0 : Int32))]) rfl ?_
    show Steps p.tables e below (s₁.setTop (mkF m 85 #[.val (.long q0_), .second, .val (.int p1_), .val (.int p2_), .val (.long (-62167219200000 : Int64)), .second, .val (.long (253402300799999 : Int64)), .second, .val (.int (3 : Int32)), .val (.long (p1_.toInt64)), .second, .val (.int (0 : Int32))] [])) _
    refine XS.lload X0.here hx rfl (hb hby at_85) rfl ?_
    show Steps p.tables e below (s₁.setTop (mkF m 87 #[.val (.long q0_), .second, .val (.int p1_), .val (.int p2_), .val (.long (-62167219200000 : Int64)), .second, .val (.long (253402300799999 : Int64)), .second, .val (.int (3 : Int32)), .val (.long (p1_.toInt64)), .second, .val (.int (0 : Int32))] [(.long (p1_.toInt64))])) _
    refine st1 _ ?_
    show Steps p.tables e below (T1.setTop (mkF m 90 #[.val (.long q0_), .second, .val (.int p1_), .val (.int p2_), .val (.long (-62167219200000 : Int64)), .second, .val (.long (253402300799999 : Int64)), .second, .val (.int (3 : Int32)), .val (.long (p1_.toInt64)), .second, .val (.int (0 : Int32))] [(.int (0 : Int32))])) _
    refine XS.iload X1.here hx rfl (hb hby at_90) rfl ?_
    show Steps p.tables e below (T1.setTop (mkF m 92 #[.val (.long q0_), .second, .val (.int p1_), .val (.int p2_), .val (.long (-62167219200000 : Int64)), .second, .val (.long (253402300799999 : Int64)), .second, .val (.int (3 : Int32)), .val (.long (p1_.toInt64)), .second, .val (.int (0 : Int32))] [(.int (0 : Int32)), (.int (0 : Int32))])) _
    refine XS.icmpNo X1.here hx rfl (hb hby at_92) rfl (teq (rfl : (0 : Int32) = (0 : Int32))).2 ?_
    show Steps p.tables e below (T1.setTop (mkF m 95 #[.val (.long q0_), .second, .val (.int p1_), .val (.int p2_), .val (.long (-62167219200000 : Int64)), .second, .val (.long (253402300799999 : Int64)), .second, .val (.int (3 : Int32)), .val (.long (p1_.toInt64)), .second, .val (.int (0 : Int32))] [])) _
    refine XS.iconst X1.here hx rfl (hb hby at_95) ?_
    show Steps p.tables e below (T1.setTop (mkF m 96 #[.val (.long q0_), .second, .val (.int p1_), .val (.int p2_), .val (.long (-62167219200000 : Int64)), .second, .val (.long (253402300799999 : Int64)), .second, .val (.int (3 : Int32)), .val (.long (p1_.toInt64)), .second, .val (.int (0 : Int32))] [(.int (1 : Int32))])) _
    refine XS.goto X1.here hx rfl (pc0 := 96) (pc' := 100) rfl (hb hby at_96) (by decide) (by decide) ?_
    show Steps p.tables e below (T1.setTop (mkF m 100 #[.val (.long q0_), .second, .val (.int p1_), .val (.int p2_), .val (.long (-62167219200000 : Int64)), .second, .val (.long (253402300799999 : Int64)), .second, .val (.int (3 : Int32)), .val (.long (p1_.toInt64)), .second, .val (.int (0 : Int32))] [(.int (1 : Int32))])) _
    exact retN X1 hx (t := .boolean) Bd.returns (by simp) (hb hby at_100) hr
  · show own_QL n0 _ T1.heap _
    exact ⟨rfl, N1⟩
set_option maxRecDepth 65536 in
set_option maxHeartbeats 40000000 in
theorem own_law3a (l : Launch) (Z : State) (a0 : Array Value) (hw : ∀ d ∈ tables_1, d.before a0 Z = true) (ws : List Jvm.Cond) (q0_ : Int64) (p1_ : Int32) (p2_ : Int32) (h0 : Heap) (n0 : Nat) (Z0 : n0 ≤ h0.size) (S_MIN_MILLIS : Sta Z h0 "com/example/tidewell/tidewell/types/Timestamps" "MIN_MILLIS" "J" (.long (-62167219200000 : Int64))) (S_MAX_MILLIS : Sta Z h0 "com/example/tidewell/tidewell/types/Timestamps" "MAX_MILLIS" "J" (.long (253402300799999 : Int64))) (hf0 : (p2_ &&& (3 : Int32)) = (3 : Int32)) (hf1 : ¬ ((0 : Int32) < (lcmpW (-62167219200000 : Int64) (p1_.toInt64)))) (hf2 : (0 : Int32) < (lcmpW (p1_.toInt64) (253402300799999 : Int64))) (hf3 : ¬ ((lcmpW (p1_.toInt64) (-62167219200000 : Int64)) < (0 : Int32))) :
    MetFree l x (head1 (Jvm.Cond.code x code maxLocals ret :: ws) room_1) (fun a U => a = #[(.long q0_), (.int p1_), (.int p2_)] ∧ Z.Warmed39 U.vm ∧ U.heap = h0) (fun _ _ _ _ _ => True) (fun _ U o U' => ∃ v L, o = .returned v ∧ own_QL n0 v U'.heap L ∧ FrameEnd U o U' L room_1.cells room_1.slots) := by
  refine MetFree.of_bodySF (plainFor_of_name own_pn1) hisR ?_
  intro p e s m args below meth c s₁ Bd hml0 hP hK
  obtain ⟨rfl, hZ, hh⟩ := hP
  have hx := Bd.exec
  have hby := Bd.bytes
  have hml : c.maxLocals = 12 := hml0
  have hown : s.vm.findClass "com/example/tidewell/tidewell/types/TimestampsInRangePinLaw" = some m.cls := findClass_of_methodNamed Bd.named
  have hnm := (name_of_methodNamed Bd.named Bd.method).1
  have X0 : Stand p l e room_1 s m #[(.long q0_), (.int p1_), (.int p2_)] below meth c s₁ [] 0 0 := Stand.of_body Bd
  have e0 : s₁.heap = h0 := by rw [← hh, Bd.state]; rfl
  have N0 := Fr.nil n0
  have pre0 : ∀ t, Steps p.tables e below (s₁.setTop (mkF m 0 #[.val (.long q0_), .second, .val (.int p1_), .val (.int p2_), .unset, .unset, .unset, .unset, .unset, .unset, .unset, .unset] [])) t → Steps p.tables e below (s₁.setTop (entryFrame m #[(.long q0_), (.int p1_), (.int p2_)] maxLocals)) t := fun t k => castTop (own_ef1 m q0_ p1_ p2_) k
  obtain ⟨_, _, ⟨T1, L1, k1, n1⟩, -, X1, ⟨Lc1, hQ1, l1, y1, z1⟩, st1⟩ := Jvm.LawKit.callS X0 hx (y := (⟨"com/example/tidewell/tidewell/types/Timestamps", "inRange", "(J)Z"⟩ : MethodName)) hown (mvT hZ (hw _ (List.mem_of_getElem? (i := 2) rfl))) (mvT hZ (hw _ (List.mem_of_getElem? (i := 3) rfl))) (mvT hZ (hw _ (List.mem_of_getElem? (i := 4) rfl))) (mvT hZ (hw _ (List.mem_of_getElem? (i := 5) rfl))) (by decide) (backOf (W := 0) (own_b1_ft l Z a0 hw [] (p1_.toInt64) (-62167219200000 : Int64) (253402300799999 : Int64) h0 n0 Z0 S_MIN_MILLIS S_MAX_MILLIS hf3 hf2) hZ (hw _ (List.mem_of_getElem? (i := 5) rfl)) (hw _ (List.mem_of_getElem? (i := 4) rfl)) (by decide) (by decide)) (g := (mkF m 87 #[.val (.long q0_), .second, .val (.int p1_), .val (.int p2_), .val (.long (-62167219200000 : Int64)), .second, .val (.long (253402300799999 : Int64)), .second, .val (.int (3 : Int32)), .val (.long (p1_.toInt64)), .second, .val (.int (0 : Int32))] [(.long (p1_.toInt64))])) rfl (by rw [hml]; rfl) (argsL := [(.long (p1_.toInt64))]) (rest := []) (lenOf own_pd0 rfl) rfl (by show 2 * 0 + _ ≤ _; exact Nat.le_of_eq rfl) (hb hby at_87) (fun _ _ => ⟨rfl, e0, (by decide : 0 + 0 ≤ _), (by decide : 0 + 0 ≤ _)⟩)
  dsimp only [Pt.U, Pt.locs, Pt.cells, Pt.slots] at X1 l1 y1 z1 st1 hQ1
  subst l1 y1 z1
  obtain ⟨rfl, N1q, e1⟩ := hQ1
  have N1 := Fr.app N0 N1q
  obtain ⟨fs, hr, hrun, hended, hW, hsame⟩ := X1.leave (v := some (.int (1 : Int32))) (fun h => by rw [Bd.returns] at h; cases h)
  refine ⟨_, _, pre0 _ ?_, hrun, hended, _, _, rfl, ?_, ⟨_, rfl⟩, hW, hsame.mono (by decide) (by decide)⟩
  · show Steps p.tables e below (s₁.setTop (mkF m 0 #[.val (.long q0_), .second, .val (.int p1_), .val (.int p2_), .unset, .unset, .unset, .unset, .unset, .unset, .unset, .unset] [])) _
    refine X0.ldc2Long hx hown (mvT hZ (hw _ (List.mem_of_getElem? (i := 0) rfl))) (g := (mkF m 0 #[.val (.long q0_), .second, .val (.int p1_), .val (.int p2_), .unset, .unset, .unset, .unset, .unset, .unset, .unset, .unset] [])) rfl (hb hby at_0) _ ?_
    show Steps p.tables e below (s₁.setTop (mkF m 3 #[.val (.long q0_), .second, .val (.int p1_), .val (.int p2_), .unset, .unset, .unset, .unset, .unset, .unset, .unset, .unset] [(.long (-62167219200000 : Int64))])) _
    refine XS.lstore X0.here hx rfl (hb hby at_3) rfl (l' := #[.val (.long q0_), .second, .val (.int p1_), .val (.int p2_), .val (.long (-62167219200000 : Int64)), .second, .unset, .unset, .unset, .unset, .unset, .unset]) rfl ?_
    show Steps p.tables e below (s₁.setTop (mkF m 5 #[.val (.long q0_), .second, .val (.int p1_), .val (.int p2_), .val (.long (-62167219200000 : Int64)), .second, .unset, .unset, .unset, .unset, .unset, .unset] [])) _
    refine X0.ldc2Long hx hown (mvT hZ (hw _ (List.mem_of_getElem? (i := 1) rfl))) (g := (mkF m 5 #[.val (.long q0_), .second, .val (.int p1_), .val (.int p2_), .val (.long (-62167219200000 : Int64)), .second, .unset, .unset, .unset, .unset, .unset, .unset] [])) rfl (hb hby at_5) _ ?_
    show Steps p.tables e below (s₁.setTop (mkF m 8 #[.val (.long q0_), .second, .val (.int p1_), .val (.int p2_), .val (.long (-62167219200000 : Int64)), .second, .unset, .unset, .unset, .unset, .unset, .unset] [(.long (253402300799999 : Int64))])) _
    refine XS.lstore X0.here hx rfl (hb hby at_8) rfl (l' := #[.val (.long q0_), .second, .val (.int p1_), .val (.int p2_), .val (.long (-62167219200000 : Int64)), .second, .val (.long (253402300799999 : Int64)), .second, .unset, .unset, .unset, .unset]) rfl ?_
    show Steps p.tables e below (s₁.setTop (mkF m 10 #[.val (.long q0_), .second, .val (.int p1_), .val (.int p2_), .val (.long (-62167219200000 : Int64)), .second, .val (.long (253402300799999 : Int64)), .second, .unset, .unset, .unset, .unset] [])) _
    refine XS.iloadN X0.here hx rfl (hb hby at_10) rfl ?_
    show Steps p.tables e below (s₁.setTop (mkF m 11 #[.val (.long q0_), .second, .val (.int p1_), .val (.int p2_), .val (.long (-62167219200000 : Int64)), .second, .val (.long (253402300799999 : Int64)), .second, .unset, .unset, .unset, .unset] [(.int p2_)])) _
    refine XS.iconst X0.here hx rfl (hb hby at_11) ?_
    show Steps p.tables e below (s₁.setTop (mkF m 12 #[.val (.long q0_), .second, .val (.int p1_), .val (.int p2_), .val (.long (-62167219200000 : Int64)), .second, .val (.long (253402300799999 : Int64)), .second, .unset, .unset, .unset, .unset] [(.int (3 : Int32)), (.int p2_)])) _
    refine XS.iand X0.here hx rfl (hb hby at_12) rfl ?_
    show Steps p.tables e below (s₁.setTop (mkF m 13 #[.val (.long q0_), .second, .val (.int p1_), .val (.int p2_), .val (.long (-62167219200000 : Int64)), .second, .val (.long (253402300799999 : Int64)), .second, .unset, .unset, .unset, .unset] [(.int (p2_ &&& (3 : Int32)))])) _
    rw [hf0]
    show Steps p.tables e below (s₁.setTop (mkF m 13 #[.val (.long q0_), .second, .val (.int p1_), .val (.int p2_), .val (.long (-62167219200000 : Int64)), .second, .val (.long (253402300799999 : Int64)), .second, .unset, .unset, .unset, .unset] [(.int (3 : Int32))])) _
    refine XS.istore X0.here hx rfl (hb hby at_13) rfl (l' := #[.val (.long q0_), .second, .val (.int p1_), .val (.int p2_), .val (.long (-62167219200000 : Int64)), .second, .val (.long (253402300799999 : Int64)), .second, .val (.int (3 : Int32)), .unset, .unset, .unset]) rfl ?_
    show Steps p.tables e below (s₁.setTop (mkF m 15 #[.val (.long q0_), .second, .val (.int p1_), .val (.int p2_), .val (.long (-62167219200000 : Int64)), .second, .val (.long (253402300799999 : Int64)), .second, .val (.int (3 : Int32)), .unset, .unset, .unset] [])) _
    refine XS.iload X0.here hx rfl (hb hby at_15) rfl ?_
    show Steps p.tables e below (s₁.setTop (mkF m 17 #[.val (.long q0_), .second, .val (.int p1_), .val (.int p2_), .val (.long (-62167219200000 : Int64)), .second, .val (.long (253402300799999 : Int64)), .second, .val (.int (3 : Int32)), .unset, .unset, .unset] [(.int (3 : Int32))])) _
    refine XS.ifYes X0.here hx rfl (pc0 := 17) (pc' := 26) rfl (hb hby at_17) rfl ((if0 _ _).trans (feq (by decide : ¬ ((3 : Int32) = (0 : Int32)))).2) (by decide) (by decide) ?_
    show Steps p.tables e below (s₁.setTop (mkF m 26 #[.val (.long q0_), .second, .val (.int p1_), .val (.int p2_), .val (.long (-62167219200000 : Int64)), .second, .val (.long (253402300799999 : Int64)), .second, .val (.int (3 : Int32)), .unset, .unset, .unset] [])) _
    refine XS.iload X0.here hx rfl (hb hby at_26) rfl ?_
    show Steps p.tables e below (s₁.setTop (mkF m 28 #[.val (.long q0_), .second, .val (.int p1_), .val (.int p2_), .val (.long (-62167219200000 : Int64)), .second, .val (.long (253402300799999 : Int64)), .second, .val (.int (3 : Int32)), .unset, .unset, .unset] [(.int (3 : Int32))])) _
    refine XS.iconst X0.here hx rfl (hb hby at_28) ?_
    show Steps p.tables e below (s₁.setTop (mkF m 29 #[.val (.long q0_), .second, .val (.int p1_), .val (.int p2_), .val (.long (-62167219200000 : Int64)), .second, .val (.long (253402300799999 : Int64)), .second, .val (.int (3 : Int32)), .unset, .unset, .unset] [(.int (1 : Int32)), (.int (3 : Int32))])) _
    refine XS.icmpYes X0.here hx rfl (pc0 := 29) (pc' := 42) rfl (hb hby at_29) rfl (feq (by decide : ¬ ((3 : Int32) = (1 : Int32)))).2 (by decide) (by decide) ?_
    show Steps p.tables e below (s₁.setTop (mkF m 42 #[.val (.long q0_), .second, .val (.int p1_), .val (.int p2_), .val (.long (-62167219200000 : Int64)), .second, .val (.long (253402300799999 : Int64)), .second, .val (.int (3 : Int32)), .unset, .unset, .unset] [])) _
    refine XS.iload X0.here hx rfl (hb hby at_42) rfl ?_
    show Steps p.tables e below (s₁.setTop (mkF m 44 #[.val (.long q0_), .second, .val (.int p1_), .val (.int p2_), .val (.long (-62167219200000 : Int64)), .second, .val (.long (253402300799999 : Int64)), .second, .val (.int (3 : Int32)), .unset, .unset, .unset] [(.int (3 : Int32))])) _
    refine XS.iconst X0.here hx rfl (hb hby at_44) ?_
    show Steps p.tables e below (s₁.setTop (mkF m 45 #[.val (.long q0_), .second, .val (.int p1_), .val (.int p2_), .val (.long (-62167219200000 : Int64)), .second, .val (.long (253402300799999 : Int64)), .second, .val (.int (3 : Int32)), .unset, .unset, .unset] [(.int (2 : Int32)), (.int (3 : Int32))])) _
    refine XS.icmpYes X0.here hx rfl (pc0 := 45) (pc' := 58) rfl (hb hby at_45) rfl (feq (by decide : ¬ ((3 : Int32) = (2 : Int32)))).2 (by decide) (by decide) ?_
    show Steps p.tables e below (s₁.setTop (mkF m 58 #[.val (.long q0_), .second, .val (.int p1_), .val (.int p2_), .val (.long (-62167219200000 : Int64)), .second, .val (.long (253402300799999 : Int64)), .second, .val (.int (3 : Int32)), .unset, .unset, .unset] [])) _
    refine XS.iloadN X0.here hx rfl (hb hby at_58) rfl ?_
    show Steps p.tables e below (s₁.setTop (mkF m 59 #[.val (.long q0_), .second, .val (.int p1_), .val (.int p2_), .val (.long (-62167219200000 : Int64)), .second, .val (.long (253402300799999 : Int64)), .second, .val (.int (3 : Int32)), .unset, .unset, .unset] [(.int p1_)])) _
    refine XS.i2l X0.here hx rfl (hb hby at_59) rfl ?_
    show Steps p.tables e below (s₁.setTop (mkF m 60 #[.val (.long q0_), .second, .val (.int p1_), .val (.int p2_), .val (.long (-62167219200000 : Int64)), .second, .val (.long (253402300799999 : Int64)), .second, .val (.int (3 : Int32)), .unset, .unset, .unset] [(.long (p1_.toInt64))])) _
    refine XS.lstore X0.here hx rfl (hb hby at_60) rfl (l' := #[.val (.long q0_), .second, .val (.int p1_), .val (.int p2_), .val (.long (-62167219200000 : Int64)), .second, .val (.long (253402300799999 : Int64)), .second, .val (.int (3 : Int32)), .val (.long (p1_.toInt64)), .second, .unset]) rfl ?_
    show Steps p.tables e below (s₁.setTop (mkF m 62 #[.val (.long q0_), .second, .val (.int p1_), .val (.int p2_), .val (.long (-62167219200000 : Int64)), .second, .val (.long (253402300799999 : Int64)), .second, .val (.int (3 : Int32)), .val (.long (p1_.toInt64)), .second, .unset] [])) _
    refine XS.lload X0.here hx rfl (hb hby at_62) rfl ?_
    show Steps p.tables e below (s₁.setTop (mkF m 64 #[.val (.long q0_), .second, .val (.int p1_), .val (.int p2_), .val (.long (-62167219200000 : Int64)), .second, .val (.long (253402300799999 : Int64)), .second, .val (.int (3 : Int32)), .val (.long (p1_.toInt64)), .second, .unset] [(.long (-62167219200000 : Int64))])) _
    refine XS.lload X0.here hx rfl (hb hby at_64) rfl ?_
    show Steps p.tables e below (s₁.setTop (mkF m 66 #[.val (.long q0_), .second, .val (.int p1_), .val (.int p2_), .val (.long (-62167219200000 : Int64)), .second, .val (.long (253402300799999 : Int64)), .second, .val (.int (3 : Int32)), .val (.long (p1_.toInt64)), .second, .unset] [(.long (p1_.toInt64)), (.long (-62167219200000 : Int64))])) _
    refine XS.lcmp X0.here hx rfl (hb hby at_66) rfl ?_
    show Steps p.tables e below (s₁.setTop (mkF m 67 #[.val (.long q0_), .second, .val (.int p1_), .val (.int p2_), .val (.long (-62167219200000 : Int64)), .second, .val (.long (253402300799999 : Int64)), .second, .val (.int (3 : Int32)), .val (.long (p1_.toInt64)), .second, .unset] [(.int (lcmpW (-62167219200000 : Int64) (p1_.toInt64)))])) _
    refine XS.ifNo X0.here hx rfl (hb hby at_67) rfl ((if0 _ _).trans (flt hf1).2.2.1) ?_
    show Steps p.tables e below (s₁.setTop (mkF m 70 #[.val (.long q0_), .second, .val (.int p1_), .val (.int p2_), .val (.long (-62167219200000 : Int64)), .second, .val (.long (253402300799999 : Int64)), .second, .val (.int (3 : Int32)), .val (.long (p1_.toInt64)), .second, .unset] [])) _
    refine XS.lload X0.here hx rfl (hb hby at_70) rfl ?_
    show Steps p.tables e below (s₁.setTop (mkF m 72 #[.val (.long q0_), .second, .val (.int p1_), .val (.int p2_), .val (.long (-62167219200000 : Int64)), .second, .val (.long (253402300799999 : Int64)), .second, .val (.int (3 : Int32)), .val (.long (p1_.toInt64)), .second, .unset] [(.long (p1_.toInt64))])) _
    refine XS.lload X0.here hx rfl (hb hby at_72) rfl ?_
    show Steps p.tables e below (s₁.setTop (mkF m 74 #[.val (.long q0_), .second, .val (.int p1_), .val (.int p2_), .val (.long (-62167219200000 : Int64)), .second, .val (.long (253402300799999 : Int64)), .second, .val (.int (3 : Int32)), .val (.long (p1_.toInt64)), .second, .unset] [(.long (253402300799999 : Int64)), (.long (p1_.toInt64))])) _
    refine XS.lcmp X0.here hx rfl (hb hby at_74) rfl ?_
    show Steps p.tables e below (s₁.setTop (mkF m 75 #[.val (.long q0_), .second, .val (.int p1_), .val (.int p2_), .val (.long (-62167219200000 : Int64)), .second, .val (.long (253402300799999 : Int64)), .second, .val (.int (3 : Int32)), .val (.long (p1_.toInt64)), .second, .unset] [(.int (lcmpW (p1_.toInt64) (253402300799999 : Int64)))])) _
    refine XS.ifYes X0.here hx rfl (pc0 := 75) (pc' := 82) rfl (hb hby at_75) rfl ((if0 _ _).trans (tlt hf2).2.2.1) (by decide) (by decide) ?_
    show Steps p.tables e below (s₁.setTop (mkF m 82 #[.val (.long q0_), .second, .val (.int p1_), .val (.int p2_), .val (.long (-62167219200000 : Int64)), .second, .val (.long (253402300799999 : Int64)), .second, .val (.int (3 : Int32)), .val (.long (p1_.toInt64)), .second, .unset] [])) _
    refine XS.iconst X0.here hx rfl (hb hby at_82) ?_
    show Steps p.tables e below (s₁.setTop (mkF m 83 #[.val (.long q0_), .second, .val (.int p1_), .val (.int p2_), .val (.long (-62167219200000 : Int64)), .second, .val (.long (253402300799999 : Int64)), .second, .val (.int (3 : Int32)), .val (.long (p1_.toInt64)), .second, .unset] [(.int (0 : Int32))])) _
    refine XS.istore X0.here hx rfl (hb hby at_83) rfl (l' := #[.val (.long q0_), .second, .val (.int p1_), .val (.int p2_), .val (.long (-62167219200000 : Int64)), .second, .val (.long (253402300799999 : Int64)), .second, .val (.int (3 : Int32)), .val (.long (p1_.toInt64)), .second, .val (.int (0 : Int32))]) rfl ?_
    show Steps p.tables e below (s₁.setTop (mkF m 85 #[.val (.long q0_), .second, .val (.int p1_), .val (.int p2_), .val (.long (-62167219200000 : Int64)), .second, .val (.long (253402300799999 : Int64)), .second, .val (.int (3 : Int32)), .val (.long (p1_.toInt64)), .second, .val (.int (0 : Int32))] [])) _
    refine XS.lload X0.here hx rfl (hb hby at_85) rfl ?_
    show Steps p.tables e below (s₁.setTop (mkF m 87 #[.val (.long q0_), .second, .val (.int p1_), .val (.int p2_), .val (.long (-62167219200000 : Int64)), .second, .val (.long (253402300799999 : Int64)), .second, .val (.int (3 : Int32)), .val (.long (p1_.toInt64)), .second, .val (.int (0 : Int32))] [(.long (p1_.toInt64))])) _
    refine st1 _ ?_
    show Steps p.tables e below (T1.setTop (mkF m 90 #[.val (.long q0_), .second, .val (.int p1_), .val (.int p2_), .val (.long (-62167219200000 : Int64)), .second, .val (.long (253402300799999 : Int64)), .second, .val (.int (3 : Int32)), .val (.long (p1_.toInt64)), .second, .val (.int (0 : Int32))] [(.int (0 : Int32))])) _
    refine XS.iload X1.here hx rfl (hb hby at_90) rfl ?_
    show Steps p.tables e below (T1.setTop (mkF m 92 #[.val (.long q0_), .second, .val (.int p1_), .val (.int p2_), .val (.long (-62167219200000 : Int64)), .second, .val (.long (253402300799999 : Int64)), .second, .val (.int (3 : Int32)), .val (.long (p1_.toInt64)), .second, .val (.int (0 : Int32))] [(.int (0 : Int32)), (.int (0 : Int32))])) _
    refine XS.icmpNo X1.here hx rfl (hb hby at_92) rfl (teq (rfl : (0 : Int32) = (0 : Int32))).2 ?_
    show Steps p.tables e below (T1.setTop (mkF m 95 #[.val (.long q0_), .second, .val (.int p1_), .val (.int p2_), .val (.long (-62167219200000 : Int64)), .second, .val (.long (253402300799999 : Int64)), .second, .val (.int (3 : Int32)), .val (.long (p1_.toInt64)), .second, .val (.int (0 : Int32))] [])) _
    refine XS.iconst X1.here hx rfl (hb hby at_95) ?_
    show Steps p.tables e below (T1.setTop (mkF m 96 #[.val (.long q0_), .second, .val (.int p1_), .val (.int p2_), .val (.long (-62167219200000 : Int64)), .second, .val (.long (253402300799999 : Int64)), .second, .val (.int (3 : Int32)), .val (.long (p1_.toInt64)), .second, .val (.int (0 : Int32))] [(.int (1 : Int32))])) _
    refine XS.goto X1.here hx rfl (pc0 := 96) (pc' := 100) rfl (hb hby at_96) (by decide) (by decide) ?_
    show Steps p.tables e below (T1.setTop (mkF m 100 #[.val (.long q0_), .second, .val (.int p1_), .val (.int p2_), .val (.long (-62167219200000 : Int64)), .second, .val (.long (253402300799999 : Int64)), .second, .val (.int (3 : Int32)), .val (.long (p1_.toInt64)), .second, .val (.int (0 : Int32))] [(.int (1 : Int32))])) _
    exact retN X1 hx (t := .boolean) Bd.returns (by simp) (hb hby at_100) hr
  · show own_QL n0 _ T1.heap _
    exact ⟨rfl, N1⟩
set_option maxRecDepth 65536 in
set_option maxHeartbeats 40000000 in
theorem own_law3i (l : Launch) (Z : State) (a0 : Array Value) (hw : ∀ d ∈ tables_1, d.before a0 Z = true) (ws : List Jvm.Cond) (q0_ : Int64) (p1_ : Int32) (p2_ : Int32) (h0 : Heap) (n0 : Nat) (Z0 : n0 ≤ h0.size) (S_MIN_MILLIS : Sta Z h0 "com/example/tidewell/tidewell/types/Timestamps" "MIN_MILLIS" "J" (.long (-62167219200000 : Int64))) (S_MAX_MILLIS : Sta Z h0 "com/example/tidewell/tidewell/types/Timestamps" "MAX_MILLIS" "J" (.long (253402300799999 : Int64))) (hf0 : (p2_ &&& (3 : Int32)) = (3 : Int32)) (hf1 : ¬ ((0 : Int32) < (lcmpW (-62167219200000 : Int64) (p1_.toInt64)))) (hf2 : ¬ ((0 : Int32) < (lcmpW (p1_.toInt64) (253402300799999 : Int64)))) (hf3 : ¬ ((lcmpW (p1_.toInt64) (-62167219200000 : Int64)) < (0 : Int32))) :
    MetFree l x (head1 (Jvm.Cond.code x code maxLocals ret :: ws) room_1) (fun a U => a = #[(.long q0_), (.int p1_), (.int p2_)] ∧ Z.Warmed39 U.vm ∧ U.heap = h0) (fun _ _ _ _ _ => True) (fun _ U o U' => ∃ v L, o = .returned v ∧ own_QL n0 v U'.heap L ∧ FrameEnd U o U' L room_1.cells room_1.slots) := by
  refine MetFree.of_bodySF (plainFor_of_name own_pn1) hisR ?_
  intro p e s m args below meth c s₁ Bd hml0 hP hK
  obtain ⟨rfl, hZ, hh⟩ := hP
  have hx := Bd.exec
  have hby := Bd.bytes
  have hml : c.maxLocals = 12 := hml0
  have hown : s.vm.findClass "com/example/tidewell/tidewell/types/TimestampsInRangePinLaw" = some m.cls := findClass_of_methodNamed Bd.named
  have hnm := (name_of_methodNamed Bd.named Bd.method).1
  have X0 : Stand p l e room_1 s m #[(.long q0_), (.int p1_), (.int p2_)] below meth c s₁ [] 0 0 := Stand.of_body Bd
  have e0 : s₁.heap = h0 := by rw [← hh, Bd.state]; rfl
  have N0 := Fr.nil n0
  have pre0 : ∀ t, Steps p.tables e below (s₁.setTop (mkF m 0 #[.val (.long q0_), .second, .val (.int p1_), .val (.int p2_), .unset, .unset, .unset, .unset, .unset, .unset, .unset, .unset] [])) t → Steps p.tables e below (s₁.setTop (entryFrame m #[(.long q0_), (.int p1_), (.int p2_)] maxLocals)) t := fun t k => castTop (own_ef1 m q0_ p1_ p2_) k
  obtain ⟨_, _, ⟨T1, L1, k1, n1⟩, -, X1, ⟨Lc1, hQ1, l1, y1, z1⟩, st1⟩ := Jvm.LawKit.callS X0 hx (y := (⟨"com/example/tidewell/tidewell/types/Timestamps", "inRange", "(J)Z"⟩ : MethodName)) hown (mvT hZ (hw _ (List.mem_of_getElem? (i := 2) rfl))) (mvT hZ (hw _ (List.mem_of_getElem? (i := 3) rfl))) (mvT hZ (hw _ (List.mem_of_getElem? (i := 4) rfl))) (mvT hZ (hw _ (List.mem_of_getElem? (i := 5) rfl))) (by decide) (backOf (W := 0) (own_b1_ff l Z a0 hw [] (p1_.toInt64) (-62167219200000 : Int64) (253402300799999 : Int64) h0 n0 Z0 S_MIN_MILLIS S_MAX_MILLIS hf3 hf2) hZ (hw _ (List.mem_of_getElem? (i := 5) rfl)) (hw _ (List.mem_of_getElem? (i := 4) rfl)) (by decide) (by decide)) (g := (mkF m 87 #[.val (.long q0_), .second, .val (.int p1_), .val (.int p2_), .val (.long (-62167219200000 : Int64)), .second, .val (.long (253402300799999 : Int64)), .second, .val (.int (3 : Int32)), .val (.long (p1_.toInt64)), .second, .val (.int (1 : Int32))] [(.long (p1_.toInt64))])) rfl (by rw [hml]; rfl) (argsL := [(.long (p1_.toInt64))]) (rest := []) (lenOf own_pd0 rfl) rfl (by show 2 * 0 + _ ≤ _; exact Nat.le_of_eq rfl) (hb hby at_87) (fun _ _ => ⟨rfl, e0, (by decide : 0 + 0 ≤ _), (by decide : 0 + 0 ≤ _)⟩)
  dsimp only [Pt.U, Pt.locs, Pt.cells, Pt.slots] at X1 l1 y1 z1 st1 hQ1
  subst l1 y1 z1
  obtain ⟨rfl, N1q, e1⟩ := hQ1
  have N1 := Fr.app N0 N1q
  obtain ⟨fs, hr, hrun, hended, hW, hsame⟩ := X1.leave (v := some (.int (1 : Int32))) (fun h => by rw [Bd.returns] at h; cases h)
  refine ⟨_, _, pre0 _ ?_, hrun, hended, _, _, rfl, ?_, ⟨_, rfl⟩, hW, hsame.mono (by decide) (by decide)⟩
  · show Steps p.tables e below (s₁.setTop (mkF m 0 #[.val (.long q0_), .second, .val (.int p1_), .val (.int p2_), .unset, .unset, .unset, .unset, .unset, .unset, .unset, .unset] [])) _
    refine X0.ldc2Long hx hown (mvT hZ (hw _ (List.mem_of_getElem? (i := 0) rfl))) (g := (mkF m 0 #[.val (.long q0_), .second, .val (.int p1_), .val (.int p2_), .unset, .unset, .unset, .unset, .unset, .unset, .unset, .unset] [])) rfl (hb hby at_0) _ ?_
    show Steps p.tables e below (s₁.setTop (mkF m 3 #[.val (.long q0_), .second, .val (.int p1_), .val (.int p2_), .unset, .unset, .unset, .unset, .unset, .unset, .unset, .unset] [(.long (-62167219200000 : Int64))])) _
    refine XS.lstore X0.here hx rfl (hb hby at_3) rfl (l' := #[.val (.long q0_), .second, .val (.int p1_), .val (.int p2_), .val (.long (-62167219200000 : Int64)), .second, .unset, .unset, .unset, .unset, .unset, .unset]) rfl ?_
    show Steps p.tables e below (s₁.setTop (mkF m 5 #[.val (.long q0_), .second, .val (.int p1_), .val (.int p2_), .val (.long (-62167219200000 : Int64)), .second, .unset, .unset, .unset, .unset, .unset, .unset] [])) _
    refine X0.ldc2Long hx hown (mvT hZ (hw _ (List.mem_of_getElem? (i := 1) rfl))) (g := (mkF m 5 #[.val (.long q0_), .second, .val (.int p1_), .val (.int p2_), .val (.long (-62167219200000 : Int64)), .second, .unset, .unset, .unset, .unset, .unset, .unset] [])) rfl (hb hby at_5) _ ?_
    show Steps p.tables e below (s₁.setTop (mkF m 8 #[.val (.long q0_), .second, .val (.int p1_), .val (.int p2_), .val (.long (-62167219200000 : Int64)), .second, .unset, .unset, .unset, .unset, .unset, .unset] [(.long (253402300799999 : Int64))])) _
    refine XS.lstore X0.here hx rfl (hb hby at_8) rfl (l' := #[.val (.long q0_), .second, .val (.int p1_), .val (.int p2_), .val (.long (-62167219200000 : Int64)), .second, .val (.long (253402300799999 : Int64)), .second, .unset, .unset, .unset, .unset]) rfl ?_
    show Steps p.tables e below (s₁.setTop (mkF m 10 #[.val (.long q0_), .second, .val (.int p1_), .val (.int p2_), .val (.long (-62167219200000 : Int64)), .second, .val (.long (253402300799999 : Int64)), .second, .unset, .unset, .unset, .unset] [])) _
    refine XS.iloadN X0.here hx rfl (hb hby at_10) rfl ?_
    show Steps p.tables e below (s₁.setTop (mkF m 11 #[.val (.long q0_), .second, .val (.int p1_), .val (.int p2_), .val (.long (-62167219200000 : Int64)), .second, .val (.long (253402300799999 : Int64)), .second, .unset, .unset, .unset, .unset] [(.int p2_)])) _
    refine XS.iconst X0.here hx rfl (hb hby at_11) ?_
    show Steps p.tables e below (s₁.setTop (mkF m 12 #[.val (.long q0_), .second, .val (.int p1_), .val (.int p2_), .val (.long (-62167219200000 : Int64)), .second, .val (.long (253402300799999 : Int64)), .second, .unset, .unset, .unset, .unset] [(.int (3 : Int32)), (.int p2_)])) _
    refine XS.iand X0.here hx rfl (hb hby at_12) rfl ?_
    show Steps p.tables e below (s₁.setTop (mkF m 13 #[.val (.long q0_), .second, .val (.int p1_), .val (.int p2_), .val (.long (-62167219200000 : Int64)), .second, .val (.long (253402300799999 : Int64)), .second, .unset, .unset, .unset, .unset] [(.int (p2_ &&& (3 : Int32)))])) _
    rw [hf0]
    show Steps p.tables e below (s₁.setTop (mkF m 13 #[.val (.long q0_), .second, .val (.int p1_), .val (.int p2_), .val (.long (-62167219200000 : Int64)), .second, .val (.long (253402300799999 : Int64)), .second, .unset, .unset, .unset, .unset] [(.int (3 : Int32))])) _
    refine XS.istore X0.here hx rfl (hb hby at_13) rfl (l' := #[.val (.long q0_), .second, .val (.int p1_), .val (.int p2_), .val (.long (-62167219200000 : Int64)), .second, .val (.long (253402300799999 : Int64)), .second, .val (.int (3 : Int32)), .unset, .unset, .unset]) rfl ?_
    show Steps p.tables e below (s₁.setTop (mkF m 15 #[.val (.long q0_), .second, .val (.int p1_), .val (.int p2_), .val (.long (-62167219200000 : Int64)), .second, .val (.long (253402300799999 : Int64)), .second, .val (.int (3 : Int32)), .unset, .unset, .unset] [])) _
    refine XS.iload X0.here hx rfl (hb hby at_15) rfl ?_
    show Steps p.tables e below (s₁.setTop (mkF m 17 #[.val (.long q0_), .second, .val (.int p1_), .val (.int p2_), .val (.long (-62167219200000 : Int64)), .second, .val (.long (253402300799999 : Int64)), .second, .val (.int (3 : Int32)), .unset, .unset, .unset] [(.int (3 : Int32))])) _
    refine XS.ifYes X0.here hx rfl (pc0 := 17) (pc' := 26) rfl (hb hby at_17) rfl ((if0 _ _).trans (feq (by decide : ¬ ((3 : Int32) = (0 : Int32)))).2) (by decide) (by decide) ?_
    show Steps p.tables e below (s₁.setTop (mkF m 26 #[.val (.long q0_), .second, .val (.int p1_), .val (.int p2_), .val (.long (-62167219200000 : Int64)), .second, .val (.long (253402300799999 : Int64)), .second, .val (.int (3 : Int32)), .unset, .unset, .unset] [])) _
    refine XS.iload X0.here hx rfl (hb hby at_26) rfl ?_
    show Steps p.tables e below (s₁.setTop (mkF m 28 #[.val (.long q0_), .second, .val (.int p1_), .val (.int p2_), .val (.long (-62167219200000 : Int64)), .second, .val (.long (253402300799999 : Int64)), .second, .val (.int (3 : Int32)), .unset, .unset, .unset] [(.int (3 : Int32))])) _
    refine XS.iconst X0.here hx rfl (hb hby at_28) ?_
    show Steps p.tables e below (s₁.setTop (mkF m 29 #[.val (.long q0_), .second, .val (.int p1_), .val (.int p2_), .val (.long (-62167219200000 : Int64)), .second, .val (.long (253402300799999 : Int64)), .second, .val (.int (3 : Int32)), .unset, .unset, .unset] [(.int (1 : Int32)), (.int (3 : Int32))])) _
    refine XS.icmpYes X0.here hx rfl (pc0 := 29) (pc' := 42) rfl (hb hby at_29) rfl (feq (by decide : ¬ ((3 : Int32) = (1 : Int32)))).2 (by decide) (by decide) ?_
    show Steps p.tables e below (s₁.setTop (mkF m 42 #[.val (.long q0_), .second, .val (.int p1_), .val (.int p2_), .val (.long (-62167219200000 : Int64)), .second, .val (.long (253402300799999 : Int64)), .second, .val (.int (3 : Int32)), .unset, .unset, .unset] [])) _
    refine XS.iload X0.here hx rfl (hb hby at_42) rfl ?_
    show Steps p.tables e below (s₁.setTop (mkF m 44 #[.val (.long q0_), .second, .val (.int p1_), .val (.int p2_), .val (.long (-62167219200000 : Int64)), .second, .val (.long (253402300799999 : Int64)), .second, .val (.int (3 : Int32)), .unset, .unset, .unset] [(.int (3 : Int32))])) _
    refine XS.iconst X0.here hx rfl (hb hby at_44) ?_
    show Steps p.tables e below (s₁.setTop (mkF m 45 #[.val (.long q0_), .second, .val (.int p1_), .val (.int p2_), .val (.long (-62167219200000 : Int64)), .second, .val (.long (253402300799999 : Int64)), .second, .val (.int (3 : Int32)), .unset, .unset, .unset] [(.int (2 : Int32)), (.int (3 : Int32))])) _
    refine XS.icmpYes X0.here hx rfl (pc0 := 45) (pc' := 58) rfl (hb hby at_45) rfl (feq (by decide : ¬ ((3 : Int32) = (2 : Int32)))).2 (by decide) (by decide) ?_
    show Steps p.tables e below (s₁.setTop (mkF m 58 #[.val (.long q0_), .second, .val (.int p1_), .val (.int p2_), .val (.long (-62167219200000 : Int64)), .second, .val (.long (253402300799999 : Int64)), .second, .val (.int (3 : Int32)), .unset, .unset, .unset] [])) _
    refine XS.iloadN X0.here hx rfl (hb hby at_58) rfl ?_
    show Steps p.tables e below (s₁.setTop (mkF m 59 #[.val (.long q0_), .second, .val (.int p1_), .val (.int p2_), .val (.long (-62167219200000 : Int64)), .second, .val (.long (253402300799999 : Int64)), .second, .val (.int (3 : Int32)), .unset, .unset, .unset] [(.int p1_)])) _
    refine XS.i2l X0.here hx rfl (hb hby at_59) rfl ?_
    show Steps p.tables e below (s₁.setTop (mkF m 60 #[.val (.long q0_), .second, .val (.int p1_), .val (.int p2_), .val (.long (-62167219200000 : Int64)), .second, .val (.long (253402300799999 : Int64)), .second, .val (.int (3 : Int32)), .unset, .unset, .unset] [(.long (p1_.toInt64))])) _
    refine XS.lstore X0.here hx rfl (hb hby at_60) rfl (l' := #[.val (.long q0_), .second, .val (.int p1_), .val (.int p2_), .val (.long (-62167219200000 : Int64)), .second, .val (.long (253402300799999 : Int64)), .second, .val (.int (3 : Int32)), .val (.long (p1_.toInt64)), .second, .unset]) rfl ?_
    show Steps p.tables e below (s₁.setTop (mkF m 62 #[.val (.long q0_), .second, .val (.int p1_), .val (.int p2_), .val (.long (-62167219200000 : Int64)), .second, .val (.long (253402300799999 : Int64)), .second, .val (.int (3 : Int32)), .val (.long (p1_.toInt64)), .second, .unset] [])) _
    refine XS.lload X0.here hx rfl (hb hby at_62) rfl ?_
    show Steps p.tables e below (s₁.setTop (mkF m 64 #[.val (.long q0_), .second, .val (.int p1_), .val (.int p2_), .val (.long (-62167219200000 : Int64)), .second, .val (.long (253402300799999 : Int64)), .second, .val (.int (3 : Int32)), .val (.long (p1_.toInt64)), .second, .unset] [(.long (-62167219200000 : Int64))])) _
    refine XS.lload X0.here hx rfl (hb hby at_64) rfl ?_
    show Steps p.tables e below (s₁.setTop (mkF m 66 #[.val (.long q0_), .second, .val (.int p1_), .val (.int p2_), .val (.long (-62167219200000 : Int64)), .second, .val (.long (253402300799999 : Int64)), .second, .val (.int (3 : Int32)), .val (.long (p1_.toInt64)), .second, .unset] [(.long (p1_.toInt64)), (.long (-62167219200000 : Int64))])) _
    refine XS.lcmp X0.here hx rfl (hb hby at_66) rfl ?_
    show Steps p.tables e below (s₁.setTop (mkF m 67 #[.val (.long q0_), .second, .val (.int p1_), .val (.int p2_), .val (.long (-62167219200000 : Int64)), .second, .val (.long (253402300799999 : Int64)), .second, .val (.int (3 : Int32)), .val (.long (p1_.toInt64)), .second, .unset] [(.int (lcmpW (-62167219200000 : Int64) (p1_.toInt64)))])) _
    refine XS.ifNo X0.here hx rfl (hb hby at_67) rfl ((if0 _ _).trans (flt hf1).2.2.1) ?_
    show Steps p.tables e below (s₁.setTop (mkF m 70 #[.val (.long q0_), .second, .val (.int p1_), .val (.int p2_), .val (.long (-62167219200000 : Int64)), .second, .val (.long (253402300799999 : Int64)), .second, .val (.int (3 : Int32)), .val (.long (p1_.toInt64)), .second, .unset] [])) _
    refine XS.lload X0.here hx rfl (hb hby at_70) rfl ?_
    show Steps p.tables e below (s₁.setTop (mkF m 72 #[.val (.long q0_), .second, .val (.int p1_), .val (.int p2_), .val (.long (-62167219200000 : Int64)), .second, .val (.long (253402300799999 : Int64)), .second, .val (.int (3 : Int32)), .val (.long (p1_.toInt64)), .second, .unset] [(.long (p1_.toInt64))])) _
    refine XS.lload X0.here hx rfl (hb hby at_72) rfl ?_
    show Steps p.tables e below (s₁.setTop (mkF m 74 #[.val (.long q0_), .second, .val (.int p1_), .val (.int p2_), .val (.long (-62167219200000 : Int64)), .second, .val (.long (253402300799999 : Int64)), .second, .val (.int (3 : Int32)), .val (.long (p1_.toInt64)), .second, .unset] [(.long (253402300799999 : Int64)), (.long (p1_.toInt64))])) _
    refine XS.lcmp X0.here hx rfl (hb hby at_74) rfl ?_
    show Steps p.tables e below (s₁.setTop (mkF m 75 #[.val (.long q0_), .second, .val (.int p1_), .val (.int p2_), .val (.long (-62167219200000 : Int64)), .second, .val (.long (253402300799999 : Int64)), .second, .val (.int (3 : Int32)), .val (.long (p1_.toInt64)), .second, .unset] [(.int (lcmpW (p1_.toInt64) (253402300799999 : Int64)))])) _
    refine XS.ifNo X0.here hx rfl (hb hby at_75) rfl ((if0 _ _).trans (flt hf2).2.2.1) ?_
    show Steps p.tables e below (s₁.setTop (mkF m 78 #[.val (.long q0_), .second, .val (.int p1_), .val (.int p2_), .val (.long (-62167219200000 : Int64)), .second, .val (.long (253402300799999 : Int64)), .second, .val (.int (3 : Int32)), .val (.long (p1_.toInt64)), .second, .unset] [])) _
    refine XS.iconst X0.here hx rfl (hb hby at_78) ?_
    show Steps p.tables e below (s₁.setTop (mkF m 79 #[.val (.long q0_), .second, .val (.int p1_), .val (.int p2_), .val (.long (-62167219200000 : Int64)), .second, .val (.long (253402300799999 : Int64)), .second, .val (.int (3 : Int32)), .val (.long (p1_.toInt64)), .second, .unset] [(.int (1 : Int32))])) _
    refine XS.goto X0.here hx rfl (pc0 := 79) (pc' := 83) rfl (hb hby at_79) (by decide) (by decide) ?_
    show Steps p.tables e below (s₁.setTop (mkF m 83 #[.val (.long q0_), .second, .val (.int p1_), .val (.int p2_), .val (.long (-62167219200000 : Int64)), .second, .val (.long (253402300799999 : Int64)), .second, .val (.int (3 : Int32)), .val (.long (p1_.toInt64)), .second, .unset] [(.int (1 : Int32))])) _
    refine XS.istore X0.here hx rfl (hb hby at_83) rfl (l' := #[.val (.long q0_), .second, .val (.int p1_), .val (.int p2_), .val (.long (-62167219200000 : Int64)), .second, .val (.long (253402300799999 : Int64)), .second, .val (.int (3 : Int32)), .val (.long (p1_.toInt64)), .second, .val (.int (1 : Int32))]) rfl ?_
    show Steps p.tables e below (s₁.setTop (mkF m 85 #[.val (.long q0_), .second, .val (.int p1_), .val (.int p2_), .val (.long (-62167219200000 : Int64)), .second, .val (.long (253402300799999 : Int64)), .second, .val (.int (3 : Int32)), .val (.long (p1_.toInt64)), .second, .val (.int (1 : Int32))] [])) _
    refine XS.lload X0.here hx rfl (hb hby at_85) rfl ?_
    show Steps p.tables e below (s₁.setTop (mkF m 87 #[.val (.long q0_), .second, .val (.int p1_), .val (.int p2_), .val (.long (-62167219200000 : Int64)), .second, .val (.long (253402300799999 : Int64)), .second, .val (.int (3 : Int32)), .val (.long (p1_.toInt64)), .second, .val (.int (1 : Int32))] [(.long (p1_.toInt64))])) _
    refine st1 _ ?_
    show Steps p.tables e below (T1.setTop (mkF m 90 #[.val (.long q0_), .second, .val (.int p1_), .val (.int p2_), .val (.long (-62167219200000 : Int64)), .second, .val (.long (253402300799999 : Int64)), .second, .val (.int (3 : Int32)), .val (.long (p1_.toInt64)), .second, .val (.int (1 : Int32))] [(.int (1 : Int32))])) _
    refine XS.iload X1.here hx rfl (hb hby at_90) rfl ?_
    show Steps p.tables e below (T1.setTop (mkF m 92 #[.val (.long q0_), .second, .val (.int p1_), .val (.int p2_), .val (.long (-62167219200000 : Int64)), .second, .val (.long (253402300799999 : Int64)), .second, .val (.int (3 : Int32)), .val (.long (p1_.toInt64)), .second, .val (.int (1 : Int32))] [(.int (1 : Int32)), (.int (1 : Int32))])) _
    refine XS.icmpNo X1.here hx rfl (hb hby at_92) rfl (teq (rfl : (1 : Int32) = (1 : Int32))).2 ?_
    show Steps p.tables e below (T1.setTop (mkF m 95 #[.val (.long q0_), .second, .val (.int p1_), .val (.int p2_), .val (.long (-62167219200000 : Int64)), .second, .val (.long (253402300799999 : Int64)), .second, .val (.int (3 : Int32)), .val (.long (p1_.toInt64)), .second, .val (.int (1 : Int32))] [])) _
    refine XS.iconst X1.here hx rfl (hb hby at_95) ?_
    show Steps p.tables e below (T1.setTop (mkF m 96 #[.val (.long q0_), .second, .val (.int p1_), .val (.int p2_), .val (.long (-62167219200000 : Int64)), .second, .val (.long (253402300799999 : Int64)), .second, .val (.int (3 : Int32)), .val (.long (p1_.toInt64)), .second, .val (.int (1 : Int32))] [(.int (1 : Int32))])) _
    refine XS.goto X1.here hx rfl (pc0 := 96) (pc' := 100) rfl (hb hby at_96) (by decide) (by decide) ?_
    show Steps p.tables e below (T1.setTop (mkF m 100 #[.val (.long q0_), .second, .val (.int p1_), .val (.int p2_), .val (.long (-62167219200000 : Int64)), .second, .val (.long (253402300799999 : Int64)), .second, .val (.int (3 : Int32)), .val (.long (p1_.toInt64)), .second, .val (.int (1 : Int32))] [(.int (1 : Int32))])) _
    exact retN X1 hx (t := .boolean) Bd.returns (by simp) (hb hby at_100) hr
  · show own_QL n0 _ T1.heap _
    exact ⟨rfl, N1⟩
set_option maxRecDepth 65536 in
set_option maxHeartbeats 40000000 in
theorem comes_1 {Post : Tables → Env → Array Value → State → Outcome → State → Prop} (hpost : ∀ tb e args s v u, (limb_1_1.after args s (.returned v) u = true ∧ limb_1_2.after args s (.returned v) u = true ∧ True) → FrameEnd s (.returned v) u (Jvm.fieldLocs frame_1_writes args s ++ Jvm.arrayLocs frame_1_arrays args s ++ Jvm.staticLocs frame_1_statics s) 0 0 → Post tb e args s (.returned v) u) :
    ArmFor flags0 classFile x code maxLocals ret World_1 tables_1 room_1 Calls_1 rest_1 Pre_1 Post := by
  intro l hfl _ _ p e ha hc hk s m args below hf hA hF happ hP
  obtain ⟨hcalls, hrest, hpre⟩ := hP
  obtain ⟨-, -, -, hnamed, -, -, -, hat⟩ := (Spec.applies_iff hf).mp happ
  obtain ⟨hg, hn⟩ := and_e (Cond.before_iff.mp (show (Jvm.Cond.and given_1 narrow_1).before args s = true from hpre))
  obtain ⟨hg0, hgr⟩ := and_e hg
  obtain ⟨ga0, gr0⟩ := and_e hgr
  obtain ⟨ga1, gr1⟩ := and_e gr0
  have ga2 := gr1
  obtain ⟨w0_, w1_, w2_, rfl⟩ : ∃ w0_ w1_ w2_ : Value, args = #[w0_, w1_, w2_] := by
    have hs : args.size = 3 := by simpa [Cond.value, given_1] using hg0
    obtain ⟨L⟩ := args
    match L, hs with
    | [w0_, w1_, w2_], _ => exact ⟨w0_, w1_, w2_, rfl⟩
  have hw := fun d (hd : d ∈ tables_1) => atoms_spec (ws := Jvm.Cond.code x code maxLocals ret :: tables_1) hat d (List.mem_cons_of_mem _ hd)
  obtain ⟨q0_, ei0⟩ := isL_v ga0
  obtain rfl : w0_ = (.long q0_) := Option.some.inj ei0
  obtain ⟨p1_, ei1⟩ := is_v ga1
  obtain rfl : w1_ = (.int p1_) := Option.some.inj ei1
  obtain ⟨p2_, ei2⟩ := is_v ga2
  obtain rfl : w2_ = (.int p2_) := Option.some.inj ei2
  obtain ⟨c0, r0⟩ := and_e hn
  have c1 := r0
  have ev_MIN_MILLIS := own_eqL c0
  have S_MIN_MILLIS := Sta.start ev_MIN_MILLIS (Or.inr ⟨(hw _ (List.mem_of_getElem? (i := 4) rfl)), (hw _ (List.mem_of_getElem? (i := 7) rfl))⟩)
  have ev_MAX_MILLIS := own_eqL c1
  have S_MAX_MILLIS := Sta.start ev_MAX_MILLIS (Or.inr ⟨(hw _ (List.mem_of_getElem? (i := 4) rfl)), (hw _ (List.mem_of_getElem? (i := 9) rfl))⟩)
  have key : MetFree l x (head1 (Jvm.Cond.code x code maxLocals ret :: tables_1) room_1) (fun a U => a = #[(.long q0_), (.int p1_), (.int p2_)] ∧ s.Warmed39 U.vm ∧ U.heap = s.heap) (fun _ _ _ _ _ => True) (fun _ U o U' => ∃ v L, o = .returned v ∧ own_QL s.heap.size v U'.heap L ∧ FrameEnd U o U' L room_1.cells room_1.slots) := by
    rcases own_and3 p2_ with q | q | q | q
    · by_cases hA : q0_ < (-62167219200000 : Int64)
      · exact own_law0b l s _ hw tables_1 q0_ p1_ p2_ s.heap s.heap.size (Nat.le_refl _) S_MIN_MILLIS (by assumption) (by simp only [own_lcA, own_lcB]; assumption) (by simp only [own_lcA, own_lcB]; assumption)
      · by_cases hB : (253402300799999 : Int64) < q0_
        · exact own_law0a l s _ hw tables_1 q0_ p1_ p2_ s.heap s.heap.size (Nat.le_refl _) S_MIN_MILLIS S_MAX_MILLIS (by assumption) (by simp only [own_lcA, own_lcB]; assumption) (by simp only [own_lcA, own_lcB]; assumption) (by simp only [own_lcA, own_lcB]; assumption)
        · exact own_law0i l s _ hw tables_1 q0_ p1_ p2_ s.heap s.heap.size (Nat.le_refl _) S_MIN_MILLIS S_MAX_MILLIS (by assumption) (by simp only [own_lcA, own_lcB]; assumption) (by simp only [own_lcA, own_lcB]; assumption) (by simp only [own_lcA, own_lcB]; assumption)
    · by_cases hA : ((-62167219200000 : Int64) + (p1_.toInt64)) < (-62167219200000 : Int64)
      · exact own_law1b l s _ hw tables_1 q0_ p1_ p2_ s.heap s.heap.size (Nat.le_refl _) S_MIN_MILLIS (by assumption) (by simp only [own_lcA, own_lcB]; assumption) (by simp only [own_lcA, own_lcB]; assumption)
      · by_cases hB : (253402300799999 : Int64) < ((-62167219200000 : Int64) + (p1_.toInt64))
        · exact own_law1a l s _ hw tables_1 q0_ p1_ p2_ s.heap s.heap.size (Nat.le_refl _) S_MIN_MILLIS S_MAX_MILLIS (by assumption) (by simp only [own_lcA, own_lcB]; assumption) (by simp only [own_lcA, own_lcB]; assumption) (by simp only [own_lcA, own_lcB]; assumption)
        · exact own_law1i l s _ hw tables_1 q0_ p1_ p2_ s.heap s.heap.size (Nat.le_refl _) S_MIN_MILLIS S_MAX_MILLIS (by assumption) (by simp only [own_lcA, own_lcB]; assumption) (by simp only [own_lcA, own_lcB]; assumption) (by simp only [own_lcA, own_lcB]; assumption)
    · by_cases hA : ((253402300799999 : Int64) + (p1_.toInt64)) < (-62167219200000 : Int64)
      · exact own_law2b l s _ hw tables_1 q0_ p1_ p2_ s.heap s.heap.size (Nat.le_refl _) S_MIN_MILLIS (by assumption) (by simp only [own_lcA, own_lcB]; assumption) (by simp only [own_lcA, own_lcB]; assumption)
      · by_cases hB : (253402300799999 : Int64) < ((253402300799999 : Int64) + (p1_.toInt64))
        · exact own_law2a l s _ hw tables_1 q0_ p1_ p2_ s.heap s.heap.size (Nat.le_refl _) S_MIN_MILLIS S_MAX_MILLIS (by assumption) (by simp only [own_lcA, own_lcB]; assumption) (by simp only [own_lcA, own_lcB]; assumption) (by simp only [own_lcA, own_lcB]; assumption)
        · exact own_law2i l s _ hw tables_1 q0_ p1_ p2_ s.heap s.heap.size (Nat.le_refl _) S_MIN_MILLIS S_MAX_MILLIS (by assumption) (by simp only [own_lcA, own_lcB]; assumption) (by simp only [own_lcA, own_lcB]; assumption) (by simp only [own_lcA, own_lcB]; assumption)
    · by_cases hA : (p1_.toInt64) < (-62167219200000 : Int64)
      · exact own_law3b l s _ hw tables_1 q0_ p1_ p2_ s.heap s.heap.size (Nat.le_refl _) S_MIN_MILLIS (by assumption) (by simp only [own_lcA, own_lcB]; assumption) (by simp only [own_lcA, own_lcB]; assumption)
      · by_cases hB : (253402300799999 : Int64) < (p1_.toInt64)
        · exact own_law3a l s _ hw tables_1 q0_ p1_ p2_ s.heap s.heap.size (Nat.le_refl _) S_MIN_MILLIS S_MAX_MILLIS (by assumption) (by simp only [own_lcA, own_lcB]; assumption) (by simp only [own_lcA, own_lcB]; assumption) (by simp only [own_lcA, own_lcB]; assumption)
        · exact own_law3i l s _ hw tables_1 q0_ p1_ p2_ s.heap s.heap.size (Nat.le_refl _) S_MIN_MILLIS S_MAX_MILLIS (by assumption) (by simp only [own_lcA, own_lcB]; assumption) (by simp only [own_lcA, own_lcB]; assumption) (by simp only [own_lcA, own_lcB]; assumption)
  obtain ⟨n, o, h1, h2, h3, _, L, rfl, ⟨rfl, N⟩, hq⟩ := key p e ha hc hk s m _ below hf ((Spec.applies_iff_loose hf).mp happ).1 ⟨rfl, State.Warmed39.refl s, rfl⟩ trivial
  refine ⟨n, _, h1, h2, h3, hpost _ _ _ _ _ _ ⟨Cond.after_iff.mpr rfl, Cond.after_iff.mpr (eq_i res_at (Term.int_eval (1)) rfl), trivial⟩ ⟨hq.1, hq.2.1, (hq.2.2.sift fun y hy => Or.inr (N y hy)).mono (by decide) (by decide)⟩⟩
theorem main_1_1 : Claimed_1_1 := comes_1 fun _ _ _ _ _ _ h hF => ⟨h.1, hF⟩
theorem main_1_2 : Claimed_1_2 := comes_1 fun _ _ _ _ _ _ h hF => ⟨h.2.1, hF⟩
end Jvm.Pilot.@@N@@
namespace Jvm.Pilot.@@N@@
open Jvm Jvm.ClassFile Sem Op Lib Jvm.Free Jvm.Stand Jvm.Pilot.@@N@@.Jvm.D
/-! MADE BY PROGRAM (witnessworld.py) out of the Statement's table words and the real class files: 9 classes; the members and pool entries that the words name. The judged class is class 1, her method 1. -/
namespace start1
open Jvm.ClassFile
def u (s : String) : CpInfo := .utf8 (stringToUtf16 s)
/-- a pool by its gaps: so many unusable entries, then the entry; so many at the end -/
def gap : Nat → List CpInfo → List CpInfo
  | 0, r => r
  | n + 1, r => .unusable :: gap n r
def poolList (es : List (Nat × CpInfo)) (last : Nat) : List CpInfo := es.foldr (fun e r => gap e.1 (e.2 :: r)) (gap last [])
def pool (es : List (Nat × CpInfo)) (last : Nat) : Array CpInfo := ⟨poolList es last⟩
def fileOf (pool : Array CpInfo) (this : Nat) (attrs : Array Attribute := #[]) (ms : Array MethodInfo := #[]) (fl : Nat := 33) (sup : Nat := 0) (ifs : Array Nat := #[]) (fds : Array FieldInfo := #[]) : ClassFile where
  minorVersion := 0
  majorVersion := 65
  constantPool := pool
  accessFlags := fl
  thisClass := this
  superClass := sup
  interfaces := ifs
  fields := fds
  methods := ms
  attributes := attrs
def plain (name : String) (sup : Option ClassId) : Class where
  name := name
  kind := .ordinary
  loader := none
  accessFlags := 33
  super := sup
  interfaces := #[]
  cf := none
  fields := #[]
  methods := #[]
  instanceTypes := #[]
  staticTypes := #[]
  resolved := #[]
  callSites := []
  init := .initialized
  statics := none
  mirror := none

def pool0 : Array CpInfo := pool [(5, u "<init>"), (0, u "()V"), (1, .class_ 10), (1, u "java/lang/Object")] 113

def k0m0 : Method := { name := "<init>", desc := "()V", sig := { parameters := [], returnType := none }, accessFlags := 1, code := none }
/-- java/lang/Object -/
def k0 : Class := { plain "java/lang/Object" none with
  accessFlags := 33
  interfaces := #[]
  cf := some (fileOf pool0 8 #[] #[{ accessFlags := 1, nameIndex := 5, descriptorIndex := 6, attributes := #[] }] 33 0 #[] #[])
  fields := #[]
  methods := #[k0m0]
  instanceTypes := #[]
  staticTypes := #[]
  resolved := Array.replicate 124 none
  statics := none }

def pool1 : Array CpInfo := pool [(2, .class_ 4), (1, u "java/lang/Object"), (0, u "<init>"), (0, u "()V"), (0, .long 18446681906490351616), (1, .long 253402300799999), (1, .methodref 12 13), (0, .class_ 14), (0, .nameAndType 15 16), (0, u "com/example/tidewell/tidewell/types/Timestamps"), (0, u "inRange"), (0, u "(J)Z"), (0, .class_ 18), (0, u "com/example/tidewell/tidewell/types/TimestampsInRangePinLaw"), (2, u "law"), (0, u "(JII)Z")] 3

def k1m0 : Method := { name := "<init>", desc := "()V", sig := { parameters := [], returnType := none }, accessFlags := 1, code := none }
def k1c1 : Code := { maxStack := 4, maxLocals := 12, code := code, exceptionTable := #[], attributes := #[] }
def k1m1 : Method := { name := "law", desc := "(JII)Z", sig := { parameters := [.long, .int, .int], returnType := some .boolean }, accessFlags := 9, code := some k1c1 }
/-- com/example/tidewell/tidewell/types/TimestampsInRangePinLaw -/
def k1 : Class := { plain "com/example/tidewell/tidewell/types/TimestampsInRangePinLaw" (some 0) with
  accessFlags := 49
  interfaces := #[]
  cf := some (fileOf pool1 17 #[] #[{ accessFlags := 1, nameIndex := 5, descriptorIndex := 6, attributes := #[] }, { accessFlags := 9, nameIndex := 21, descriptorIndex := 22, attributes := #[] }] 49 2 #[] #[])
  fields := #[]
  methods := #[k1m0, k1m1]
  instanceTypes := #[]
  staticTypes := #[]
  resolved := Array.replicate 26 none
  statics := none }

def pool2 : Array CpInfo := pool [(1, .class_ 2), (0, u "com/example/tidewell/tidewell/types/Timestamps"), (1, .class_ 6), (1, u "java/lang/Object"), (0, u "<init>"), (0, u "()V"), (0, .fieldref 1 10), (0, .nameAndType 11 12), (0, u "MIN_MILLIS"), (0, u "J"), (0, .fieldref 1 14), (0, .nameAndType 15 12), (0, u "MAX_MILLIS"), (31, u "inRange"), (0, u "(J)Z"), (108, u "MILLIS_PER_SECOND"), (1, u "MILLIS_PER_MINUTE"), (0, u "MILLIS_PER_HOUR"), (0, u "MILLIS_PER_DAY"), (0, u "MAX_OFFSET_MINUTES"), (0, u "I")] 26

def k2m0 : Method := { name := "<init>", desc := "()V", sig := { parameters := [], returnType := none }, accessFlags := 2, code := none }
def k2c1 : Code := { maxStack := 4, maxLocals := 2, code := prog_137_method_2_code, exceptionTable := #[], attributes := #[] }
def k2m1 : Method := { name := "inRange", desc := "(J)Z", sig := { parameters := [.long], returnType := some .boolean }, accessFlags := 9, code := some k2c1 }
/-- com/example/tidewell/tidewell/types/Timestamps -/
def k2 : Class := { plain "com/example/tidewell/tidewell/types/Timestamps" (some 0) with
  accessFlags := 49
  interfaces := #[]
  cf := some (fileOf pool2 1 #[] #[{ accessFlags := 2, nameIndex := 7, descriptorIndex := 8, attributes := #[] }, { accessFlags := 9, nameIndex := 47, descriptorIndex := 48, attributes := #[] }] 49 4 #[] #[{ accessFlags := 26, nameIndex := 157, descriptorIndex := 12, attributes := #[] }, { accessFlags := 26, nameIndex := 159, descriptorIndex := 12, attributes := #[] }, { accessFlags := 26, nameIndex := 160, descriptorIndex := 12, attributes := #[] }, { accessFlags := 26, nameIndex := 161, descriptorIndex := 12, attributes := #[] }, { accessFlags := 26, nameIndex := 162, descriptorIndex := 163, attributes := #[] }, { accessFlags := 25, nameIndex := 11, descriptorIndex := 12, attributes := #[] }, { accessFlags := 25, nameIndex := 15, descriptorIndex := 12, attributes := #[] }])
  fields := #[{ name := "MILLIS_PER_SECOND", type := .long, accessFlags := 26, slot := 0, constantValue := 0 }, { name := "MILLIS_PER_MINUTE", type := .long, accessFlags := 26, slot := 1, constantValue := 0 }, { name := "MILLIS_PER_HOUR", type := .long, accessFlags := 26, slot := 2, constantValue := 0 }, { name := "MILLIS_PER_DAY", type := .long, accessFlags := 26, slot := 3, constantValue := 0 }, { name := "MAX_OFFSET_MINUTES", type := .int, accessFlags := 26, slot := 4, constantValue := 0 }, { name := "MIN_MILLIS", type := .long, accessFlags := 25, slot := 5, constantValue := 0 }, { name := "MAX_MILLIS", type := .long, accessFlags := 25, slot := 6, constantValue := 0 }]
  methods := #[k2m0, k2m1]
  instanceTypes := #[]
  staticTypes := #[.long, .long, .long, .long, .int, .long, .long]
  resolved := Array.replicate 190 none
  statics := some 0 }

def pool3 : Array CpInfo := pool [(1, u "java/lang/Cloneable"), (0, .class_ 1), (0, u "java/lang/Object"), (0, .class_ 3)] 3

/-- java/lang/Cloneable -/
def k3 : Class := { plain "java/lang/Cloneable" (some 0) with
  accessFlags := 1537
  interfaces := #[]
  cf := some (fileOf pool3 2 #[] #[] 1537 4 #[] #[])
  fields := #[]
  methods := #[]
  instanceTypes := #[]
  staticTypes := #[]
  resolved := Array.replicate 8 none
  statics := none }

def pool4 : Array CpInfo := pool [(1, u "java/io/Serializable"), (0, .class_ 1), (0, u "java/lang/Object"), (0, .class_ 3)] 3

/-- java/io/Serializable -/
def k4 : Class := { plain "java/io/Serializable" (some 0) with
  accessFlags := 1537
  interfaces := #[]
  cf := some (fileOf pool4 2 #[] #[] 1537 4 #[] #[])
  fields := #[]
  methods := #[]
  instanceTypes := #[]
  staticTypes := #[]
  resolved := Array.replicate 8 none
  statics := none }

/-- the primitive byte -/
def k5 : Class := { plain "byte" none with kind := .primitive 'B', accessFlags := 0x411 }
/-- [B -/
def k6 : Class := { plain "[B" (some 0) with kind := .array 5 .byte, interfaces := #[3, 4], accessFlags := 1041 }

/-- the primitive int -/
def k7 : Class := { plain "int" none with kind := .primitive 'I', accessFlags := 0x411 }
/-- [I -/
def k8 : Class := { plain "[I" (some 0) with kind := .array 7 .int, interfaces := #[3, 4], accessFlags := 1041 }

def heap : Heap := #[{ cls := 2, slots := #[.long 0, .long 0, .long 0, .long 0, .int 0, .long (-62167219200000), .long 253402300799999], vm := .statics 2 }]
def classes : Array Class := #[k0, k1, k2, k3, k4, k5, k6, k7, k8]
def interned : List (Array UInt16 × Addr) := []
def slotsUsed : Nat := 7
def theMethod : MethodId := ⟨1, 1⟩
def args0 : Array Value := #[.long 5, .int 5, .int 5]
def aboutOver (below : List Frame) : State where
  vm := { classes := classes, interned := interned.toArray }
  heap := heap
  slotsUsed := slotsUsed
  threads := #[{ frames := .invoking theMethod args0 :: below }]
def below0 : List Frame := [.native { method := ⟨0, 0⟩, args := #[] }]
def about1 : State := aboutOver below0
def p0 : Program := .bare "" "" ""
def e0 : Env := launch0.env 0 0 0
theorem w_frames : about1.frames = Frame.invoking theMethod args0 :: below0 := rfl
set_option maxRecDepth 65536 in
theorem w_args : argsFit about1.vm theMethod args0 = true := by decide +kernel
set_option maxRecDepth 65536 in
theorem w_heap : heapFits about1 = true := by decide +kernel
set_option maxRecDepth 65536 in
theorem w_runnable : about1.curStatus? = some .runnable := by decide +kernel
set_option maxRecDepth 65536 in
theorem w_alone : about1.alone = true := by decide +kernel
set_option maxRecDepth 65536 in
theorem w_named : about1.methodNamed? x = some theMethod := by decide +kernel
set_option maxRecDepth 65536 in
theorem w_hears : about1.hears theMethod below0 = true := by decide +kernel
set_option maxRecDepth 65536 in
theorem w_ripe : about1.ripe theMethod args0 below0 = true := by decide +kernel
theorem w_running : about1.status = .running := rfl
set_option maxRecDepth 65536 in
theorem w_room : about1.hasRoom e0.platform room_1 = true :=
  launch0.hasRoom_least _ room_1 (by decide +kernel) (by decide +kernel) (by decide +kernel) (by decide +kernel) (by decide +kernel) (by decide +kernel)
theorem allAtoms_all (ts : List Jvm.Cond) (a : Array Jvm.Value) (st : Jvm.State) : (allAtoms ts).before a st = ts.all (fun c => c.before a st) := by
  induction ts with
  | nil => rfl
  | cons c t ih =>
    show (Jvm.Cond.and c (allAtoms t)).before a st = _
    rw [Jvm.Cond.before_and, ih, List.all_cons]
def words1 : List Jvm.Cond := Jvm.Cond.code x code maxLocals ret :: tables_1
/-- a 'code' word, met by the world's own term for the bytes: nothing is compared byte by byte -/
theorem code_word {y : MethodName} {bytes : ByteArray} {mx : Nat} {rt : Option FieldType} {a : Array Value} {s : State} {m : MethodId} {meth : Method} {c : Code} (h1 : s.methodNamed? y = some m) (h2 : s.vm.method? m = some meth) (h3 : meth.code = some c) (h4 : c.code = bytes)
    (h5 : (c.maxLocals == mx && c.exceptionTable.isEmpty && decide (c.maxStack ≤ mostOperands) && decide (meth.sig.returnType = rt) && !meth.locks && decide (parseMethodDescriptor y.desc = some meth.sig)) = true) : (Jvm.Cond.code y bytes mx rt).before a s = true := by
  simp only [Bool.and_eq_true, beq_iff_eq, Bool.not_eq_true', decide_eq_true_eq] at h5
  obtain ⟨⟨⟨⟨⟨g1, g2⟩, g3⟩, g4⟩, g5⟩, g6⟩ := h5
  simp [Cond.before, Cond.holds, Cond.value, h1, h2, h3, h4, g1, g2, g3, g4, g5, g6]
def isCode : Jvm.Cond → Bool
  | .code _ _ _ _ => true
  | _ => false
theorem all_split {L : List Jvm.Cond} {P : Jvm.Cond → Bool} (h1 : L.all (fun c => isCode c || P c) = true) (h2 : ∀ c ∈ L.filter isCode, P c = true) : L.all P = true := by
  refine List.all_eq_true.mpr fun c hc => ?_
  have h := List.all_eq_true.mp h1 c hc
  rcases Bool.eq_false_or_eq_true (isCode c) with hi | hi
  · exact h2 c (List.mem_filter.mpr ⟨hc, hi⟩)
  · simpa [hi] using h
set_option maxRecDepth 65536 in
theorem w_c0 : (Jvm.Cond.code x code maxLocals ret).before args0 about1 = true := code_word (m := ⟨1, 1⟩) (meth := k1m1) (c := k1c1) (by decide +kernel) rfl rfl rfl (by decide +kernel)
set_option maxRecDepth 65536 in
theorem w_c1 : (Jvm.Cond.code ({ cls := "com/example/tidewell/tidewell/types/Timestamps", name := "inRange", desc := "(J)Z" } : Jvm.MethodName) prog_137_method_2_code (2 : Nat) (Option.some Jvm.ClassFile.FieldType.boolean)).before args0 about1 = true := code_word (m := ⟨2, 1⟩) (meth := k2m1) (c := k2c1) (by decide +kernel) rfl rfl rfl (by decide +kernel)
def codes1 : List Jvm.Cond := [Jvm.Cond.code x code maxLocals ret, Jvm.Cond.code ({ cls := "com/example/tidewell/tidewell/types/Timestamps", name := "inRange", desc := "(J)Z" } : Jvm.MethodName) prog_137_method_2_code (2 : Nat) (Option.some Jvm.ClassFile.FieldType.boolean)]
set_option maxRecDepth 65536 in
theorem codes_eq : words1.filter isCode = codes1 := rfl
theorem w_codes : ∀ c ∈ words1.filter isCode, c.before args0 about1 = true := by
  rw [codes_eq]
  intro c hc
  simp only [codes1, List.mem_cons, List.not_mem_nil, or_false] at hc
  rcases hc with rfl | rfl
  · exact w_c0
  · exact w_c1
set_option maxRecDepth 65536 in
theorem w_t1 : words1.all (fun c => isCode c || c.before args0 about1) = true := by decide +kernel
theorem w_tables : (allAtoms (Jvm.Cond.code x code maxLocals ret :: tables_1)).before args0 about1 = true := by
  rw [allAtoms_all]
  show words1.all (fun c => c.before args0 about1) = true
  refine all_split ?_ w_codes
  rw [w_t1]
set_option maxRecDepth 65536 in
theorem w_case : (Jvm.Cond.and given_1 narrow_1).before args0 about1 = true := by decide +kernel
theorem w_applies : (headSpec (Jvm.Cond.code x code maxLocals ret :: tables_1) room_1).applies x e0.platform about1 = true :=
  (Spec.applies_iff w_frames).mpr ⟨w_running, w_runnable, w_alone, w_named, w_hears, w_ripe, w_room, w_tables⟩
theorem atStart : AtStart classFile x code maxLocals ret World_1 tables_1 room_1 Calls_1 rest_1 Pre_1 launch0 p0 e0 about1 theMethod args0 below0 :=
  ⟨lists_1, trivial, launch0.admits_env _ _ _, launch0.least_env, fairChoices_fair.cas, fairChoices_fair.clock, w_frames, w_args, w_heap, w_applies, trivial, trivial, w_case⟩
end start1
theorem witness_1 : WitnessClaimed_1 := ⟨start1.p0, start1.e0, start1.about1, start1.theMethod, start1.args0, start1.below0, start1.atStart⟩
end Jvm.Pilot.@@N@@
