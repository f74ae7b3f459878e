import JvmDerived
import JvmDerived.Pilot.@@N@@Statement
import JvmDerived.Pilot.@@N@@Code
set_option linter.unusedVariables false
set_option linter.unusedSimpArgs false
@@BLOCK:NumsL.lean.txt@@
namespace Jvm.RoadKit
open Sem ClassFile Op Lib Jvm.Stand Jvm.Free Jvm.LawKit
section New
variable {p : Program} {l : Launch} {e : Env} {R : Room} {s : State} {m : MethodId} {args : Array Value} {below : List Frame} {meth : Method} {c : Code} {T : State} {locs : List Loc} {cells slots : Nat}
theorem retI (X : Stand p l e R s m args below meth c T locs cells slots) (hx : p.tables.exec = Jvm.exec) {pc : Nat} {Ls : Array Slot} {z : Int32} {rest : List Value} (hret : meth.sig.returnType = some .int) (hd : decode c.code pc = .ok (.ireturn, 1)) {fs : List Frame}
    (hl : ∀ (f : JFrame) (acts : List Action), f.method = m → f.locked = none → f.entered = [] → (doReturn e (T.setTop f) acts (some (.int z))).1 = T.setFrames fs) : Steps p.tables e below (T.setTop (mkF m pc Ls (.int z :: rest))) (T.setFrames fs) := by
  have hm' : T.vm.method? m = some meth := X.method'
  have hn : narrow .int (.int z) = .int z := rfl
  show Steps p.tables e below (T.setTop { method := m, pc := pc, locals := Ls, stack := _ :: rest, locked := none }) _
  jvm_step X.here [X.here.top, hx, hd, hm', hret, hn]
  first | (intro acts; rw [hl _ acts rfl rfl rfl]) | rw [hl _ _ rfl rfl rfl]
  exact Steps.refl _
end New
end Jvm.RoadKit
namespace Jvm.Pilot.@@N@@
open Jvm Jvm.ClassFile Sem Op Lib Jvm.Free Jvm.Stand Jvm.LawKit Jvm.RoadKit Bundle Jvm.Pilot.@@N@@.Jvm.D
def own_QP (v0 : Option Value) (h0 : Heap) (n0 : Nat) (v : Option Value) (h : Heap) (L : List Loc) : Prop := v = v0 ∧ Fr n0 L ∧ h = h0
def own_QL (n0 : Nat) (v : Option Value) (h : Heap) (L : List Loc) : Prop := v = some (.int (1 : Int32)) ∧ Fr n0 L
theorem own_ext {h h' : Heap} (K : Keep h h' []) : Ext h h' := ⟨K.1, fun x c q => K.2.1 x c q (by simp)⟩
theorem own_sta_keep {Z : State} {h h' : Heap} {a : Addr} {C K n d : String} {w : Value} (S : Sta Z h C n d w) (k : Keep h h' [a]) (E : Exa Z h a K) : Sta Z h' C n d w := by
  obtain ⟨cf, i, kk, f, st, cell, h1, h2, h3, h4, h5, h6, h7⟩ := S
  refine ⟨cf, i, kk, f, st, cell, h1, h2, h3, h4, k.2.1 st cell h5 ?_, h6, h7⟩
  intro q
  cases List.mem_singleton.mp q
  obtain ⟨c2, _, g1, -, -, g4, -⟩ := E
  cases h5.symm.trans g1
  rw [g4] at h6
  cases h6
theorem own_fld_ne {Z : State} {h : Heap} {a b : Addr} {C n d : String} {v w : Value} (F : Fld Z h a C n d v) (G : Fld Z h b C n d w) (q : v ≠ w) : ¬ (a = b) := fun e => by
  subst e
  obtain ⟨c1, f1, k1, i1, g1, a1, a2, -, -, -, -, a7⟩ := F
  obtain ⟨c2, f2, k2, i2, g2, b1, b2, -, -, -, -, b7⟩ := G
  cases a1.symm.trans b1
  cases a2.symm.trans b2
  exact q (Option.some.inj (a7.symm.trans b7))
theorem own_eqI {t : Term} {args : Array Value} {s : State} {k : Int32} (h : (Cond.eq t (.int k)).value args s none s [] = some true) : t.eval args s none [] s = some (.int k) := by
  cases ht : t.eval args s none [] s with
  | none => simp [Cond.value, Term.eval, ht] at h
  | some v => cases v <;> simp [Cond.value, Term.eval, ht] at h ⊢; exact h
theorem own_eqL {t : Term} {args : Array Value} {s : State} {k : Int64} (h : (Cond.eq t (.long k)).value args s none s [] = some true) : t.eval args s none [] s = some (.long k) := by
  cases ht : t.eval args s none [] s with
  | none => simp [Cond.value, Term.eval, ht] at h
  | some v => cases v <;> simp [Cond.value, Term.eval, ht] at h ⊢; exact h
theorem own_and1 (k : Int32) : (k &&& (1 : Int32)) = (0 : Int32) ∨ (k &&& (1 : Int32)) = (1 : Int32) := by
  have e1 : (k &&& (1 : Int32)).toInt = k.toInt % 2 ^ 1 := Jvm.Kit.i32_mask k 1 (k := 1) (by decide) (by decide)
  generalize (k &&& (1 : Int32)) = z at *
  have e4 : z.toInt = 0 ∨ z.toInt = 1 := by omega
  rcases e4 with q | q
  · exact Or.inl (Int32.toInt_inj.mp (q.trans (by decide)))
  · exact Or.inr ((Int32.toInt_inj.mp (q.trans (by decide))))
theorem own_lcA (x y : Int64) : ((0 : Int32) < lcmpW x y) ↔ y < x := by rw [lcW]; exact lc_gt x y
theorem own_o (p : Int32) : 0 ≤ (((p.toUInt32 >>> ((1 : Int32) &&& 31).toUInt32).toInt32) % (5 : Int32)).toInt ∧ (((p.toUInt32 >>> ((1 : Int32) &&& 31).toUInt32).toInt32) % (5 : Int32)).toInt < 5 := by
  have e0 : ((1 : Int32) &&& 31).toUInt32 = 1 := by decide
  rw [e0]
  have e1 : 0 ≤ ((p.toUInt32 >>> 1).toInt32).toInt := by
    have h1 : (p.toUInt32 >>> 1).toNat = p.toUInt32.toNat / 2 := by
      rw [UInt32.toNat_shiftRight]; simp [Nat.shiftRight_eq_div_pow]
    have h2 : p.toUInt32.toNat < 2 ^ 32 := p.toUInt32.toNat_lt
    have h3 : ((p.toUInt32 >>> 1).toInt32).toInt = (BitVec.toInt (p.toUInt32 >>> 1).toBitVec) := rfl
    rw [h3, BitVec.toInt_eq_toNat_of_lt]
    · omega
    · have : (p.toUInt32 >>> 1).toBitVec.toNat = (p.toUInt32 >>> 1).toNat := rfl
      omega
  have e2 := Jvm.Kit.i32_rem_nonneg (x := (p.toUInt32 >>> 1).toInt32) (y := 5) e1
  have e3 : (5 : Int32).toInt = 5 := by decide
  rw [e2, e3]
  omega
theorem own_m (k : Int32) : 0 ≤ (k &&& (2147483647 : Int32)).toInt := by
  have e1 : (k &&& (2147483647 : Int32)).toInt = k.toInt % 2 ^ 31 := Jvm.Kit.i32_mask k 2147483647 (k := 31) (by decide) (by decide)
  omega
theorem own_ge1 {m : Int32} (h0 : 0 ≤ m.toInt) (h : ¬ (m = (0 : Int32))) : 1 ≤ m.toInt := by
  have : m.toInt ≠ 0 := fun q => h (Int32.toInt_inj.mp (q.trans (by decide)))
  omega
theorem own_nlt1 {m : Int32} (h : 1 ≤ m.toInt) : ¬ (m < (1 : Int32)) := by
  rw [Int32.lt_iff_toInt_lt]
  have e2 : (1 : Int32).toInt = 1 := by decide
  omega
theorem own_irr (m : Int32) : ¬ (m < m) := by rw [Int32.lt_iff_toInt_lt]; omega
theorem own_pred {m : Int32} (h : 1 ≤ m.toInt) : (m - (1 : Int32)) < m := by
  have e2 : (1 : Int32).toInt = 1 := by decide
  have b := m.toInt_lt
  have e := Jvm.Kit.i32_sub (p := m) (q := 1) (by omega) (by omega)
  rw [Int32.lt_iff_toInt_lt]
  omega
theorem own_la {m o : Int32} (hm : 1 ≤ m.toInt) (ho : 0 ≤ o.toInt ∧ o.toInt < 5) : (o - (2 : Int32)).toInt = o.toInt - 2 ∧ ((m.toInt64) + ((o - (2 : Int32)).toInt64)).toInt = m.toInt + o.toInt - 2 := by
  have e2 : (2 : Int32).toInt = 2 := by decide
  have b := m.toInt_lt
  have e := Jvm.Kit.i32_sub (p := o) (q := 2) (by omega) (by omega)
  have f1 := Jvm.Kit.i64_of_i32 m
  have f2 := Jvm.Kit.i64_of_i32 (o - 2)
  have g := Jvm.Kit.i64_add (x := m.toInt64) (y := (o - 2).toInt64) (by omega) (by omega)
  exact ⟨by omega, by omega⟩
theorem own_A {m o : Int32} (hm : 1 ≤ m.toInt) (ho : 0 ≤ o.toInt ∧ o.toInt < 5) (hL : ¬ ((0 : Int32) < (lcmpW ((m.toInt64) + ((o - (2 : Int32)).toInt64)) (2147483647 : Int64)))) : ((((m.toInt64) + ((o - (2 : Int32)).toInt64)).toInt32) < m) ↔ ((o - (2 : Int32)) < (0 : Int32)) := by
  obtain ⟨e1, e2⟩ := own_la hm ho
  rw [own_lcA, Int64.lt_iff_toInt_lt] at hL
  have e3 : (2147483647 : Int64).toInt = 2147483647 := by decide
  have e4 := Jvm.Kit.i32_of_i64 (x := (m.toInt64) + ((o - (2 : Int32)).toInt64)) (by omega) (by omega)
  have e5 : (0 : Int32).toInt = 0 := by decide
  rw [Int32.lt_iff_toInt_lt, Int32.lt_iff_toInt_lt]
  omega
theorem own_B {m o : Int32} (hm : 1 ≤ m.toInt) (hm' : m.toInt ≤ 5) (ho : 0 ≤ o.toInt ∧ o.toInt < 5) : ¬ ((0 : Int32) < (lcmpW ((m.toInt64) + ((o - (2 : Int32)).toInt64)) (2147483647 : Int64))) := by
  obtain ⟨e1, e2⟩ := own_la hm ho
  rw [own_lcA, Int64.lt_iff_toInt_lt]
  have e3 : (2147483647 : Int64).toInt = 2147483647 := by decide
  omega
theorem own_eq1 {m : Int32} (h1 : 1 ≤ m.toInt) (h : ¬ ((1 : Int32) < m)) : m.toInt ≤ 5 := by
  rw [Int32.lt_iff_toInt_lt] at h
  have e2 : (1 : Int32).toInt = 1 := by decide
  omega
theorem d1_0 : decode prog_12_method_1_code 0 = .ok (.aload_n 0, 1) := by decide +kernel
theorem d1_1 : decode prog_12_method_1_code 1 = .ok (.invokespecial 1, 3) := by decide +kernel
theorem d1_4 : decode prog_12_method_1_code 4 = .ok (.aload_n 0, 1) := by decide +kernel
theorem d1_5 : decode prog_12_method_1_code 5 = .ok (.iconst 5, 1) := by decide +kernel
theorem d1_6 : decode prog_12_method_1_code 6 = .ok (.putfield 9, 3) := by decide +kernel
theorem d1_9 : decode prog_12_method_1_code 9 = .ok (.aload_n 0, 1) := by decide +kernel
theorem d1_10 : decode prog_12_method_1_code 10 = .ok (.getstatic 13, 3) := by decide +kernel
theorem d1_13 : decode prog_12_method_1_code 13 = .ok (.putfield 17, 3) := by decide +kernel
theorem d1_16 : decode prog_12_method_1_code 16 = .ok (.return_, 1) := by decide +kernel
theorem d3_0 : decode prog_12_method_6_code 0 = .ok (.iload_n 1, 1) := by decide +kernel
theorem d3_1 : decode prog_12_method_6_code 1 = .ok (.iconst 1, 1) := by decide +kernel
theorem d3_2 : decode prog_12_method_6_code 2 = .ok (.if_icmp .ge 17, 3) := by decide +kernel
theorem d3_19 : decode prog_12_method_6_code 19 = .ok (.new 7, 3) := by decide +kernel
theorem d3_22 : decode prog_12_method_6_code 22 = .ok (.dup, 1) := by decide +kernel
theorem d3_23 : decode prog_12_method_6_code 23 = .ok (.aload_n 0, 1) := by decide +kernel
theorem d3_24 : decode prog_12_method_6_code 24 = .ok (.invokespecial 30, 3) := by decide +kernel
theorem d3_27 : decode prog_12_method_6_code 27 = .ok (.astore_n 2, 1) := by decide +kernel
theorem d3_28 : decode prog_12_method_6_code 28 = .ok (.aload_n 2, 1) := by decide +kernel
theorem d3_29 : decode prog_12_method_6_code 29 = .ok (.iload_n 1, 1) := by decide +kernel
theorem d3_30 : decode prog_12_method_6_code 30 = .ok (.putfield 9, 3) := by decide +kernel
theorem d3_33 : decode prog_12_method_6_code 33 = .ok (.aload_n 2, 1) := by decide +kernel
theorem d3_34 : decode prog_12_method_6_code 34 = .ok (.areturn, 1) := by decide +kernel
theorem d4_0 : decode prog_12_method_2_code 0 = .ok (.aload_n 0, 1) := by decide +kernel
theorem d4_1 : decode prog_12_method_2_code 1 = .ok (.invokespecial 1, 3) := by decide +kernel
theorem d4_4 : decode prog_12_method_2_code 4 = .ok (.aload_n 0, 1) := by decide +kernel
theorem d4_5 : decode prog_12_method_2_code 5 = .ok (.iconst 5, 1) := by decide +kernel
theorem d4_6 : decode prog_12_method_2_code 6 = .ok (.putfield 9, 3) := by decide +kernel
theorem d4_9 : decode prog_12_method_2_code 9 = .ok (.aload_n 0, 1) := by decide +kernel
theorem d4_10 : decode prog_12_method_2_code 10 = .ok (.getstatic 13, 3) := by decide +kernel
theorem d4_13 : decode prog_12_method_2_code 13 = .ok (.putfield 17, 3) := by decide +kernel
theorem d4_16 : decode prog_12_method_2_code 16 = .ok (.aload_n 0, 1) := by decide +kernel
theorem d4_17 : decode prog_12_method_2_code 17 = .ok (.aload_n 1, 1) := by decide +kernel
theorem d4_18 : decode prog_12_method_2_code 18 = .ok (.getfield 20, 3) := by decide +kernel
theorem d4_21 : decode prog_12_method_2_code 21 = .ok (.putfield 20, 3) := by decide +kernel
theorem d4_24 : decode prog_12_method_2_code 24 = .ok (.aload_n 0, 1) := by decide +kernel
theorem d4_25 : decode prog_12_method_2_code 25 = .ok (.aload_n 1, 1) := by decide +kernel
theorem d4_26 : decode prog_12_method_2_code 26 = .ok (.getfield 9, 3) := by decide +kernel
theorem d4_29 : decode prog_12_method_2_code 29 = .ok (.putfield 9, 3) := by decide +kernel
theorem d4_32 : decode prog_12_method_2_code 32 = .ok (.aload_n 0, 1) := by decide +kernel
theorem d4_33 : decode prog_12_method_2_code 33 = .ok (.aload_n 1, 1) := by decide +kernel
theorem d4_34 : decode prog_12_method_2_code 34 = .ok (.getfield 17, 3) := by decide +kernel
theorem d4_37 : decode prog_12_method_2_code 37 = .ok (.putfield 17, 3) := by decide +kernel
theorem d4_40 : decode prog_12_method_2_code 40 = .ok (.return_, 1) := by decide +kernel
theorem d5_0 : decode prog_12_method_9_code 0 = .ok (.iload_n 1, 1) := by decide +kernel
theorem d5_1 : decode prog_12_method_9_code 1 = .ok (.aload_n 0, 1) := by decide +kernel
theorem d5_2 : decode prog_12_method_9_code 2 = .ok (.getfield 9, 3) := by decide +kernel
theorem d5_5 : decode prog_12_method_9_code 5 = .ok (.if_icmp .lt 7, 3) := by decide +kernel
theorem d5_8 : decode prog_12_method_9_code 8 = .ok (.iconst 1, 1) := by decide +kernel
theorem d5_9 : decode prog_12_method_9_code 9 = .ok (.goto 4, 3) := by decide +kernel
theorem d5_12 : decode prog_12_method_9_code 12 = .ok (.iconst 0, 1) := by decide +kernel
theorem d5_13 : decode prog_12_method_9_code 13 = .ok (.ireturn, 1) := by decide +kernel
theorem own_pn0 : plainName "com/example/mersey/mersey/JobTypeSettings" = true := by first | (simp [plainName, overriddenIn]; done) | decide +kernel
theorem own_pn1 : plainName "com/example/mersey/mersey/JobTypeSettingsIsLastAttemptPinLaw" = true := by first | (simp [plainName, overriddenIn]; done) | decide +kernel
theorem own_pd0 : parseMethodDescriptor "()V" = some ⟨[], none⟩ := by decide +kernel
theorem own_pd1 : parseMethodDescriptor "(I)Z" = some ⟨[.int], some .boolean⟩ := by decide +kernel
theorem own_pd2 : parseMethodDescriptor "(Lcom/example/mersey/mersey/JobTypeSettings;)V" = some ⟨[(.object "com/example/mersey/mersey/JobTypeSettings")], none⟩ := by decide +kernel
theorem own_pd3 : parseMethodDescriptor "(I)Lcom/example/mersey/mersey/JobTypeSettings;" = some ⟨[.int], some (.object "com/example/mersey/mersey/JobTypeSettings")⟩ := by decide +kernel
theorem own_ef0 (m : MethodId) (x0 : Addr) : entryFrame m #[(.ref x0)] 1 = mkF m 0 #[.val (.ref x0)] [] := by first | (simp [entryFrame, mkF, argsToLocals, Value.category]; done) | rfl
theorem own_ef1 (m : MethodId) (x0 : Addr) (x1 : Int32) : entryFrame m #[(.ref x0), (.int x1)] 2 = mkF m 0 #[.val (.ref x0), .val (.int x1)] [] := by first | (simp [entryFrame, mkF, argsToLocals, Value.category]; done) | rfl
theorem own_ef2 (m : MethodId) (x0 : Int32) (x1 : Int32) (x2 : Int32) : entryFrame m #[(.int x0), (.int x1), (.int x2)] maxLocals = mkF m 0 #[.val (.int x0), .val (.int x1), .val (.int x2), .unset, .unset, .unset, .unset, .unset, .unset, .unset, .unset] [] := by first | (simp [entryFrame, mkF, argsToLocals, Value.category, maxLocals]; done) | rfl
theorem own_ef3 (m : MethodId) (x0 : Addr) (x1 : Addr) : entryFrame m #[(.ref x0), (.ref x1)] 2 = mkF m 0 #[.val (.ref x0), .val (.ref x1)] [] := by first | (simp [entryFrame, mkF, argsToLocals, Value.category]; done) | rfl
theorem own_ef4 (m : MethodId) (x0 : Addr) (x1 : Int32) : entryFrame m #[(.ref x0), (.int x1)] 3 = mkF m 0 #[.val (.ref x0), .val (.int x1), .unset] [] := by first | (simp [entryFrame, mkF, argsToLocals, Value.category]; done) | rfl
def Qown_b1_x (Z : State) (a0_ : Addr) (u_maxAttempts_a0_ : Value) (w_DEFAULT_BACKOFF : Addr) (u_backoff_a0_ : Value) (u_longestRunTime_a0_ : Value) (h0 : Heap) (n0 : Nat) (v : Option Value) (h : Heap) (L : List Loc) : Prop := v = none ∧ Fr n0 L ∧ Keep h0 h [a0_] ∧ Exa Z h a0_ "com/example/mersey/mersey/JobTypeSettings" ∧ Fld Z h a0_ "com/example/mersey/mersey/JobTypeSettings" "maxAttempts" "I" (.int (5 : Int32)) ∧ Fld Z h a0_ "com/example/mersey/mersey/JobTypeSettings" "backoff" "Lcom/example/mersey/mersey/Backoff;" (.ref w_DEFAULT_BACKOFF) ∧ Fld Z h a0_ "com/example/mersey/mersey/JobTypeSettings" "longestRunTime" "Ljava/time/Duration;" u_longestRunTime_a0_
set_option maxRecDepth 65536 in
set_option maxHeartbeats 40000000 in
theorem own_b1_x (l : Launch) (Z : State) (a0 : Array Value) (hw : ∀ d ∈ tables_1, d.before a0 Z = true) (ws : List Jvm.Cond) (a0_ : Addr) (u_maxAttempts_a0_ : Value) (w_DEFAULT_BACKOFF : Addr) (u_backoff_a0_ : Value) (u_longestRunTime_a0_ : Value) (h0 : Heap) (n0 : Nat) (Z0 : n0 ≤ h0.size) (E_a0_ : Exa Z h0 a0_ "com/example/mersey/mersey/JobTypeSettings") (F_maxAttempts_a0_ : Fld Z h0 a0_ "com/example/mersey/mersey/JobTypeSettings" "maxAttempts" "I" u_maxAttempts_a0_) (g_a0_ : n0 ≤ a0_) (S_DEFAULT_BACKOFF : Sta Z h0 "com/example/mersey/mersey/JobTypeSettings" "DEFAULT_BACKOFF" "Lcom/example/mersey/mersey/Backoff;" (.ref w_DEFAULT_BACKOFF)) (F_backoff_a0_ : Fld Z h0 a0_ "com/example/mersey/mersey/JobTypeSettings" "backoff" "Lcom/example/mersey/mersey/Backoff;" u_backoff_a0_) (F_longestRunTime_a0_ : Fld Z h0 a0_ "com/example/mersey/mersey/JobTypeSettings" "longestRunTime" "Ljava/time/Duration;" u_longestRunTime_a0_) :
    MetFree l (⟨"com/example/mersey/mersey/JobTypeSettings", "<init>", "()V"⟩ : MethodName) (head1 (Jvm.Cond.code (⟨"com/example/mersey/mersey/JobTypeSettings", "<init>", "()V"⟩ : MethodName) prog_12_method_1_code 1 none :: ws) ({ frames := 1, cells := 0, slots := 0, locals := 12 } : Room)) (fun a U => a = #[(.ref a0_)] ∧ Z.Warmed39 U.vm ∧ U.heap = h0) (fun _ _ _ _ _ => True) (fun _ U o U' => ∃ v L, o = .returned v ∧ Qown_b1_x Z a0_ u_maxAttempts_a0_ w_DEFAULT_BACKOFF u_backoff_a0_ u_longestRunTime_a0_ h0 n0 v U'.heap L ∧ FrameEnd U o U' L ({ frames := 1, cells := 0, slots := 0, locals := 12 } : Room).cells ({ frames := 1, cells := 0, slots := 0, locals := 12 } : Room).slots) := by
  refine MetFree.of_bodySF (plainFor_of_name own_pn0) hisR ?_
  intro p e s m args below meth c s₁ Bd hml0 hP hK
  obtain ⟨rfl, hZ, hh⟩ := hP
  have hx := Bd.exec
  have hby := Bd.bytes
  have hml : c.maxLocals = 1 := hml0
  have hown : s.vm.findClass "com/example/mersey/mersey/JobTypeSettings" = some m.cls := findClass_of_methodNamed Bd.named
  have hnm := (name_of_methodNamed Bd.named Bd.method).1
  have X0 : Stand p l e ({ frames := 1, cells := 0, slots := 0, locals := 12 } : Room) s m #[(.ref a0_)] below meth c s₁ [] 0 0 := Stand.of_body Bd
  have e0 : s₁.heap = h0 := by rw [← hh, Bd.state]; rfl
  have N0 := Fr.nil n0
  have pre0 : ∀ t, Steps p.tables e below (s₁.setTop (mkF m 0 #[.val (.ref a0_)] [])) t → Steps p.tables e below (s₁.setTop (entryFrame m #[(.ref a0_)] 1)) t := fun t k => castTop (own_ef0 m a0_) k
  obtain ⟨T1, X1, e1, st1⟩ := initO X0 hx hZ hown (hw _ (List.mem_of_getElem? (i := 7) rfl)) (hw _ (List.mem_of_getElem? (i := 8) rfl)) (hw _ (List.mem_of_getElem? (i := 9) rfl)) e0 (g := (mkF m 1 #[.val (.ref a0_)] [(.ref a0_)])) rfl (by rw [hml]; rfl) rfl (hb hby d1_1) (by decide) (W := 0) (by show 2 * 0 + _ ≤ _; exact Nat.le_of_eq rfl) (by decide)
  obtain ⟨T2, h2, X2, e2, W2, st2⟩ := putF X1 hx hZ hown (host := "") (Or.inl (hw _ (List.mem_of_getElem? (i := 10) rfl))) Via.refl e1 F_maxAttempts_a0_ E_a0_ (Or.inl (hw _ (List.mem_of_getElem? (i := 11) rfl))) (hw _ (List.mem_of_getElem? (i := 2) rfl)) (ty := .int) (by decide) rfl rfl (g := (mkF m 6 #[.val (.ref a0_)] [(.int (5 : Int32)), (.ref a0_)])) rfl rfl (hb hby d1_6)
  have Fw2 := F_maxAttempts_a0_.same W2
  have K2 : Keep h0 h2 [a0_] := (Keep.refl h0 [a0_]).wr W2 (Or.inl (List.mem_of_getElem? (i := 0) rfl))
  have N2 := Fr.snoc X2 N0 g_a0_
  obtain ⟨T3, X3, e3, st3⟩ := getS2 X2 hx hZ hown (host := "") (Or.inl (hw _ (List.mem_of_getElem? (i := 12) rfl))) Via.refl e2 (S_DEFAULT_BACKOFF.wr W2) (g := (mkF m 10 #[.val (.ref a0_)] [(.ref a0_)])) rfl (hb hby d1_10)
  obtain ⟨T4, h4, X4, e4, W4, st4⟩ := putF X3 hx hZ hown (host := "") (Or.inl (hw _ (List.mem_of_getElem? (i := 14) rfl))) Via.refl e3 (F_backoff_a0_.other W2 (Or.inr (slot_ne (Or.inl (hw _ (List.mem_of_getElem? (i := 15) rfl))) (Or.inl (hw _ (List.mem_of_getElem? (i := 11) rfl))) (by decide) (t := (.object "com/example/mersey/mersey/Backoff")) (t' := .int) (by decide) (by decide)))) (E_a0_.wr W2) (Or.inl (hw _ (List.mem_of_getElem? (i := 15) rfl))) (hw _ (List.mem_of_getElem? (i := 2) rfl)) (ty := (.object "com/example/mersey/mersey/Backoff")) (by decide) rfl rfl (g := (mkF m 13 #[.val (.ref a0_)] [(.ref w_DEFAULT_BACKOFF), (.ref a0_)])) rfl rfl (hb hby d1_13)
  have Fw4 := (F_backoff_a0_.other W2 (Or.inr (slot_ne (Or.inl (hw _ (List.mem_of_getElem? (i := 15) rfl))) (Or.inl (hw _ (List.mem_of_getElem? (i := 11) rfl))) (by decide) (t := (.object "com/example/mersey/mersey/Backoff")) (t' := .int) (by decide) (by decide)))).same W4
  have F_maxAttempts_a0__4 := Fw2.other W4 (Or.inr (slot_ne (Or.inl (hw _ (List.mem_of_getElem? (i := 11) rfl))) (Or.inl (hw _ (List.mem_of_getElem? (i := 15) rfl))) (by decide) (t := .int) (t' := (.object "com/example/mersey/mersey/Backoff")) (by decide) (by decide)))
  have K4 : Keep h0 h4 [a0_] := K2.wr W4 (Or.inl (List.mem_of_getElem? (i := 0) rfl))
  have N4 := Fr.snoc X4 N2 g_a0_
  obtain ⟨fs, hr, hrun, hended, hW, hsame⟩ := X4.leave (v := none) (fun _ => rfl)
  refine ⟨_, _, pre0 _ ?_, hrun, hended, _, _, rfl, ?_, ⟨_, rfl⟩, hW, hsame.mono (by decide) (by decide)⟩
  · show Steps p.tables e below (s₁.setTop (mkF m 0 #[.val (.ref a0_)] [])) _
    refine XS.aloadN X0.here hx rfl (hb hby d1_0) rfl rfl ?_
    show Steps p.tables e below (s₁.setTop (mkF m 1 #[.val (.ref a0_)] [(.ref a0_)])) _
    refine st1 _ ?_
    refine XS.aloadN X1.here hx rfl (hb hby d1_4) rfl rfl ?_
    refine XS.iconst X1.here hx rfl (hb hby d1_5) ?_
    show Steps p.tables e below (T1.setTop (mkF m 6 #[.val (.ref a0_)] [(.int (5 : Int32)), (.ref a0_)])) _
    refine st2 _ ?_
    refine XS.aloadN X2.here hx rfl (hb hby d1_9) rfl rfl ?_
    show Steps p.tables e below (T2.setTop (mkF m 10 #[.val (.ref a0_)] [(.ref a0_)])) _
    refine st3 _ ?_
    show Steps p.tables e below (T3.setTop (mkF m 13 #[.val (.ref a0_)] [(.ref w_DEFAULT_BACKOFF), (.ref a0_)])) _
    refine st4 _ ?_
    show Steps p.tables e below (T4.setTop (mkF m 16 #[.val (.ref a0_)] [])) _
    exact X4.returnOut hx Bd.returns (hb hby d1_16) hr
  · show Qown_b1_x Z a0_ u_maxAttempts_a0_ w_DEFAULT_BACKOFF u_backoff_a0_ u_longestRunTime_a0_ h0 n0 _ T4.heap _
    rw [e4]
    exact ⟨rfl, N4, K4, ((E_a0_.wr W2).wr W4), F_maxAttempts_a0__4, Fw4, ((F_longestRunTime_a0_.other W2 (Or.inr (slot_ne (Or.inl (hw _ (List.mem_of_getElem? (i := 26) rfl))) (Or.inl (hw _ (List.mem_of_getElem? (i := 11) rfl))) (by decide) (t := (.object "java/time/Duration")) (t' := .int) (by decide) (by decide)))).other W4 (Or.inr (slot_ne (Or.inl (hw _ (List.mem_of_getElem? (i := 26) rfl))) (Or.inl (hw _ (List.mem_of_getElem? (i := 15) rfl))) (by decide) (t := (.object "java/time/Duration")) (t' := (.object "com/example/mersey/mersey/Backoff")) (by decide) (by decide))))⟩
set_option maxRecDepth 65536 in
set_option maxHeartbeats 40000000 in
theorem own_b5_t (l : Launch) (Z : State) (a0 : Array Value) (hw : ∀ d ∈ tables_1, d.before a0 Z = true) (ws : List Jvm.Cond) (a0_ : Addr) (p1_ : Int32) (f_maxAttempts_a0_ : Int32) (h0 : Heap) (n0 : Nat) (Z0 : n0 ≤ h0.size) (F_maxAttempts_a0_ : Fld Z h0 a0_ "com/example/mersey/mersey/JobTypeSettings" "maxAttempts" "I" (.int f_maxAttempts_a0_)) (hf0 : p1_ < f_maxAttempts_a0_) :
    MetFree l (⟨"com/example/mersey/mersey/JobTypeSettings", "isLastAttempt", "(I)Z"⟩ : MethodName) (head1 (Jvm.Cond.code (⟨"com/example/mersey/mersey/JobTypeSettings", "isLastAttempt", "(I)Z"⟩ : MethodName) prog_12_method_9_code 2 (some .boolean) :: ws) ({ frames := 0, cells := 0, slots := 0, locals := 0 } : Room)) (fun a U => a = #[(.ref a0_), (.int p1_)] ∧ Z.Warmed39 U.vm ∧ U.heap = h0) (fun _ _ _ _ _ => True) (fun _ U o U' => ∃ v L, o = .returned v ∧ own_QP (some (.int (0 : Int32))) h0 n0 v U'.heap L ∧ FrameEnd U o U' L ({ frames := 0, cells := 0, slots := 0, locals := 0 } : Room).cells ({ frames := 0, cells := 0, slots := 0, locals := 0 } : Room).slots) := by
  refine MetFree.of_bodySF (plainFor_of_name own_pn0) hisR ?_
  intro p e s m args below meth c s₁ Bd hml0 hP hK
  obtain ⟨rfl, hZ, hh⟩ := hP
  have hx := Bd.exec
  have hby := Bd.bytes
  have hml : c.maxLocals = 2 := hml0
  have hown : s.vm.findClass "com/example/mersey/mersey/JobTypeSettings" = some m.cls := findClass_of_methodNamed Bd.named
  have hnm := (name_of_methodNamed Bd.named Bd.method).1
  have X0 : Stand p l e ({ frames := 0, cells := 0, slots := 0, locals := 0 } : Room) s m #[(.ref a0_), (.int p1_)] below meth c s₁ [] 0 0 := Stand.of_body Bd
  have e0 : s₁.heap = h0 := by rw [← hh, Bd.state]; rfl
  have N0 := Fr.nil n0
  have pre0 : ∀ t, Steps p.tables e below (s₁.setTop (mkF m 0 #[.val (.ref a0_), .val (.int p1_)] [])) t → Steps p.tables e below (s₁.setTop (entryFrame m #[(.ref a0_), (.int p1_)] 2)) t := fun t k => castTop (own_ef1 m a0_ p1_) k
  obtain ⟨T1, X1, e1, st1⟩ := getF X0 hx hZ hown (host := "") (Or.inl (hw _ (List.mem_of_getElem? (i := 10) rfl))) Via.refl e0 F_maxAttempts_a0_ (g := (mkF m 2 #[.val (.ref a0_), .val (.int p1_)] [(.ref a0_), (.int p1_)])) rfl rfl (hb hby d5_2)
  obtain ⟨fs, hr, hrun, hended, hW, hsame⟩ := X1.leave (v := some (.int (0 : Int32))) (fun h => by rw [Bd.returns] at h; cases h)
  refine ⟨_, _, pre0 _ ?_, hrun, hended, _, _, rfl, ?_, ⟨_, rfl⟩, hW, hsame.mono (by decide) (by decide)⟩
  · show Steps p.tables e below (s₁.setTop (mkF m 0 #[.val (.ref a0_), .val (.int p1_)] [])) _
    refine XS.iloadN X0.here hx rfl (hb hby d5_0) rfl ?_
    refine XS.aloadN X0.here hx rfl (hb hby d5_1) rfl rfl ?_
    show Steps p.tables e below (s₁.setTop (mkF m 2 #[.val (.ref a0_), .val (.int p1_)] [(.ref a0_), (.int p1_)])) _
    refine st1 _ ?_
    refine XS.icmpYes X1.here hx rfl (pc0 := 5) (pc' := 12) rfl (hb hby d5_5) rfl (tlt hf0).1 (by decide) (by decide) ?_
    refine XS.iconst X1.here hx rfl (hb hby d5_12) ?_
    show Steps p.tables e below (T1.setTop (mkF m 13 #[.val (.ref a0_), .val (.int p1_)] [(.int (0 : Int32))])) _
    exact retN X1 hx (t := .boolean) Bd.returns (by simp) (hb hby d5_13) hr
  · show own_QP (some (.int (0 : Int32))) h0 n0 _ T1.heap _
    exact ⟨rfl, N0, e1⟩
set_option maxRecDepth 65536 in
set_option maxHeartbeats 40000000 in
theorem own_b5_f (l : Launch) (Z : State) (a0 : Array Value) (hw : ∀ d ∈ tables_1, d.before a0 Z = true) (ws : List Jvm.Cond) (a0_ : Addr) (p1_ : Int32) (f_maxAttempts_a0_ : Int32) (h0 : Heap) (n0 : Nat) (Z0 : n0 ≤ h0.size) (F_maxAttempts_a0_ : Fld Z h0 a0_ "com/example/mersey/mersey/JobTypeSettings" "maxAttempts" "I" (.int f_maxAttempts_a0_)) (hf0 : ¬ (p1_ < f_maxAttempts_a0_)) :
    MetFree l (⟨"com/example/mersey/mersey/JobTypeSettings", "isLastAttempt", "(I)Z"⟩ : MethodName) (head1 (Jvm.Cond.code (⟨"com/example/mersey/mersey/JobTypeSettings", "isLastAttempt", "(I)Z"⟩ : MethodName) prog_12_method_9_code 2 (some .boolean) :: ws) ({ frames := 0, cells := 0, slots := 0, locals := 0 } : Room)) (fun a U => a = #[(.ref a0_), (.int p1_)] ∧ Z.Warmed39 U.vm ∧ U.heap = h0) (fun _ _ _ _ _ => True) (fun _ U o U' => ∃ v L, o = .returned v ∧ own_QP (some (.int (1 : Int32))) h0 n0 v U'.heap L ∧ FrameEnd U o U' L ({ frames := 0, cells := 0, slots := 0, locals := 0 } : Room).cells ({ frames := 0, cells := 0, slots := 0, locals := 0 } : Room).slots) := by
  refine MetFree.of_bodySF (plainFor_of_name own_pn0) hisR ?_
  intro p e s m args below meth c s₁ Bd hml0 hP hK
  obtain ⟨rfl, hZ, hh⟩ := hP
  have hx := Bd.exec
  have hby := Bd.bytes
  have hml : c.maxLocals = 2 := hml0
  have hown : s.vm.findClass "com/example/mersey/mersey/JobTypeSettings" = some m.cls := findClass_of_methodNamed Bd.named
  have hnm := (name_of_methodNamed Bd.named Bd.method).1
  have X0 : Stand p l e ({ frames := 0, cells := 0, slots := 0, locals := 0 } : Room) s m #[(.ref a0_), (.int p1_)] below meth c s₁ [] 0 0 := Stand.of_body Bd
  have e0 : s₁.heap = h0 := by rw [← hh, Bd.state]; rfl
  have N0 := Fr.nil n0
  have pre0 : ∀ t, Steps p.tables e below (s₁.setTop (mkF m 0 #[.val (.ref a0_), .val (.int p1_)] [])) t → Steps p.tables e below (s₁.setTop (entryFrame m #[(.ref a0_), (.int p1_)] 2)) t := fun t k => castTop (own_ef1 m a0_ p1_) k
  obtain ⟨T1, X1, e1, st1⟩ := getF X0 hx hZ hown (host := "") (Or.inl (hw _ (List.mem_of_getElem? (i := 10) rfl))) Via.refl e0 F_maxAttempts_a0_ (g := (mkF m 2 #[.val (.ref a0_), .val (.int p1_)] [(.ref a0_), (.int p1_)])) rfl rfl (hb hby d5_2)
  obtain ⟨fs, hr, hrun, hended, hW, hsame⟩ := X1.leave (v := some (.int (1 : Int32))) (fun h => by rw [Bd.returns] at h; cases h)
  refine ⟨_, _, pre0 _ ?_, hrun, hended, _, _, rfl, ?_, ⟨_, rfl⟩, hW, hsame.mono (by decide) (by decide)⟩
  · show Steps p.tables e below (s₁.setTop (mkF m 0 #[.val (.ref a0_), .val (.int p1_)] [])) _
    refine XS.iloadN X0.here hx rfl (hb hby d5_0) rfl ?_
    refine XS.aloadN X0.here hx rfl (hb hby d5_1) rfl rfl ?_
    show Steps p.tables e below (s₁.setTop (mkF m 2 #[.val (.ref a0_), .val (.int p1_)] [(.ref a0_), (.int p1_)])) _
    refine st1 _ ?_
    refine XS.icmpNo X1.here hx rfl (hb hby d5_5) rfl (flt hf0).1 ?_
    refine XS.iconst X1.here hx rfl (hb hby d5_8) ?_
    refine XS.goto X1.here hx rfl (pc0 := 9) (pc' := 13) rfl (hb hby d5_9) (by decide) (by decide) ?_
    show Steps p.tables e below (T1.setTop (mkF m 13 #[.val (.ref a0_), .val (.int p1_)] [(.int (1 : Int32))])) _
    exact retN X1 hx (t := .boolean) Bd.returns (by simp) (hb hby d5_13) hr
  · show own_QP (some (.int (1 : Int32))) h0 n0 _ T1.heap _
    exact ⟨rfl, N0, e1⟩
def Qown_b4_N (Z : State) (a0_ : Addr) (a1_ : Addr) (u_maxAttempts_a0_ : Value) (w_DEFAULT_BACKOFF : Addr) (u_backoff_a0_ : Value) (u_longestRunTime_a0_ : Value) (f_maxAttempts_a1_ : Int32) (f_backoff_a1_ : Addr) (h0 : Heap) (n0 : Nat) (v : Option Value) (h : Heap) (L : List Loc) : Prop := v = none ∧ Fr n0 L ∧ Keep h0 h [a0_] ∧ Exa Z h a0_ "com/example/mersey/mersey/JobTypeSettings" ∧ Fld Z h a0_ "com/example/mersey/mersey/JobTypeSettings" "maxAttempts" "I" (.int f_maxAttempts_a1_) ∧ Fld Z h a0_ "com/example/mersey/mersey/JobTypeSettings" "backoff" "Lcom/example/mersey/mersey/Backoff;" (.ref f_backoff_a1_) ∧ Fld Z h a0_ "com/example/mersey/mersey/JobTypeSettings" "longestRunTime" "Ljava/time/Duration;" .null
set_option maxRecDepth 65536 in
set_option maxHeartbeats 40000000 in
theorem own_b4_N (l : Launch) (Z : State) (a0 : Array Value) (hw : ∀ d ∈ tables_1, d.before a0 Z = true) (ws : List Jvm.Cond) (a0_ : Addr) (a1_ : Addr) (u_maxAttempts_a0_ : Value) (w_DEFAULT_BACKOFF : Addr) (u_backoff_a0_ : Value) (u_longestRunTime_a0_ : Value) (f_maxAttempts_a1_ : Int32) (f_backoff_a1_ : Addr) (h0 : Heap) (n0 : Nat) (Z0 : n0 ≤ h0.size) (E_a0_ : Exa Z h0 a0_ "com/example/mersey/mersey/JobTypeSettings") (F_maxAttempts_a0_ : Fld Z h0 a0_ "com/example/mersey/mersey/JobTypeSettings" "maxAttempts" "I" u_maxAttempts_a0_) (g_a0_ : n0 ≤ a0_) (S_DEFAULT_BACKOFF : Sta Z h0 "com/example/mersey/mersey/JobTypeSettings" "DEFAULT_BACKOFF" "Lcom/example/mersey/mersey/Backoff;" (.ref w_DEFAULT_BACKOFF)) (F_backoff_a0_ : Fld Z h0 a0_ "com/example/mersey/mersey/JobTypeSettings" "backoff" "Lcom/example/mersey/mersey/Backoff;" u_backoff_a0_) (F_longestRunTime_a1_ : Fld Z h0 a1_ "com/example/mersey/mersey/JobTypeSettings" "longestRunTime" "Ljava/time/Duration;" .null) (F_longestRunTime_a0_ : Fld Z h0 a0_ "com/example/mersey/mersey/JobTypeSettings" "longestRunTime" "Ljava/time/Duration;" u_longestRunTime_a0_) (F_maxAttempts_a1_ : Fld Z h0 a1_ "com/example/mersey/mersey/JobTypeSettings" "maxAttempts" "I" (.int f_maxAttempts_a1_)) (F_backoff_a1_ : Fld Z h0 a1_ "com/example/mersey/mersey/JobTypeSettings" "backoff" "Lcom/example/mersey/mersey/Backoff;" (.ref f_backoff_a1_)) (hf0 : ¬ (a1_ = a0_)) :
    MetFree l (⟨"com/example/mersey/mersey/JobTypeSettings", "<init>", "(Lcom/example/mersey/mersey/JobTypeSettings;)V"⟩ : MethodName) (head1 (Jvm.Cond.code (⟨"com/example/mersey/mersey/JobTypeSettings", "<init>", "(Lcom/example/mersey/mersey/JobTypeSettings;)V"⟩ : MethodName) prog_12_method_2_code 2 none :: ws) ({ frames := 1, cells := 0, slots := 0, locals := 12 } : Room)) (fun a U => a = #[(.ref a0_), (.ref a1_)] ∧ Z.Warmed39 U.vm ∧ U.heap = h0) (fun _ _ _ _ _ => True) (fun _ U o U' => ∃ v L, o = .returned v ∧ Qown_b4_N Z a0_ a1_ u_maxAttempts_a0_ w_DEFAULT_BACKOFF u_backoff_a0_ u_longestRunTime_a0_ f_maxAttempts_a1_ f_backoff_a1_ h0 n0 v U'.heap L ∧ FrameEnd U o U' L ({ frames := 1, cells := 0, slots := 0, locals := 12 } : Room).cells ({ frames := 1, cells := 0, slots := 0, locals := 12 } : Room).slots) := by
  refine MetFree.of_bodySF (plainFor_of_name own_pn0) hisR ?_
  intro p e s m args below meth c s₁ Bd hml0 hP hK
  obtain ⟨rfl, hZ, hh⟩ := hP
  have hx := Bd.exec
  have hby := Bd.bytes
  have hml : c.maxLocals = 2 := hml0
  have hown : s.vm.findClass "com/example/mersey/mersey/JobTypeSettings" = some m.cls := findClass_of_methodNamed Bd.named
  have hnm := (name_of_methodNamed Bd.named Bd.method).1
  have X0 : Stand p l e ({ frames := 1, cells := 0, slots := 0, locals := 12 } : Room) s m #[(.ref a0_), (.ref a1_)] below meth c s₁ [] 0 0 := Stand.of_body Bd
  have e0 : s₁.heap = h0 := by rw [← hh, Bd.state]; rfl
  have N0 := Fr.nil n0
  have pre0 : ∀ t, Steps p.tables e below (s₁.setTop (mkF m 0 #[.val (.ref a0_), .val (.ref a1_)] [])) t → Steps p.tables e below (s₁.setTop (entryFrame m #[(.ref a0_), (.ref a1_)] 2)) t := fun t k => castTop (own_ef3 m a0_ a1_) k
  obtain ⟨T1, X1, e1, st1⟩ := initO X0 hx hZ hown (hw _ (List.mem_of_getElem? (i := 7) rfl)) (hw _ (List.mem_of_getElem? (i := 8) rfl)) (hw _ (List.mem_of_getElem? (i := 9) rfl)) e0 (g := (mkF m 1 #[.val (.ref a0_), .val (.ref a1_)] [(.ref a0_)])) rfl (by rw [hml]; rfl) rfl (hb hby d4_1) (by decide) (W := 0) (by show 2 * 0 + _ ≤ _; exact Nat.le_of_eq rfl) (by decide)
  obtain ⟨T2, h2, X2, e2, W2, st2⟩ := putF X1 hx hZ hown (host := "") (Or.inl (hw _ (List.mem_of_getElem? (i := 10) rfl))) Via.refl e1 F_maxAttempts_a0_ E_a0_ (Or.inl (hw _ (List.mem_of_getElem? (i := 11) rfl))) (hw _ (List.mem_of_getElem? (i := 2) rfl)) (ty := .int) (by decide) rfl rfl (g := (mkF m 6 #[.val (.ref a0_), .val (.ref a1_)] [(.int (5 : Int32)), (.ref a0_)])) rfl rfl (hb hby d4_6)
  have Fw2 := F_maxAttempts_a0_.same W2
  have K2 : Keep h0 h2 [a0_] := (Keep.refl h0 [a0_]).wr W2 (Or.inl (List.mem_of_getElem? (i := 0) rfl))
  have N2 := Fr.snoc X2 N0 g_a0_
  obtain ⟨T3, X3, e3, st3⟩ := getS2 X2 hx hZ hown (host := "") (Or.inl (hw _ (List.mem_of_getElem? (i := 12) rfl))) Via.refl e2 (S_DEFAULT_BACKOFF.wr W2) (g := (mkF m 10 #[.val (.ref a0_), .val (.ref a1_)] [(.ref a0_)])) rfl (hb hby d4_10)
  obtain ⟨T4, h4, X4, e4, W4, st4⟩ := putF X3 hx hZ hown (host := "") (Or.inl (hw _ (List.mem_of_getElem? (i := 14) rfl))) Via.refl e3 (F_backoff_a0_.other W2 (Or.inr (slot_ne (Or.inl (hw _ (List.mem_of_getElem? (i := 15) rfl))) (Or.inl (hw _ (List.mem_of_getElem? (i := 11) rfl))) (by decide) (t := (.object "com/example/mersey/mersey/Backoff")) (t' := .int) (by decide) (by decide)))) (E_a0_.wr W2) (Or.inl (hw _ (List.mem_of_getElem? (i := 15) rfl))) (hw _ (List.mem_of_getElem? (i := 2) rfl)) (ty := (.object "com/example/mersey/mersey/Backoff")) (by decide) rfl rfl (g := (mkF m 13 #[.val (.ref a0_), .val (.ref a1_)] [(.ref w_DEFAULT_BACKOFF), (.ref a0_)])) rfl rfl (hb hby d4_13)
  have Fw4 := (F_backoff_a0_.other W2 (Or.inr (slot_ne (Or.inl (hw _ (List.mem_of_getElem? (i := 15) rfl))) (Or.inl (hw _ (List.mem_of_getElem? (i := 11) rfl))) (by decide) (t := (.object "com/example/mersey/mersey/Backoff")) (t' := .int) (by decide) (by decide)))).same W4
  have F_maxAttempts_a0__4 := Fw2.other W4 (Or.inr (slot_ne (Or.inl (hw _ (List.mem_of_getElem? (i := 11) rfl))) (Or.inl (hw _ (List.mem_of_getElem? (i := 15) rfl))) (by decide) (t := .int) (t' := (.object "com/example/mersey/mersey/Backoff")) (by decide) (by decide)))
  have K4 : Keep h0 h4 [a0_] := K2.wr W4 (Or.inl (List.mem_of_getElem? (i := 0) rfl))
  have N4 := Fr.snoc X4 N2 g_a0_
  obtain ⟨T5, X5, e5, st5⟩ := getF X4 hx hZ hown (host := "") (Or.inl (hw _ (List.mem_of_getElem? (i := 25) rfl))) Via.refl e4 ((F_longestRunTime_a1_.other W2 (Or.inl hf0)).other W4 (Or.inl hf0)) (g := (mkF m 18 #[.val (.ref a0_), .val (.ref a1_)] [(.ref a1_), (.ref a0_)])) rfl rfl (hb hby d4_18)
  obtain ⟨T6, h6, X6, e6, W6, st6⟩ := putF X5 hx hZ hown (host := "") (Or.inl (hw _ (List.mem_of_getElem? (i := 25) rfl))) Via.refl e5 ((F_longestRunTime_a0_.other W2 (Or.inr (slot_ne (Or.inl (hw _ (List.mem_of_getElem? (i := 26) rfl))) (Or.inl (hw _ (List.mem_of_getElem? (i := 11) rfl))) (by decide) (t := (.object "java/time/Duration")) (t' := .int) (by decide) (by decide)))).other W4 (Or.inr (slot_ne (Or.inl (hw _ (List.mem_of_getElem? (i := 26) rfl))) (Or.inl (hw _ (List.mem_of_getElem? (i := 15) rfl))) (by decide) (t := (.object "java/time/Duration")) (t' := (.object "com/example/mersey/mersey/Backoff")) (by decide) (by decide)))) ((E_a0_.wr W2).wr W4) (Or.inl (hw _ (List.mem_of_getElem? (i := 26) rfl))) (hw _ (List.mem_of_getElem? (i := 2) rfl)) (ty := (.object "java/time/Duration")) (by decide) rfl rfl (g := (mkF m 21 #[.val (.ref a0_), .val (.ref a1_)] [.null, (.ref a0_)])) rfl rfl (hb hby d4_21)
  have Fw6 := ((F_longestRunTime_a0_.other W2 (Or.inr (slot_ne (Or.inl (hw _ (List.mem_of_getElem? (i := 26) rfl))) (Or.inl (hw _ (List.mem_of_getElem? (i := 11) rfl))) (by decide) (t := (.object "java/time/Duration")) (t' := .int) (by decide) (by decide)))).other W4 (Or.inr (slot_ne (Or.inl (hw _ (List.mem_of_getElem? (i := 26) rfl))) (Or.inl (hw _ (List.mem_of_getElem? (i := 15) rfl))) (by decide) (t := (.object "java/time/Duration")) (t' := (.object "com/example/mersey/mersey/Backoff")) (by decide) (by decide)))).same W6
  have F_maxAttempts_a0__6 := F_maxAttempts_a0__4.other W6 (Or.inr (slot_ne (Or.inl (hw _ (List.mem_of_getElem? (i := 11) rfl))) (Or.inl (hw _ (List.mem_of_getElem? (i := 26) rfl))) (by decide) (t := .int) (t' := (.object "java/time/Duration")) (by decide) (by decide)))
  have F_backoff_a0__6 := Fw4.other W6 (Or.inr (slot_ne (Or.inl (hw _ (List.mem_of_getElem? (i := 15) rfl))) (Or.inl (hw _ (List.mem_of_getElem? (i := 26) rfl))) (by decide) (t := (.object "com/example/mersey/mersey/Backoff")) (t' := (.object "java/time/Duration")) (by decide) (by decide)))
  have K6 : Keep h0 h6 [a0_] := K4.wr W6 (Or.inl (List.mem_of_getElem? (i := 0) rfl))
  have N6 := Fr.snoc X6 N4 g_a0_
  obtain ⟨T7, X7, e7, st7⟩ := getF X6 hx hZ hown (host := "") (Or.inl (hw _ (List.mem_of_getElem? (i := 10) rfl))) Via.refl e6 (((F_maxAttempts_a1_.other W2 (Or.inl hf0)).other W4 (Or.inl hf0)).other W6 (Or.inl hf0)) (g := (mkF m 26 #[.val (.ref a0_), .val (.ref a1_)] [(.ref a1_), (.ref a0_)])) rfl rfl (hb hby d4_26)
  obtain ⟨T8, h8, X8, e8, W8, st8⟩ := putF X7 hx hZ hown (host := "") (Or.inl (hw _ (List.mem_of_getElem? (i := 10) rfl))) Via.refl e7 F_maxAttempts_a0__6 (((E_a0_.wr W2).wr W4).wr W6) (Or.inl (hw _ (List.mem_of_getElem? (i := 11) rfl))) (hw _ (List.mem_of_getElem? (i := 2) rfl)) (ty := .int) (by decide) rfl rfl (g := (mkF m 29 #[.val (.ref a0_), .val (.ref a1_)] [(.int f_maxAttempts_a1_), (.ref a0_)])) rfl rfl (hb hby d4_29)
  have Fw8 := F_maxAttempts_a0__6.same W8
  have F_backoff_a0__8 := F_backoff_a0__6.other W8 (Or.inr (slot_ne (Or.inl (hw _ (List.mem_of_getElem? (i := 15) rfl))) (Or.inl (hw _ (List.mem_of_getElem? (i := 11) rfl))) (by decide) (t := (.object "com/example/mersey/mersey/Backoff")) (t' := .int) (by decide) (by decide)))
  have F_longestRunTime_a0__8 := Fw6.other W8 (Or.inr (slot_ne (Or.inl (hw _ (List.mem_of_getElem? (i := 26) rfl))) (Or.inl (hw _ (List.mem_of_getElem? (i := 11) rfl))) (by decide) (t := (.object "java/time/Duration")) (t' := .int) (by decide) (by decide)))
  have K8 : Keep h0 h8 [a0_] := K6.wr W8 (Or.inl (List.mem_of_getElem? (i := 0) rfl))
  have N8 := Fr.snoc X8 N6 g_a0_
  obtain ⟨T9, X9, e9, st9⟩ := getF X8 hx hZ hown (host := "") (Or.inl (hw _ (List.mem_of_getElem? (i := 14) rfl))) Via.refl e8 ((((F_backoff_a1_.other W2 (Or.inl hf0)).other W4 (Or.inl hf0)).other W6 (Or.inl hf0)).other W8 (Or.inl hf0)) (g := (mkF m 34 #[.val (.ref a0_), .val (.ref a1_)] [(.ref a1_), (.ref a0_)])) rfl rfl (hb hby d4_34)
  obtain ⟨T10, h10, X10, e10, W10, st10⟩ := putF X9 hx hZ hown (host := "") (Or.inl (hw _ (List.mem_of_getElem? (i := 14) rfl))) Via.refl e9 F_backoff_a0__8 ((((E_a0_.wr W2).wr W4).wr W6).wr W8) (Or.inl (hw _ (List.mem_of_getElem? (i := 15) rfl))) (hw _ (List.mem_of_getElem? (i := 2) rfl)) (ty := (.object "com/example/mersey/mersey/Backoff")) (by decide) rfl rfl (g := (mkF m 37 #[.val (.ref a0_), .val (.ref a1_)] [(.ref f_backoff_a1_), (.ref a0_)])) rfl rfl (hb hby d4_37)
  have Fw10 := F_backoff_a0__8.same W10
  have F_maxAttempts_a0__10 := Fw8.other W10 (Or.inr (slot_ne (Or.inl (hw _ (List.mem_of_getElem? (i := 11) rfl))) (Or.inl (hw _ (List.mem_of_getElem? (i := 15) rfl))) (by decide) (t := .int) (t' := (.object "com/example/mersey/mersey/Backoff")) (by decide) (by decide)))
  have F_longestRunTime_a0__10 := F_longestRunTime_a0__8.other W10 (Or.inr (slot_ne (Or.inl (hw _ (List.mem_of_getElem? (i := 26) rfl))) (Or.inl (hw _ (List.mem_of_getElem? (i := 15) rfl))) (by decide) (t := (.object "java/time/Duration")) (t' := (.object "com/example/mersey/mersey/Backoff")) (by decide) (by decide)))
  have K10 : Keep h0 h10 [a0_] := K8.wr W10 (Or.inl (List.mem_of_getElem? (i := 0) rfl))
  have N10 := Fr.snoc X10 N8 g_a0_
  obtain ⟨fs, hr, hrun, hended, hW, hsame⟩ := X10.leave (v := none) (fun _ => rfl)
  refine ⟨_, _, pre0 _ ?_, hrun, hended, _, _, rfl, ?_, ⟨_, rfl⟩, hW, hsame.mono (by decide) (by decide)⟩
  · show Steps p.tables e below (s₁.setTop (mkF m 0 #[.val (.ref a0_), .val (.ref a1_)] [])) _
    refine XS.aloadN X0.here hx rfl (hb hby d4_0) rfl rfl ?_
    show Steps p.tables e below (s₁.setTop (mkF m 1 #[.val (.ref a0_), .val (.ref a1_)] [(.ref a0_)])) _
    refine st1 _ ?_
    refine XS.aloadN X1.here hx rfl (hb hby d4_4) rfl rfl ?_
    refine XS.iconst X1.here hx rfl (hb hby d4_5) ?_
    show Steps p.tables e below (T1.setTop (mkF m 6 #[.val (.ref a0_), .val (.ref a1_)] [(.int (5 : Int32)), (.ref a0_)])) _
    refine st2 _ ?_
    refine XS.aloadN X2.here hx rfl (hb hby d4_9) rfl rfl ?_
    show Steps p.tables e below (T2.setTop (mkF m 10 #[.val (.ref a0_), .val (.ref a1_)] [(.ref a0_)])) _
    refine st3 _ ?_
    show Steps p.tables e below (T3.setTop (mkF m 13 #[.val (.ref a0_), .val (.ref a1_)] [(.ref w_DEFAULT_BACKOFF), (.ref a0_)])) _
    refine st4 _ ?_
    refine XS.aloadN X4.here hx rfl (hb hby d4_16) rfl rfl ?_
    refine XS.aloadN X4.here hx rfl (hb hby d4_17) rfl rfl ?_
    show Steps p.tables e below (T4.setTop (mkF m 18 #[.val (.ref a0_), .val (.ref a1_)] [(.ref a1_), (.ref a0_)])) _
    refine st5 _ ?_
    show Steps p.tables e below (T5.setTop (mkF m 21 #[.val (.ref a0_), .val (.ref a1_)] [.null, (.ref a0_)])) _
    refine st6 _ ?_
    refine XS.aloadN X6.here hx rfl (hb hby d4_24) rfl rfl ?_
    refine XS.aloadN X6.here hx rfl (hb hby d4_25) rfl rfl ?_
    show Steps p.tables e below (T6.setTop (mkF m 26 #[.val (.ref a0_), .val (.ref a1_)] [(.ref a1_), (.ref a0_)])) _
    refine st7 _ ?_
    show Steps p.tables e below (T7.setTop (mkF m 29 #[.val (.ref a0_), .val (.ref a1_)] [(.int f_maxAttempts_a1_), (.ref a0_)])) _
    refine st8 _ ?_
    refine XS.aloadN X8.here hx rfl (hb hby d4_32) rfl rfl ?_
    refine XS.aloadN X8.here hx rfl (hb hby d4_33) rfl rfl ?_
    show Steps p.tables e below (T8.setTop (mkF m 34 #[.val (.ref a0_), .val (.ref a1_)] [(.ref a1_), (.ref a0_)])) _
    refine st9 _ ?_
    show Steps p.tables e below (T9.setTop (mkF m 37 #[.val (.ref a0_), .val (.ref a1_)] [(.ref f_backoff_a1_), (.ref a0_)])) _
    refine st10 _ ?_
    show Steps p.tables e below (T10.setTop (mkF m 40 #[.val (.ref a0_), .val (.ref a1_)] [])) _
    exact X10.returnOut hx Bd.returns (hb hby d4_40) hr
  · show Qown_b4_N Z a0_ a1_ u_maxAttempts_a0_ w_DEFAULT_BACKOFF u_backoff_a0_ u_longestRunTime_a0_ f_maxAttempts_a1_ f_backoff_a1_ h0 n0 _ T10.heap _
    rw [e10]
    exact ⟨rfl, N10, K10, (((((E_a0_.wr W2).wr W4).wr W6).wr W8).wr W10), F_maxAttempts_a0__10, Fw10, F_longestRunTime_a0__10⟩
def Qown_b3_tN (Z : State) (a0_ : Addr) (p1_ : Int32) (w_DEFAULT_BACKOFF : Addr) (f_maxAttempts_a0_ : Int32) (f_backoff_a0_ : Addr) (h0 : Heap) (n0 : Nat) (v : Option Value) (h : Heap) (L : List Loc) : Prop := ∃ r : Addr, v = some (.ref r) ∧ Fr n0 L ∧ Keep h0 h [] ∧ h0.size ≤ r ∧ Exa Z h r "com/example/mersey/mersey/JobTypeSettings" ∧ Fld Z h r "com/example/mersey/mersey/JobTypeSettings" "maxAttempts" "I" (.int p1_) ∧ Fld Z h r "com/example/mersey/mersey/JobTypeSettings" "backoff" "Lcom/example/mersey/mersey/Backoff;" (.ref f_backoff_a0_) ∧ Fld Z h r "com/example/mersey/mersey/JobTypeSettings" "longestRunTime" "Ljava/time/Duration;" .null
set_option maxRecDepth 65536 in
set_option maxHeartbeats 40000000 in
theorem own_b3_tN (l : Launch) (Z : State) (a0 : Array Value) (hw : ∀ d ∈ tables_1, d.before a0 Z = true) (ws : List Jvm.Cond) (a0_ : Addr) (p1_ : Int32) (w_DEFAULT_BACKOFF : Addr) (f_maxAttempts_a0_ : Int32) (f_backoff_a0_ : Addr) (h0 : Heap) (n0 : Nat) (Z0 : n0 ≤ h0.size) (S_DEFAULT_BACKOFF : Sta Z h0 "com/example/mersey/mersey/JobTypeSettings" "DEFAULT_BACKOFF" "Lcom/example/mersey/mersey/Backoff;" (.ref w_DEFAULT_BACKOFF)) (F_longestRunTime_a0_ : Fld Z h0 a0_ "com/example/mersey/mersey/JobTypeSettings" "longestRunTime" "Ljava/time/Duration;" .null) (F_maxAttempts_a0_ : Fld Z h0 a0_ "com/example/mersey/mersey/JobTypeSettings" "maxAttempts" "I" (.int f_maxAttempts_a0_)) (F_backoff_a0_ : Fld Z h0 a0_ "com/example/mersey/mersey/JobTypeSettings" "backoff" "Lcom/example/mersey/mersey/Backoff;" (.ref f_backoff_a0_)) (hf0 : ¬ (p1_ < (1 : Int32))) :
    MetFree l (⟨"com/example/mersey/mersey/JobTypeSettings", "withMaxAttempts", "(I)Lcom/example/mersey/mersey/JobTypeSettings;"⟩ : MethodName) (head1 (Jvm.Cond.code (⟨"com/example/mersey/mersey/JobTypeSettings", "withMaxAttempts", "(I)Lcom/example/mersey/mersey/JobTypeSettings;"⟩ : MethodName) prog_12_method_6_code 3 (some (.object "com/example/mersey/mersey/JobTypeSettings")) :: ws) ({ frames := 2, cells := 1, slots := 3, locals := 26 } : Room)) (fun a U => a = #[(.ref a0_), (.int p1_)] ∧ Z.Warmed39 U.vm ∧ U.heap = h0) (fun _ _ _ _ _ => True) (fun _ U o U' => ∃ v L, o = .returned v ∧ Qown_b3_tN Z a0_ p1_ w_DEFAULT_BACKOFF f_maxAttempts_a0_ f_backoff_a0_ h0 n0 v U'.heap L ∧ FrameEnd U o U' L ({ frames := 2, cells := 1, slots := 3, locals := 26 } : Room).cells ({ frames := 2, cells := 1, slots := 3, locals := 26 } : Room).slots) := by
  refine MetFree.of_bodySF (plainFor_of_name own_pn0) hisR ?_
  intro p e s m args below meth c s₁ Bd hml0 hP hK
  obtain ⟨rfl, hZ, hh⟩ := hP
  have hx := Bd.exec
  have hby := Bd.bytes
  have hml : c.maxLocals = 3 := hml0
  have hown : s.vm.findClass "com/example/mersey/mersey/JobTypeSettings" = some m.cls := findClass_of_methodNamed Bd.named
  have hnm := (name_of_methodNamed Bd.named Bd.method).1
  have X0 : Stand p l e ({ frames := 2, cells := 1, slots := 3, locals := 26 } : Room) s m #[(.ref a0_), (.int p1_)] below meth c s₁ [] 0 0 := Stand.of_body Bd
  have e0 : s₁.heap = h0 := by rw [← hh, Bd.state]; rfl
  have N0 := Fr.nil n0
  have pre0 : ∀ t, Steps p.tables e below (s₁.setTop (mkF m 0 #[.val (.ref a0_), .val (.int p1_), .unset] [])) t → Steps p.tables e below (s₁.setTop (entryFrame m #[(.ref a0_), (.int p1_)] 3)) t := fun t k => castTop (own_ef4 m a0_ p1_) k
  obtain ⟨T1, h1, X1, e1, E1, A1, D1, -, st1⟩ := newO X0 hx hZ hown (hw _ (List.mem_of_getElem? (i := 21) rfl)) (hw _ (List.mem_of_getElem? (i := 2) rfl)) (hw _ (List.mem_of_getElem? (i := 3) rfl)) e0 (g := (mkF m 19 #[.val (.ref a0_), .val (.int p1_), .unset] [])) rfl (hb hby d3_19) (by decide) (by decide)
  obtain ⟨b1, g1⟩ : ∃ z, z = h0.size := ⟨_, rfl⟩
  rw [← g1] at A1 D1 st1
  have lo_b1 : h0.size ≤ b1 := Nat.le_of_eq g1.symm
  have sz_b1 : h0.size ≤ b1 := Nat.le_trans (Keep.refl h0 []).1 lo_b1
  have g_b1 : n0 ≤ b1 := Nat.le_trans Z0 sz_b1
  have K1 : Keep h0 h1 [] := (Keep.refl h0 []).ext E1
  have F_maxAttempts_b1_1 : Fld Z h1 b1 "com/example/mersey/mersey/JobTypeSettings" "maxAttempts" "I" (.int (0 : Int32)) := D1 (Or.inl (hw _ (List.mem_of_getElem? (i := 11) rfl))) (ty := .int) (by decide)
  have F_backoff_b1_1 : Fld Z h1 b1 "com/example/mersey/mersey/JobTypeSettings" "backoff" "Lcom/example/mersey/mersey/Backoff;" .null := D1 (Or.inl (hw _ (List.mem_of_getElem? (i := 15) rfl))) (ty := (.object "com/example/mersey/mersey/Backoff")) (by decide)
  have F_longestRunTime_b1_1 : Fld Z h1 b1 "com/example/mersey/mersey/JobTypeSettings" "longestRunTime" "Ljava/time/Duration;" .null := D1 (Or.inl (hw _ (List.mem_of_getElem? (i := 26) rfl))) (ty := (.object "java/time/Duration")) (by decide)
  obtain ⟨_, _, ⟨T2, L2, k2, n2⟩, -, X2, ⟨Lc2, hQ2, l2, y2, z2⟩, st2⟩ := X1.specialBack hx (y := (⟨"com/example/mersey/mersey/JobTypeSettings", "<init>", "(Lcom/example/mersey/mersey/JobTypeSettings;)V"⟩ : MethodName)) rfl hown (mvT hZ (hw _ (List.mem_of_getElem? (i := 22) rfl))) (mvT hZ (hw _ (List.mem_of_getElem? (i := 23) rfl))) (mvT hZ (hw _ (List.mem_of_getElem? (i := 24) rfl))) (by decide) (backOf (W := 1) (own_b4_N l Z a0 hw [] b1 a0_ (.int (0 : Int32)) w_DEFAULT_BACKOFF .null .null f_maxAttempts_a0_ f_backoff_a0_ h1 n0 (Nat.le_trans Z0 (own_ext K1).1) A1 F_maxAttempts_b1_1 g_b1 (S_DEFAULT_BACKOFF.ext (own_ext K1)) F_backoff_b1_1 (F_longestRunTime_a0_.ext (own_ext K1)) F_longestRunTime_b1_1 (F_maxAttempts_a0_.ext (own_ext K1)) (F_backoff_a0_.ext (own_ext K1)) (Nat.ne_of_lt (Nat.lt_of_lt_of_le F_longestRunTime_a0_.lt sz_b1))) hZ (hw _ (List.mem_of_getElem? (i := 24) rfl)) (hw _ (List.mem_of_getElem? (i := 3) rfl)) (by decide) (by decide)) (g := (mkF m 24 #[.val (.ref a0_), .val (.int p1_), .unset] [(.ref a0_), (.ref b1), (.ref b1)])) rfl (by rw [hml]; rfl) (Steps.refl _) (a := b1) (argsL := [(.ref a0_)]) (rest := [(.ref b1)]) (lenOf own_pd2 rfl) rfl (by show 2 * 0 + _ ≤ _; exact Nat.le_of_eq rfl) (hb hby d3_24) (fun _ _ => ⟨rfl, e1, (by decide : 1 + 0 ≤ _), (by decide : 3 + 0 ≤ _)⟩)
  dsimp only [Pt.U, Pt.locs, Pt.cells, Pt.slots] at X2 l2 y2 z2 st2 hQ2
  subst l2 y2 z2
  obtain ⟨rfl, N2q, Kq2, Eq2, Fq2_maxAttempts, Fq2_backoff, Fq2_longestRunTime⟩ := hQ2
  have N2 := Fr.app N0 N2q
  have K2 : Keep h0 T2.heap [] := K1.trans Kq2 (fun x hx => by cases List.mem_singleton.mp hx; exact Or.inr sz_b1)
  obtain ⟨T3, h3, X3, e3, W3, st3⟩ := putF X2 hx hZ hown (host := "") (Or.inl (hw _ (List.mem_of_getElem? (i := 10) rfl))) Via.refl rfl Fq2_maxAttempts Eq2 (Or.inl (hw _ (List.mem_of_getElem? (i := 11) rfl))) (hw _ (List.mem_of_getElem? (i := 2) rfl)) (ty := .int) (by decide) rfl rfl (g := (mkF m 30 #[.val (.ref a0_), .val (.int p1_), .val (.ref b1)] [(.int p1_), (.ref b1)])) rfl rfl (hb hby d3_30)
  have Fw3 := Fq2_maxAttempts.same W3
  have E_b1_3 := Eq2.wr W3
  have F_backoff_b1_3 := Fq2_backoff.other W3 (Or.inr (slot_ne (Or.inl (hw _ (List.mem_of_getElem? (i := 15) rfl))) (Or.inl (hw _ (List.mem_of_getElem? (i := 11) rfl))) (by decide) (t := (.object "com/example/mersey/mersey/Backoff")) (t' := .int) (by decide) (by decide)))
  have F_longestRunTime_b1_3 := Fq2_longestRunTime.other W3 (Or.inr (slot_ne (Or.inl (hw _ (List.mem_of_getElem? (i := 26) rfl))) (Or.inl (hw _ (List.mem_of_getElem? (i := 11) rfl))) (by decide) (t := (.object "java/time/Duration")) (t' := .int) (by decide) (by decide)))
  have K3 : Keep h0 h3 [] := K2.wr W3 (Or.inr sz_b1)
  have N3 := Fr.snoc X3 N2 g_b1
  obtain ⟨fs, hr, hrun, hended, hW, hsame⟩ := X3.leave (v := some (.ref b1)) (fun h => by rw [Bd.returns] at h; cases h)
  refine ⟨_, _, pre0 _ ?_, hrun, hended, _, _, rfl, ?_, ⟨_, rfl⟩, hW, hsame.mono (by decide) (by decide)⟩
  · show Steps p.tables e below (s₁.setTop (mkF m 0 #[.val (.ref a0_), .val (.int p1_), .unset] [])) _
    refine XS.iloadN X0.here hx rfl (hb hby d3_0) rfl ?_
    refine XS.iconst X0.here hx rfl (hb hby d3_1) ?_
    refine XS.icmpYes X0.here hx rfl (pc0 := 2) (pc' := 19) rfl (hb hby d3_2) rfl (flt hf0).2.1 (by decide) (by decide) ?_
    show Steps p.tables e below (s₁.setTop (mkF m 19 #[.val (.ref a0_), .val (.int p1_), .unset] [])) _
    refine st1 _ ?_
    refine XS.dup X1.here hx rfl (hb hby d3_22) rfl rfl ?_
    refine XS.aloadN X1.here hx rfl (hb hby d3_23) rfl rfl ?_
    show Steps p.tables e below (T1.setTop (mkF m 24 #[.val (.ref a0_), .val (.int p1_), .unset] [(.ref a0_), (.ref b1), (.ref b1)])) _
    refine st2.trans ?_
    refine XS.astoreN X2.here hx rfl (hb hby d3_27) rfl rfl (l' := #[.val (.ref a0_), .val (.int p1_), .val (.ref b1)]) rfl ?_
    refine XS.aloadN X2.here hx rfl (hb hby d3_28) rfl rfl ?_
    refine XS.iloadN X2.here hx rfl (hb hby d3_29) rfl ?_
    show Steps p.tables e below (T2.setTop (mkF m 30 #[.val (.ref a0_), .val (.int p1_), .val (.ref b1)] [(.int p1_), (.ref b1)])) _
    refine st3 _ ?_
    refine XS.aloadN X3.here hx rfl (hb hby d3_33) rfl rfl ?_
    show Steps p.tables e below (T3.setTop (mkF m 34 #[.val (.ref a0_), .val (.int p1_), .val (.ref b1)] [(.ref b1)])) _
    jvm_step X3.here [X3.here.top, hx, (hb hby d3_34), X3.method', Bd.returns, Value.isRef, FieldType.isReference]
    first | (intro acts; rw [hr _ acts rfl rfl rfl]) | rw [hr _ _ rfl rfl rfl]
    exact Steps.refl _
  · show Qown_b3_tN Z a0_ p1_ w_DEFAULT_BACKOFF f_maxAttempts_a0_ f_backoff_a0_ h0 n0 _ T3.heap _
    rw [e3]
    exact ⟨b1, rfl, N3, K3, sz_b1, E_b1_3, Fw3, F_backoff_b1_3, F_longestRunTime_b1_3⟩
set_option maxRecDepth 65536 in
set_option maxHeartbeats 40000000 in
theorem own_law_Dzll (l : Launch) (Z : State) (a0 : Array Value) (hw : ∀ d ∈ tables_1, d.before a0 Z = true) (ws : List Jvm.Cond) (p0_ : Int32) (p1_ : Int32) (p2_ : Int32) (m_ : Int32) (w_DEFAULT_BACKOFF : Addr) (o_ : Int32) (f_ : Int32) (l_ : Int64) (h0 : Heap) (n0 : Nat) (Z0 : n0 ≤ h0.size) (S_DEFAULT_BACKOFF : Sta Z h0 "com/example/mersey/mersey/JobTypeSettings" "DEFAULT_BACKOFF" "Lcom/example/mersey/mersey/Backoff;" (.ref w_DEFAULT_BACKOFF)) (hf0 : (p0_ &&& (1 : Int32)) = (1 : Int32)) (hf1 : (p1_ &&& (2147483647 : Int32)) = m_) (hf2 : m_ = (0 : Int32)) (hf3 : p2_ < (5 : Int32)) (hf4 : (((p0_.toUInt32 >>> ((1 : Int32) &&& 31).toUInt32).toInt32) % (5 : Int32)) = o_) (hf5 : (o_ - (2 : Int32)) = f_) (hf6 : (((5 : Int32).toInt64) + (f_.toInt64)) = l_) (hf7 : ¬ ((0 : Int32) < (lcmpW l_ (2147483647 : Int64)))) (hf8 : (l_.toInt32) < (5 : Int32)) (hf9 : f_ < (0 : Int32)) :
    MetFree l x (head1 (Jvm.Cond.code x code maxLocals ret :: ws) room_1) (fun a U => a = #[(.int p0_), (.int p1_), (.int p2_)] ∧ Z.Warmed39 U.vm ∧ U.heap = h0) (fun _ _ _ _ _ => True) (fun _ U o U' => ∃ v L, o = .returned v ∧ own_QL n0 v U'.heap L ∧ FrameEnd U o U' L room_1.cells room_1.slots) := by
  refine MetFree.of_bodySF (plainFor_of_name own_pn1) hisR ?_
  intro p e s m args below meth c s₁ Bd hml0 hP hK
  obtain ⟨rfl, hZ, hh⟩ := hP
  have hx := Bd.exec
  have hby := Bd.bytes
  have hml : c.maxLocals = 11 := hml0
  have hown : s.vm.findClass "com/example/mersey/mersey/JobTypeSettingsIsLastAttemptPinLaw" = some m.cls := findClass_of_methodNamed Bd.named
  have hnm := (name_of_methodNamed Bd.named Bd.method).1
  have X0 : Stand p l e room_1 s m #[(.int p0_), (.int p1_), (.int p2_)] below meth c s₁ [] 0 0 := Stand.of_body Bd
  have e0 : s₁.heap = h0 := by rw [← hh, Bd.state]; rfl
  have N0 := Fr.nil n0
  have pre0 : ∀ t, Steps p.tables e below (s₁.setTop (mkF m 0 #[.val (.int p0_), .val (.int p1_), .val (.int p2_), .unset, .unset, .unset, .unset, .unset, .unset, .unset, .unset] [])) t → Steps p.tables e below (s₁.setTop (entryFrame m #[(.int p0_), (.int p1_), (.int p2_)] maxLocals)) t := fun t k => castTop (own_ef2 m p0_ p1_ p2_) k
  obtain ⟨T1, h1, X1, e1, E1, A1, D1, -, st1⟩ := newO X0 hx hZ hown (hw _ (List.mem_of_getElem? (i := 1) rfl)) (hw _ (List.mem_of_getElem? (i := 2) rfl)) (hw _ (List.mem_of_getElem? (i := 3) rfl)) e0 (g := (mkF m 30 #[.val (.int p0_), .val (.int p1_), .val (.int p2_), .val (.int (1 : Int32)), .val (.int (1 : Int32)), .unset, .unset, .unset, .unset, .unset, .unset] [])) rfl (hb hby at_30) (by decide) (by decide)
  obtain ⟨b1, g1⟩ : ∃ z, z = h0.size := ⟨_, rfl⟩
  rw [← g1] at A1 D1 st1
  have lo_b1 : h0.size ≤ b1 := Nat.le_of_eq g1.symm
  have sz_b1 : h0.size ≤ b1 := Nat.le_trans (Keep.refl h0 []).1 lo_b1
  have g_b1 : n0 ≤ b1 := Nat.le_trans Z0 sz_b1
  have K1 : Keep h0 h1 [] := (Keep.refl h0 []).ext E1
  have F_maxAttempts_b1_1 : Fld Z h1 b1 "com/example/mersey/mersey/JobTypeSettings" "maxAttempts" "I" (.int (0 : Int32)) := D1 (Or.inl (hw _ (List.mem_of_getElem? (i := 11) rfl))) (ty := .int) (by decide)
  have F_backoff_b1_1 : Fld Z h1 b1 "com/example/mersey/mersey/JobTypeSettings" "backoff" "Lcom/example/mersey/mersey/Backoff;" .null := D1 (Or.inl (hw _ (List.mem_of_getElem? (i := 15) rfl))) (ty := (.object "com/example/mersey/mersey/Backoff")) (by decide)
  have F_longestRunTime_b1_1 : Fld Z h1 b1 "com/example/mersey/mersey/JobTypeSettings" "longestRunTime" "Ljava/time/Duration;" .null := D1 (Or.inl (hw _ (List.mem_of_getElem? (i := 26) rfl))) (ty := (.object "java/time/Duration")) (by decide)
  obtain ⟨_, _, ⟨T2, L2, k2, n2⟩, -, X2, ⟨Lc2, hQ2, l2, y2, z2⟩, st2⟩ := X1.specialBack hx (y := (⟨"com/example/mersey/mersey/JobTypeSettings", "<init>", "()V"⟩ : MethodName)) rfl hown (mvT hZ (hw _ (List.mem_of_getElem? (i := 4) rfl))) (mvT hZ (hw _ (List.mem_of_getElem? (i := 5) rfl))) (mvT hZ (hw _ (List.mem_of_getElem? (i := 6) rfl))) (by decide) (backOf (W := 1) (own_b1_x l Z a0 hw [] b1 (.int (0 : Int32)) w_DEFAULT_BACKOFF .null .null h1 n0 (Nat.le_trans Z0 (own_ext K1).1) A1 F_maxAttempts_b1_1 g_b1 (S_DEFAULT_BACKOFF.ext (own_ext K1)) F_backoff_b1_1 F_longestRunTime_b1_1) hZ (hw _ (List.mem_of_getElem? (i := 6) rfl)) (hw _ (List.mem_of_getElem? (i := 3) rfl)) (by decide) (by decide)) (g := (mkF m 34 #[.val (.int p0_), .val (.int p1_), .val (.int p2_), .val (.int (1 : Int32)), .val (.int (1 : Int32)), .unset, .unset, .unset, .unset, .unset, .unset] [(.ref b1), (.ref b1)])) rfl (by rw [hml]; rfl) (Steps.refl _) (a := b1) (argsL := []) (rest := [(.ref b1)]) (lenOf own_pd0 rfl) rfl (by show 2 * 0 + _ ≤ _; exact Nat.le_of_eq rfl) (hb hby at_34) (fun _ _ => ⟨rfl, e1, (by decide : 1 + 0 ≤ _), (by decide : 3 + 0 ≤ _)⟩)
  dsimp only [Pt.U, Pt.locs, Pt.cells, Pt.slots] at X2 l2 y2 z2 st2 hQ2
  subst l2 y2 z2
  obtain ⟨rfl, N2q, Kq2, Eq2, Fq2_maxAttempts, Fq2_backoff, Fq2_longestRunTime⟩ := hQ2
  have N2 := Fr.app N0 N2q
  have K2 : Keep h0 T2.heap [] := K1.trans Kq2 (fun x hx => by cases List.mem_singleton.mp hx; exact Or.inr sz_b1)
  obtain ⟨cq3, kq3, q3a, q3b, q3c⟩ := isOf hZ rfl Eq2
  obtain ⟨_, _, ⟨T3, L3, k3, n3⟩, -, X3, ⟨Lc3, hQ3, l3, y3, z3⟩, st3⟩ := X2.virtualBack hx (y := (⟨"com/example/mersey/mersey/JobTypeSettings", "isLastAttempt", "(I)Z"⟩ : MethodName)) (z := (⟨"com/example/mersey/mersey/JobTypeSettings", "isLastAttempt", "(I)Z"⟩ : MethodName)) hown (mvT hZ (hw _ (List.mem_of_getElem? (i := 27) rfl))) (mvT hZ (hw _ (List.mem_of_getElem? (i := 28) rfl))) (notFace_of_selects (args := #[]) (mvT hZ (hw _ (List.mem_of_getElem? (i := 30) rfl)))) (mvT hZ (hw _ (List.mem_of_getElem? (i := 30) rfl))) (mvT hZ (hw _ (List.mem_of_getElem? (i := 29) rfl))) (by decide) (backOf (W := 0) (own_b5_t l Z a0 hw [] b1 p2_ (5 : Int32) T2.heap n0 (Nat.le_trans Z0 (own_ext K2).1) Fq2_maxAttempts hf3) hZ (hw _ (List.mem_of_getElem? (i := 31) rfl)) (hw _ (List.mem_of_getElem? (i := 3) rfl)) (by decide) (by decide)) q3a q3c (g := (mkF m 62 #[.val (.int p0_), .val (.int p1_), .val (.int p2_), .val (.int (1 : Int32)), .val (.int (5 : Int32)), .val (.ref b1), .unset, .unset, .unset, .unset, .unset] [(.int p2_), (.ref b1)])) rfl (by rw [hml]; rfl) (Steps.refl _) (argsL := [(.int p2_)]) (rest := []) (lenOf own_pd1 rfl) rfl (by show 2 * 0 + _ ≤ _; exact Nat.le_of_eq rfl) (hb hby at_62) (fun _ _ => ⟨rfl, rfl, (by decide : 1 + 0 ≤ _), (by decide : 3 + 0 ≤ _)⟩)
  dsimp only [Pt.U, Pt.locs, Pt.cells, Pt.slots] at X3 l3 y3 z3 st3 hQ3
  subst l3 y3 z3
  obtain ⟨rfl, N3q, e3⟩ := hQ3
  have N3 := Fr.app N2 N3q
  obtain ⟨cq4, kq4, q4a, q4b, q4c⟩ := isOf hZ e3 Eq2
  obtain ⟨_, _, ⟨T4, L4, k4, n4⟩, -, X4, ⟨Lc4, hQ4, l4, y4, z4⟩, st4⟩ := X3.virtualBack hx (y := (⟨"com/example/mersey/mersey/JobTypeSettings", "isLastAttempt", "(I)Z"⟩ : MethodName)) (z := (⟨"com/example/mersey/mersey/JobTypeSettings", "isLastAttempt", "(I)Z"⟩ : MethodName)) hown (mvT hZ (hw _ (List.mem_of_getElem? (i := 27) rfl))) (mvT hZ (hw _ (List.mem_of_getElem? (i := 28) rfl))) (notFace_of_selects (args := #[]) (mvT hZ (hw _ (List.mem_of_getElem? (i := 30) rfl)))) (mvT hZ (hw _ (List.mem_of_getElem? (i := 30) rfl))) (mvT hZ (hw _ (List.mem_of_getElem? (i := 29) rfl))) (by decide) (backOf (W := 0) (own_b5_f l Z a0 hw [] b1 (5 : Int32) (5 : Int32) T2.heap n0 (Nat.le_trans Z0 (own_ext K2).1) Fq2_maxAttempts (by decide)) hZ (hw _ (List.mem_of_getElem? (i := 31) rfl)) (hw _ (List.mem_of_getElem? (i := 3) rfl)) (by decide) (by decide)) q4a q4c (g := (mkF m 93 #[.val (.int p0_), .val (.int p1_), .val (.int p2_), .val (.int (1 : Int32)), .val (.int (5 : Int32)), .val (.ref b1), .val (.int (0 : Int32)), .val (.int (0 : Int32)), .unset, .unset, .unset] [(.int (5 : Int32)), (.ref b1)])) rfl (by rw [hml]; rfl) (Steps.refl _) (argsL := [(.int (5 : Int32))]) (rest := []) (lenOf own_pd1 rfl) rfl (by show 2 * 0 + _ ≤ _; exact Nat.le_of_eq rfl) (hb hby at_93) (fun _ _ => ⟨rfl, e3, (by decide : 1 + 0 ≤ _), (by decide : 3 + 0 ≤ _)⟩)
  dsimp only [Pt.U, Pt.locs, Pt.cells, Pt.slots] at X4 l4 y4 z4 st4 hQ4
  subst l4 y4 z4
  obtain ⟨rfl, N4q, e4⟩ := hQ4
  have N4 := Fr.app N3 N4q
  obtain ⟨cq5, kq5, q5a, q5b, q5c⟩ := isOf hZ e4 Eq2
  obtain ⟨_, _, ⟨T5, L5, k5, n5⟩, -, X5, ⟨Lc5, hQ5, l5, y5, z5⟩, st5⟩ := X4.virtualBack hx (y := (⟨"com/example/mersey/mersey/JobTypeSettings", "isLastAttempt", "(I)Z"⟩ : MethodName)) (z := (⟨"com/example/mersey/mersey/JobTypeSettings", "isLastAttempt", "(I)Z"⟩ : MethodName)) hown (mvT hZ (hw _ (List.mem_of_getElem? (i := 27) rfl))) (mvT hZ (hw _ (List.mem_of_getElem? (i := 28) rfl))) (notFace_of_selects (args := #[]) (mvT hZ (hw _ (List.mem_of_getElem? (i := 30) rfl)))) (mvT hZ (hw _ (List.mem_of_getElem? (i := 30) rfl))) (mvT hZ (hw _ (List.mem_of_getElem? (i := 29) rfl))) (by decide) (backOf (W := 0) (own_b5_t l Z a0 hw [] b1 ((5 : Int32) - (1 : Int32)) (5 : Int32) T2.heap n0 (Nat.le_trans Z0 (own_ext K2).1) Fq2_maxAttempts (by decide)) hZ (hw _ (List.mem_of_getElem? (i := 31) rfl)) (hw _ (List.mem_of_getElem? (i := 3) rfl)) (by decide) (by decide)) q5a q5c (g := (mkF m 113 #[.val (.int p0_), .val (.int p1_), .val (.int p2_), .val (.int (1 : Int32)), .val (.int (5 : Int32)), .val (.ref b1), .val (.int (0 : Int32)), .val (.int (0 : Int32)), .unset, .unset, .unset] [(.int ((5 : Int32) - (1 : Int32))), (.ref b1)])) rfl (by rw [hml]; rfl) (Steps.refl _) (argsL := [(.int ((5 : Int32) - (1 : Int32)))]) (rest := []) (lenOf own_pd1 rfl) rfl (by show 2 * 0 + _ ≤ _; exact Nat.le_of_eq rfl) (hb hby at_113) (fun _ _ => ⟨rfl, e4, (by decide : 1 + 0 ≤ _), (by decide : 3 + 0 ≤ _)⟩)
  dsimp only [Pt.U, Pt.locs, Pt.cells, Pt.slots] at X5 l5 y5 z5 st5 hQ5
  subst l5 y5 z5
  obtain ⟨rfl, N5q, e5⟩ := hQ5
  have N5 := Fr.app N4 N5q
  obtain ⟨cq6, kq6, q6a, q6b, q6c⟩ := isOf hZ e5 Eq2
  obtain ⟨_, _, ⟨T6, L6, k6, n6⟩, -, X6, ⟨Lc6, hQ6, l6, y6, z6⟩, st6⟩ := X5.virtualBack hx (y := (⟨"com/example/mersey/mersey/JobTypeSettings", "isLastAttempt", "(I)Z"⟩ : MethodName)) (z := (⟨"com/example/mersey/mersey/JobTypeSettings", "isLastAttempt", "(I)Z"⟩ : MethodName)) hown (mvT hZ (hw _ (List.mem_of_getElem? (i := 27) rfl))) (mvT hZ (hw _ (List.mem_of_getElem? (i := 28) rfl))) (notFace_of_selects (args := #[]) (mvT hZ (hw _ (List.mem_of_getElem? (i := 30) rfl)))) (mvT hZ (hw _ (List.mem_of_getElem? (i := 30) rfl))) (mvT hZ (hw _ (List.mem_of_getElem? (i := 29) rfl))) (by decide) (backOf (W := 0) (own_b5_t l Z a0 hw [] b1 (l_.toInt32) (5 : Int32) T2.heap n0 (Nat.le_trans Z0 (own_ext K2).1) Fq2_maxAttempts hf8) hZ (hw _ (List.mem_of_getElem? (i := 31) rfl)) (hw _ (List.mem_of_getElem? (i := 3) rfl)) (by decide) (by decide)) q6a q6c (g := (mkF m 153 #[.val (.int p0_), .val (.int p1_), .val (.int p2_), .val (.int (1 : Int32)), .val (.int (5 : Int32)), .val (.ref b1), .val (.int (0 : Int32)), .val (.int (0 : Int32)), .val (.int f_), .val (.long l_), .second] [(.int (l_.toInt32)), (.ref b1)])) rfl (by rw [hml]; rfl) (Steps.refl _) (argsL := [(.int (l_.toInt32))]) (rest := []) (lenOf own_pd1 rfl) rfl (by show 2 * 0 + _ ≤ _; exact Nat.le_of_eq rfl) (hb hby at_153) (fun _ _ => ⟨rfl, e5, (by decide : 1 + 0 ≤ _), (by decide : 3 + 0 ≤ _)⟩)
  dsimp only [Pt.U, Pt.locs, Pt.cells, Pt.slots] at X6 l6 y6 z6 st6 hQ6
  subst l6 y6 z6
  obtain ⟨rfl, N6q, e6⟩ := hQ6
  have N6 := Fr.app N5 N6q
  obtain ⟨fs, hr, hrun, hended, hW, hsame⟩ := X6.leave (v := some (.int (1 : Int32))) (fun h => by rw [Bd.returns] at h; cases h)
  refine ⟨_, _, pre0 _ ?_, hrun, hended, _, _, rfl, ?_, ⟨_, rfl⟩, hW, hsame.mono (by decide) (by decide)⟩
  · show Steps p.tables e below (s₁.setTop (mkF m 0 #[.val (.int p0_), .val (.int p1_), .val (.int p2_), .unset, .unset, .unset, .unset, .unset, .unset, .unset, .unset] [])) _
    refine XS.iloadN X0.here hx rfl (hb hby at_0) rfl ?_
    refine XS.iconst X0.here hx rfl (hb hby at_1) ?_
    refine XS.iand X0.here hx rfl (hb hby at_2) rfl ?_
    show Steps p.tables e below (s₁.setTop (mkF m 3 #[.val (.int p0_), .val (.int p1_), .val (.int p2_), .unset, .unset, .unset, .unset, .unset, .unset, .unset, .unset] [(.int (p0_ &&& (1 : Int32)))])) _
    rw [hf0]
    refine XS.ifNo X0.here hx rfl (hb hby at_3) rfl ((if0 _ _).trans (feq (by decide : ¬ ((1 : Int32) = (0 : Int32)))).1) ?_
    refine XS.iconst X0.here hx rfl (hb hby at_6) ?_
    refine XS.goto X0.here hx rfl (pc0 := 7) (pc' := 11) rfl (hb hby at_7) (by decide) (by decide) ?_
    show Steps p.tables e below (s₁.setTop (mkF m 11 #[.val (.int p0_), .val (.int p1_), .val (.int p2_), .unset, .unset, .unset, .unset, .unset, .unset, .unset, .unset] [(.int (1 : Int32))])) _
    refine XS.istoreN X0.here hx rfl (hb hby at_11) rfl (l' := #[.val (.int p0_), .val (.int p1_), .val (.int p2_), .val (.int (1 : Int32)), .unset, .unset, .unset, .unset, .unset, .unset, .unset]) rfl ?_
    refine XS.iloadN X0.here hx rfl (hb hby at_12) rfl ?_
    show Steps p.tables e below (s₁.setTop (mkF m 13 #[.val (.int p0_), .val (.int p1_), .val (.int p2_), .val (.int (1 : Int32)), .unset, .unset, .unset, .unset, .unset, .unset, .unset] [(.int p1_)])) _
    refine X0.ldcInt hx hown (mvT hZ (hw _ (List.mem_of_getElem? (i := 0) rfl))) (g := (mkF m 13 #[.val (.int p0_), .val (.int p1_), .val (.int p2_), .val (.int (1 : Int32)), .unset, .unset, .unset, .unset, .unset, .unset, .unset] [(.int p1_)])) rfl (hb hby at_13) _ ?_
    refine XS.iand X0.here hx rfl (hb hby at_15) rfl ?_
    show Steps p.tables e below (s₁.setTop (mkF m 16 #[.val (.int p0_), .val (.int p1_), .val (.int p2_), .val (.int (1 : Int32)), .unset, .unset, .unset, .unset, .unset, .unset, .unset] [(.int (p1_ &&& (2147483647 : Int32)))])) _
    rw [hf1]
    refine XS.istore X0.here hx rfl (hb hby at_16) rfl (l' := #[.val (.int p0_), .val (.int p1_), .val (.int p2_), .val (.int (1 : Int32)), .val (.int m_), .unset, .unset, .unset, .unset, .unset, .unset]) rfl ?_
    refine XS.iload X0.here hx rfl (hb hby at_18) rfl ?_
    refine XS.ifNo X0.here hx rfl (hb hby at_20) rfl ((if0 _ _).trans (teq hf2).2) ?_
    show Steps p.tables e below (s₁.setTop (mkF m 23 #[.val (.int p0_), .val (.int p1_), .val (.int p2_), .val (.int (1 : Int32)), .val (.int m_), .unset, .unset, .unset, .unset, .unset, .unset] [])) _
    refine XS.iconst X0.here hx rfl (hb hby at_23) ?_
    refine XS.istore X0.here hx rfl (hb hby at_24) rfl (l' := #[.val (.int p0_), .val (.int p1_), .val (.int p2_), .val (.int (1 : Int32)), .val (.int (1 : Int32)), .unset, .unset, .unset, .unset, .unset, .unset]) rfl ?_
    refine XS.iloadN X0.here hx rfl (hb hby at_26) rfl ?_
    refine XS.ifNo X0.here hx rfl (hb hby at_27) rfl ((if0 _ _).trans (feq (by decide : ¬ ((1 : Int32) = (0 : Int32)))).1) ?_
    show Steps p.tables e below (s₁.setTop (mkF m 30 #[.val (.int p0_), .val (.int p1_), .val (.int p2_), .val (.int (1 : Int32)), .val (.int (1 : Int32)), .unset, .unset, .unset, .unset, .unset, .unset] [])) _
    refine st1 _ ?_
    refine XS.dup X1.here hx rfl (hb hby at_33) rfl rfl ?_
    show Steps p.tables e below (T1.setTop (mkF m 34 #[.val (.int p0_), .val (.int p1_), .val (.int p2_), .val (.int (1 : Int32)), .val (.int (1 : Int32)), .unset, .unset, .unset, .unset, .unset, .unset] [(.ref b1), (.ref b1)])) _
    refine st2.trans ?_
    refine XS.astore X2.here hx rfl (hb hby at_37) rfl rfl (l' := #[.val (.int p0_), .val (.int p1_), .val (.int p2_), .val (.int (1 : Int32)), .val (.int (1 : Int32)), .val (.ref b1), .unset, .unset, .unset, .unset, .unset]) rfl ?_
    refine XS.iconst X2.here hx rfl (hb hby at_39) ?_
    refine XS.istore X2.here hx rfl (hb hby at_40) rfl (l' := #[.val (.int p0_), .val (.int p1_), .val (.int p2_), .val (.int (1 : Int32)), .val (.int (5 : Int32)), .val (.ref b1), .unset, .unset, .unset, .unset, .unset]) rfl ?_
    show Steps p.tables e below (T2.setTop (mkF m 42 #[.val (.int p0_), .val (.int p1_), .val (.int p2_), .val (.int (1 : Int32)), .val (.int (5 : Int32)), .val (.ref b1), .unset, .unset, .unset, .unset, .unset] [])) _
    refine XS.goto X2.here hx rfl (pc0 := 42) (pc' := 59) rfl (hb hby at_42) (by decide) (by decide) ?_
    refine XS.aload X2.here hx rfl (hb hby at_59) rfl rfl ?_
    refine XS.iloadN X2.here hx rfl (hb hby at_61) rfl ?_
    show Steps p.tables e below (T2.setTop (mkF m 62 #[.val (.int p0_), .val (.int p1_), .val (.int p2_), .val (.int (1 : Int32)), .val (.int (5 : Int32)), .val (.ref b1), .unset, .unset, .unset, .unset, .unset] [(.int p2_), (.ref b1)])) _
    refine st3.trans ?_
    refine XS.istore X3.here hx rfl (hb hby at_65) rfl (l' := #[.val (.int p0_), .val (.int p1_), .val (.int p2_), .val (.int (1 : Int32)), .val (.int (5 : Int32)), .val (.ref b1), .val (.int (0 : Int32)), .unset, .unset, .unset, .unset]) rfl ?_
    refine XS.iloadN X3.here hx rfl (hb hby at_67) rfl ?_
    refine XS.iload X3.here hx rfl (hb hby at_68) rfl ?_
    show Steps p.tables e below (T3.setTop (mkF m 70 #[.val (.int p0_), .val (.int p1_), .val (.int p2_), .val (.int (1 : Int32)), .val (.int (5 : Int32)), .val (.ref b1), .val (.int (0 : Int32)), .unset, .unset, .unset, .unset] [(.int (5 : Int32)), (.int p2_)])) _
    refine XS.icmpYes X3.here hx rfl (pc0 := 70) (pc' := 77) rfl (hb hby at_70) rfl (tlt hf3).1 (by decide) (by decide) ?_
    refine XS.iconst X3.here hx rfl (hb hby at_77) ?_
    refine XS.istore X3.here hx rfl (hb hby at_78) rfl (l' := #[.val (.int p0_), .val (.int p1_), .val (.int p2_), .val (.int (1 : Int32)), .val (.int (5 : Int32)), .val (.ref b1), .val (.int (0 : Int32)), .val (.int (0 : Int32)), .unset, .unset, .unset]) rfl ?_
    refine XS.iload X3.here hx rfl (hb hby at_80) rfl ?_
    show Steps p.tables e below (T3.setTop (mkF m 82 #[.val (.int p0_), .val (.int p1_), .val (.int p2_), .val (.int (1 : Int32)), .val (.int (5 : Int32)), .val (.ref b1), .val (.int (0 : Int32)), .val (.int (0 : Int32)), .unset, .unset, .unset] [(.int (0 : Int32))])) _
    refine XS.iload X3.here hx rfl (hb hby at_82) rfl ?_
    refine XS.icmpYes X3.here hx rfl (pc0 := 84) (pc' := 89) rfl (hb hby at_84) rfl (teq (rfl : (0 : Int32) = (0 : Int32))).1 (by decide) (by decide) ?_
    refine XS.aload X3.here hx rfl (hb hby at_89) rfl rfl ?_
    refine XS.iload X3.here hx rfl (hb hby at_91) rfl ?_
    show Steps p.tables e below (T3.setTop (mkF m 93 #[.val (.int p0_), .val (.int p1_), .val (.int p2_), .val (.int (1 : Int32)), .val (.int (5 : Int32)), .val (.ref b1), .val (.int (0 : Int32)), .val (.int (0 : Int32)), .unset, .unset, .unset] [(.int (5 : Int32)), (.ref b1)])) _
    refine st4.trans ?_
    refine XS.ifYes X4.here hx rfl (pc0 := 96) (pc' := 101) rfl (hb hby at_96) rfl ((if0 _ _).trans (feq (by decide : ¬ ((1 : Int32) = (0 : Int32)))).2) (by decide) (by decide) ?_
    refine XS.iload X4.here hx rfl (hb hby at_101) rfl ?_
    refine XS.iconst X4.here hx rfl (hb hby at_103) ?_
    show Steps p.tables e below (T4.setTop (mkF m 104 #[.val (.int p0_), .val (.int p1_), .val (.int p2_), .val (.int (1 : Int32)), .val (.int (5 : Int32)), .val (.ref b1), .val (.int (0 : Int32)), .val (.int (0 : Int32)), .unset, .unset, .unset] [(.int (1 : Int32)), (.int (5 : Int32))])) _
    refine XS.icmpNo X4.here hx rfl (hb hby at_104) rfl (tlt (by decide : (1 : Int32) < (5 : Int32))).2.2.2 ?_
    refine XS.aload X4.here hx rfl (hb hby at_107) rfl rfl ?_
    refine XS.iload X4.here hx rfl (hb hby at_109) rfl ?_
    refine XS.iconst X4.here hx rfl (hb hby at_111) ?_
    show Steps p.tables e below (T4.setTop (mkF m 112 #[.val (.int p0_), .val (.int p1_), .val (.int p2_), .val (.int (1 : Int32)), .val (.int (5 : Int32)), .val (.ref b1), .val (.int (0 : Int32)), .val (.int (0 : Int32)), .unset, .unset, .unset] [(.int (1 : Int32)), (.int (5 : Int32)), (.ref b1)])) _
    refine XS.isub X4.here hx rfl (hb hby at_112) rfl ?_
    show Steps p.tables e below (T4.setTop (mkF m 113 #[.val (.int p0_), .val (.int p1_), .val (.int p2_), .val (.int (1 : Int32)), .val (.int (5 : Int32)), .val (.ref b1), .val (.int (0 : Int32)), .val (.int (0 : Int32)), .unset, .unset, .unset] [(.int ((5 : Int32) - (1 : Int32))), (.ref b1)])) _
    refine st5.trans ?_
    refine XS.ifYes X5.here hx rfl (pc0 := 116) (pc' := 121) rfl (hb hby at_116) rfl ((if0 _ _).trans (teq (rfl : (0 : Int32) = (0 : Int32))).1) (by decide) (by decide) ?_
    refine XS.iloadN X5.here hx rfl (hb hby at_121) rfl ?_
    refine XS.iconst X5.here hx rfl (hb hby at_122) ?_
    show Steps p.tables e below (T5.setTop (mkF m 123 #[.val (.int p0_), .val (.int p1_), .val (.int p2_), .val (.int (1 : Int32)), .val (.int (5 : Int32)), .val (.ref b1), .val (.int (0 : Int32)), .val (.int (0 : Int32)), .unset, .unset, .unset] [(.int (1 : Int32)), (.int p0_)])) _
    refine XS.iushr X5.here hx rfl (hb hby at_123) rfl ?_
    refine XS.iconst X5.here hx rfl (hb hby at_124) ?_
    show Steps p.tables e below (T5.setTop (mkF m 125 #[.val (.int p0_), .val (.int p1_), .val (.int p2_), .val (.int (1 : Int32)), .val (.int (5 : Int32)), .val (.ref b1), .val (.int (0 : Int32)), .val (.int (0 : Int32)), .unset, .unset, .unset] [(.int (5 : Int32)), (.int ((p0_.toUInt32 >>> ((1 : Int32) &&& 31).toUInt32).toInt32))])) _
    refine iremM X5 hx rfl (hb hby at_125) rfl (by decide) ?_
    show Steps p.tables e below (T5.setTop (mkF m 126 #[.val (.int p0_), .val (.int p1_), .val (.int p2_), .val (.int (1 : Int32)), .val (.int (5 : Int32)), .val (.ref b1), .val (.int (0 : Int32)), .val (.int (0 : Int32)), .unset, .unset, .unset] [(.int (((p0_.toUInt32 >>> ((1 : Int32) &&& 31).toUInt32).toInt32) % (5 : Int32)))])) _
    rw [hf4]
    refine XS.iconst X5.here hx rfl (hb hby at_126) ?_
    refine XS.isub X5.here hx rfl (hb hby at_127) rfl ?_
    show Steps p.tables e below (T5.setTop (mkF m 128 #[.val (.int p0_), .val (.int p1_), .val (.int p2_), .val (.int (1 : Int32)), .val (.int (5 : Int32)), .val (.ref b1), .val (.int (0 : Int32)), .val (.int (0 : Int32)), .unset, .unset, .unset] [(.int (o_ - (2 : Int32)))])) _
    rw [hf5]
    refine XS.istore X5.here hx rfl (hb hby at_128) rfl (l' := #[.val (.int p0_), .val (.int p1_), .val (.int p2_), .val (.int (1 : Int32)), .val (.int (5 : Int32)), .val (.ref b1), .val (.int (0 : Int32)), .val (.int (0 : Int32)), .val (.int f_), .unset, .unset]) rfl ?_
    refine XS.iload X5.here hx rfl (hb hby at_130) rfl ?_
    refine XS.i2l X5.here hx rfl (hb hby at_132) rfl ?_
    show Steps p.tables e below (T5.setTop (mkF m 133 #[.val (.int p0_), .val (.int p1_), .val (.int p2_), .val (.int (1 : Int32)), .val (.int (5 : Int32)), .val (.ref b1), .val (.int (0 : Int32)), .val (.int (0 : Int32)), .val (.int f_), .unset, .unset] [(.long ((5 : Int32).toInt64))])) _
    refine XS.iload X5.here hx rfl (hb hby at_133) rfl ?_
    refine XS.i2l X5.here hx rfl (hb hby at_135) rfl ?_
    refine XS.ladd X5.here hx rfl (hb hby at_136) rfl ?_
    show Steps p.tables e below (T5.setTop (mkF m 137 #[.val (.int p0_), .val (.int p1_), .val (.int p2_), .val (.int (1 : Int32)), .val (.int (5 : Int32)), .val (.ref b1), .val (.int (0 : Int32)), .val (.int (0 : Int32)), .val (.int f_), .unset, .unset] [(.long (((5 : Int32).toInt64) + (f_.toInt64)))])) _
    rw [hf6]
    refine XS.lstore X5.here hx rfl (hb hby at_137) rfl (l' := #[.val (.int p0_), .val (.int p1_), .val (.int p2_), .val (.int (1 : Int32)), .val (.int (5 : Int32)), .val (.ref b1), .val (.int (0 : Int32)), .val (.int (0 : Int32)), .val (.int f_), .val (.long l_), .second]) rfl ?_
    refine XS.lload X5.here hx rfl (hb hby at_139) rfl ?_
    show Steps p.tables e below (T5.setTop (mkF m 141 #[.val (.int p0_), .val (.int p1_), .val (.int p2_), .val (.int (1 : Int32)), .val (.int (5 : Int32)), .val (.ref b1), .val (.int (0 : Int32)), .val (.int (0 : Int32)), .val (.int f_), .val (.long l_), .second] [(.long l_)])) _
    refine X5.ldc2Long hx hown (mvT hZ (hw _ (List.mem_of_getElem? (i := 32) rfl))) (g := (mkF m 141 #[.val (.int p0_), .val (.int p1_), .val (.int p2_), .val (.int (1 : Int32)), .val (.int (5 : Int32)), .val (.ref b1), .val (.int (0 : Int32)), .val (.int (0 : Int32)), .val (.int f_), .val (.long l_), .second] [(.long l_)])) rfl (hb hby at_141) _ ?_
    refine XS.lcmp X5.here hx rfl (hb hby at_144) rfl ?_
    refine XS.ifNo X5.here hx rfl (hb hby at_145) rfl ((if0 _ _).trans (flt hf7).2.2.1) ?_
    refine XS.aload X5.here hx rfl (hb hby at_148) rfl rfl ?_
    show Steps p.tables e below (T5.setTop (mkF m 150 #[.val (.int p0_), .val (.int p1_), .val (.int p2_), .val (.int (1 : Int32)), .val (.int (5 : Int32)), .val (.ref b1), .val (.int (0 : Int32)), .val (.int (0 : Int32)), .val (.int f_), .val (.long l_), .second] [(.ref b1)])) _
    refine XS.lload X5.here hx rfl (hb hby at_150) rfl ?_
    refine XS.l2i X5.here hx rfl (hb hby at_152) rfl ?_
    show Steps p.tables e below (T5.setTop (mkF m 153 #[.val (.int p0_), .val (.int p1_), .val (.int p2_), .val (.int (1 : Int32)), .val (.int (5 : Int32)), .val (.ref b1), .val (.int (0 : Int32)), .val (.int (0 : Int32)), .val (.int f_), .val (.long l_), .second] [(.int (l_.toInt32)), (.ref b1)])) _
    refine st6.trans ?_
    refine XS.iload X6.here hx rfl (hb hby at_156) rfl ?_
    refine XS.ifYes X6.here hx rfl (pc0 := 158) (pc' := 165) rfl (hb hby at_158) rfl ((if0 _ _).trans (tlt hf9).1) (by decide) (by decide) ?_
    refine XS.iconst X6.here hx rfl (hb hby at_165) ?_
    show Steps p.tables e below (T6.setTop (mkF m 166 #[.val (.int p0_), .val (.int p1_), .val (.int p2_), .val (.int (1 : Int32)), .val (.int (5 : Int32)), .val (.ref b1), .val (.int (0 : Int32)), .val (.int (0 : Int32)), .val (.int f_), .val (.long l_), .second] [(.int (0 : Int32)), (.int (0 : Int32))])) _
    refine XS.icmpYes X6.here hx rfl (pc0 := 166) (pc' := 171) rfl (hb hby at_166) rfl (teq (rfl : (0 : Int32) = (0 : Int32))).1 (by decide) (by decide) ?_
    refine XS.iconst X6.here hx rfl (hb hby at_171) ?_
    show Steps p.tables e below (T6.setTop (mkF m 172 #[.val (.int p0_), .val (.int p1_), .val (.int p2_), .val (.int (1 : Int32)), .val (.int (5 : Int32)), .val (.ref b1), .val (.int (0 : Int32)), .val (.int (0 : Int32)), .val (.int f_), .val (.long l_), .second] [(.int (1 : Int32))])) _
    exact retN X6 hx (t := .boolean) Bd.returns (by simp) (hb hby at_172) hr
  · show own_QL n0 _ T6.heap _
    exact ⟨rfl, N6⟩
set_option maxRecDepth 65536 in
set_option maxHeartbeats 40000000 in
theorem own_law_Dzlg (l : Launch) (Z : State) (a0 : Array Value) (hw : ∀ d ∈ tables_1, d.before a0 Z = true) (ws : List Jvm.Cond) (p0_ : Int32) (p1_ : Int32) (p2_ : Int32) (m_ : Int32) (w_DEFAULT_BACKOFF : Addr) (o_ : Int32) (f_ : Int32) (l_ : Int64) (h0 : Heap) (n0 : Nat) (Z0 : n0 ≤ h0.size) (S_DEFAULT_BACKOFF : Sta Z h0 "com/example/mersey/mersey/JobTypeSettings" "DEFAULT_BACKOFF" "Lcom/example/mersey/mersey/Backoff;" (.ref w_DEFAULT_BACKOFF)) (hf0 : (p0_ &&& (1 : Int32)) = (1 : Int32)) (hf1 : (p1_ &&& (2147483647 : Int32)) = m_) (hf2 : m_ = (0 : Int32)) (hf3 : p2_ < (5 : Int32)) (hf4 : (((p0_.toUInt32 >>> ((1 : Int32) &&& 31).toUInt32).toInt32) % (5 : Int32)) = o_) (hf5 : (o_ - (2 : Int32)) = f_) (hf6 : (((5 : Int32).toInt64) + (f_.toInt64)) = l_) (hf7 : ¬ ((0 : Int32) < (lcmpW l_ (2147483647 : Int64)))) (hf8 : ¬ ((l_.toInt32) < (5 : Int32))) (hf9 : ¬ (f_ < (0 : Int32))) :
    MetFree l x (head1 (Jvm.Cond.code x code maxLocals ret :: ws) room_1) (fun a U => a = #[(.int p0_), (.int p1_), (.int p2_)] ∧ Z.Warmed39 U.vm ∧ U.heap = h0) (fun _ _ _ _ _ => True) (fun _ U o U' => ∃ v L, o = .returned v ∧ own_QL n0 v U'.heap L ∧ FrameEnd U o U' L room_1.cells room_1.slots) := by
  refine MetFree.of_bodySF (plainFor_of_name own_pn1) hisR ?_
  intro p e s m args below meth c s₁ Bd hml0 hP hK
  obtain ⟨rfl, hZ, hh⟩ := hP
  have hx := Bd.exec
  have hby := Bd.bytes
  have hml : c.maxLocals = 11 := hml0
  have hown : s.vm.findClass "com/example/mersey/mersey/JobTypeSettingsIsLastAttemptPinLaw" = some m.cls := findClass_of_methodNamed Bd.named
  have hnm := (name_of_methodNamed Bd.named Bd.method).1
  have X0 : Stand p l e room_1 s m #[(.int p0_), (.int p1_), (.int p2_)] below meth c s₁ [] 0 0 := Stand.of_body Bd
  have e0 : s₁.heap = h0 := by rw [← hh, Bd.state]; rfl
  have N0 := Fr.nil n0
  have pre0 : ∀ t, Steps p.tables e below (s₁.setTop (mkF m 0 #[.val (.int p0_), .val (.int p1_), .val (.int p2_), .unset, .unset, .unset, .unset, .unset, .unset, .unset, .unset] [])) t → Steps p.tables e below (s₁.setTop (entryFrame m #[(.int p0_), (.int p1_), (.int p2_)] maxLocals)) t := fun t k => castTop (own_ef2 m p0_ p1_ p2_) k
  obtain ⟨T1, h1, X1, e1, E1, A1, D1, -, st1⟩ := newO X0 hx hZ hown (hw _ (List.mem_of_getElem? (i := 1) rfl)) (hw _ (List.mem_of_getElem? (i := 2) rfl)) (hw _ (List.mem_of_getElem? (i := 3) rfl)) e0 (g := (mkF m 30 #[.val (.int p0_), .val (.int p1_), .val (.int p2_), .val (.int (1 : Int32)), .val (.int (1 : Int32)), .unset, .unset, .unset, .unset, .unset, .unset] [])) rfl (hb hby at_30) (by decide) (by decide)
  obtain ⟨b1, g1⟩ : ∃ z, z = h0.size := ⟨_, rfl⟩
  rw [← g1] at A1 D1 st1
  have lo_b1 : h0.size ≤ b1 := Nat.le_of_eq g1.symm
  have sz_b1 : h0.size ≤ b1 := Nat.le_trans (Keep.refl h0 []).1 lo_b1
  have g_b1 : n0 ≤ b1 := Nat.le_trans Z0 sz_b1
  have K1 : Keep h0 h1 [] := (Keep.refl h0 []).ext E1
  have F_maxAttempts_b1_1 : Fld Z h1 b1 "com/example/mersey/mersey/JobTypeSettings" "maxAttempts" "I" (.int (0 : Int32)) := D1 (Or.inl (hw _ (List.mem_of_getElem? (i := 11) rfl))) (ty := .int) (by decide)
  have F_backoff_b1_1 : Fld Z h1 b1 "com/example/mersey/mersey/JobTypeSettings" "backoff" "Lcom/example/mersey/mersey/Backoff;" .null := D1 (Or.inl (hw _ (List.mem_of_getElem? (i := 15) rfl))) (ty := (.object "com/example/mersey/mersey/Backoff")) (by decide)
  have F_longestRunTime_b1_1 : Fld Z h1 b1 "com/example/mersey/mersey/JobTypeSettings" "longestRunTime" "Ljava/time/Duration;" .null := D1 (Or.inl (hw _ (List.mem_of_getElem? (i := 26) rfl))) (ty := (.object "java/time/Duration")) (by decide)
  obtain ⟨_, _, ⟨T2, L2, k2, n2⟩, -, X2, ⟨Lc2, hQ2, l2, y2, z2⟩, st2⟩ := X1.specialBack hx (y := (⟨"com/example/mersey/mersey/JobTypeSettings", "<init>", "()V"⟩ : MethodName)) rfl hown (mvT hZ (hw _ (List.mem_of_getElem? (i := 4) rfl))) (mvT hZ (hw _ (List.mem_of_getElem? (i := 5) rfl))) (mvT hZ (hw _ (List.mem_of_getElem? (i := 6) rfl))) (by decide) (backOf (W := 1) (own_b1_x l Z a0 hw [] b1 (.int (0 : Int32)) w_DEFAULT_BACKOFF .null .null h1 n0 (Nat.le_trans Z0 (own_ext K1).1) A1 F_maxAttempts_b1_1 g_b1 (S_DEFAULT_BACKOFF.ext (own_ext K1)) F_backoff_b1_1 F_longestRunTime_b1_1) hZ (hw _ (List.mem_of_getElem? (i := 6) rfl)) (hw _ (List.mem_of_getElem? (i := 3) rfl)) (by decide) (by decide)) (g := (mkF m 34 #[.val (.int p0_), .val (.int p1_), .val (.int p2_), .val (.int (1 : Int32)), .val (.int (1 : Int32)), .unset, .unset, .unset, .unset, .unset, .unset] [(.ref b1), (.ref b1)])) rfl (by rw [hml]; rfl) (Steps.refl _) (a := b1) (argsL := []) (rest := [(.ref b1)]) (lenOf own_pd0 rfl) rfl (by show 2 * 0 + _ ≤ _; exact Nat.le_of_eq rfl) (hb hby at_34) (fun _ _ => ⟨rfl, e1, (by decide : 1 + 0 ≤ _), (by decide : 3 + 0 ≤ _)⟩)
  dsimp only [Pt.U, Pt.locs, Pt.cells, Pt.slots] at X2 l2 y2 z2 st2 hQ2
  subst l2 y2 z2
  obtain ⟨rfl, N2q, Kq2, Eq2, Fq2_maxAttempts, Fq2_backoff, Fq2_longestRunTime⟩ := hQ2
  have N2 := Fr.app N0 N2q
  have K2 : Keep h0 T2.heap [] := K1.trans Kq2 (fun x hx => by cases List.mem_singleton.mp hx; exact Or.inr sz_b1)
  obtain ⟨cq3, kq3, q3a, q3b, q3c⟩ := isOf hZ rfl Eq2
  obtain ⟨_, _, ⟨T3, L3, k3, n3⟩, -, X3, ⟨Lc3, hQ3, l3, y3, z3⟩, st3⟩ := X2.virtualBack hx (y := (⟨"com/example/mersey/mersey/JobTypeSettings", "isLastAttempt", "(I)Z"⟩ : MethodName)) (z := (⟨"com/example/mersey/mersey/JobTypeSettings", "isLastAttempt", "(I)Z"⟩ : MethodName)) hown (mvT hZ (hw _ (List.mem_of_getElem? (i := 27) rfl))) (mvT hZ (hw _ (List.mem_of_getElem? (i := 28) rfl))) (notFace_of_selects (args := #[]) (mvT hZ (hw _ (List.mem_of_getElem? (i := 30) rfl)))) (mvT hZ (hw _ (List.mem_of_getElem? (i := 30) rfl))) (mvT hZ (hw _ (List.mem_of_getElem? (i := 29) rfl))) (by decide) (backOf (W := 0) (own_b5_t l Z a0 hw [] b1 p2_ (5 : Int32) T2.heap n0 (Nat.le_trans Z0 (own_ext K2).1) Fq2_maxAttempts hf3) hZ (hw _ (List.mem_of_getElem? (i := 31) rfl)) (hw _ (List.mem_of_getElem? (i := 3) rfl)) (by decide) (by decide)) q3a q3c (g := (mkF m 62 #[.val (.int p0_), .val (.int p1_), .val (.int p2_), .val (.int (1 : Int32)), .val (.int (5 : Int32)), .val (.ref b1), .unset, .unset, .unset, .unset, .unset] [(.int p2_), (.ref b1)])) rfl (by rw [hml]; rfl) (Steps.refl _) (argsL := [(.int p2_)]) (rest := []) (lenOf own_pd1 rfl) rfl (by show 2 * 0 + _ ≤ _; exact Nat.le_of_eq rfl) (hb hby at_62) (fun _ _ => ⟨rfl, rfl, (by decide : 1 + 0 ≤ _), (by decide : 3 + 0 ≤ _)⟩)
  dsimp only [Pt.U, Pt.locs, Pt.cells, Pt.slots] at X3 l3 y3 z3 st3 hQ3
  subst l3 y3 z3
  obtain ⟨rfl, N3q, e3⟩ := hQ3
  have N3 := Fr.app N2 N3q
  obtain ⟨cq4, kq4, q4a, q4b, q4c⟩ := isOf hZ e3 Eq2
  obtain ⟨_, _, ⟨T4, L4, k4, n4⟩, -, X4, ⟨Lc4, hQ4, l4, y4, z4⟩, st4⟩ := X3.virtualBack hx (y := (⟨"com/example/mersey/mersey/JobTypeSettings", "isLastAttempt", "(I)Z"⟩ : MethodName)) (z := (⟨"com/example/mersey/mersey/JobTypeSettings", "isLastAttempt", "(I)Z"⟩ : MethodName)) hown (mvT hZ (hw _ (List.mem_of_getElem? (i := 27) rfl))) (mvT hZ (hw _ (List.mem_of_getElem? (i := 28) rfl))) (notFace_of_selects (args := #[]) (mvT hZ (hw _ (List.mem_of_getElem? (i := 30) rfl)))) (mvT hZ (hw _ (List.mem_of_getElem? (i := 30) rfl))) (mvT hZ (hw _ (List.mem_of_getElem? (i := 29) rfl))) (by decide) (backOf (W := 0) (own_b5_f l Z a0 hw [] b1 (5 : Int32) (5 : Int32) T2.heap n0 (Nat.le_trans Z0 (own_ext K2).1) Fq2_maxAttempts (by decide)) hZ (hw _ (List.mem_of_getElem? (i := 31) rfl)) (hw _ (List.mem_of_getElem? (i := 3) rfl)) (by decide) (by decide)) q4a q4c (g := (mkF m 93 #[.val (.int p0_), .val (.int p1_), .val (.int p2_), .val (.int (1 : Int32)), .val (.int (5 : Int32)), .val (.ref b1), .val (.int (0 : Int32)), .val (.int (0 : Int32)), .unset, .unset, .unset] [(.int (5 : Int32)), (.ref b1)])) rfl (by rw [hml]; rfl) (Steps.refl _) (argsL := [(.int (5 : Int32))]) (rest := []) (lenOf own_pd1 rfl) rfl (by show 2 * 0 + _ ≤ _; exact Nat.le_of_eq rfl) (hb hby at_93) (fun _ _ => ⟨rfl, e3, (by decide : 1 + 0 ≤ _), (by decide : 3 + 0 ≤ _)⟩)
  dsimp only [Pt.U, Pt.locs, Pt.cells, Pt.slots] at X4 l4 y4 z4 st4 hQ4
  subst l4 y4 z4
  obtain ⟨rfl, N4q, e4⟩ := hQ4
  have N4 := Fr.app N3 N4q
  obtain ⟨cq5, kq5, q5a, q5b, q5c⟩ := isOf hZ e4 Eq2
  obtain ⟨_, _, ⟨T5, L5, k5, n5⟩, -, X5, ⟨Lc5, hQ5, l5, y5, z5⟩, st5⟩ := X4.virtualBack hx (y := (⟨"com/example/mersey/mersey/JobTypeSettings", "isLastAttempt", "(I)Z"⟩ : MethodName)) (z := (⟨"com/example/mersey/mersey/JobTypeSettings", "isLastAttempt", "(I)Z"⟩ : MethodName)) hown (mvT hZ (hw _ (List.mem_of_getElem? (i := 27) rfl))) (mvT hZ (hw _ (List.mem_of_getElem? (i := 28) rfl))) (notFace_of_selects (args := #[]) (mvT hZ (hw _ (List.mem_of_getElem? (i := 30) rfl)))) (mvT hZ (hw _ (List.mem_of_getElem? (i := 30) rfl))) (mvT hZ (hw _ (List.mem_of_getElem? (i := 29) rfl))) (by decide) (backOf (W := 0) (own_b5_t l Z a0 hw [] b1 ((5 : Int32) - (1 : Int32)) (5 : Int32) T2.heap n0 (Nat.le_trans Z0 (own_ext K2).1) Fq2_maxAttempts (by decide)) hZ (hw _ (List.mem_of_getElem? (i := 31) rfl)) (hw _ (List.mem_of_getElem? (i := 3) rfl)) (by decide) (by decide)) q5a q5c (g := (mkF m 113 #[.val (.int p0_), .val (.int p1_), .val (.int p2_), .val (.int (1 : Int32)), .val (.int (5 : Int32)), .val (.ref b1), .val (.int (0 : Int32)), .val (.int (0 : Int32)), .unset, .unset, .unset] [(.int ((5 : Int32) - (1 : Int32))), (.ref b1)])) rfl (by rw [hml]; rfl) (Steps.refl _) (argsL := [(.int ((5 : Int32) - (1 : Int32)))]) (rest := []) (lenOf own_pd1 rfl) rfl (by show 2 * 0 + _ ≤ _; exact Nat.le_of_eq rfl) (hb hby at_113) (fun _ _ => ⟨rfl, e4, (by decide : 1 + 0 ≤ _), (by decide : 3 + 0 ≤ _)⟩)
  dsimp only [Pt.U, Pt.locs, Pt.cells, Pt.slots] at X5 l5 y5 z5 st5 hQ5
  subst l5 y5 z5
  obtain ⟨rfl, N5q, e5⟩ := hQ5
  have N5 := Fr.app N4 N5q
  obtain ⟨cq6, kq6, q6a, q6b, q6c⟩ := isOf hZ e5 Eq2
  obtain ⟨_, _, ⟨T6, L6, k6, n6⟩, -, X6, ⟨Lc6, hQ6, l6, y6, z6⟩, st6⟩ := X5.virtualBack hx (y := (⟨"com/example/mersey/mersey/JobTypeSettings", "isLastAttempt", "(I)Z"⟩ : MethodName)) (z := (⟨"com/example/mersey/mersey/JobTypeSettings", "isLastAttempt", "(I)Z"⟩ : MethodName)) hown (mvT hZ (hw _ (List.mem_of_getElem? (i := 27) rfl))) (mvT hZ (hw _ (List.mem_of_getElem? (i := 28) rfl))) (notFace_of_selects (args := #[]) (mvT hZ (hw _ (List.mem_of_getElem? (i := 30) rfl)))) (mvT hZ (hw _ (List.mem_of_getElem? (i := 30) rfl))) (mvT hZ (hw _ (List.mem_of_getElem? (i := 29) rfl))) (by decide) (backOf (W := 0) (own_b5_f l Z a0 hw [] b1 (l_.toInt32) (5 : Int32) T2.heap n0 (Nat.le_trans Z0 (own_ext K2).1) Fq2_maxAttempts hf8) hZ (hw _ (List.mem_of_getElem? (i := 31) rfl)) (hw _ (List.mem_of_getElem? (i := 3) rfl)) (by decide) (by decide)) q6a q6c (g := (mkF m 153 #[.val (.int p0_), .val (.int p1_), .val (.int p2_), .val (.int (1 : Int32)), .val (.int (5 : Int32)), .val (.ref b1), .val (.int (0 : Int32)), .val (.int (0 : Int32)), .val (.int f_), .val (.long l_), .second] [(.int (l_.toInt32)), (.ref b1)])) rfl (by rw [hml]; rfl) (Steps.refl _) (argsL := [(.int (l_.toInt32))]) (rest := []) (lenOf own_pd1 rfl) rfl (by show 2 * 0 + _ ≤ _; exact Nat.le_of_eq rfl) (hb hby at_153) (fun _ _ => ⟨rfl, e5, (by decide : 1 + 0 ≤ _), (by decide : 3 + 0 ≤ _)⟩)
  dsimp only [Pt.U, Pt.locs, Pt.cells, Pt.slots] at X6 l6 y6 z6 st6 hQ6
  subst l6 y6 z6
  obtain ⟨rfl, N6q, e6⟩ := hQ6
  have N6 := Fr.app N5 N6q
  obtain ⟨fs, hr, hrun, hended, hW, hsame⟩ := X6.leave (v := some (.int (1 : Int32))) (fun h => by rw [Bd.returns] at h; cases h)
  refine ⟨_, _, pre0 _ ?_, hrun, hended, _, _, rfl, ?_, ⟨_, rfl⟩, hW, hsame.mono (by decide) (by decide)⟩
  · show Steps p.tables e below (s₁.setTop (mkF m 0 #[.val (.int p0_), .val (.int p1_), .val (.int p2_), .unset, .unset, .unset, .unset, .unset, .unset, .unset, .unset] [])) _
    refine XS.iloadN X0.here hx rfl (hb hby at_0) rfl ?_
    refine XS.iconst X0.here hx rfl (hb hby at_1) ?_
    refine XS.iand X0.here hx rfl (hb hby at_2) rfl ?_
    show Steps p.tables e below (s₁.setTop (mkF m 3 #[.val (.int p0_), .val (.int p1_), .val (.int p2_), .unset, .unset, .unset, .unset, .unset, .unset, .unset, .unset] [(.int (p0_ &&& (1 : Int32)))])) _
    rw [hf0]
    refine XS.ifNo X0.here hx rfl (hb hby at_3) rfl ((if0 _ _).trans (feq (by decide : ¬ ((1 : Int32) = (0 : Int32)))).1) ?_
    refine XS.iconst X0.here hx rfl (hb hby at_6) ?_
    refine XS.goto X0.here hx rfl (pc0 := 7) (pc' := 11) rfl (hb hby at_7) (by decide) (by decide) ?_
    show Steps p.tables e below (s₁.setTop (mkF m 11 #[.val (.int p0_), .val (.int p1_), .val (.int p2_), .unset, .unset, .unset, .unset, .unset, .unset, .unset, .unset] [(.int (1 : Int32))])) _
    refine XS.istoreN X0.here hx rfl (hb hby at_11) rfl (l' := #[.val (.int p0_), .val (.int p1_), .val (.int p2_), .val (.int (1 : Int32)), .unset, .unset, .unset, .unset, .unset, .unset, .unset]) rfl ?_
    refine XS.iloadN X0.here hx rfl (hb hby at_12) rfl ?_
    show Steps p.tables e below (s₁.setTop (mkF m 13 #[.val (.int p0_), .val (.int p1_), .val (.int p2_), .val (.int (1 : Int32)), .unset, .unset, .unset, .unset, .unset, .unset, .unset] [(.int p1_)])) _
    refine X0.ldcInt hx hown (mvT hZ (hw _ (List.mem_of_getElem? (i := 0) rfl))) (g := (mkF m 13 #[.val (.int p0_), .val (.int p1_), .val (.int p2_), .val (.int (1 : Int32)), .unset, .unset, .unset, .unset, .unset, .unset, .unset] [(.int p1_)])) rfl (hb hby at_13) _ ?_
    refine XS.iand X0.here hx rfl (hb hby at_15) rfl ?_
    show Steps p.tables e below (s₁.setTop (mkF m 16 #[.val (.int p0_), .val (.int p1_), .val (.int p2_), .val (.int (1 : Int32)), .unset, .unset, .unset, .unset, .unset, .unset, .unset] [(.int (p1_ &&& (2147483647 : Int32)))])) _
    rw [hf1]
    refine XS.istore X0.here hx rfl (hb hby at_16) rfl (l' := #[.val (.int p0_), .val (.int p1_), .val (.int p2_), .val (.int (1 : Int32)), .val (.int m_), .unset, .unset, .unset, .unset, .unset, .unset]) rfl ?_
    refine XS.iload X0.here hx rfl (hb hby at_18) rfl ?_
    refine XS.ifNo X0.here hx rfl (hb hby at_20) rfl ((if0 _ _).trans (teq hf2).2) ?_
    show Steps p.tables e below (s₁.setTop (mkF m 23 #[.val (.int p0_), .val (.int p1_), .val (.int p2_), .val (.int (1 : Int32)), .val (.int m_), .unset, .unset, .unset, .unset, .unset, .unset] [])) _
    refine XS.iconst X0.here hx rfl (hb hby at_23) ?_
    refine XS.istore X0.here hx rfl (hb hby at_24) rfl (l' := #[.val (.int p0_), .val (.int p1_), .val (.int p2_), .val (.int (1 : Int32)), .val (.int (1 : Int32)), .unset, .unset, .unset, .unset, .unset, .unset]) rfl ?_
    refine XS.iloadN X0.here hx rfl (hb hby at_26) rfl ?_
    refine XS.ifNo X0.here hx rfl (hb hby at_27) rfl ((if0 _ _).trans (feq (by decide : ¬ ((1 : Int32) = (0 : Int32)))).1) ?_
    show Steps p.tables e below (s₁.setTop (mkF m 30 #[.val (.int p0_), .val (.int p1_), .val (.int p2_), .val (.int (1 : Int32)), .val (.int (1 : Int32)), .unset, .unset, .unset, .unset, .unset, .unset] [])) _
    refine st1 _ ?_
    refine XS.dup X1.here hx rfl (hb hby at_33) rfl rfl ?_
    show Steps p.tables e below (T1.setTop (mkF m 34 #[.val (.int p0_), .val (.int p1_), .val (.int p2_), .val (.int (1 : Int32)), .val (.int (1 : Int32)), .unset, .unset, .unset, .unset, .unset, .unset] [(.ref b1), (.ref b1)])) _
    refine st2.trans ?_
    refine XS.astore X2.here hx rfl (hb hby at_37) rfl rfl (l' := #[.val (.int p0_), .val (.int p1_), .val (.int p2_), .val (.int (1 : Int32)), .val (.int (1 : Int32)), .val (.ref b1), .unset, .unset, .unset, .unset, .unset]) rfl ?_
    refine XS.iconst X2.here hx rfl (hb hby at_39) ?_
    refine XS.istore X2.here hx rfl (hb hby at_40) rfl (l' := #[.val (.int p0_), .val (.int p1_), .val (.int p2_), .val (.int (1 : Int32)), .val (.int (5 : Int32)), .val (.ref b1), .unset, .unset, .unset, .unset, .unset]) rfl ?_
    show Steps p.tables e below (T2.setTop (mkF m 42 #[.val (.int p0_), .val (.int p1_), .val (.int p2_), .val (.int (1 : Int32)), .val (.int (5 : Int32)), .val (.ref b1), .unset, .unset, .unset, .unset, .unset] [])) _
    refine XS.goto X2.here hx rfl (pc0 := 42) (pc' := 59) rfl (hb hby at_42) (by decide) (by decide) ?_
    refine XS.aload X2.here hx rfl (hb hby at_59) rfl rfl ?_
    refine XS.iloadN X2.here hx rfl (hb hby at_61) rfl ?_
    show Steps p.tables e below (T2.setTop (mkF m 62 #[.val (.int p0_), .val (.int p1_), .val (.int p2_), .val (.int (1 : Int32)), .val (.int (5 : Int32)), .val (.ref b1), .unset, .unset, .unset, .unset, .unset] [(.int p2_), (.ref b1)])) _
    refine st3.trans ?_
    refine XS.istore X3.here hx rfl (hb hby at_65) rfl (l' := #[.val (.int p0_), .val (.int p1_), .val (.int p2_), .val (.int (1 : Int32)), .val (.int (5 : Int32)), .val (.ref b1), .val (.int (0 : Int32)), .unset, .unset, .unset, .unset]) rfl ?_
    refine XS.iloadN X3.here hx rfl (hb hby at_67) rfl ?_
    refine XS.iload X3.here hx rfl (hb hby at_68) rfl ?_
    show Steps p.tables e below (T3.setTop (mkF m 70 #[.val (.int p0_), .val (.int p1_), .val (.int p2_), .val (.int (1 : Int32)), .val (.int (5 : Int32)), .val (.ref b1), .val (.int (0 : Int32)), .unset, .unset, .unset, .unset] [(.int (5 : Int32)), (.int p2_)])) _
    refine XS.icmpYes X3.here hx rfl (pc0 := 70) (pc' := 77) rfl (hb hby at_70) rfl (tlt hf3).1 (by decide) (by decide) ?_
    refine XS.iconst X3.here hx rfl (hb hby at_77) ?_
    refine XS.istore X3.here hx rfl (hb hby at_78) rfl (l' := #[.val (.int p0_), .val (.int p1_), .val (.int p2_), .val (.int (1 : Int32)), .val (.int (5 : Int32)), .val (.ref b1), .val (.int (0 : Int32)), .val (.int (0 : Int32)), .unset, .unset, .unset]) rfl ?_
    refine XS.iload X3.here hx rfl (hb hby at_80) rfl ?_
    show Steps p.tables e below (T3.setTop (mkF m 82 #[.val (.int p0_), .val (.int p1_), .val (.int p2_), .val (.int (1 : Int32)), .val (.int (5 : Int32)), .val (.ref b1), .val (.int (0 : Int32)), .val (.int (0 : Int32)), .unset, .unset, .unset] [(.int (0 : Int32))])) _
    refine XS.iload X3.here hx rfl (hb hby at_82) rfl ?_
    refine XS.icmpYes X3.here hx rfl (pc0 := 84) (pc' := 89) rfl (hb hby at_84) rfl (teq (rfl : (0 : Int32) = (0 : Int32))).1 (by decide) (by decide) ?_
    refine XS.aload X3.here hx rfl (hb hby at_89) rfl rfl ?_
    refine XS.iload X3.here hx rfl (hb hby at_91) rfl ?_
    show Steps p.tables e below (T3.setTop (mkF m 93 #[.val (.int p0_), .val (.int p1_), .val (.int p2_), .val (.int (1 : Int32)), .val (.int (5 : Int32)), .val (.ref b1), .val (.int (0 : Int32)), .val (.int (0 : Int32)), .unset, .unset, .unset] [(.int (5 : Int32)), (.ref b1)])) _
    refine st4.trans ?_
    refine XS.ifYes X4.here hx rfl (pc0 := 96) (pc' := 101) rfl (hb hby at_96) rfl ((if0 _ _).trans (feq (by decide : ¬ ((1 : Int32) = (0 : Int32)))).2) (by decide) (by decide) ?_
    refine XS.iload X4.here hx rfl (hb hby at_101) rfl ?_
    refine XS.iconst X4.here hx rfl (hb hby at_103) ?_
    show Steps p.tables e below (T4.setTop (mkF m 104 #[.val (.int p0_), .val (.int p1_), .val (.int p2_), .val (.int (1 : Int32)), .val (.int (5 : Int32)), .val (.ref b1), .val (.int (0 : Int32)), .val (.int (0 : Int32)), .unset, .unset, .unset] [(.int (1 : Int32)), (.int (5 : Int32))])) _
    refine XS.icmpNo X4.here hx rfl (hb hby at_104) rfl (tlt (by decide : (1 : Int32) < (5 : Int32))).2.2.2 ?_
    refine XS.aload X4.here hx rfl (hb hby at_107) rfl rfl ?_
    refine XS.iload X4.here hx rfl (hb hby at_109) rfl ?_
    refine XS.iconst X4.here hx rfl (hb hby at_111) ?_
    show Steps p.tables e below (T4.setTop (mkF m 112 #[.val (.int p0_), .val (.int p1_), .val (.int p2_), .val (.int (1 : Int32)), .val (.int (5 : Int32)), .val (.ref b1), .val (.int (0 : Int32)), .val (.int (0 : Int32)), .unset, .unset, .unset] [(.int (1 : Int32)), (.int (5 : Int32)), (.ref b1)])) _
    refine XS.isub X4.here hx rfl (hb hby at_112) rfl ?_
    show Steps p.tables e below (T4.setTop (mkF m 113 #[.val (.int p0_), .val (.int p1_), .val (.int p2_), .val (.int (1 : Int32)), .val (.int (5 : Int32)), .val (.ref b1), .val (.int (0 : Int32)), .val (.int (0 : Int32)), .unset, .unset, .unset] [(.int ((5 : Int32) - (1 : Int32))), (.ref b1)])) _
    refine st5.trans ?_
    refine XS.ifYes X5.here hx rfl (pc0 := 116) (pc' := 121) rfl (hb hby at_116) rfl ((if0 _ _).trans (teq (rfl : (0 : Int32) = (0 : Int32))).1) (by decide) (by decide) ?_
    refine XS.iloadN X5.here hx rfl (hb hby at_121) rfl ?_
    refine XS.iconst X5.here hx rfl (hb hby at_122) ?_
    show Steps p.tables e below (T5.setTop (mkF m 123 #[.val (.int p0_), .val (.int p1_), .val (.int p2_), .val (.int (1 : Int32)), .val (.int (5 : Int32)), .val (.ref b1), .val (.int (0 : Int32)), .val (.int (0 : Int32)), .unset, .unset, .unset] [(.int (1 : Int32)), (.int p0_)])) _
    refine XS.iushr X5.here hx rfl (hb hby at_123) rfl ?_
    refine XS.iconst X5.here hx rfl (hb hby at_124) ?_
    show Steps p.tables e below (T5.setTop (mkF m 125 #[.val (.int p0_), .val (.int p1_), .val (.int p2_), .val (.int (1 : Int32)), .val (.int (5 : Int32)), .val (.ref b1), .val (.int (0 : Int32)), .val (.int (0 : Int32)), .unset, .unset, .unset] [(.int (5 : Int32)), (.int ((p0_.toUInt32 >>> ((1 : Int32) &&& 31).toUInt32).toInt32))])) _
    refine iremM X5 hx rfl (hb hby at_125) rfl (by decide) ?_
    show Steps p.tables e below (T5.setTop (mkF m 126 #[.val (.int p0_), .val (.int p1_), .val (.int p2_), .val (.int (1 : Int32)), .val (.int (5 : Int32)), .val (.ref b1), .val (.int (0 : Int32)), .val (.int (0 : Int32)), .unset, .unset, .unset] [(.int (((p0_.toUInt32 >>> ((1 : Int32) &&& 31).toUInt32).toInt32) % (5 : Int32)))])) _
    rw [hf4]
    refine XS.iconst X5.here hx rfl (hb hby at_126) ?_
    refine XS.isub X5.here hx rfl (hb hby at_127) rfl ?_
    show Steps p.tables e below (T5.setTop (mkF m 128 #[.val (.int p0_), .val (.int p1_), .val (.int p2_), .val (.int (1 : Int32)), .val (.int (5 : Int32)), .val (.ref b1), .val (.int (0 : Int32)), .val (.int (0 : Int32)), .unset, .unset, .unset] [(.int (o_ - (2 : Int32)))])) _
    rw [hf5]
    refine XS.istore X5.here hx rfl (hb hby at_128) rfl (l' := #[.val (.int p0_), .val (.int p1_), .val (.int p2_), .val (.int (1 : Int32)), .val (.int (5 : Int32)), .val (.ref b1), .val (.int (0 : Int32)), .val (.int (0 : Int32)), .val (.int f_), .unset, .unset]) rfl ?_
    refine XS.iload X5.here hx rfl (hb hby at_130) rfl ?_
    refine XS.i2l X5.here hx rfl (hb hby at_132) rfl ?_
    show Steps p.tables e below (T5.setTop (mkF m 133 #[.val (.int p0_), .val (.int p1_), .val (.int p2_), .val (.int (1 : Int32)), .val (.int (5 : Int32)), .val (.ref b1), .val (.int (0 : Int32)), .val (.int (0 : Int32)), .val (.int f_), .unset, .unset] [(.long ((5 : Int32).toInt64))])) _
    refine XS.iload X5.here hx rfl (hb hby at_133) rfl ?_
    refine XS.i2l X5.here hx rfl (hb hby at_135) rfl ?_
    refine XS.ladd X5.here hx rfl (hb hby at_136) rfl ?_
    show Steps p.tables e below (T5.setTop (mkF m 137 #[.val (.int p0_), .val (.int p1_), .val (.int p2_), .val (.int (1 : Int32)), .val (.int (5 : Int32)), .val (.ref b1), .val (.int (0 : Int32)), .val (.int (0 : Int32)), .val (.int f_), .unset, .unset] [(.long (((5 : Int32).toInt64) + (f_.toInt64)))])) _
    rw [hf6]
    refine XS.lstore X5.here hx rfl (hb hby at_137) rfl (l' := #[.val (.int p0_), .val (.int p1_), .val (.int p2_), .val (.int (1 : Int32)), .val (.int (5 : Int32)), .val (.ref b1), .val (.int (0 : Int32)), .val (.int (0 : Int32)), .val (.int f_), .val (.long l_), .second]) rfl ?_
    refine XS.lload X5.here hx rfl (hb hby at_139) rfl ?_
    show Steps p.tables e below (T5.setTop (mkF m 141 #[.val (.int p0_), .val (.int p1_), .val (.int p2_), .val (.int (1 : Int32)), .val (.int (5 : Int32)), .val (.ref b1), .val (.int (0 : Int32)), .val (.int (0 : Int32)), .val (.int f_), .val (.long l_), .second] [(.long l_)])) _
    refine X5.ldc2Long hx hown (mvT hZ (hw _ (List.mem_of_getElem? (i := 32) rfl))) (g := (mkF m 141 #[.val (.int p0_), .val (.int p1_), .val (.int p2_), .val (.int (1 : Int32)), .val (.int (5 : Int32)), .val (.ref b1), .val (.int (0 : Int32)), .val (.int (0 : Int32)), .val (.int f_), .val (.long l_), .second] [(.long l_)])) rfl (hb hby at_141) _ ?_
    refine XS.lcmp X5.here hx rfl (hb hby at_144) rfl ?_
    refine XS.ifNo X5.here hx rfl (hb hby at_145) rfl ((if0 _ _).trans (flt hf7).2.2.1) ?_
    refine XS.aload X5.here hx rfl (hb hby at_148) rfl rfl ?_
    show Steps p.tables e below (T5.setTop (mkF m 150 #[.val (.int p0_), .val (.int p1_), .val (.int p2_), .val (.int (1 : Int32)), .val (.int (5 : Int32)), .val (.ref b1), .val (.int (0 : Int32)), .val (.int (0 : Int32)), .val (.int f_), .val (.long l_), .second] [(.ref b1)])) _
    refine XS.lload X5.here hx rfl (hb hby at_150) rfl ?_
    refine XS.l2i X5.here hx rfl (hb hby at_152) rfl ?_
    show Steps p.tables e below (T5.setTop (mkF m 153 #[.val (.int p0_), .val (.int p1_), .val (.int p2_), .val (.int (1 : Int32)), .val (.int (5 : Int32)), .val (.ref b1), .val (.int (0 : Int32)), .val (.int (0 : Int32)), .val (.int f_), .val (.long l_), .second] [(.int (l_.toInt32)), (.ref b1)])) _
    refine st6.trans ?_
    refine XS.iload X6.here hx rfl (hb hby at_156) rfl ?_
    refine XS.ifNo X6.here hx rfl (hb hby at_158) rfl ((if0 _ _).trans (flt hf9).1) ?_
    refine XS.iconst X6.here hx rfl (hb hby at_161) ?_
    show Steps p.tables e below (T6.setTop (mkF m 162 #[.val (.int p0_), .val (.int p1_), .val (.int p2_), .val (.int (1 : Int32)), .val (.int (5 : Int32)), .val (.ref b1), .val (.int (0 : Int32)), .val (.int (0 : Int32)), .val (.int f_), .val (.long l_), .second] [(.int (1 : Int32)), (.int (1 : Int32))])) _
    refine XS.goto X6.here hx rfl (pc0 := 162) (pc' := 166) rfl (hb hby at_162) (by decide) (by decide) ?_
    refine XS.icmpYes X6.here hx rfl (pc0 := 166) (pc' := 171) rfl (hb hby at_166) rfl (teq (rfl : (1 : Int32) = (1 : Int32))).1 (by decide) (by decide) ?_
    refine XS.iconst X6.here hx rfl (hb hby at_171) ?_
    show Steps p.tables e below (T6.setTop (mkF m 172 #[.val (.int p0_), .val (.int p1_), .val (.int p2_), .val (.int (1 : Int32)), .val (.int (5 : Int32)), .val (.ref b1), .val (.int (0 : Int32)), .val (.int (0 : Int32)), .val (.int f_), .val (.long l_), .second] [(.int (1 : Int32))])) _
    exact retN X6 hx (t := .boolean) Bd.returns (by simp) (hb hby at_172) hr
  · show own_QL n0 _ T6.heap _
    exact ⟨rfl, N6⟩
set_option maxRecDepth 65536 in
set_option maxHeartbeats 40000000 in
theorem own_law_Dzgl (l : Launch) (Z : State) (a0 : Array Value) (hw : ∀ d ∈ tables_1, d.before a0 Z = true) (ws : List Jvm.Cond) (p0_ : Int32) (p1_ : Int32) (p2_ : Int32) (m_ : Int32) (w_DEFAULT_BACKOFF : Addr) (o_ : Int32) (f_ : Int32) (l_ : Int64) (h0 : Heap) (n0 : Nat) (Z0 : n0 ≤ h0.size) (S_DEFAULT_BACKOFF : Sta Z h0 "com/example/mersey/mersey/JobTypeSettings" "DEFAULT_BACKOFF" "Lcom/example/mersey/mersey/Backoff;" (.ref w_DEFAULT_BACKOFF)) (hf0 : (p0_ &&& (1 : Int32)) = (1 : Int32)) (hf1 : (p1_ &&& (2147483647 : Int32)) = m_) (hf2 : m_ = (0 : Int32)) (hf3 : ¬ (p2_ < (5 : Int32))) (hf4 : (((p0_.toUInt32 >>> ((1 : Int32) &&& 31).toUInt32).toInt32) % (5 : Int32)) = o_) (hf5 : (o_ - (2 : Int32)) = f_) (hf6 : (((5 : Int32).toInt64) + (f_.toInt64)) = l_) (hf7 : ¬ ((0 : Int32) < (lcmpW l_ (2147483647 : Int64)))) (hf8 : (l_.toInt32) < (5 : Int32)) (hf9 : f_ < (0 : Int32)) :
    MetFree l x (head1 (Jvm.Cond.code x code maxLocals ret :: ws) room_1) (fun a U => a = #[(.int p0_), (.int p1_), (.int p2_)] ∧ Z.Warmed39 U.vm ∧ U.heap = h0) (fun _ _ _ _ _ => True) (fun _ U o U' => ∃ v L, o = .returned v ∧ own_QL n0 v U'.heap L ∧ FrameEnd U o U' L room_1.cells room_1.slots) := by
  refine MetFree.of_bodySF (plainFor_of_name own_pn1) hisR ?_
  intro p e s m args below meth c s₁ Bd hml0 hP hK
  obtain ⟨rfl, hZ, hh⟩ := hP
  have hx := Bd.exec
  have hby := Bd.bytes
  have hml : c.maxLocals = 11 := hml0
  have hown : s.vm.findClass "com/example/mersey/mersey/JobTypeSettingsIsLastAttemptPinLaw" = some m.cls := findClass_of_methodNamed Bd.named
  have hnm := (name_of_methodNamed Bd.named Bd.method).1
  have X0 : Stand p l e room_1 s m #[(.int p0_), (.int p1_), (.int p2_)] below meth c s₁ [] 0 0 := Stand.of_body Bd
  have e0 : s₁.heap = h0 := by rw [← hh, Bd.state]; rfl
  have N0 := Fr.nil n0
  have pre0 : ∀ t, Steps p.tables e below (s₁.setTop (mkF m 0 #[.val (.int p0_), .val (.int p1_), .val (.int p2_), .unset, .unset, .unset, .unset, .unset, .unset, .unset, .unset] [])) t → Steps p.tables e below (s₁.setTop (entryFrame m #[(.int p0_), (.int p1_), (.int p2_)] maxLocals)) t := fun t k => castTop (own_ef2 m p0_ p1_ p2_) k
  obtain ⟨T1, h1, X1, e1, E1, A1, D1, -, st1⟩ := newO X0 hx hZ hown (hw _ (List.mem_of_getElem? (i := 1) rfl)) (hw _ (List.mem_of_getElem? (i := 2) rfl)) (hw _ (List.mem_of_getElem? (i := 3) rfl)) e0 (g := (mkF m 30 #[.val (.int p0_), .val (.int p1_), .val (.int p2_), .val (.int (1 : Int32)), .val (.int (1 : Int32)), .unset, .unset, .unset, .unset, .unset, .unset] [])) rfl (hb hby at_30) (by decide) (by decide)
  obtain ⟨b1, g1⟩ : ∃ z, z = h0.size := ⟨_, rfl⟩
  rw [← g1] at A1 D1 st1
  have lo_b1 : h0.size ≤ b1 := Nat.le_of_eq g1.symm
  have sz_b1 : h0.size ≤ b1 := Nat.le_trans (Keep.refl h0 []).1 lo_b1
  have g_b1 : n0 ≤ b1 := Nat.le_trans Z0 sz_b1
  have K1 : Keep h0 h1 [] := (Keep.refl h0 []).ext E1
  have F_maxAttempts_b1_1 : Fld Z h1 b1 "com/example/mersey/mersey/JobTypeSettings" "maxAttempts" "I" (.int (0 : Int32)) := D1 (Or.inl (hw _ (List.mem_of_getElem? (i := 11) rfl))) (ty := .int) (by decide)
  have F_backoff_b1_1 : Fld Z h1 b1 "com/example/mersey/mersey/JobTypeSettings" "backoff" "Lcom/example/mersey/mersey/Backoff;" .null := D1 (Or.inl (hw _ (List.mem_of_getElem? (i := 15) rfl))) (ty := (.object "com/example/mersey/mersey/Backoff")) (by decide)
  have F_longestRunTime_b1_1 : Fld Z h1 b1 "com/example/mersey/mersey/JobTypeSettings" "longestRunTime" "Ljava/time/Duration;" .null := D1 (Or.inl (hw _ (List.mem_of_getElem? (i := 26) rfl))) (ty := (.object "java/time/Duration")) (by decide)
  obtain ⟨_, _, ⟨T2, L2, k2, n2⟩, -, X2, ⟨Lc2, hQ2, l2, y2, z2⟩, st2⟩ := X1.specialBack hx (y := (⟨"com/example/mersey/mersey/JobTypeSettings", "<init>", "()V"⟩ : MethodName)) rfl hown (mvT hZ (hw _ (List.mem_of_getElem? (i := 4) rfl))) (mvT hZ (hw _ (List.mem_of_getElem? (i := 5) rfl))) (mvT hZ (hw _ (List.mem_of_getElem? (i := 6) rfl))) (by decide) (backOf (W := 1) (own_b1_x l Z a0 hw [] b1 (.int (0 : Int32)) w_DEFAULT_BACKOFF .null .null h1 n0 (Nat.le_trans Z0 (own_ext K1).1) A1 F_maxAttempts_b1_1 g_b1 (S_DEFAULT_BACKOFF.ext (own_ext K1)) F_backoff_b1_1 F_longestRunTime_b1_1) hZ (hw _ (List.mem_of_getElem? (i := 6) rfl)) (hw _ (List.mem_of_getElem? (i := 3) rfl)) (by decide) (by decide)) (g := (mkF m 34 #[.val (.int p0_), .val (.int p1_), .val (.int p2_), .val (.int (1 : Int32)), .val (.int (1 : Int32)), .unset, .unset, .unset, .unset, .unset, .unset] [(.ref b1), (.ref b1)])) rfl (by rw [hml]; rfl) (Steps.refl _) (a := b1) (argsL := []) (rest := [(.ref b1)]) (lenOf own_pd0 rfl) rfl (by show 2 * 0 + _ ≤ _; exact Nat.le_of_eq rfl) (hb hby at_34) (fun _ _ => ⟨rfl, e1, (by decide : 1 + 0 ≤ _), (by decide : 3 + 0 ≤ _)⟩)
  dsimp only [Pt.U, Pt.locs, Pt.cells, Pt.slots] at X2 l2 y2 z2 st2 hQ2
  subst l2 y2 z2
  obtain ⟨rfl, N2q, Kq2, Eq2, Fq2_maxAttempts, Fq2_backoff, Fq2_longestRunTime⟩ := hQ2
  have N2 := Fr.app N0 N2q
  have K2 : Keep h0 T2.heap [] := K1.trans Kq2 (fun x hx => by cases List.mem_singleton.mp hx; exact Or.inr sz_b1)
  obtain ⟨cq3, kq3, q3a, q3b, q3c⟩ := isOf hZ rfl Eq2
  obtain ⟨_, _, ⟨T3, L3, k3, n3⟩, -, X3, ⟨Lc3, hQ3, l3, y3, z3⟩, st3⟩ := X2.virtualBack hx (y := (⟨"com/example/mersey/mersey/JobTypeSettings", "isLastAttempt", "(I)Z"⟩ : MethodName)) (z := (⟨"com/example/mersey/mersey/JobTypeSettings", "isLastAttempt", "(I)Z"⟩ : MethodName)) hown (mvT hZ (hw _ (List.mem_of_getElem? (i := 27) rfl))) (mvT hZ (hw _ (List.mem_of_getElem? (i := 28) rfl))) (notFace_of_selects (args := #[]) (mvT hZ (hw _ (List.mem_of_getElem? (i := 30) rfl)))) (mvT hZ (hw _ (List.mem_of_getElem? (i := 30) rfl))) (mvT hZ (hw _ (List.mem_of_getElem? (i := 29) rfl))) (by decide) (backOf (W := 0) (own_b5_f l Z a0 hw [] b1 p2_ (5 : Int32) T2.heap n0 (Nat.le_trans Z0 (own_ext K2).1) Fq2_maxAttempts hf3) hZ (hw _ (List.mem_of_getElem? (i := 31) rfl)) (hw _ (List.mem_of_getElem? (i := 3) rfl)) (by decide) (by decide)) q3a q3c (g := (mkF m 62 #[.val (.int p0_), .val (.int p1_), .val (.int p2_), .val (.int (1 : Int32)), .val (.int (5 : Int32)), .val (.ref b1), .unset, .unset, .unset, .unset, .unset] [(.int p2_), (.ref b1)])) rfl (by rw [hml]; rfl) (Steps.refl _) (argsL := [(.int p2_)]) (rest := []) (lenOf own_pd1 rfl) rfl (by show 2 * 0 + _ ≤ _; exact Nat.le_of_eq rfl) (hb hby at_62) (fun _ _ => ⟨rfl, rfl, (by decide : 1 + 0 ≤ _), (by decide : 3 + 0 ≤ _)⟩)
  dsimp only [Pt.U, Pt.locs, Pt.cells, Pt.slots] at X3 l3 y3 z3 st3 hQ3
  subst l3 y3 z3
  obtain ⟨rfl, N3q, e3⟩ := hQ3
  have N3 := Fr.app N2 N3q
  obtain ⟨cq4, kq4, q4a, q4b, q4c⟩ := isOf hZ e3 Eq2
  obtain ⟨_, _, ⟨T4, L4, k4, n4⟩, -, X4, ⟨Lc4, hQ4, l4, y4, z4⟩, st4⟩ := X3.virtualBack hx (y := (⟨"com/example/mersey/mersey/JobTypeSettings", "isLastAttempt", "(I)Z"⟩ : MethodName)) (z := (⟨"com/example/mersey/mersey/JobTypeSettings", "isLastAttempt", "(I)Z"⟩ : MethodName)) hown (mvT hZ (hw _ (List.mem_of_getElem? (i := 27) rfl))) (mvT hZ (hw _ (List.mem_of_getElem? (i := 28) rfl))) (notFace_of_selects (args := #[]) (mvT hZ (hw _ (List.mem_of_getElem? (i := 30) rfl)))) (mvT hZ (hw _ (List.mem_of_getElem? (i := 30) rfl))) (mvT hZ (hw _ (List.mem_of_getElem? (i := 29) rfl))) (by decide) (backOf (W := 0) (own_b5_f l Z a0 hw [] b1 (5 : Int32) (5 : Int32) T2.heap n0 (Nat.le_trans Z0 (own_ext K2).1) Fq2_maxAttempts (by decide)) hZ (hw _ (List.mem_of_getElem? (i := 31) rfl)) (hw _ (List.mem_of_getElem? (i := 3) rfl)) (by decide) (by decide)) q4a q4c (g := (mkF m 93 #[.val (.int p0_), .val (.int p1_), .val (.int p2_), .val (.int (1 : Int32)), .val (.int (5 : Int32)), .val (.ref b1), .val (.int (1 : Int32)), .val (.int (1 : Int32)), .unset, .unset, .unset] [(.int (5 : Int32)), (.ref b1)])) rfl (by rw [hml]; rfl) (Steps.refl _) (argsL := [(.int (5 : Int32))]) (rest := []) (lenOf own_pd1 rfl) rfl (by show 2 * 0 + _ ≤ _; exact Nat.le_of_eq rfl) (hb hby at_93) (fun _ _ => ⟨rfl, e3, (by decide : 1 + 0 ≤ _), (by decide : 3 + 0 ≤ _)⟩)
  dsimp only [Pt.U, Pt.locs, Pt.cells, Pt.slots] at X4 l4 y4 z4 st4 hQ4
  subst l4 y4 z4
  obtain ⟨rfl, N4q, e4⟩ := hQ4
  have N4 := Fr.app N3 N4q
  obtain ⟨cq5, kq5, q5a, q5b, q5c⟩ := isOf hZ e4 Eq2
  obtain ⟨_, _, ⟨T5, L5, k5, n5⟩, -, X5, ⟨Lc5, hQ5, l5, y5, z5⟩, st5⟩ := X4.virtualBack hx (y := (⟨"com/example/mersey/mersey/JobTypeSettings", "isLastAttempt", "(I)Z"⟩ : MethodName)) (z := (⟨"com/example/mersey/mersey/JobTypeSettings", "isLastAttempt", "(I)Z"⟩ : MethodName)) hown (mvT hZ (hw _ (List.mem_of_getElem? (i := 27) rfl))) (mvT hZ (hw _ (List.mem_of_getElem? (i := 28) rfl))) (notFace_of_selects (args := #[]) (mvT hZ (hw _ (List.mem_of_getElem? (i := 30) rfl)))) (mvT hZ (hw _ (List.mem_of_getElem? (i := 30) rfl))) (mvT hZ (hw _ (List.mem_of_getElem? (i := 29) rfl))) (by decide) (backOf (W := 0) (own_b5_t l Z a0 hw [] b1 ((5 : Int32) - (1 : Int32)) (5 : Int32) T2.heap n0 (Nat.le_trans Z0 (own_ext K2).1) Fq2_maxAttempts (by decide)) hZ (hw _ (List.mem_of_getElem? (i := 31) rfl)) (hw _ (List.mem_of_getElem? (i := 3) rfl)) (by decide) (by decide)) q5a q5c (g := (mkF m 113 #[.val (.int p0_), .val (.int p1_), .val (.int p2_), .val (.int (1 : Int32)), .val (.int (5 : Int32)), .val (.ref b1), .val (.int (1 : Int32)), .val (.int (1 : Int32)), .unset, .unset, .unset] [(.int ((5 : Int32) - (1 : Int32))), (.ref b1)])) rfl (by rw [hml]; rfl) (Steps.refl _) (argsL := [(.int ((5 : Int32) - (1 : Int32)))]) (rest := []) (lenOf own_pd1 rfl) rfl (by show 2 * 0 + _ ≤ _; exact Nat.le_of_eq rfl) (hb hby at_113) (fun _ _ => ⟨rfl, e4, (by decide : 1 + 0 ≤ _), (by decide : 3 + 0 ≤ _)⟩)
  dsimp only [Pt.U, Pt.locs, Pt.cells, Pt.slots] at X5 l5 y5 z5 st5 hQ5
  subst l5 y5 z5
  obtain ⟨rfl, N5q, e5⟩ := hQ5
  have N5 := Fr.app N4 N5q
  obtain ⟨cq6, kq6, q6a, q6b, q6c⟩ := isOf hZ e5 Eq2
  obtain ⟨_, _, ⟨T6, L6, k6, n6⟩, -, X6, ⟨Lc6, hQ6, l6, y6, z6⟩, st6⟩ := X5.virtualBack hx (y := (⟨"com/example/mersey/mersey/JobTypeSettings", "isLastAttempt", "(I)Z"⟩ : MethodName)) (z := (⟨"com/example/mersey/mersey/JobTypeSettings", "isLastAttempt", "(I)Z"⟩ : MethodName)) hown (mvT hZ (hw _ (List.mem_of_getElem? (i := 27) rfl))) (mvT hZ (hw _ (List.mem_of_getElem? (i := 28) rfl))) (notFace_of_selects (args := #[]) (mvT hZ (hw _ (List.mem_of_getElem? (i := 30) rfl)))) (mvT hZ (hw _ (List.mem_of_getElem? (i := 30) rfl))) (mvT hZ (hw _ (List.mem_of_getElem? (i := 29) rfl))) (by decide) (backOf (W := 0) (own_b5_t l Z a0 hw [] b1 (l_.toInt32) (5 : Int32) T2.heap n0 (Nat.le_trans Z0 (own_ext K2).1) Fq2_maxAttempts hf8) hZ (hw _ (List.mem_of_getElem? (i := 31) rfl)) (hw _ (List.mem_of_getElem? (i := 3) rfl)) (by decide) (by decide)) q6a q6c (g := (mkF m 153 #[.val (.int p0_), .val (.int p1_), .val (.int p2_), .val (.int (1 : Int32)), .val (.int (5 : Int32)), .val (.ref b1), .val (.int (1 : Int32)), .val (.int (1 : Int32)), .val (.int f_), .val (.long l_), .second] [(.int (l_.toInt32)), (.ref b1)])) rfl (by rw [hml]; rfl) (Steps.refl _) (argsL := [(.int (l_.toInt32))]) (rest := []) (lenOf own_pd1 rfl) rfl (by show 2 * 0 + _ ≤ _; exact Nat.le_of_eq rfl) (hb hby at_153) (fun _ _ => ⟨rfl, e5, (by decide : 1 + 0 ≤ _), (by decide : 3 + 0 ≤ _)⟩)
  dsimp only [Pt.U, Pt.locs, Pt.cells, Pt.slots] at X6 l6 y6 z6 st6 hQ6
  subst l6 y6 z6
  obtain ⟨rfl, N6q, e6⟩ := hQ6
  have N6 := Fr.app N5 N6q
  obtain ⟨fs, hr, hrun, hended, hW, hsame⟩ := X6.leave (v := some (.int (1 : Int32))) (fun h => by rw [Bd.returns] at h; cases h)
  refine ⟨_, _, pre0 _ ?_, hrun, hended, _, _, rfl, ?_, ⟨_, rfl⟩, hW, hsame.mono (by decide) (by decide)⟩
  · show Steps p.tables e below (s₁.setTop (mkF m 0 #[.val (.int p0_), .val (.int p1_), .val (.int p2_), .unset, .unset, .unset, .unset, .unset, .unset, .unset, .unset] [])) _
    refine XS.iloadN X0.here hx rfl (hb hby at_0) rfl ?_
    refine XS.iconst X0.here hx rfl (hb hby at_1) ?_
    refine XS.iand X0.here hx rfl (hb hby at_2) rfl ?_
    show Steps p.tables e below (s₁.setTop (mkF m 3 #[.val (.int p0_), .val (.int p1_), .val (.int p2_), .unset, .unset, .unset, .unset, .unset, .unset, .unset, .unset] [(.int (p0_ &&& (1 : Int32)))])) _
    rw [hf0]
    refine XS.ifNo X0.here hx rfl (hb hby at_3) rfl ((if0 _ _).trans (feq (by decide : ¬ ((1 : Int32) = (0 : Int32)))).1) ?_
    refine XS.iconst X0.here hx rfl (hb hby at_6) ?_
    refine XS.goto X0.here hx rfl (pc0 := 7) (pc' := 11) rfl (hb hby at_7) (by decide) (by decide) ?_
    show Steps p.tables e below (s₁.setTop (mkF m 11 #[.val (.int p0_), .val (.int p1_), .val (.int p2_), .unset, .unset, .unset, .unset, .unset, .unset, .unset, .unset] [(.int (1 : Int32))])) _
    refine XS.istoreN X0.here hx rfl (hb hby at_11) rfl (l' := #[.val (.int p0_), .val (.int p1_), .val (.int p2_), .val (.int (1 : Int32)), .unset, .unset, .unset, .unset, .unset, .unset, .unset]) rfl ?_
    refine XS.iloadN X0.here hx rfl (hb hby at_12) rfl ?_
    show Steps p.tables e below (s₁.setTop (mkF m 13 #[.val (.int p0_), .val (.int p1_), .val (.int p2_), .val (.int (1 : Int32)), .unset, .unset, .unset, .unset, .unset, .unset, .unset] [(.int p1_)])) _
    refine X0.ldcInt hx hown (mvT hZ (hw _ (List.mem_of_getElem? (i := 0) rfl))) (g := (mkF m 13 #[.val (.int p0_), .val (.int p1_), .val (.int p2_), .val (.int (1 : Int32)), .unset, .unset, .unset, .unset, .unset, .unset, .unset] [(.int p1_)])) rfl (hb hby at_13) _ ?_
    refine XS.iand X0.here hx rfl (hb hby at_15) rfl ?_
    show Steps p.tables e below (s₁.setTop (mkF m 16 #[.val (.int p0_), .val (.int p1_), .val (.int p2_), .val (.int (1 : Int32)), .unset, .unset, .unset, .unset, .unset, .unset, .unset] [(.int (p1_ &&& (2147483647 : Int32)))])) _
    rw [hf1]
    refine XS.istore X0.here hx rfl (hb hby at_16) rfl (l' := #[.val (.int p0_), .val (.int p1_), .val (.int p2_), .val (.int (1 : Int32)), .val (.int m_), .unset, .unset, .unset, .unset, .unset, .unset]) rfl ?_
    refine XS.iload X0.here hx rfl (hb hby at_18) rfl ?_
    refine XS.ifNo X0.here hx rfl (hb hby at_20) rfl ((if0 _ _).trans (teq hf2).2) ?_
    show Steps p.tables e below (s₁.setTop (mkF m 23 #[.val (.int p0_), .val (.int p1_), .val (.int p2_), .val (.int (1 : Int32)), .val (.int m_), .unset, .unset, .unset, .unset, .unset, .unset] [])) _
    refine XS.iconst X0.here hx rfl (hb hby at_23) ?_
    refine XS.istore X0.here hx rfl (hb hby at_24) rfl (l' := #[.val (.int p0_), .val (.int p1_), .val (.int p2_), .val (.int (1 : Int32)), .val (.int (1 : Int32)), .unset, .unset, .unset, .unset, .unset, .unset]) rfl ?_
    refine XS.iloadN X0.here hx rfl (hb hby at_26) rfl ?_
    refine XS.ifNo X0.here hx rfl (hb hby at_27) rfl ((if0 _ _).trans (feq (by decide : ¬ ((1 : Int32) = (0 : Int32)))).1) ?_
    show Steps p.tables e below (s₁.setTop (mkF m 30 #[.val (.int p0_), .val (.int p1_), .val (.int p2_), .val (.int (1 : Int32)), .val (.int (1 : Int32)), .unset, .unset, .unset, .unset, .unset, .unset] [])) _
    refine st1 _ ?_
    refine XS.dup X1.here hx rfl (hb hby at_33) rfl rfl ?_
    show Steps p.tables e below (T1.setTop (mkF m 34 #[.val (.int p0_), .val (.int p1_), .val (.int p2_), .val (.int (1 : Int32)), .val (.int (1 : Int32)), .unset, .unset, .unset, .unset, .unset, .unset] [(.ref b1), (.ref b1)])) _
    refine st2.trans ?_
    refine XS.astore X2.here hx rfl (hb hby at_37) rfl rfl (l' := #[.val (.int p0_), .val (.int p1_), .val (.int p2_), .val (.int (1 : Int32)), .val (.int (1 : Int32)), .val (.ref b1), .unset, .unset, .unset, .unset, .unset]) rfl ?_
    refine XS.iconst X2.here hx rfl (hb hby at_39) ?_
    refine XS.istore X2.here hx rfl (hb hby at_40) rfl (l' := #[.val (.int p0_), .val (.int p1_), .val (.int p2_), .val (.int (1 : Int32)), .val (.int (5 : Int32)), .val (.ref b1), .unset, .unset, .unset, .unset, .unset]) rfl ?_
    show Steps p.tables e below (T2.setTop (mkF m 42 #[.val (.int p0_), .val (.int p1_), .val (.int p2_), .val (.int (1 : Int32)), .val (.int (5 : Int32)), .val (.ref b1), .unset, .unset, .unset, .unset, .unset] [])) _
    refine XS.goto X2.here hx rfl (pc0 := 42) (pc' := 59) rfl (hb hby at_42) (by decide) (by decide) ?_
    refine XS.aload X2.here hx rfl (hb hby at_59) rfl rfl ?_
    refine XS.iloadN X2.here hx rfl (hb hby at_61) rfl ?_
    show Steps p.tables e below (T2.setTop (mkF m 62 #[.val (.int p0_), .val (.int p1_), .val (.int p2_), .val (.int (1 : Int32)), .val (.int (5 : Int32)), .val (.ref b1), .unset, .unset, .unset, .unset, .unset] [(.int p2_), (.ref b1)])) _
    refine st3.trans ?_
    refine XS.istore X3.here hx rfl (hb hby at_65) rfl (l' := #[.val (.int p0_), .val (.int p1_), .val (.int p2_), .val (.int (1 : Int32)), .val (.int (5 : Int32)), .val (.ref b1), .val (.int (1 : Int32)), .unset, .unset, .unset, .unset]) rfl ?_
    refine XS.iloadN X3.here hx rfl (hb hby at_67) rfl ?_
    refine XS.iload X3.here hx rfl (hb hby at_68) rfl ?_
    show Steps p.tables e below (T3.setTop (mkF m 70 #[.val (.int p0_), .val (.int p1_), .val (.int p2_), .val (.int (1 : Int32)), .val (.int (5 : Int32)), .val (.ref b1), .val (.int (1 : Int32)), .unset, .unset, .unset, .unset] [(.int (5 : Int32)), (.int p2_)])) _
    refine XS.icmpNo X3.here hx rfl (hb hby at_70) rfl (flt hf3).1 ?_
    refine XS.iconst X3.here hx rfl (hb hby at_73) ?_
    refine XS.goto X3.here hx rfl (pc0 := 74) (pc' := 78) rfl (hb hby at_74) (by decide) (by decide) ?_
    refine XS.istore X3.here hx rfl (hb hby at_78) rfl (l' := #[.val (.int p0_), .val (.int p1_), .val (.int p2_), .val (.int (1 : Int32)), .val (.int (5 : Int32)), .val (.ref b1), .val (.int (1 : Int32)), .val (.int (1 : Int32)), .unset, .unset, .unset]) rfl ?_
    show Steps p.tables e below (T3.setTop (mkF m 80 #[.val (.int p0_), .val (.int p1_), .val (.int p2_), .val (.int (1 : Int32)), .val (.int (5 : Int32)), .val (.ref b1), .val (.int (1 : Int32)), .val (.int (1 : Int32)), .unset, .unset, .unset] [])) _
    refine XS.iload X3.here hx rfl (hb hby at_80) rfl ?_
    refine XS.iload X3.here hx rfl (hb hby at_82) rfl ?_
    refine XS.icmpYes X3.here hx rfl (pc0 := 84) (pc' := 89) rfl (hb hby at_84) rfl (teq (rfl : (1 : Int32) = (1 : Int32))).1 (by decide) (by decide) ?_
    refine XS.aload X3.here hx rfl (hb hby at_89) rfl rfl ?_
    show Steps p.tables e below (T3.setTop (mkF m 91 #[.val (.int p0_), .val (.int p1_), .val (.int p2_), .val (.int (1 : Int32)), .val (.int (5 : Int32)), .val (.ref b1), .val (.int (1 : Int32)), .val (.int (1 : Int32)), .unset, .unset, .unset] [(.ref b1)])) _
    refine XS.iload X3.here hx rfl (hb hby at_91) rfl ?_
    show Steps p.tables e below (T3.setTop (mkF m 93 #[.val (.int p0_), .val (.int p1_), .val (.int p2_), .val (.int (1 : Int32)), .val (.int (5 : Int32)), .val (.ref b1), .val (.int (1 : Int32)), .val (.int (1 : Int32)), .unset, .unset, .unset] [(.int (5 : Int32)), (.ref b1)])) _
    refine st4.trans ?_
    refine XS.ifYes X4.here hx rfl (pc0 := 96) (pc' := 101) rfl (hb hby at_96) rfl ((if0 _ _).trans (feq (by decide : ¬ ((1 : Int32) = (0 : Int32)))).2) (by decide) (by decide) ?_
    refine XS.iload X4.here hx rfl (hb hby at_101) rfl ?_
    refine XS.iconst X4.here hx rfl (hb hby at_103) ?_
    show Steps p.tables e below (T4.setTop (mkF m 104 #[.val (.int p0_), .val (.int p1_), .val (.int p2_), .val (.int (1 : Int32)), .val (.int (5 : Int32)), .val (.ref b1), .val (.int (1 : Int32)), .val (.int (1 : Int32)), .unset, .unset, .unset] [(.int (1 : Int32)), (.int (5 : Int32))])) _
    refine XS.icmpNo X4.here hx rfl (hb hby at_104) rfl (tlt (by decide : (1 : Int32) < (5 : Int32))).2.2.2 ?_
    refine XS.aload X4.here hx rfl (hb hby at_107) rfl rfl ?_
    refine XS.iload X4.here hx rfl (hb hby at_109) rfl ?_
    refine XS.iconst X4.here hx rfl (hb hby at_111) ?_
    show Steps p.tables e below (T4.setTop (mkF m 112 #[.val (.int p0_), .val (.int p1_), .val (.int p2_), .val (.int (1 : Int32)), .val (.int (5 : Int32)), .val (.ref b1), .val (.int (1 : Int32)), .val (.int (1 : Int32)), .unset, .unset, .unset] [(.int (1 : Int32)), (.int (5 : Int32)), (.ref b1)])) _
    refine XS.isub X4.here hx rfl (hb hby at_112) rfl ?_
    show Steps p.tables e below (T4.setTop (mkF m 113 #[.val (.int p0_), .val (.int p1_), .val (.int p2_), .val (.int (1 : Int32)), .val (.int (5 : Int32)), .val (.ref b1), .val (.int (1 : Int32)), .val (.int (1 : Int32)), .unset, .unset, .unset] [(.int ((5 : Int32) - (1 : Int32))), (.ref b1)])) _
    refine st5.trans ?_
    refine XS.ifYes X5.here hx rfl (pc0 := 116) (pc' := 121) rfl (hb hby at_116) rfl ((if0 _ _).trans (teq (rfl : (0 : Int32) = (0 : Int32))).1) (by decide) (by decide) ?_
    refine XS.iloadN X5.here hx rfl (hb hby at_121) rfl ?_
    refine XS.iconst X5.here hx rfl (hb hby at_122) ?_
    show Steps p.tables e below (T5.setTop (mkF m 123 #[.val (.int p0_), .val (.int p1_), .val (.int p2_), .val (.int (1 : Int32)), .val (.int (5 : Int32)), .val (.ref b1), .val (.int (1 : Int32)), .val (.int (1 : Int32)), .unset, .unset, .unset] [(.int (1 : Int32)), (.int p0_)])) _
    refine XS.iushr X5.here hx rfl (hb hby at_123) rfl ?_
    refine XS.iconst X5.here hx rfl (hb hby at_124) ?_
    show Steps p.tables e below (T5.setTop (mkF m 125 #[.val (.int p0_), .val (.int p1_), .val (.int p2_), .val (.int (1 : Int32)), .val (.int (5 : Int32)), .val (.ref b1), .val (.int (1 : Int32)), .val (.int (1 : Int32)), .unset, .unset, .unset] [(.int (5 : Int32)), (.int ((p0_.toUInt32 >>> ((1 : Int32) &&& 31).toUInt32).toInt32))])) _
    refine iremM X5 hx rfl (hb hby at_125) rfl (by decide) ?_
    show Steps p.tables e below (T5.setTop (mkF m 126 #[.val (.int p0_), .val (.int p1_), .val (.int p2_), .val (.int (1 : Int32)), .val (.int (5 : Int32)), .val (.ref b1), .val (.int (1 : Int32)), .val (.int (1 : Int32)), .unset, .unset, .unset] [(.int (((p0_.toUInt32 >>> ((1 : Int32) &&& 31).toUInt32).toInt32) % (5 : Int32)))])) _
    rw [hf4]
    refine XS.iconst X5.here hx rfl (hb hby at_126) ?_
    refine XS.isub X5.here hx rfl (hb hby at_127) rfl ?_
    show Steps p.tables e below (T5.setTop (mkF m 128 #[.val (.int p0_), .val (.int p1_), .val (.int p2_), .val (.int (1 : Int32)), .val (.int (5 : Int32)), .val (.ref b1), .val (.int (1 : Int32)), .val (.int (1 : Int32)), .unset, .unset, .unset] [(.int (o_ - (2 : Int32)))])) _
    rw [hf5]
    refine XS.istore X5.here hx rfl (hb hby at_128) rfl (l' := #[.val (.int p0_), .val (.int p1_), .val (.int p2_), .val (.int (1 : Int32)), .val (.int (5 : Int32)), .val (.ref b1), .val (.int (1 : Int32)), .val (.int (1 : Int32)), .val (.int f_), .unset, .unset]) rfl ?_
    refine XS.iload X5.here hx rfl (hb hby at_130) rfl ?_
    refine XS.i2l X5.here hx rfl (hb hby at_132) rfl ?_
    show Steps p.tables e below (T5.setTop (mkF m 133 #[.val (.int p0_), .val (.int p1_), .val (.int p2_), .val (.int (1 : Int32)), .val (.int (5 : Int32)), .val (.ref b1), .val (.int (1 : Int32)), .val (.int (1 : Int32)), .val (.int f_), .unset, .unset] [(.long ((5 : Int32).toInt64))])) _
    refine XS.iload X5.here hx rfl (hb hby at_133) rfl ?_
    refine XS.i2l X5.here hx rfl (hb hby at_135) rfl ?_
    refine XS.ladd X5.here hx rfl (hb hby at_136) rfl ?_
    show Steps p.tables e below (T5.setTop (mkF m 137 #[.val (.int p0_), .val (.int p1_), .val (.int p2_), .val (.int (1 : Int32)), .val (.int (5 : Int32)), .val (.ref b1), .val (.int (1 : Int32)), .val (.int (1 : Int32)), .val (.int f_), .unset, .unset] [(.long (((5 : Int32).toInt64) + (f_.toInt64)))])) _
    rw [hf6]
    refine XS.lstore X5.here hx rfl (hb hby at_137) rfl (l' := #[.val (.int p0_), .val (.int p1_), .val (.int p2_), .val (.int (1 : Int32)), .val (.int (5 : Int32)), .val (.ref b1), .val (.int (1 : Int32)), .val (.int (1 : Int32)), .val (.int f_), .val (.long l_), .second]) rfl ?_
    refine XS.lload X5.here hx rfl (hb hby at_139) rfl ?_
    show Steps p.tables e below (T5.setTop (mkF m 141 #[.val (.int p0_), .val (.int p1_), .val (.int p2_), .val (.int (1 : Int32)), .val (.int (5 : Int32)), .val (.ref b1), .val (.int (1 : Int32)), .val (.int (1 : Int32)), .val (.int f_), .val (.long l_), .second] [(.long l_)])) _
    refine X5.ldc2Long hx hown (mvT hZ (hw _ (List.mem_of_getElem? (i := 32) rfl))) (g := (mkF m 141 #[.val (.int p0_), .val (.int p1_), .val (.int p2_), .val (.int (1 : Int32)), .val (.int (5 : Int32)), .val (.ref b1), .val (.int (1 : Int32)), .val (.int (1 : Int32)), .val (.int f_), .val (.long l_), .second] [(.long l_)])) rfl (hb hby at_141) _ ?_
    refine XS.lcmp X5.here hx rfl (hb hby at_144) rfl ?_
    refine XS.ifNo X5.here hx rfl (hb hby at_145) rfl ((if0 _ _).trans (flt hf7).2.2.1) ?_
    refine XS.aload X5.here hx rfl (hb hby at_148) rfl rfl ?_
    show Steps p.tables e below (T5.setTop (mkF m 150 #[.val (.int p0_), .val (.int p1_), .val (.int p2_), .val (.int (1 : Int32)), .val (.int (5 : Int32)), .val (.ref b1), .val (.int (1 : Int32)), .val (.int (1 : Int32)), .val (.int f_), .val (.long l_), .second] [(.ref b1)])) _
    refine XS.lload X5.here hx rfl (hb hby at_150) rfl ?_
    refine XS.l2i X5.here hx rfl (hb hby at_152) rfl ?_
    show Steps p.tables e below (T5.setTop (mkF m 153 #[.val (.int p0_), .val (.int p1_), .val (.int p2_), .val (.int (1 : Int32)), .val (.int (5 : Int32)), .val (.ref b1), .val (.int (1 : Int32)), .val (.int (1 : Int32)), .val (.int f_), .val (.long l_), .second] [(.int (l_.toInt32)), (.ref b1)])) _
    refine st6.trans ?_
    refine XS.iload X6.here hx rfl (hb hby at_156) rfl ?_
    refine XS.ifYes X6.here hx rfl (pc0 := 158) (pc' := 165) rfl (hb hby at_158) rfl ((if0 _ _).trans (tlt hf9).1) (by decide) (by decide) ?_
    refine XS.iconst X6.here hx rfl (hb hby at_165) ?_
    show Steps p.tables e below (T6.setTop (mkF m 166 #[.val (.int p0_), .val (.int p1_), .val (.int p2_), .val (.int (1 : Int32)), .val (.int (5 : Int32)), .val (.ref b1), .val (.int (1 : Int32)), .val (.int (1 : Int32)), .val (.int f_), .val (.long l_), .second] [(.int (0 : Int32)), (.int (0 : Int32))])) _
    refine XS.icmpYes X6.here hx rfl (pc0 := 166) (pc' := 171) rfl (hb hby at_166) rfl (teq (rfl : (0 : Int32) = (0 : Int32))).1 (by decide) (by decide) ?_
    refine XS.iconst X6.here hx rfl (hb hby at_171) ?_
    show Steps p.tables e below (T6.setTop (mkF m 172 #[.val (.int p0_), .val (.int p1_), .val (.int p2_), .val (.int (1 : Int32)), .val (.int (5 : Int32)), .val (.ref b1), .val (.int (1 : Int32)), .val (.int (1 : Int32)), .val (.int f_), .val (.long l_), .second] [(.int (1 : Int32))])) _
    exact retN X6 hx (t := .boolean) Bd.returns (by simp) (hb hby at_172) hr
  · show own_QL n0 _ T6.heap _
    exact ⟨rfl, N6⟩
set_option maxRecDepth 65536 in
set_option maxHeartbeats 40000000 in
theorem own_law_Dzgg (l : Launch) (Z : State) (a0 : Array Value) (hw : ∀ d ∈ tables_1, d.before a0 Z = true) (ws : List Jvm.Cond) (p0_ : Int32) (p1_ : Int32) (p2_ : Int32) (m_ : Int32) (w_DEFAULT_BACKOFF : Addr) (o_ : Int32) (f_ : Int32) (l_ : Int64) (h0 : Heap) (n0 : Nat) (Z0 : n0 ≤ h0.size) (S_DEFAULT_BACKOFF : Sta Z h0 "com/example/mersey/mersey/JobTypeSettings" "DEFAULT_BACKOFF" "Lcom/example/mersey/mersey/Backoff;" (.ref w_DEFAULT_BACKOFF)) (hf0 : (p0_ &&& (1 : Int32)) = (1 : Int32)) (hf1 : (p1_ &&& (2147483647 : Int32)) = m_) (hf2 : m_ = (0 : Int32)) (hf3 : ¬ (p2_ < (5 : Int32))) (hf4 : (((p0_.toUInt32 >>> ((1 : Int32) &&& 31).toUInt32).toInt32) % (5 : Int32)) = o_) (hf5 : (o_ - (2 : Int32)) = f_) (hf6 : (((5 : Int32).toInt64) + (f_.toInt64)) = l_) (hf7 : ¬ ((0 : Int32) < (lcmpW l_ (2147483647 : Int64)))) (hf8 : ¬ ((l_.toInt32) < (5 : Int32))) (hf9 : ¬ (f_ < (0 : Int32))) :
    MetFree l x (head1 (Jvm.Cond.code x code maxLocals ret :: ws) room_1) (fun a U => a = #[(.int p0_), (.int p1_), (.int p2_)] ∧ Z.Warmed39 U.vm ∧ U.heap = h0) (fun _ _ _ _ _ => True) (fun _ U o U' => ∃ v L, o = .returned v ∧ own_QL n0 v U'.heap L ∧ FrameEnd U o U' L room_1.cells room_1.slots) := by
  refine MetFree.of_bodySF (plainFor_of_name own_pn1) hisR ?_
  intro p e s m args below meth c s₁ Bd hml0 hP hK
  obtain ⟨rfl, hZ, hh⟩ := hP
  have hx := Bd.exec
  have hby := Bd.bytes
  have hml : c.maxLocals = 11 := hml0
  have hown : s.vm.findClass "com/example/mersey/mersey/JobTypeSettingsIsLastAttemptPinLaw" = some m.cls := findClass_of_methodNamed Bd.named
  have hnm := (name_of_methodNamed Bd.named Bd.method).1
  have X0 : Stand p l e room_1 s m #[(.int p0_), (.int p1_), (.int p2_)] below meth c s₁ [] 0 0 := Stand.of_body Bd
  have e0 : s₁.heap = h0 := by rw [← hh, Bd.state]; rfl
  have N0 := Fr.nil n0
  have pre0 : ∀ t, Steps p.tables e below (s₁.setTop (mkF m 0 #[.val (.int p0_), .val (.int p1_), .val (.int p2_), .unset, .unset, .unset, .unset, .unset, .unset, .unset, .unset] [])) t → Steps p.tables e below (s₁.setTop (entryFrame m #[(.int p0_), (.int p1_), (.int p2_)] maxLocals)) t := fun t k => castTop (own_ef2 m p0_ p1_ p2_) k
  obtain ⟨T1, h1, X1, e1, E1, A1, D1, -, st1⟩ := newO X0 hx hZ hown (hw _ (List.mem_of_getElem? (i := 1) rfl)) (hw _ (List.mem_of_getElem? (i := 2) rfl)) (hw _ (List.mem_of_getElem? (i := 3) rfl)) e0 (g := (mkF m 30 #[.val (.int p0_), .val (.int p1_), .val (.int p2_), .val (.int (1 : Int32)), .val (.int (1 : Int32)), .unset, .unset, .unset, .unset, .unset, .unset] [])) rfl (hb hby at_30) (by decide) (by decide)
  obtain ⟨b1, g1⟩ : ∃ z, z = h0.size := ⟨_, rfl⟩
  rw [← g1] at A1 D1 st1
  have lo_b1 : h0.size ≤ b1 := Nat.le_of_eq g1.symm
  have sz_b1 : h0.size ≤ b1 := Nat.le_trans (Keep.refl h0 []).1 lo_b1
  have g_b1 : n0 ≤ b1 := Nat.le_trans Z0 sz_b1
  have K1 : Keep h0 h1 [] := (Keep.refl h0 []).ext E1
  have F_maxAttempts_b1_1 : Fld Z h1 b1 "com/example/mersey/mersey/JobTypeSettings" "maxAttempts" "I" (.int (0 : Int32)) := D1 (Or.inl (hw _ (List.mem_of_getElem? (i := 11) rfl))) (ty := .int) (by decide)
  have F_backoff_b1_1 : Fld Z h1 b1 "com/example/mersey/mersey/JobTypeSettings" "backoff" "Lcom/example/mersey/mersey/Backoff;" .null := D1 (Or.inl (hw _ (List.mem_of_getElem? (i := 15) rfl))) (ty := (.object "com/example/mersey/mersey/Backoff")) (by decide)
  have F_longestRunTime_b1_1 : Fld Z h1 b1 "com/example/mersey/mersey/JobTypeSettings" "longestRunTime" "Ljava/time/Duration;" .null := D1 (Or.inl (hw _ (List.mem_of_getElem? (i := 26) rfl))) (ty := (.object "java/time/Duration")) (by decide)
  obtain ⟨_, _, ⟨T2, L2, k2, n2⟩, -, X2, ⟨Lc2, hQ2, l2, y2, z2⟩, st2⟩ := X1.specialBack hx (y := (⟨"com/example/mersey/mersey/JobTypeSettings", "<init>", "()V"⟩ : MethodName)) rfl hown (mvT hZ (hw _ (List.mem_of_getElem? (i := 4) rfl))) (mvT hZ (hw _ (List.mem_of_getElem? (i := 5) rfl))) (mvT hZ (hw _ (List.mem_of_getElem? (i := 6) rfl))) (by decide) (backOf (W := 1) (own_b1_x l Z a0 hw [] b1 (.int (0 : Int32)) w_DEFAULT_BACKOFF .null .null h1 n0 (Nat.le_trans Z0 (own_ext K1).1) A1 F_maxAttempts_b1_1 g_b1 (S_DEFAULT_BACKOFF.ext (own_ext K1)) F_backoff_b1_1 F_longestRunTime_b1_1) hZ (hw _ (List.mem_of_getElem? (i := 6) rfl)) (hw _ (List.mem_of_getElem? (i := 3) rfl)) (by decide) (by decide)) (g := (mkF m 34 #[.val (.int p0_), .val (.int p1_), .val (.int p2_), .val (.int (1 : Int32)), .val (.int (1 : Int32)), .unset, .unset, .unset, .unset, .unset, .unset] [(.ref b1), (.ref b1)])) rfl (by rw [hml]; rfl) (Steps.refl _) (a := b1) (argsL := []) (rest := [(.ref b1)]) (lenOf own_pd0 rfl) rfl (by show 2 * 0 + _ ≤ _; exact Nat.le_of_eq rfl) (hb hby at_34) (fun _ _ => ⟨rfl, e1, (by decide : 1 + 0 ≤ _), (by decide : 3 + 0 ≤ _)⟩)
  dsimp only [Pt.U, Pt.locs, Pt.cells, Pt.slots] at X2 l2 y2 z2 st2 hQ2
  subst l2 y2 z2
  obtain ⟨rfl, N2q, Kq2, Eq2, Fq2_maxAttempts, Fq2_backoff, Fq2_longestRunTime⟩ := hQ2
  have N2 := Fr.app N0 N2q
  have K2 : Keep h0 T2.heap [] := K1.trans Kq2 (fun x hx => by cases List.mem_singleton.mp hx; exact Or.inr sz_b1)
  obtain ⟨cq3, kq3, q3a, q3b, q3c⟩ := isOf hZ rfl Eq2
  obtain ⟨_, _, ⟨T3, L3, k3, n3⟩, -, X3, ⟨Lc3, hQ3, l3, y3, z3⟩, st3⟩ := X2.virtualBack hx (y := (⟨"com/example/mersey/mersey/JobTypeSettings", "isLastAttempt", "(I)Z"⟩ : MethodName)) (z := (⟨"com/example/mersey/mersey/JobTypeSettings", "isLastAttempt", "(I)Z"⟩ : MethodName)) hown (mvT hZ (hw _ (List.mem_of_getElem? (i := 27) rfl))) (mvT hZ (hw _ (List.mem_of_getElem? (i := 28) rfl))) (notFace_of_selects (args := #[]) (mvT hZ (hw _ (List.mem_of_getElem? (i := 30) rfl)))) (mvT hZ (hw _ (List.mem_of_getElem? (i := 30) rfl))) (mvT hZ (hw _ (List.mem_of_getElem? (i := 29) rfl))) (by decide) (backOf (W := 0) (own_b5_f l Z a0 hw [] b1 p2_ (5 : Int32) T2.heap n0 (Nat.le_trans Z0 (own_ext K2).1) Fq2_maxAttempts hf3) hZ (hw _ (List.mem_of_getElem? (i := 31) rfl)) (hw _ (List.mem_of_getElem? (i := 3) rfl)) (by decide) (by decide)) q3a q3c (g := (mkF m 62 #[.val (.int p0_), .val (.int p1_), .val (.int p2_), .val (.int (1 : Int32)), .val (.int (5 : Int32)), .val (.ref b1), .unset, .unset, .unset, .unset, .unset] [(.int p2_), (.ref b1)])) rfl (by rw [hml]; rfl) (Steps.refl _) (argsL := [(.int p2_)]) (rest := []) (lenOf own_pd1 rfl) rfl (by show 2 * 0 + _ ≤ _; exact Nat.le_of_eq rfl) (hb hby at_62) (fun _ _ => ⟨rfl, rfl, (by decide : 1 + 0 ≤ _), (by decide : 3 + 0 ≤ _)⟩)
  dsimp only [Pt.U, Pt.locs, Pt.cells, Pt.slots] at X3 l3 y3 z3 st3 hQ3
  subst l3 y3 z3
  obtain ⟨rfl, N3q, e3⟩ := hQ3
  have N3 := Fr.app N2 N3q
  obtain ⟨cq4, kq4, q4a, q4b, q4c⟩ := isOf hZ e3 Eq2
  obtain ⟨_, _, ⟨T4, L4, k4, n4⟩, -, X4, ⟨Lc4, hQ4, l4, y4, z4⟩, st4⟩ := X3.virtualBack hx (y := (⟨"com/example/mersey/mersey/JobTypeSettings", "isLastAttempt", "(I)Z"⟩ : MethodName)) (z := (⟨"com/example/mersey/mersey/JobTypeSettings", "isLastAttempt", "(I)Z"⟩ : MethodName)) hown (mvT hZ (hw _ (List.mem_of_getElem? (i := 27) rfl))) (mvT hZ (hw _ (List.mem_of_getElem? (i := 28) rfl))) (notFace_of_selects (args := #[]) (mvT hZ (hw _ (List.mem_of_getElem? (i := 30) rfl)))) (mvT hZ (hw _ (List.mem_of_getElem? (i := 30) rfl))) (mvT hZ (hw _ (List.mem_of_getElem? (i := 29) rfl))) (by decide) (backOf (W := 0) (own_b5_f l Z a0 hw [] b1 (5 : Int32) (5 : Int32) T2.heap n0 (Nat.le_trans Z0 (own_ext K2).1) Fq2_maxAttempts (by decide)) hZ (hw _ (List.mem_of_getElem? (i := 31) rfl)) (hw _ (List.mem_of_getElem? (i := 3) rfl)) (by decide) (by decide)) q4a q4c (g := (mkF m 93 #[.val (.int p0_), .val (.int p1_), .val (.int p2_), .val (.int (1 : Int32)), .val (.int (5 : Int32)), .val (.ref b1), .val (.int (1 : Int32)), .val (.int (1 : Int32)), .unset, .unset, .unset] [(.int (5 : Int32)), (.ref b1)])) rfl (by rw [hml]; rfl) (Steps.refl _) (argsL := [(.int (5 : Int32))]) (rest := []) (lenOf own_pd1 rfl) rfl (by show 2 * 0 + _ ≤ _; exact Nat.le_of_eq rfl) (hb hby at_93) (fun _ _ => ⟨rfl, e3, (by decide : 1 + 0 ≤ _), (by decide : 3 + 0 ≤ _)⟩)
  dsimp only [Pt.U, Pt.locs, Pt.cells, Pt.slots] at X4 l4 y4 z4 st4 hQ4
  subst l4 y4 z4
  obtain ⟨rfl, N4q, e4⟩ := hQ4
  have N4 := Fr.app N3 N4q
  obtain ⟨cq5, kq5, q5a, q5b, q5c⟩ := isOf hZ e4 Eq2
  obtain ⟨_, _, ⟨T5, L5, k5, n5⟩, -, X5, ⟨Lc5, hQ5, l5, y5, z5⟩, st5⟩ := X4.virtualBack hx (y := (⟨"com/example/mersey/mersey/JobTypeSettings", "isLastAttempt", "(I)Z"⟩ : MethodName)) (z := (⟨"com/example/mersey/mersey/JobTypeSettings", "isLastAttempt", "(I)Z"⟩ : MethodName)) hown (mvT hZ (hw _ (List.mem_of_getElem? (i := 27) rfl))) (mvT hZ (hw _ (List.mem_of_getElem? (i := 28) rfl))) (notFace_of_selects (args := #[]) (mvT hZ (hw _ (List.mem_of_getElem? (i := 30) rfl)))) (mvT hZ (hw _ (List.mem_of_getElem? (i := 30) rfl))) (mvT hZ (hw _ (List.mem_of_getElem? (i := 29) rfl))) (by decide) (backOf (W := 0) (own_b5_t l Z a0 hw [] b1 ((5 : Int32) - (1 : Int32)) (5 : Int32) T2.heap n0 (Nat.le_trans Z0 (own_ext K2).1) Fq2_maxAttempts (by decide)) hZ (hw _ (List.mem_of_getElem? (i := 31) rfl)) (hw _ (List.mem_of_getElem? (i := 3) rfl)) (by decide) (by decide)) q5a q5c (g := (mkF m 113 #[.val (.int p0_), .val (.int p1_), .val (.int p2_), .val (.int (1 : Int32)), .val (.int (5 : Int32)), .val (.ref b1), .val (.int (1 : Int32)), .val (.int (1 : Int32)), .unset, .unset, .unset] [(.int ((5 : Int32) - (1 : Int32))), (.ref b1)])) rfl (by rw [hml]; rfl) (Steps.refl _) (argsL := [(.int ((5 : Int32) - (1 : Int32)))]) (rest := []) (lenOf own_pd1 rfl) rfl (by show 2 * 0 + _ ≤ _; exact Nat.le_of_eq rfl) (hb hby at_113) (fun _ _ => ⟨rfl, e4, (by decide : 1 + 0 ≤ _), (by decide : 3 + 0 ≤ _)⟩)
  dsimp only [Pt.U, Pt.locs, Pt.cells, Pt.slots] at X5 l5 y5 z5 st5 hQ5
  subst l5 y5 z5
  obtain ⟨rfl, N5q, e5⟩ := hQ5
  have N5 := Fr.app N4 N5q
  obtain ⟨cq6, kq6, q6a, q6b, q6c⟩ := isOf hZ e5 Eq2
  obtain ⟨_, _, ⟨T6, L6, k6, n6⟩, -, X6, ⟨Lc6, hQ6, l6, y6, z6⟩, st6⟩ := X5.virtualBack hx (y := (⟨"com/example/mersey/mersey/JobTypeSettings", "isLastAttempt", "(I)Z"⟩ : MethodName)) (z := (⟨"com/example/mersey/mersey/JobTypeSettings", "isLastAttempt", "(I)Z"⟩ : MethodName)) hown (mvT hZ (hw _ (List.mem_of_getElem? (i := 27) rfl))) (mvT hZ (hw _ (List.mem_of_getElem? (i := 28) rfl))) (notFace_of_selects (args := #[]) (mvT hZ (hw _ (List.mem_of_getElem? (i := 30) rfl)))) (mvT hZ (hw _ (List.mem_of_getElem? (i := 30) rfl))) (mvT hZ (hw _ (List.mem_of_getElem? (i := 29) rfl))) (by decide) (backOf (W := 0) (own_b5_f l Z a0 hw [] b1 (l_.toInt32) (5 : Int32) T2.heap n0 (Nat.le_trans Z0 (own_ext K2).1) Fq2_maxAttempts hf8) hZ (hw _ (List.mem_of_getElem? (i := 31) rfl)) (hw _ (List.mem_of_getElem? (i := 3) rfl)) (by decide) (by decide)) q6a q6c (g := (mkF m 153 #[.val (.int p0_), .val (.int p1_), .val (.int p2_), .val (.int (1 : Int32)), .val (.int (5 : Int32)), .val (.ref b1), .val (.int (1 : Int32)), .val (.int (1 : Int32)), .val (.int f_), .val (.long l_), .second] [(.int (l_.toInt32)), (.ref b1)])) rfl (by rw [hml]; rfl) (Steps.refl _) (argsL := [(.int (l_.toInt32))]) (rest := []) (lenOf own_pd1 rfl) rfl (by show 2 * 0 + _ ≤ _; exact Nat.le_of_eq rfl) (hb hby at_153) (fun _ _ => ⟨rfl, e5, (by decide : 1 + 0 ≤ _), (by decide : 3 + 0 ≤ _)⟩)
  dsimp only [Pt.U, Pt.locs, Pt.cells, Pt.slots] at X6 l6 y6 z6 st6 hQ6
  subst l6 y6 z6
  obtain ⟨rfl, N6q, e6⟩ := hQ6
  have N6 := Fr.app N5 N6q
  obtain ⟨fs, hr, hrun, hended, hW, hsame⟩ := X6.leave (v := some (.int (1 : Int32))) (fun h => by rw [Bd.returns] at h; cases h)
  refine ⟨_, _, pre0 _ ?_, hrun, hended, _, _, rfl, ?_, ⟨_, rfl⟩, hW, hsame.mono (by decide) (by decide)⟩
  · show Steps p.tables e below (s₁.setTop (mkF m 0 #[.val (.int p0_), .val (.int p1_), .val (.int p2_), .unset, .unset, .unset, .unset, .unset, .unset, .unset, .unset] [])) _
    refine XS.iloadN X0.here hx rfl (hb hby at_0) rfl ?_
    refine XS.iconst X0.here hx rfl (hb hby at_1) ?_
    refine XS.iand X0.here hx rfl (hb hby at_2) rfl ?_
    show Steps p.tables e below (s₁.setTop (mkF m 3 #[.val (.int p0_), .val (.int p1_), .val (.int p2_), .unset, .unset, .unset, .unset, .unset, .unset, .unset, .unset] [(.int (p0_ &&& (1 : Int32)))])) _
    rw [hf0]
    refine XS.ifNo X0.here hx rfl (hb hby at_3) rfl ((if0 _ _).trans (feq (by decide : ¬ ((1 : Int32) = (0 : Int32)))).1) ?_
    refine XS.iconst X0.here hx rfl (hb hby at_6) ?_
    refine XS.goto X0.here hx rfl (pc0 := 7) (pc' := 11) rfl (hb hby at_7) (by decide) (by decide) ?_
    show Steps p.tables e below (s₁.setTop (mkF m 11 #[.val (.int p0_), .val (.int p1_), .val (.int p2_), .unset, .unset, .unset, .unset, .unset, .unset, .unset, .unset] [(.int (1 : Int32))])) _
    refine XS.istoreN X0.here hx rfl (hb hby at_11) rfl (l' := #[.val (.int p0_), .val (.int p1_), .val (.int p2_), .val (.int (1 : Int32)), .unset, .unset, .unset, .unset, .unset, .unset, .unset]) rfl ?_
    refine XS.iloadN X0.here hx rfl (hb hby at_12) rfl ?_
    show Steps p.tables e below (s₁.setTop (mkF m 13 #[.val (.int p0_), .val (.int p1_), .val (.int p2_), .val (.int (1 : Int32)), .unset, .unset, .unset, .unset, .unset, .unset, .unset] [(.int p1_)])) _
    refine X0.ldcInt hx hown (mvT hZ (hw _ (List.mem_of_getElem? (i := 0) rfl))) (g := (mkF m 13 #[.val (.int p0_), .val (.int p1_), .val (.int p2_), .val (.int (1 : Int32)), .unset, .unset, .unset, .unset, .unset, .unset, .unset] [(.int p1_)])) rfl (hb hby at_13) _ ?_
    refine XS.iand X0.here hx rfl (hb hby at_15) rfl ?_
    show Steps p.tables e below (s₁.setTop (mkF m 16 #[.val (.int p0_), .val (.int p1_), .val (.int p2_), .val (.int (1 : Int32)), .unset, .unset, .unset, .unset, .unset, .unset, .unset] [(.int (p1_ &&& (2147483647 : Int32)))])) _
    rw [hf1]
    refine XS.istore X0.here hx rfl (hb hby at_16) rfl (l' := #[.val (.int p0_), .val (.int p1_), .val (.int p2_), .val (.int (1 : Int32)), .val (.int m_), .unset, .unset, .unset, .unset, .unset, .unset]) rfl ?_
    refine XS.iload X0.here hx rfl (hb hby at_18) rfl ?_
    refine XS.ifNo X0.here hx rfl (hb hby at_20) rfl ((if0 _ _).trans (teq hf2).2) ?_
    show Steps p.tables e below (s₁.setTop (mkF m 23 #[.val (.int p0_), .val (.int p1_), .val (.int p2_), .val (.int (1 : Int32)), .val (.int m_), .unset, .unset, .unset, .unset, .unset, .unset] [])) _
    refine XS.iconst X0.here hx rfl (hb hby at_23) ?_
    refine XS.istore X0.here hx rfl (hb hby at_24) rfl (l' := #[.val (.int p0_), .val (.int p1_), .val (.int p2_), .val (.int (1 : Int32)), .val (.int (1 : Int32)), .unset, .unset, .unset, .unset, .unset, .unset]) rfl ?_
    refine XS.iloadN X0.here hx rfl (hb hby at_26) rfl ?_
    refine XS.ifNo X0.here hx rfl (hb hby at_27) rfl ((if0 _ _).trans (feq (by decide : ¬ ((1 : Int32) = (0 : Int32)))).1) ?_
    show Steps p.tables e below (s₁.setTop (mkF m 30 #[.val (.int p0_), .val (.int p1_), .val (.int p2_), .val (.int (1 : Int32)), .val (.int (1 : Int32)), .unset, .unset, .unset, .unset, .unset, .unset] [])) _
    refine st1 _ ?_
    refine XS.dup X1.here hx rfl (hb hby at_33) rfl rfl ?_
    show Steps p.tables e below (T1.setTop (mkF m 34 #[.val (.int p0_), .val (.int p1_), .val (.int p2_), .val (.int (1 : Int32)), .val (.int (1 : Int32)), .unset, .unset, .unset, .unset, .unset, .unset] [(.ref b1), (.ref b1)])) _
    refine st2.trans ?_
    refine XS.astore X2.here hx rfl (hb hby at_37) rfl rfl (l' := #[.val (.int p0_), .val (.int p1_), .val (.int p2_), .val (.int (1 : Int32)), .val (.int (1 : Int32)), .val (.ref b1), .unset, .unset, .unset, .unset, .unset]) rfl ?_
    refine XS.iconst X2.here hx rfl (hb hby at_39) ?_
    refine XS.istore X2.here hx rfl (hb hby at_40) rfl (l' := #[.val (.int p0_), .val (.int p1_), .val (.int p2_), .val (.int (1 : Int32)), .val (.int (5 : Int32)), .val (.ref b1), .unset, .unset, .unset, .unset, .unset]) rfl ?_
    show Steps p.tables e below (T2.setTop (mkF m 42 #[.val (.int p0_), .val (.int p1_), .val (.int p2_), .val (.int (1 : Int32)), .val (.int (5 : Int32)), .val (.ref b1), .unset, .unset, .unset, .unset, .unset] [])) _
    refine XS.goto X2.here hx rfl (pc0 := 42) (pc' := 59) rfl (hb hby at_42) (by decide) (by decide) ?_
    refine XS.aload X2.here hx rfl (hb hby at_59) rfl rfl ?_
    refine XS.iloadN X2.here hx rfl (hb hby at_61) rfl ?_
    show Steps p.tables e below (T2.setTop (mkF m 62 #[.val (.int p0_), .val (.int p1_), .val (.int p2_), .val (.int (1 : Int32)), .val (.int (5 : Int32)), .val (.ref b1), .unset, .unset, .unset, .unset, .unset] [(.int p2_), (.ref b1)])) _
    refine st3.trans ?_
    refine XS.istore X3.here hx rfl (hb hby at_65) rfl (l' := #[.val (.int p0_), .val (.int p1_), .val (.int p2_), .val (.int (1 : Int32)), .val (.int (5 : Int32)), .val (.ref b1), .val (.int (1 : Int32)), .unset, .unset, .unset, .unset]) rfl ?_
    refine XS.iloadN X3.here hx rfl (hb hby at_67) rfl ?_
    refine XS.iload X3.here hx rfl (hb hby at_68) rfl ?_
    show Steps p.tables e below (T3.setTop (mkF m 70 #[.val (.int p0_), .val (.int p1_), .val (.int p2_), .val (.int (1 : Int32)), .val (.int (5 : Int32)), .val (.ref b1), .val (.int (1 : Int32)), .unset, .unset, .unset, .unset] [(.int (5 : Int32)), (.int p2_)])) _
    refine XS.icmpNo X3.here hx rfl (hb hby at_70) rfl (flt hf3).1 ?_
    refine XS.iconst X3.here hx rfl (hb hby at_73) ?_
    refine XS.goto X3.here hx rfl (pc0 := 74) (pc' := 78) rfl (hb hby at_74) (by decide) (by decide) ?_
    refine XS.istore X3.here hx rfl (hb hby at_78) rfl (l' := #[.val (.int p0_), .val (.int p1_), .val (.int p2_), .val (.int (1 : Int32)), .val (.int (5 : Int32)), .val (.ref b1), .val (.int (1 : Int32)), .val (.int (1 : Int32)), .unset, .unset, .unset]) rfl ?_
    show Steps p.tables e below (T3.setTop (mkF m 80 #[.val (.int p0_), .val (.int p1_), .val (.int p2_), .val (.int (1 : Int32)), .val (.int (5 : Int32)), .val (.ref b1), .val (.int (1 : Int32)), .val (.int (1 : Int32)), .unset, .unset, .unset] [])) _
    refine XS.iload X3.here hx rfl (hb hby at_80) rfl ?_
    refine XS.iload X3.here hx rfl (hb hby at_82) rfl ?_
    refine XS.icmpYes X3.here hx rfl (pc0 := 84) (pc' := 89) rfl (hb hby at_84) rfl (teq (rfl : (1 : Int32) = (1 : Int32))).1 (by decide) (by decide) ?_
    refine XS.aload X3.here hx rfl (hb hby at_89) rfl rfl ?_
    show Steps p.tables e below (T3.setTop (mkF m 91 #[.val (.int p0_), .val (.int p1_), .val (.int p2_), .val (.int (1 : Int32)), .val (.int (5 : Int32)), .val (.ref b1), .val (.int (1 : Int32)), .val (.int (1 : Int32)), .unset, .unset, .unset] [(.ref b1)])) _
    refine XS.iload X3.here hx rfl (hb hby at_91) rfl ?_
    show Steps p.tables e below (T3.setTop (mkF m 93 #[.val (.int p0_), .val (.int p1_), .val (.int p2_), .val (.int (1 : Int32)), .val (.int (5 : Int32)), .val (.ref b1), .val (.int (1 : Int32)), .val (.int (1 : Int32)), .unset, .unset, .unset] [(.int (5 : Int32)), (.ref b1)])) _
    refine st4.trans ?_
    refine XS.ifYes X4.here hx rfl (pc0 := 96) (pc' := 101) rfl (hb hby at_96) rfl ((if0 _ _).trans (feq (by decide : ¬ ((1 : Int32) = (0 : Int32)))).2) (by decide) (by decide) ?_
    refine XS.iload X4.here hx rfl (hb hby at_101) rfl ?_
    refine XS.iconst X4.here hx rfl (hb hby at_103) ?_
    show Steps p.tables e below (T4.setTop (mkF m 104 #[.val (.int p0_), .val (.int p1_), .val (.int p2_), .val (.int (1 : Int32)), .val (.int (5 : Int32)), .val (.ref b1), .val (.int (1 : Int32)), .val (.int (1 : Int32)), .unset, .unset, .unset] [(.int (1 : Int32)), (.int (5 : Int32))])) _
    refine XS.icmpNo X4.here hx rfl (hb hby at_104) rfl (tlt (by decide : (1 : Int32) < (5 : Int32))).2.2.2 ?_
    refine XS.aload X4.here hx rfl (hb hby at_107) rfl rfl ?_
    refine XS.iload X4.here hx rfl (hb hby at_109) rfl ?_
    refine XS.iconst X4.here hx rfl (hb hby at_111) ?_
    show Steps p.tables e below (T4.setTop (mkF m 112 #[.val (.int p0_), .val (.int p1_), .val (.int p2_), .val (.int (1 : Int32)), .val (.int (5 : Int32)), .val (.ref b1), .val (.int (1 : Int32)), .val (.int (1 : Int32)), .unset, .unset, .unset] [(.int (1 : Int32)), (.int (5 : Int32)), (.ref b1)])) _
    refine XS.isub X4.here hx rfl (hb hby at_112) rfl ?_
    show Steps p.tables e below (T4.setTop (mkF m 113 #[.val (.int p0_), .val (.int p1_), .val (.int p2_), .val (.int (1 : Int32)), .val (.int (5 : Int32)), .val (.ref b1), .val (.int (1 : Int32)), .val (.int (1 : Int32)), .unset, .unset, .unset] [(.int ((5 : Int32) - (1 : Int32))), (.ref b1)])) _
    refine st5.trans ?_
    refine XS.ifYes X5.here hx rfl (pc0 := 116) (pc' := 121) rfl (hb hby at_116) rfl ((if0 _ _).trans (teq (rfl : (0 : Int32) = (0 : Int32))).1) (by decide) (by decide) ?_
    refine XS.iloadN X5.here hx rfl (hb hby at_121) rfl ?_
    refine XS.iconst X5.here hx rfl (hb hby at_122) ?_
    show Steps p.tables e below (T5.setTop (mkF m 123 #[.val (.int p0_), .val (.int p1_), .val (.int p2_), .val (.int (1 : Int32)), .val (.int (5 : Int32)), .val (.ref b1), .val (.int (1 : Int32)), .val (.int (1 : Int32)), .unset, .unset, .unset] [(.int (1 : Int32)), (.int p0_)])) _
    refine XS.iushr X5.here hx rfl (hb hby at_123) rfl ?_
    refine XS.iconst X5.here hx rfl (hb hby at_124) ?_
    show Steps p.tables e below (T5.setTop (mkF m 125 #[.val (.int p0_), .val (.int p1_), .val (.int p2_), .val (.int (1 : Int32)), .val (.int (5 : Int32)), .val (.ref b1), .val (.int (1 : Int32)), .val (.int (1 : Int32)), .unset, .unset, .unset] [(.int (5 : Int32)), (.int ((p0_.toUInt32 >>> ((1 : Int32) &&& 31).toUInt32).toInt32))])) _
    refine iremM X5 hx rfl (hb hby at_125) rfl (by decide) ?_
    show Steps p.tables e below (T5.setTop (mkF m 126 #[.val (.int p0_), .val (.int p1_), .val (.int p2_), .val (.int (1 : Int32)), .val (.int (5 : Int32)), .val (.ref b1), .val (.int (1 : Int32)), .val (.int (1 : Int32)), .unset, .unset, .unset] [(.int (((p0_.toUInt32 >>> ((1 : Int32) &&& 31).toUInt32).toInt32) % (5 : Int32)))])) _
    rw [hf4]
    refine XS.iconst X5.here hx rfl (hb hby at_126) ?_
    refine XS.isub X5.here hx rfl (hb hby at_127) rfl ?_
    show Steps p.tables e below (T5.setTop (mkF m 128 #[.val (.int p0_), .val (.int p1_), .val (.int p2_), .val (.int (1 : Int32)), .val (.int (5 : Int32)), .val (.ref b1), .val (.int (1 : Int32)), .val (.int (1 : Int32)), .unset, .unset, .unset] [(.int (o_ - (2 : Int32)))])) _
    rw [hf5]
    refine XS.istore X5.here hx rfl (hb hby at_128) rfl (l' := #[.val (.int p0_), .val (.int p1_), .val (.int p2_), .val (.int (1 : Int32)), .val (.int (5 : Int32)), .val (.ref b1), .val (.int (1 : Int32)), .val (.int (1 : Int32)), .val (.int f_), .unset, .unset]) rfl ?_
    refine XS.iload X5.here hx rfl (hb hby at_130) rfl ?_
    refine XS.i2l X5.here hx rfl (hb hby at_132) rfl ?_
    show Steps p.tables e below (T5.setTop (mkF m 133 #[.val (.int p0_), .val (.int p1_), .val (.int p2_), .val (.int (1 : Int32)), .val (.int (5 : Int32)), .val (.ref b1), .val (.int (1 : Int32)), .val (.int (1 : Int32)), .val (.int f_), .unset, .unset] [(.long ((5 : Int32).toInt64))])) _
    refine XS.iload X5.here hx rfl (hb hby at_133) rfl ?_
    refine XS.i2l X5.here hx rfl (hb hby at_135) rfl ?_
    refine XS.ladd X5.here hx rfl (hb hby at_136) rfl ?_
    show Steps p.tables e below (T5.setTop (mkF m 137 #[.val (.int p0_), .val (.int p1_), .val (.int p2_), .val (.int (1 : Int32)), .val (.int (5 : Int32)), .val (.ref b1), .val (.int (1 : Int32)), .val (.int (1 : Int32)), .val (.int f_), .unset, .unset] [(.long (((5 : Int32).toInt64) + (f_.toInt64)))])) _
    rw [hf6]
    refine XS.lstore X5.here hx rfl (hb hby at_137) rfl (l' := #[.val (.int p0_), .val (.int p1_), .val (.int p2_), .val (.int (1 : Int32)), .val (.int (5 : Int32)), .val (.ref b1), .val (.int (1 : Int32)), .val (.int (1 : Int32)), .val (.int f_), .val (.long l_), .second]) rfl ?_
    refine XS.lload X5.here hx rfl (hb hby at_139) rfl ?_
    show Steps p.tables e below (T5.setTop (mkF m 141 #[.val (.int p0_), .val (.int p1_), .val (.int p2_), .val (.int (1 : Int32)), .val (.int (5 : Int32)), .val (.ref b1), .val (.int (1 : Int32)), .val (.int (1 : Int32)), .val (.int f_), .val (.long l_), .second] [(.long l_)])) _
    refine X5.ldc2Long hx hown (mvT hZ (hw _ (List.mem_of_getElem? (i := 32) rfl))) (g := (mkF m 141 #[.val (.int p0_), .val (.int p1_), .val (.int p2_), .val (.int (1 : Int32)), .val (.int (5 : Int32)), .val (.ref b1), .val (.int (1 : Int32)), .val (.int (1 : Int32)), .val (.int f_), .val (.long l_), .second] [(.long l_)])) rfl (hb hby at_141) _ ?_
    refine XS.lcmp X5.here hx rfl (hb hby at_144) rfl ?_
    refine XS.ifNo X5.here hx rfl (hb hby at_145) rfl ((if0 _ _).trans (flt hf7).2.2.1) ?_
    refine XS.aload X5.here hx rfl (hb hby at_148) rfl rfl ?_
    show Steps p.tables e below (T5.setTop (mkF m 150 #[.val (.int p0_), .val (.int p1_), .val (.int p2_), .val (.int (1 : Int32)), .val (.int (5 : Int32)), .val (.ref b1), .val (.int (1 : Int32)), .val (.int (1 : Int32)), .val (.int f_), .val (.long l_), .second] [(.ref b1)])) _
    refine XS.lload X5.here hx rfl (hb hby at_150) rfl ?_
    refine XS.l2i X5.here hx rfl (hb hby at_152) rfl ?_
    show Steps p.tables e below (T5.setTop (mkF m 153 #[.val (.int p0_), .val (.int p1_), .val (.int p2_), .val (.int (1 : Int32)), .val (.int (5 : Int32)), .val (.ref b1), .val (.int (1 : Int32)), .val (.int (1 : Int32)), .val (.int f_), .val (.long l_), .second] [(.int (l_.toInt32)), (.ref b1)])) _
    refine st6.trans ?_
    refine XS.iload X6.here hx rfl (hb hby at_156) rfl ?_
    refine XS.ifNo X6.here hx rfl (hb hby at_158) rfl ((if0 _ _).trans (flt hf9).1) ?_
    refine XS.iconst X6.here hx rfl (hb hby at_161) ?_
    show Steps p.tables e below (T6.setTop (mkF m 162 #[.val (.int p0_), .val (.int p1_), .val (.int p2_), .val (.int (1 : Int32)), .val (.int (5 : Int32)), .val (.ref b1), .val (.int (1 : Int32)), .val (.int (1 : Int32)), .val (.int f_), .val (.long l_), .second] [(.int (1 : Int32)), (.int (1 : Int32))])) _
    refine XS.goto X6.here hx rfl (pc0 := 162) (pc' := 166) rfl (hb hby at_162) (by decide) (by decide) ?_
    refine XS.icmpYes X6.here hx rfl (pc0 := 166) (pc' := 171) rfl (hb hby at_166) rfl (teq (rfl : (1 : Int32) = (1 : Int32))).1 (by decide) (by decide) ?_
    refine XS.iconst X6.here hx rfl (hb hby at_171) ?_
    show Steps p.tables e below (T6.setTop (mkF m 172 #[.val (.int p0_), .val (.int p1_), .val (.int p2_), .val (.int (1 : Int32)), .val (.int (5 : Int32)), .val (.ref b1), .val (.int (1 : Int32)), .val (.int (1 : Int32)), .val (.int f_), .val (.long l_), .second] [(.int (1 : Int32))])) _
    exact retN X6 hx (t := .boolean) Bd.returns (by simp) (hb hby at_172) hr
  · show own_QL n0 _ T6.heap _
    exact ⟨rfl, N6⟩
set_option maxRecDepth 65536 in
set_option maxHeartbeats 40000000 in
theorem own_law_Dnll (l : Launch) (Z : State) (a0 : Array Value) (hw : ∀ d ∈ tables_1, d.before a0 Z = true) (ws : List Jvm.Cond) (p0_ : Int32) (p1_ : Int32) (p2_ : Int32) (m_ : Int32) (w_DEFAULT_BACKOFF : Addr) (o_ : Int32) (f_ : Int32) (l_ : Int64) (h0 : Heap) (n0 : Nat) (Z0 : n0 ≤ h0.size) (S_DEFAULT_BACKOFF : Sta Z h0 "com/example/mersey/mersey/JobTypeSettings" "DEFAULT_BACKOFF" "Lcom/example/mersey/mersey/Backoff;" (.ref w_DEFAULT_BACKOFF)) (hf0 : (p0_ &&& (1 : Int32)) = (1 : Int32)) (hf1 : (p1_ &&& (2147483647 : Int32)) = m_) (hf2 : ¬ (m_ = (0 : Int32))) (hf3 : p2_ < (5 : Int32)) (hf4 : (((p0_.toUInt32 >>> ((1 : Int32) &&& 31).toUInt32).toInt32) % (5 : Int32)) = o_) (hf5 : (o_ - (2 : Int32)) = f_) (hf6 : (((5 : Int32).toInt64) + (f_.toInt64)) = l_) (hf7 : ¬ ((0 : Int32) < (lcmpW l_ (2147483647 : Int64)))) (hf8 : (l_.toInt32) < (5 : Int32)) (hf9 : f_ < (0 : Int32)) :
    MetFree l x (head1 (Jvm.Cond.code x code maxLocals ret :: ws) room_1) (fun a U => a = #[(.int p0_), (.int p1_), (.int p2_)] ∧ Z.Warmed39 U.vm ∧ U.heap = h0) (fun _ _ _ _ _ => True) (fun _ U o U' => ∃ v L, o = .returned v ∧ own_QL n0 v U'.heap L ∧ FrameEnd U o U' L room_1.cells room_1.slots) := by
  refine MetFree.of_bodySF (plainFor_of_name own_pn1) hisR ?_
  intro p e s m args below meth c s₁ Bd hml0 hP hK
  obtain ⟨rfl, hZ, hh⟩ := hP
  have hx := Bd.exec
  have hby := Bd.bytes
  have hml : c.maxLocals = 11 := hml0
  have hown : s.vm.findClass "com/example/mersey/mersey/JobTypeSettingsIsLastAttemptPinLaw" = some m.cls := findClass_of_methodNamed Bd.named
  have hnm := (name_of_methodNamed Bd.named Bd.method).1
  have X0 : Stand p l e room_1 s m #[(.int p0_), (.int p1_), (.int p2_)] below meth c s₁ [] 0 0 := Stand.of_body Bd
  have e0 : s₁.heap = h0 := by rw [← hh, Bd.state]; rfl
  have N0 := Fr.nil n0
  have pre0 : ∀ t, Steps p.tables e below (s₁.setTop (mkF m 0 #[.val (.int p0_), .val (.int p1_), .val (.int p2_), .unset, .unset, .unset, .unset, .unset, .unset, .unset, .unset] [])) t → Steps p.tables e below (s₁.setTop (entryFrame m #[(.int p0_), (.int p1_), (.int p2_)] maxLocals)) t := fun t k => castTop (own_ef2 m p0_ p1_ p2_) k
  obtain ⟨T1, h1, X1, e1, E1, A1, D1, -, st1⟩ := newO X0 hx hZ hown (hw _ (List.mem_of_getElem? (i := 1) rfl)) (hw _ (List.mem_of_getElem? (i := 2) rfl)) (hw _ (List.mem_of_getElem? (i := 3) rfl)) e0 (g := (mkF m 30 #[.val (.int p0_), .val (.int p1_), .val (.int p2_), .val (.int (1 : Int32)), .val (.int m_), .unset, .unset, .unset, .unset, .unset, .unset] [])) rfl (hb hby at_30) (by decide) (by decide)
  obtain ⟨b1, g1⟩ : ∃ z, z = h0.size := ⟨_, rfl⟩
  rw [← g1] at A1 D1 st1
  have lo_b1 : h0.size ≤ b1 := Nat.le_of_eq g1.symm
  have sz_b1 : h0.size ≤ b1 := Nat.le_trans (Keep.refl h0 []).1 lo_b1
  have g_b1 : n0 ≤ b1 := Nat.le_trans Z0 sz_b1
  have K1 : Keep h0 h1 [] := (Keep.refl h0 []).ext E1
  have F_maxAttempts_b1_1 : Fld Z h1 b1 "com/example/mersey/mersey/JobTypeSettings" "maxAttempts" "I" (.int (0 : Int32)) := D1 (Or.inl (hw _ (List.mem_of_getElem? (i := 11) rfl))) (ty := .int) (by decide)
  have F_backoff_b1_1 : Fld Z h1 b1 "com/example/mersey/mersey/JobTypeSettings" "backoff" "Lcom/example/mersey/mersey/Backoff;" .null := D1 (Or.inl (hw _ (List.mem_of_getElem? (i := 15) rfl))) (ty := (.object "com/example/mersey/mersey/Backoff")) (by decide)
  have F_longestRunTime_b1_1 : Fld Z h1 b1 "com/example/mersey/mersey/JobTypeSettings" "longestRunTime" "Ljava/time/Duration;" .null := D1 (Or.inl (hw _ (List.mem_of_getElem? (i := 26) rfl))) (ty := (.object "java/time/Duration")) (by decide)
  obtain ⟨_, _, ⟨T2, L2, k2, n2⟩, -, X2, ⟨Lc2, hQ2, l2, y2, z2⟩, st2⟩ := X1.specialBack hx (y := (⟨"com/example/mersey/mersey/JobTypeSettings", "<init>", "()V"⟩ : MethodName)) rfl hown (mvT hZ (hw _ (List.mem_of_getElem? (i := 4) rfl))) (mvT hZ (hw _ (List.mem_of_getElem? (i := 5) rfl))) (mvT hZ (hw _ (List.mem_of_getElem? (i := 6) rfl))) (by decide) (backOf (W := 1) (own_b1_x l Z a0 hw [] b1 (.int (0 : Int32)) w_DEFAULT_BACKOFF .null .null h1 n0 (Nat.le_trans Z0 (own_ext K1).1) A1 F_maxAttempts_b1_1 g_b1 (S_DEFAULT_BACKOFF.ext (own_ext K1)) F_backoff_b1_1 F_longestRunTime_b1_1) hZ (hw _ (List.mem_of_getElem? (i := 6) rfl)) (hw _ (List.mem_of_getElem? (i := 3) rfl)) (by decide) (by decide)) (g := (mkF m 34 #[.val (.int p0_), .val (.int p1_), .val (.int p2_), .val (.int (1 : Int32)), .val (.int m_), .unset, .unset, .unset, .unset, .unset, .unset] [(.ref b1), (.ref b1)])) rfl (by rw [hml]; rfl) (Steps.refl _) (a := b1) (argsL := []) (rest := [(.ref b1)]) (lenOf own_pd0 rfl) rfl (by show 2 * 0 + _ ≤ _; exact Nat.le_of_eq rfl) (hb hby at_34) (fun _ _ => ⟨rfl, e1, (by decide : 1 + 0 ≤ _), (by decide : 3 + 0 ≤ _)⟩)
  dsimp only [Pt.U, Pt.locs, Pt.cells, Pt.slots] at X2 l2 y2 z2 st2 hQ2
  subst l2 y2 z2
  obtain ⟨rfl, N2q, Kq2, Eq2, Fq2_maxAttempts, Fq2_backoff, Fq2_longestRunTime⟩ := hQ2
  have N2 := Fr.app N0 N2q
  have K2 : Keep h0 T2.heap [] := K1.trans Kq2 (fun x hx => by cases List.mem_singleton.mp hx; exact Or.inr sz_b1)
  obtain ⟨cq3, kq3, q3a, q3b, q3c⟩ := isOf hZ rfl Eq2
  obtain ⟨_, _, ⟨T3, L3, k3, n3⟩, -, X3, ⟨Lc3, hQ3, l3, y3, z3⟩, st3⟩ := X2.virtualBack hx (y := (⟨"com/example/mersey/mersey/JobTypeSettings", "isLastAttempt", "(I)Z"⟩ : MethodName)) (z := (⟨"com/example/mersey/mersey/JobTypeSettings", "isLastAttempt", "(I)Z"⟩ : MethodName)) hown (mvT hZ (hw _ (List.mem_of_getElem? (i := 27) rfl))) (mvT hZ (hw _ (List.mem_of_getElem? (i := 28) rfl))) (notFace_of_selects (args := #[]) (mvT hZ (hw _ (List.mem_of_getElem? (i := 30) rfl)))) (mvT hZ (hw _ (List.mem_of_getElem? (i := 30) rfl))) (mvT hZ (hw _ (List.mem_of_getElem? (i := 29) rfl))) (by decide) (backOf (W := 0) (own_b5_t l Z a0 hw [] b1 p2_ (5 : Int32) T2.heap n0 (Nat.le_trans Z0 (own_ext K2).1) Fq2_maxAttempts hf3) hZ (hw _ (List.mem_of_getElem? (i := 31) rfl)) (hw _ (List.mem_of_getElem? (i := 3) rfl)) (by decide) (by decide)) q3a q3c (g := (mkF m 62 #[.val (.int p0_), .val (.int p1_), .val (.int p2_), .val (.int (1 : Int32)), .val (.int (5 : Int32)), .val (.ref b1), .unset, .unset, .unset, .unset, .unset] [(.int p2_), (.ref b1)])) rfl (by rw [hml]; rfl) (Steps.refl _) (argsL := [(.int p2_)]) (rest := []) (lenOf own_pd1 rfl) rfl (by show 2 * 0 + _ ≤ _; exact Nat.le_of_eq rfl) (hb hby at_62) (fun _ _ => ⟨rfl, rfl, (by decide : 1 + 0 ≤ _), (by decide : 3 + 0 ≤ _)⟩)
  dsimp only [Pt.U, Pt.locs, Pt.cells, Pt.slots] at X3 l3 y3 z3 st3 hQ3
  subst l3 y3 z3
  obtain ⟨rfl, N3q, e3⟩ := hQ3
  have N3 := Fr.app N2 N3q
  obtain ⟨cq4, kq4, q4a, q4b, q4c⟩ := isOf hZ e3 Eq2
  obtain ⟨_, _, ⟨T4, L4, k4, n4⟩, -, X4, ⟨Lc4, hQ4, l4, y4, z4⟩, st4⟩ := X3.virtualBack hx (y := (⟨"com/example/mersey/mersey/JobTypeSettings", "isLastAttempt", "(I)Z"⟩ : MethodName)) (z := (⟨"com/example/mersey/mersey/JobTypeSettings", "isLastAttempt", "(I)Z"⟩ : MethodName)) hown (mvT hZ (hw _ (List.mem_of_getElem? (i := 27) rfl))) (mvT hZ (hw _ (List.mem_of_getElem? (i := 28) rfl))) (notFace_of_selects (args := #[]) (mvT hZ (hw _ (List.mem_of_getElem? (i := 30) rfl)))) (mvT hZ (hw _ (List.mem_of_getElem? (i := 30) rfl))) (mvT hZ (hw _ (List.mem_of_getElem? (i := 29) rfl))) (by decide) (backOf (W := 0) (own_b5_f l Z a0 hw [] b1 (5 : Int32) (5 : Int32) T2.heap n0 (Nat.le_trans Z0 (own_ext K2).1) Fq2_maxAttempts (by decide)) hZ (hw _ (List.mem_of_getElem? (i := 31) rfl)) (hw _ (List.mem_of_getElem? (i := 3) rfl)) (by decide) (by decide)) q4a q4c (g := (mkF m 93 #[.val (.int p0_), .val (.int p1_), .val (.int p2_), .val (.int (1 : Int32)), .val (.int (5 : Int32)), .val (.ref b1), .val (.int (0 : Int32)), .val (.int (0 : Int32)), .unset, .unset, .unset] [(.int (5 : Int32)), (.ref b1)])) rfl (by rw [hml]; rfl) (Steps.refl _) (argsL := [(.int (5 : Int32))]) (rest := []) (lenOf own_pd1 rfl) rfl (by show 2 * 0 + _ ≤ _; exact Nat.le_of_eq rfl) (hb hby at_93) (fun _ _ => ⟨rfl, e3, (by decide : 1 + 0 ≤ _), (by decide : 3 + 0 ≤ _)⟩)
  dsimp only [Pt.U, Pt.locs, Pt.cells, Pt.slots] at X4 l4 y4 z4 st4 hQ4
  subst l4 y4 z4
  obtain ⟨rfl, N4q, e4⟩ := hQ4
  have N4 := Fr.app N3 N4q
  obtain ⟨cq5, kq5, q5a, q5b, q5c⟩ := isOf hZ e4 Eq2
  obtain ⟨_, _, ⟨T5, L5, k5, n5⟩, -, X5, ⟨Lc5, hQ5, l5, y5, z5⟩, st5⟩ := X4.virtualBack hx (y := (⟨"com/example/mersey/mersey/JobTypeSettings", "isLastAttempt", "(I)Z"⟩ : MethodName)) (z := (⟨"com/example/mersey/mersey/JobTypeSettings", "isLastAttempt", "(I)Z"⟩ : MethodName)) hown (mvT hZ (hw _ (List.mem_of_getElem? (i := 27) rfl))) (mvT hZ (hw _ (List.mem_of_getElem? (i := 28) rfl))) (notFace_of_selects (args := #[]) (mvT hZ (hw _ (List.mem_of_getElem? (i := 30) rfl)))) (mvT hZ (hw _ (List.mem_of_getElem? (i := 30) rfl))) (mvT hZ (hw _ (List.mem_of_getElem? (i := 29) rfl))) (by decide) (backOf (W := 0) (own_b5_t l Z a0 hw [] b1 ((5 : Int32) - (1 : Int32)) (5 : Int32) T2.heap n0 (Nat.le_trans Z0 (own_ext K2).1) Fq2_maxAttempts (by decide)) hZ (hw _ (List.mem_of_getElem? (i := 31) rfl)) (hw _ (List.mem_of_getElem? (i := 3) rfl)) (by decide) (by decide)) q5a q5c (g := (mkF m 113 #[.val (.int p0_), .val (.int p1_), .val (.int p2_), .val (.int (1 : Int32)), .val (.int (5 : Int32)), .val (.ref b1), .val (.int (0 : Int32)), .val (.int (0 : Int32)), .unset, .unset, .unset] [(.int ((5 : Int32) - (1 : Int32))), (.ref b1)])) rfl (by rw [hml]; rfl) (Steps.refl _) (argsL := [(.int ((5 : Int32) - (1 : Int32)))]) (rest := []) (lenOf own_pd1 rfl) rfl (by show 2 * 0 + _ ≤ _; exact Nat.le_of_eq rfl) (hb hby at_113) (fun _ _ => ⟨rfl, e4, (by decide : 1 + 0 ≤ _), (by decide : 3 + 0 ≤ _)⟩)
  dsimp only [Pt.U, Pt.locs, Pt.cells, Pt.slots] at X5 l5 y5 z5 st5 hQ5
  subst l5 y5 z5
  obtain ⟨rfl, N5q, e5⟩ := hQ5
  have N5 := Fr.app N4 N5q
  obtain ⟨cq6, kq6, q6a, q6b, q6c⟩ := isOf hZ e5 Eq2
  obtain ⟨_, _, ⟨T6, L6, k6, n6⟩, -, X6, ⟨Lc6, hQ6, l6, y6, z6⟩, st6⟩ := X5.virtualBack hx (y := (⟨"com/example/mersey/mersey/JobTypeSettings", "isLastAttempt", "(I)Z"⟩ : MethodName)) (z := (⟨"com/example/mersey/mersey/JobTypeSettings", "isLastAttempt", "(I)Z"⟩ : MethodName)) hown (mvT hZ (hw _ (List.mem_of_getElem? (i := 27) rfl))) (mvT hZ (hw _ (List.mem_of_getElem? (i := 28) rfl))) (notFace_of_selects (args := #[]) (mvT hZ (hw _ (List.mem_of_getElem? (i := 30) rfl)))) (mvT hZ (hw _ (List.mem_of_getElem? (i := 30) rfl))) (mvT hZ (hw _ (List.mem_of_getElem? (i := 29) rfl))) (by decide) (backOf (W := 0) (own_b5_t l Z a0 hw [] b1 (l_.toInt32) (5 : Int32) T2.heap n0 (Nat.le_trans Z0 (own_ext K2).1) Fq2_maxAttempts hf8) hZ (hw _ (List.mem_of_getElem? (i := 31) rfl)) (hw _ (List.mem_of_getElem? (i := 3) rfl)) (by decide) (by decide)) q6a q6c (g := (mkF m 153 #[.val (.int p0_), .val (.int p1_), .val (.int p2_), .val (.int (1 : Int32)), .val (.int (5 : Int32)), .val (.ref b1), .val (.int (0 : Int32)), .val (.int (0 : Int32)), .val (.int f_), .val (.long l_), .second] [(.int (l_.toInt32)), (.ref b1)])) rfl (by rw [hml]; rfl) (Steps.refl _) (argsL := [(.int (l_.toInt32))]) (rest := []) (lenOf own_pd1 rfl) rfl (by show 2 * 0 + _ ≤ _; exact Nat.le_of_eq rfl) (hb hby at_153) (fun _ _ => ⟨rfl, e5, (by decide : 1 + 0 ≤ _), (by decide : 3 + 0 ≤ _)⟩)
  dsimp only [Pt.U, Pt.locs, Pt.cells, Pt.slots] at X6 l6 y6 z6 st6 hQ6
  subst l6 y6 z6
  obtain ⟨rfl, N6q, e6⟩ := hQ6
  have N6 := Fr.app N5 N6q
  obtain ⟨fs, hr, hrun, hended, hW, hsame⟩ := X6.leave (v := some (.int (1 : Int32))) (fun h => by rw [Bd.returns] at h; cases h)
  refine ⟨_, _, pre0 _ ?_, hrun, hended, _, _, rfl, ?_, ⟨_, rfl⟩, hW, hsame.mono (by decide) (by decide)⟩
  · show Steps p.tables e below (s₁.setTop (mkF m 0 #[.val (.int p0_), .val (.int p1_), .val (.int p2_), .unset, .unset, .unset, .unset, .unset, .unset, .unset, .unset] [])) _
    refine XS.iloadN X0.here hx rfl (hb hby at_0) rfl ?_
    refine XS.iconst X0.here hx rfl (hb hby at_1) ?_
    refine XS.iand X0.here hx rfl (hb hby at_2) rfl ?_
    show Steps p.tables e below (s₁.setTop (mkF m 3 #[.val (.int p0_), .val (.int p1_), .val (.int p2_), .unset, .unset, .unset, .unset, .unset, .unset, .unset, .unset] [(.int (p0_ &&& (1 : Int32)))])) _
    rw [hf0]
    refine XS.ifNo X0.here hx rfl (hb hby at_3) rfl ((if0 _ _).trans (feq (by decide : ¬ ((1 : Int32) = (0 : Int32)))).1) ?_
    refine XS.iconst X0.here hx rfl (hb hby at_6) ?_
    refine XS.goto X0.here hx rfl (pc0 := 7) (pc' := 11) rfl (hb hby at_7) (by decide) (by decide) ?_
    show Steps p.tables e below (s₁.setTop (mkF m 11 #[.val (.int p0_), .val (.int p1_), .val (.int p2_), .unset, .unset, .unset, .unset, .unset, .unset, .unset, .unset] [(.int (1 : Int32))])) _
    refine XS.istoreN X0.here hx rfl (hb hby at_11) rfl (l' := #[.val (.int p0_), .val (.int p1_), .val (.int p2_), .val (.int (1 : Int32)), .unset, .unset, .unset, .unset, .unset, .unset, .unset]) rfl ?_
    refine XS.iloadN X0.here hx rfl (hb hby at_12) rfl ?_
    show Steps p.tables e below (s₁.setTop (mkF m 13 #[.val (.int p0_), .val (.int p1_), .val (.int p2_), .val (.int (1 : Int32)), .unset, .unset, .unset, .unset, .unset, .unset, .unset] [(.int p1_)])) _
    refine X0.ldcInt hx hown (mvT hZ (hw _ (List.mem_of_getElem? (i := 0) rfl))) (g := (mkF m 13 #[.val (.int p0_), .val (.int p1_), .val (.int p2_), .val (.int (1 : Int32)), .unset, .unset, .unset, .unset, .unset, .unset, .unset] [(.int p1_)])) rfl (hb hby at_13) _ ?_
    refine XS.iand X0.here hx rfl (hb hby at_15) rfl ?_
    show Steps p.tables e below (s₁.setTop (mkF m 16 #[.val (.int p0_), .val (.int p1_), .val (.int p2_), .val (.int (1 : Int32)), .unset, .unset, .unset, .unset, .unset, .unset, .unset] [(.int (p1_ &&& (2147483647 : Int32)))])) _
    rw [hf1]
    refine XS.istore X0.here hx rfl (hb hby at_16) rfl (l' := #[.val (.int p0_), .val (.int p1_), .val (.int p2_), .val (.int (1 : Int32)), .val (.int m_), .unset, .unset, .unset, .unset, .unset, .unset]) rfl ?_
    refine XS.iload X0.here hx rfl (hb hby at_18) rfl ?_
    refine XS.ifYes X0.here hx rfl (pc0 := 20) (pc' := 26) rfl (hb hby at_20) rfl ((if0 _ _).trans (feq hf2).2) (by decide) (by decide) ?_
    show Steps p.tables e below (s₁.setTop (mkF m 26 #[.val (.int p0_), .val (.int p1_), .val (.int p2_), .val (.int (1 : Int32)), .val (.int m_), .unset, .unset, .unset, .unset, .unset, .unset] [])) _
    refine XS.iloadN X0.here hx rfl (hb hby at_26) rfl ?_
    refine XS.ifNo X0.here hx rfl (hb hby at_27) rfl ((if0 _ _).trans (feq (by decide : ¬ ((1 : Int32) = (0 : Int32)))).1) ?_
    show Steps p.tables e below (s₁.setTop (mkF m 30 #[.val (.int p0_), .val (.int p1_), .val (.int p2_), .val (.int (1 : Int32)), .val (.int m_), .unset, .unset, .unset, .unset, .unset, .unset] [])) _
    refine st1 _ ?_
    refine XS.dup X1.here hx rfl (hb hby at_33) rfl rfl ?_
    show Steps p.tables e below (T1.setTop (mkF m 34 #[.val (.int p0_), .val (.int p1_), .val (.int p2_), .val (.int (1 : Int32)), .val (.int m_), .unset, .unset, .unset, .unset, .unset, .unset] [(.ref b1), (.ref b1)])) _
    refine st2.trans ?_
    refine XS.astore X2.here hx rfl (hb hby at_37) rfl rfl (l' := #[.val (.int p0_), .val (.int p1_), .val (.int p2_), .val (.int (1 : Int32)), .val (.int m_), .val (.ref b1), .unset, .unset, .unset, .unset, .unset]) rfl ?_
    refine XS.iconst X2.here hx rfl (hb hby at_39) ?_
    refine XS.istore X2.here hx rfl (hb hby at_40) rfl (l' := #[.val (.int p0_), .val (.int p1_), .val (.int p2_), .val (.int (1 : Int32)), .val (.int (5 : Int32)), .val (.ref b1), .unset, .unset, .unset, .unset, .unset]) rfl ?_
    show Steps p.tables e below (T2.setTop (mkF m 42 #[.val (.int p0_), .val (.int p1_), .val (.int p2_), .val (.int (1 : Int32)), .val (.int (5 : Int32)), .val (.ref b1), .unset, .unset, .unset, .unset, .unset] [])) _
    refine XS.goto X2.here hx rfl (pc0 := 42) (pc' := 59) rfl (hb hby at_42) (by decide) (by decide) ?_
    refine XS.aload X2.here hx rfl (hb hby at_59) rfl rfl ?_
    refine XS.iloadN X2.here hx rfl (hb hby at_61) rfl ?_
    show Steps p.tables e below (T2.setTop (mkF m 62 #[.val (.int p0_), .val (.int p1_), .val (.int p2_), .val (.int (1 : Int32)), .val (.int (5 : Int32)), .val (.ref b1), .unset, .unset, .unset, .unset, .unset] [(.int p2_), (.ref b1)])) _
    refine st3.trans ?_
    refine XS.istore X3.here hx rfl (hb hby at_65) rfl (l' := #[.val (.int p0_), .val (.int p1_), .val (.int p2_), .val (.int (1 : Int32)), .val (.int (5 : Int32)), .val (.ref b1), .val (.int (0 : Int32)), .unset, .unset, .unset, .unset]) rfl ?_
    refine XS.iloadN X3.here hx rfl (hb hby at_67) rfl ?_
    refine XS.iload X3.here hx rfl (hb hby at_68) rfl ?_
    show Steps p.tables e below (T3.setTop (mkF m 70 #[.val (.int p0_), .val (.int p1_), .val (.int p2_), .val (.int (1 : Int32)), .val (.int (5 : Int32)), .val (.ref b1), .val (.int (0 : Int32)), .unset, .unset, .unset, .unset] [(.int (5 : Int32)), (.int p2_)])) _
    refine XS.icmpYes X3.here hx rfl (pc0 := 70) (pc' := 77) rfl (hb hby at_70) rfl (tlt hf3).1 (by decide) (by decide) ?_
    refine XS.iconst X3.here hx rfl (hb hby at_77) ?_
    refine XS.istore X3.here hx rfl (hb hby at_78) rfl (l' := #[.val (.int p0_), .val (.int p1_), .val (.int p2_), .val (.int (1 : Int32)), .val (.int (5 : Int32)), .val (.ref b1), .val (.int (0 : Int32)), .val (.int (0 : Int32)), .unset, .unset, .unset]) rfl ?_
    refine XS.iload X3.here hx rfl (hb hby at_80) rfl ?_
    show Steps p.tables e below (T3.setTop (mkF m 82 #[.val (.int p0_), .val (.int p1_), .val (.int p2_), .val (.int (1 : Int32)), .val (.int (5 : Int32)), .val (.ref b1), .val (.int (0 : Int32)), .val (.int (0 : Int32)), .unset, .unset, .unset] [(.int (0 : Int32))])) _
    refine XS.iload X3.here hx rfl (hb hby at_82) rfl ?_
    refine XS.icmpYes X3.here hx rfl (pc0 := 84) (pc' := 89) rfl (hb hby at_84) rfl (teq (rfl : (0 : Int32) = (0 : Int32))).1 (by decide) (by decide) ?_
    refine XS.aload X3.here hx rfl (hb hby at_89) rfl rfl ?_
    refine XS.iload X3.here hx rfl (hb hby at_91) rfl ?_
    show Steps p.tables e below (T3.setTop (mkF m 93 #[.val (.int p0_), .val (.int p1_), .val (.int p2_), .val (.int (1 : Int32)), .val (.int (5 : Int32)), .val (.ref b1), .val (.int (0 : Int32)), .val (.int (0 : Int32)), .unset, .unset, .unset] [(.int (5 : Int32)), (.ref b1)])) _
    refine st4.trans ?_
    refine XS.ifYes X4.here hx rfl (pc0 := 96) (pc' := 101) rfl (hb hby at_96) rfl ((if0 _ _).trans (feq (by decide : ¬ ((1 : Int32) = (0 : Int32)))).2) (by decide) (by decide) ?_
    refine XS.iload X4.here hx rfl (hb hby at_101) rfl ?_
    refine XS.iconst X4.here hx rfl (hb hby at_103) ?_
    show Steps p.tables e below (T4.setTop (mkF m 104 #[.val (.int p0_), .val (.int p1_), .val (.int p2_), .val (.int (1 : Int32)), .val (.int (5 : Int32)), .val (.ref b1), .val (.int (0 : Int32)), .val (.int (0 : Int32)), .unset, .unset, .unset] [(.int (1 : Int32)), (.int (5 : Int32))])) _
    refine XS.icmpNo X4.here hx rfl (hb hby at_104) rfl (tlt (by decide : (1 : Int32) < (5 : Int32))).2.2.2 ?_
    refine XS.aload X4.here hx rfl (hb hby at_107) rfl rfl ?_
    refine XS.iload X4.here hx rfl (hb hby at_109) rfl ?_
    refine XS.iconst X4.here hx rfl (hb hby at_111) ?_
    show Steps p.tables e below (T4.setTop (mkF m 112 #[.val (.int p0_), .val (.int p1_), .val (.int p2_), .val (.int (1 : Int32)), .val (.int (5 : Int32)), .val (.ref b1), .val (.int (0 : Int32)), .val (.int (0 : Int32)), .unset, .unset, .unset] [(.int (1 : Int32)), (.int (5 : Int32)), (.ref b1)])) _
    refine XS.isub X4.here hx rfl (hb hby at_112) rfl ?_
    show Steps p.tables e below (T4.setTop (mkF m 113 #[.val (.int p0_), .val (.int p1_), .val (.int p2_), .val (.int (1 : Int32)), .val (.int (5 : Int32)), .val (.ref b1), .val (.int (0 : Int32)), .val (.int (0 : Int32)), .unset, .unset, .unset] [(.int ((5 : Int32) - (1 : Int32))), (.ref b1)])) _
    refine st5.trans ?_
    refine XS.ifYes X5.here hx rfl (pc0 := 116) (pc' := 121) rfl (hb hby at_116) rfl ((if0 _ _).trans (teq (rfl : (0 : Int32) = (0 : Int32))).1) (by decide) (by decide) ?_
    refine XS.iloadN X5.here hx rfl (hb hby at_121) rfl ?_
    refine XS.iconst X5.here hx rfl (hb hby at_122) ?_
    show Steps p.tables e below (T5.setTop (mkF m 123 #[.val (.int p0_), .val (.int p1_), .val (.int p2_), .val (.int (1 : Int32)), .val (.int (5 : Int32)), .val (.ref b1), .val (.int (0 : Int32)), .val (.int (0 : Int32)), .unset, .unset, .unset] [(.int (1 : Int32)), (.int p0_)])) _
    refine XS.iushr X5.here hx rfl (hb hby at_123) rfl ?_
    refine XS.iconst X5.here hx rfl (hb hby at_124) ?_
    show Steps p.tables e below (T5.setTop (mkF m 125 #[.val (.int p0_), .val (.int p1_), .val (.int p2_), .val (.int (1 : Int32)), .val (.int (5 : Int32)), .val (.ref b1), .val (.int (0 : Int32)), .val (.int (0 : Int32)), .unset, .unset, .unset] [(.int (5 : Int32)), (.int ((p0_.toUInt32 >>> ((1 : Int32) &&& 31).toUInt32).toInt32))])) _
    refine iremM X5 hx rfl (hb hby at_125) rfl (by decide) ?_
    show Steps p.tables e below (T5.setTop (mkF m 126 #[.val (.int p0_), .val (.int p1_), .val (.int p2_), .val (.int (1 : Int32)), .val (.int (5 : Int32)), .val (.ref b1), .val (.int (0 : Int32)), .val (.int (0 : Int32)), .unset, .unset, .unset] [(.int (((p0_.toUInt32 >>> ((1 : Int32) &&& 31).toUInt32).toInt32) % (5 : Int32)))])) _
    rw [hf4]
    refine XS.iconst X5.here hx rfl (hb hby at_126) ?_
    refine XS.isub X5.here hx rfl (hb hby at_127) rfl ?_
    show Steps p.tables e below (T5.setTop (mkF m 128 #[.val (.int p0_), .val (.int p1_), .val (.int p2_), .val (.int (1 : Int32)), .val (.int (5 : Int32)), .val (.ref b1), .val (.int (0 : Int32)), .val (.int (0 : Int32)), .unset, .unset, .unset] [(.int (o_ - (2 : Int32)))])) _
    rw [hf5]
    refine XS.istore X5.here hx rfl (hb hby at_128) rfl (l' := #[.val (.int p0_), .val (.int p1_), .val (.int p2_), .val (.int (1 : Int32)), .val (.int (5 : Int32)), .val (.ref b1), .val (.int (0 : Int32)), .val (.int (0 : Int32)), .val (.int f_), .unset, .unset]) rfl ?_
    refine XS.iload X5.here hx rfl (hb hby at_130) rfl ?_
    refine XS.i2l X5.here hx rfl (hb hby at_132) rfl ?_
    show Steps p.tables e below (T5.setTop (mkF m 133 #[.val (.int p0_), .val (.int p1_), .val (.int p2_), .val (.int (1 : Int32)), .val (.int (5 : Int32)), .val (.ref b1), .val (.int (0 : Int32)), .val (.int (0 : Int32)), .val (.int f_), .unset, .unset] [(.long ((5 : Int32).toInt64))])) _
    refine XS.iload X5.here hx rfl (hb hby at_133) rfl ?_
    refine XS.i2l X5.here hx rfl (hb hby at_135) rfl ?_
    refine XS.ladd X5.here hx rfl (hb hby at_136) rfl ?_
    show Steps p.tables e below (T5.setTop (mkF m 137 #[.val (.int p0_), .val (.int p1_), .val (.int p2_), .val (.int (1 : Int32)), .val (.int (5 : Int32)), .val (.ref b1), .val (.int (0 : Int32)), .val (.int (0 : Int32)), .val (.int f_), .unset, .unset] [(.long (((5 : Int32).toInt64) + (f_.toInt64)))])) _
    rw [hf6]
    refine XS.lstore X5.here hx rfl (hb hby at_137) rfl (l' := #[.val (.int p0_), .val (.int p1_), .val (.int p2_), .val (.int (1 : Int32)), .val (.int (5 : Int32)), .val (.ref b1), .val (.int (0 : Int32)), .val (.int (0 : Int32)), .val (.int f_), .val (.long l_), .second]) rfl ?_
    refine XS.lload X5.here hx rfl (hb hby at_139) rfl ?_
    show Steps p.tables e below (T5.setTop (mkF m 141 #[.val (.int p0_), .val (.int p1_), .val (.int p2_), .val (.int (1 : Int32)), .val (.int (5 : Int32)), .val (.ref b1), .val (.int (0 : Int32)), .val (.int (0 : Int32)), .val (.int f_), .val (.long l_), .second] [(.long l_)])) _
    refine X5.ldc2Long hx hown (mvT hZ (hw _ (List.mem_of_getElem? (i := 32) rfl))) (g := (mkF m 141 #[.val (.int p0_), .val (.int p1_), .val (.int p2_), .val (.int (1 : Int32)), .val (.int (5 : Int32)), .val (.ref b1), .val (.int (0 : Int32)), .val (.int (0 : Int32)), .val (.int f_), .val (.long l_), .second] [(.long l_)])) rfl (hb hby at_141) _ ?_
    refine XS.lcmp X5.here hx rfl (hb hby at_144) rfl ?_
    refine XS.ifNo X5.here hx rfl (hb hby at_145) rfl ((if0 _ _).trans (flt hf7).2.2.1) ?_
    refine XS.aload X5.here hx rfl (hb hby at_148) rfl rfl ?_
    show Steps p.tables e below (T5.setTop (mkF m 150 #[.val (.int p0_), .val (.int p1_), .val (.int p2_), .val (.int (1 : Int32)), .val (.int (5 : Int32)), .val (.ref b1), .val (.int (0 : Int32)), .val (.int (0 : Int32)), .val (.int f_), .val (.long l_), .second] [(.ref b1)])) _
    refine XS.lload X5.here hx rfl (hb hby at_150) rfl ?_
    refine XS.l2i X5.here hx rfl (hb hby at_152) rfl ?_
    show Steps p.tables e below (T5.setTop (mkF m 153 #[.val (.int p0_), .val (.int p1_), .val (.int p2_), .val (.int (1 : Int32)), .val (.int (5 : Int32)), .val (.ref b1), .val (.int (0 : Int32)), .val (.int (0 : Int32)), .val (.int f_), .val (.long l_), .second] [(.int (l_.toInt32)), (.ref b1)])) _
    refine st6.trans ?_
    refine XS.iload X6.here hx rfl (hb hby at_156) rfl ?_
    refine XS.ifYes X6.here hx rfl (pc0 := 158) (pc' := 165) rfl (hb hby at_158) rfl ((if0 _ _).trans (tlt hf9).1) (by decide) (by decide) ?_
    refine XS.iconst X6.here hx rfl (hb hby at_165) ?_
    show Steps p.tables e below (T6.setTop (mkF m 166 #[.val (.int p0_), .val (.int p1_), .val (.int p2_), .val (.int (1 : Int32)), .val (.int (5 : Int32)), .val (.ref b1), .val (.int (0 : Int32)), .val (.int (0 : Int32)), .val (.int f_), .val (.long l_), .second] [(.int (0 : Int32)), (.int (0 : Int32))])) _
    refine XS.icmpYes X6.here hx rfl (pc0 := 166) (pc' := 171) rfl (hb hby at_166) rfl (teq (rfl : (0 : Int32) = (0 : Int32))).1 (by decide) (by decide) ?_
    refine XS.iconst X6.here hx rfl (hb hby at_171) ?_
    show Steps p.tables e below (T6.setTop (mkF m 172 #[.val (.int p0_), .val (.int p1_), .val (.int p2_), .val (.int (1 : Int32)), .val (.int (5 : Int32)), .val (.ref b1), .val (.int (0 : Int32)), .val (.int (0 : Int32)), .val (.int f_), .val (.long l_), .second] [(.int (1 : Int32))])) _
    exact retN X6 hx (t := .boolean) Bd.returns (by simp) (hb hby at_172) hr
  · show own_QL n0 _ T6.heap _
    exact ⟨rfl, N6⟩
set_option maxRecDepth 65536 in
set_option maxHeartbeats 40000000 in
theorem own_law_Dnlg (l : Launch) (Z : State) (a0 : Array Value) (hw : ∀ d ∈ tables_1, d.before a0 Z = true) (ws : List Jvm.Cond) (p0_ : Int32) (p1_ : Int32) (p2_ : Int32) (m_ : Int32) (w_DEFAULT_BACKOFF : Addr) (o_ : Int32) (f_ : Int32) (l_ : Int64) (h0 : Heap) (n0 : Nat) (Z0 : n0 ≤ h0.size) (S_DEFAULT_BACKOFF : Sta Z h0 "com/example/mersey/mersey/JobTypeSettings" "DEFAULT_BACKOFF" "Lcom/example/mersey/mersey/Backoff;" (.ref w_DEFAULT_BACKOFF)) (hf0 : (p0_ &&& (1 : Int32)) = (1 : Int32)) (hf1 : (p1_ &&& (2147483647 : Int32)) = m_) (hf2 : ¬ (m_ = (0 : Int32))) (hf3 : p2_ < (5 : Int32)) (hf4 : (((p0_.toUInt32 >>> ((1 : Int32) &&& 31).toUInt32).toInt32) % (5 : Int32)) = o_) (hf5 : (o_ - (2 : Int32)) = f_) (hf6 : (((5 : Int32).toInt64) + (f_.toInt64)) = l_) (hf7 : ¬ ((0 : Int32) < (lcmpW l_ (2147483647 : Int64)))) (hf8 : ¬ ((l_.toInt32) < (5 : Int32))) (hf9 : ¬ (f_ < (0 : Int32))) :
    MetFree l x (head1 (Jvm.Cond.code x code maxLocals ret :: ws) room_1) (fun a U => a = #[(.int p0_), (.int p1_), (.int p2_)] ∧ Z.Warmed39 U.vm ∧ U.heap = h0) (fun _ _ _ _ _ => True) (fun _ U o U' => ∃ v L, o = .returned v ∧ own_QL n0 v U'.heap L ∧ FrameEnd U o U' L room_1.cells room_1.slots) := by
  refine MetFree.of_bodySF (plainFor_of_name own_pn1) hisR ?_
  intro p e s m args below meth c s₁ Bd hml0 hP hK
  obtain ⟨rfl, hZ, hh⟩ := hP
  have hx := Bd.exec
  have hby := Bd.bytes
  have hml : c.maxLocals = 11 := hml0
  have hown : s.vm.findClass "com/example/mersey/mersey/JobTypeSettingsIsLastAttemptPinLaw" = some m.cls := findClass_of_methodNamed Bd.named
  have hnm := (name_of_methodNamed Bd.named Bd.method).1
  have X0 : Stand p l e room_1 s m #[(.int p0_), (.int p1_), (.int p2_)] below meth c s₁ [] 0 0 := Stand.of_body Bd
  have e0 : s₁.heap = h0 := by rw [← hh, Bd.state]; rfl
  have N0 := Fr.nil n0
  have pre0 : ∀ t, Steps p.tables e below (s₁.setTop (mkF m 0 #[.val (.int p0_), .val (.int p1_), .val (.int p2_), .unset, .unset, .unset, .unset, .unset, .unset, .unset, .unset] [])) t → Steps p.tables e below (s₁.setTop (entryFrame m #[(.int p0_), (.int p1_), (.int p2_)] maxLocals)) t := fun t k => castTop (own_ef2 m p0_ p1_ p2_) k
  obtain ⟨T1, h1, X1, e1, E1, A1, D1, -, st1⟩ := newO X0 hx hZ hown (hw _ (List.mem_of_getElem? (i := 1) rfl)) (hw _ (List.mem_of_getElem? (i := 2) rfl)) (hw _ (List.mem_of_getElem? (i := 3) rfl)) e0 (g := (mkF m 30 #[.val (.int p0_), .val (.int p1_), .val (.int p2_), .val (.int (1 : Int32)), .val (.int m_), .unset, .unset, .unset, .unset, .unset, .unset] [])) rfl (hb hby at_30) (by decide) (by decide)
  obtain ⟨b1, g1⟩ : ∃ z, z = h0.size := ⟨_, rfl⟩
  rw [← g1] at A1 D1 st1
  have lo_b1 : h0.size ≤ b1 := Nat.le_of_eq g1.symm
  have sz_b1 : h0.size ≤ b1 := Nat.le_trans (Keep.refl h0 []).1 lo_b1
  have g_b1 : n0 ≤ b1 := Nat.le_trans Z0 sz_b1
  have K1 : Keep h0 h1 [] := (Keep.refl h0 []).ext E1
  have F_maxAttempts_b1_1 : Fld Z h1 b1 "com/example/mersey/mersey/JobTypeSettings" "maxAttempts" "I" (.int (0 : Int32)) := D1 (Or.inl (hw _ (List.mem_of_getElem? (i := 11) rfl))) (ty := .int) (by decide)
  have F_backoff_b1_1 : Fld Z h1 b1 "com/example/mersey/mersey/JobTypeSettings" "backoff" "Lcom/example/mersey/mersey/Backoff;" .null := D1 (Or.inl (hw _ (List.mem_of_getElem? (i := 15) rfl))) (ty := (.object "com/example/mersey/mersey/Backoff")) (by decide)
  have F_longestRunTime_b1_1 : Fld Z h1 b1 "com/example/mersey/mersey/JobTypeSettings" "longestRunTime" "Ljava/time/Duration;" .null := D1 (Or.inl (hw _ (List.mem_of_getElem? (i := 26) rfl))) (ty := (.object "java/time/Duration")) (by decide)
  obtain ⟨_, _, ⟨T2, L2, k2, n2⟩, -, X2, ⟨Lc2, hQ2, l2, y2, z2⟩, st2⟩ := X1.specialBack hx (y := (⟨"com/example/mersey/mersey/JobTypeSettings", "<init>", "()V"⟩ : MethodName)) rfl hown (mvT hZ (hw _ (List.mem_of_getElem? (i := 4) rfl))) (mvT hZ (hw _ (List.mem_of_getElem? (i := 5) rfl))) (mvT hZ (hw _ (List.mem_of_getElem? (i := 6) rfl))) (by decide) (backOf (W := 1) (own_b1_x l Z a0 hw [] b1 (.int (0 : Int32)) w_DEFAULT_BACKOFF .null .null h1 n0 (Nat.le_trans Z0 (own_ext K1).1) A1 F_maxAttempts_b1_1 g_b1 (S_DEFAULT_BACKOFF.ext (own_ext K1)) F_backoff_b1_1 F_longestRunTime_b1_1) hZ (hw _ (List.mem_of_getElem? (i := 6) rfl)) (hw _ (List.mem_of_getElem? (i := 3) rfl)) (by decide) (by decide)) (g := (mkF m 34 #[.val (.int p0_), .val (.int p1_), .val (.int p2_), .val (.int (1 : Int32)), .val (.int m_), .unset, .unset, .unset, .unset, .unset, .unset] [(.ref b1), (.ref b1)])) rfl (by rw [hml]; rfl) (Steps.refl _) (a := b1) (argsL := []) (rest := [(.ref b1)]) (lenOf own_pd0 rfl) rfl (by show 2 * 0 + _ ≤ _; exact Nat.le_of_eq rfl) (hb hby at_34) (fun _ _ => ⟨rfl, e1, (by decide : 1 + 0 ≤ _), (by decide : 3 + 0 ≤ _)⟩)
  dsimp only [Pt.U, Pt.locs, Pt.cells, Pt.slots] at X2 l2 y2 z2 st2 hQ2
  subst l2 y2 z2
  obtain ⟨rfl, N2q, Kq2, Eq2, Fq2_maxAttempts, Fq2_backoff, Fq2_longestRunTime⟩ := hQ2
  have N2 := Fr.app N0 N2q
  have K2 : Keep h0 T2.heap [] := K1.trans Kq2 (fun x hx => by cases List.mem_singleton.mp hx; exact Or.inr sz_b1)
  obtain ⟨cq3, kq3, q3a, q3b, q3c⟩ := isOf hZ rfl Eq2
  obtain ⟨_, _, ⟨T3, L3, k3, n3⟩, -, X3, ⟨Lc3, hQ3, l3, y3, z3⟩, st3⟩ := X2.virtualBack hx (y := (⟨"com/example/mersey/mersey/JobTypeSettings", "isLastAttempt", "(I)Z"⟩ : MethodName)) (z := (⟨"com/example/mersey/mersey/JobTypeSettings", "isLastAttempt", "(I)Z"⟩ : MethodName)) hown (mvT hZ (hw _ (List.mem_of_getElem? (i := 27) rfl))) (mvT hZ (hw _ (List.mem_of_getElem? (i := 28) rfl))) (notFace_of_selects (args := #[]) (mvT hZ (hw _ (List.mem_of_getElem? (i := 30) rfl)))) (mvT hZ (hw _ (List.mem_of_getElem? (i := 30) rfl))) (mvT hZ (hw _ (List.mem_of_getElem? (i := 29) rfl))) (by decide) (backOf (W := 0) (own_b5_t l Z a0 hw [] b1 p2_ (5 : Int32) T2.heap n0 (Nat.le_trans Z0 (own_ext K2).1) Fq2_maxAttempts hf3) hZ (hw _ (List.mem_of_getElem? (i := 31) rfl)) (hw _ (List.mem_of_getElem? (i := 3) rfl)) (by decide) (by decide)) q3a q3c (g := (mkF m 62 #[.val (.int p0_), .val (.int p1_), .val (.int p2_), .val (.int (1 : Int32)), .val (.int (5 : Int32)), .val (.ref b1), .unset, .unset, .unset, .unset, .unset] [(.int p2_), (.ref b1)])) rfl (by rw [hml]; rfl) (Steps.refl _) (argsL := [(.int p2_)]) (rest := []) (lenOf own_pd1 rfl) rfl (by show 2 * 0 + _ ≤ _; exact Nat.le_of_eq rfl) (hb hby at_62) (fun _ _ => ⟨rfl, rfl, (by decide : 1 + 0 ≤ _), (by decide : 3 + 0 ≤ _)⟩)
  dsimp only [Pt.U, Pt.locs, Pt.cells, Pt.slots] at X3 l3 y3 z3 st3 hQ3
  subst l3 y3 z3
  obtain ⟨rfl, N3q, e3⟩ := hQ3
  have N3 := Fr.app N2 N3q
  obtain ⟨cq4, kq4, q4a, q4b, q4c⟩ := isOf hZ e3 Eq2
  obtain ⟨_, _, ⟨T4, L4, k4, n4⟩, -, X4, ⟨Lc4, hQ4, l4, y4, z4⟩, st4⟩ := X3.virtualBack hx (y := (⟨"com/example/mersey/mersey/JobTypeSettings", "isLastAttempt", "(I)Z"⟩ : MethodName)) (z := (⟨"com/example/mersey/mersey/JobTypeSettings", "isLastAttempt", "(I)Z"⟩ : MethodName)) hown (mvT hZ (hw _ (List.mem_of_getElem? (i := 27) rfl))) (mvT hZ (hw _ (List.mem_of_getElem? (i := 28) rfl))) (notFace_of_selects (args := #[]) (mvT hZ (hw _ (List.mem_of_getElem? (i := 30) rfl)))) (mvT hZ (hw _ (List.mem_of_getElem? (i := 30) rfl))) (mvT hZ (hw _ (List.mem_of_getElem? (i := 29) rfl))) (by decide) (backOf (W := 0) (own_b5_f l Z a0 hw [] b1 (5 : Int32) (5 : Int32) T2.heap n0 (Nat.le_trans Z0 (own_ext K2).1) Fq2_maxAttempts (by decide)) hZ (hw _ (List.mem_of_getElem? (i := 31) rfl)) (hw _ (List.mem_of_getElem? (i := 3) rfl)) (by decide) (by decide)) q4a q4c (g := (mkF m 93 #[.val (.int p0_), .val (.int p1_), .val (.int p2_), .val (.int (1 : Int32)), .val (.int (5 : Int32)), .val (.ref b1), .val (.int (0 : Int32)), .val (.int (0 : Int32)), .unset, .unset, .unset] [(.int (5 : Int32)), (.ref b1)])) rfl (by rw [hml]; rfl) (Steps.refl _) (argsL := [(.int (5 : Int32))]) (rest := []) (lenOf own_pd1 rfl) rfl (by show 2 * 0 + _ ≤ _; exact Nat.le_of_eq rfl) (hb hby at_93) (fun _ _ => ⟨rfl, e3, (by decide : 1 + 0 ≤ _), (by decide : 3 + 0 ≤ _)⟩)
  dsimp only [Pt.U, Pt.locs, Pt.cells, Pt.slots] at X4 l4 y4 z4 st4 hQ4
  subst l4 y4 z4
  obtain ⟨rfl, N4q, e4⟩ := hQ4
  have N4 := Fr.app N3 N4q
  obtain ⟨cq5, kq5, q5a, q5b, q5c⟩ := isOf hZ e4 Eq2
  obtain ⟨_, _, ⟨T5, L5, k5, n5⟩, -, X5, ⟨Lc5, hQ5, l5, y5, z5⟩, st5⟩ := X4.virtualBack hx (y := (⟨"com/example/mersey/mersey/JobTypeSettings", "isLastAttempt", "(I)Z"⟩ : MethodName)) (z := (⟨"com/example/mersey/mersey/JobTypeSettings", "isLastAttempt", "(I)Z"⟩ : MethodName)) hown (mvT hZ (hw _ (List.mem_of_getElem? (i := 27) rfl))) (mvT hZ (hw _ (List.mem_of_getElem? (i := 28) rfl))) (notFace_of_selects (args := #[]) (mvT hZ (hw _ (List.mem_of_getElem? (i := 30) rfl)))) (mvT hZ (hw _ (List.mem_of_getElem? (i := 30) rfl))) (mvT hZ (hw _ (List.mem_of_getElem? (i := 29) rfl))) (by decide) (backOf (W := 0) (own_b5_t l Z a0 hw [] b1 ((5 : Int32) - (1 : Int32)) (5 : Int32) T2.heap n0 (Nat.le_trans Z0 (own_ext K2).1) Fq2_maxAttempts (by decide)) hZ (hw _ (List.mem_of_getElem? (i := 31) rfl)) (hw _ (List.mem_of_getElem? (i := 3) rfl)) (by decide) (by decide)) q5a q5c (g := (mkF m 113 #[.val (.int p0_), .val (.int p1_), .val (.int p2_), .val (.int (1 : Int32)), .val (.int (5 : Int32)), .val (.ref b1), .val (.int (0 : Int32)), .val (.int (0 : Int32)), .unset, .unset, .unset] [(.int ((5 : Int32) - (1 : Int32))), (.ref b1)])) rfl (by rw [hml]; rfl) (Steps.refl _) (argsL := [(.int ((5 : Int32) - (1 : Int32)))]) (rest := []) (lenOf own_pd1 rfl) rfl (by show 2 * 0 + _ ≤ _; exact Nat.le_of_eq rfl) (hb hby at_113) (fun _ _ => ⟨rfl, e4, (by decide : 1 + 0 ≤ _), (by decide : 3 + 0 ≤ _)⟩)
  dsimp only [Pt.U, Pt.locs, Pt.cells, Pt.slots] at X5 l5 y5 z5 st5 hQ5
  subst l5 y5 z5
  obtain ⟨rfl, N5q, e5⟩ := hQ5
  have N5 := Fr.app N4 N5q
  obtain ⟨cq6, kq6, q6a, q6b, q6c⟩ := isOf hZ e5 Eq2
  obtain ⟨_, _, ⟨T6, L6, k6, n6⟩, -, X6, ⟨Lc6, hQ6, l6, y6, z6⟩, st6⟩ := X5.virtualBack hx (y := (⟨"com/example/mersey/mersey/JobTypeSettings", "isLastAttempt", "(I)Z"⟩ : MethodName)) (z := (⟨"com/example/mersey/mersey/JobTypeSettings", "isLastAttempt", "(I)Z"⟩ : MethodName)) hown (mvT hZ (hw _ (List.mem_of_getElem? (i := 27) rfl))) (mvT hZ (hw _ (List.mem_of_getElem? (i := 28) rfl))) (notFace_of_selects (args := #[]) (mvT hZ (hw _ (List.mem_of_getElem? (i := 30) rfl)))) (mvT hZ (hw _ (List.mem_of_getElem? (i := 30) rfl))) (mvT hZ (hw _ (List.mem_of_getElem? (i := 29) rfl))) (by decide) (backOf (W := 0) (own_b5_f l Z a0 hw [] b1 (l_.toInt32) (5 : Int32) T2.heap n0 (Nat.le_trans Z0 (own_ext K2).1) Fq2_maxAttempts hf8) hZ (hw _ (List.mem_of_getElem? (i := 31) rfl)) (hw _ (List.mem_of_getElem? (i := 3) rfl)) (by decide) (by decide)) q6a q6c (g := (mkF m 153 #[.val (.int p0_), .val (.int p1_), .val (.int p2_), .val (.int (1 : Int32)), .val (.int (5 : Int32)), .val (.ref b1), .val (.int (0 : Int32)), .val (.int (0 : Int32)), .val (.int f_), .val (.long l_), .second] [(.int (l_.toInt32)), (.ref b1)])) rfl (by rw [hml]; rfl) (Steps.refl _) (argsL := [(.int (l_.toInt32))]) (rest := []) (lenOf own_pd1 rfl) rfl (by show 2 * 0 + _ ≤ _; exact Nat.le_of_eq rfl) (hb hby at_153) (fun _ _ => ⟨rfl, e5, (by decide : 1 + 0 ≤ _), (by decide : 3 + 0 ≤ _)⟩)
  dsimp only [Pt.U, Pt.locs, Pt.cells, Pt.slots] at X6 l6 y6 z6 st6 hQ6
  subst l6 y6 z6
  obtain ⟨rfl, N6q, e6⟩ := hQ6
  have N6 := Fr.app N5 N6q
  obtain ⟨fs, hr, hrun, hended, hW, hsame⟩ := X6.leave (v := some (.int (1 : Int32))) (fun h => by rw [Bd.returns] at h; cases h)
  refine ⟨_, _, pre0 _ ?_, hrun, hended, _, _, rfl, ?_, ⟨_, rfl⟩, hW, hsame.mono (by decide) (by decide)⟩
  · show Steps p.tables e below (s₁.setTop (mkF m 0 #[.val (.int p0_), .val (.int p1_), .val (.int p2_), .unset, .unset, .unset, .unset, .unset, .unset, .unset, .unset] [])) _
    refine XS.iloadN X0.here hx rfl (hb hby at_0) rfl ?_
    refine XS.iconst X0.here hx rfl (hb hby at_1) ?_
    refine XS.iand X0.here hx rfl (hb hby at_2) rfl ?_
    show Steps p.tables e below (s₁.setTop (mkF m 3 #[.val (.int p0_), .val (.int p1_), .val (.int p2_), .unset, .unset, .unset, .unset, .unset, .unset, .unset, .unset] [(.int (p0_ &&& (1 : Int32)))])) _
    rw [hf0]
    refine XS.ifNo X0.here hx rfl (hb hby at_3) rfl ((if0 _ _).trans (feq (by decide : ¬ ((1 : Int32) = (0 : Int32)))).1) ?_
    refine XS.iconst X0.here hx rfl (hb hby at_6) ?_
    refine XS.goto X0.here hx rfl (pc0 := 7) (pc' := 11) rfl (hb hby at_7) (by decide) (by decide) ?_
    show Steps p.tables e below (s₁.setTop (mkF m 11 #[.val (.int p0_), .val (.int p1_), .val (.int p2_), .unset, .unset, .unset, .unset, .unset, .unset, .unset, .unset] [(.int (1 : Int32))])) _
    refine XS.istoreN X0.here hx rfl (hb hby at_11) rfl (l' := #[.val (.int p0_), .val (.int p1_), .val (.int p2_), .val (.int (1 : Int32)), .unset, .unset, .unset, .unset, .unset, .unset, .unset]) rfl ?_
    refine XS.iloadN X0.here hx rfl (hb hby at_12) rfl ?_
    show Steps p.tables e below (s₁.setTop (mkF m 13 #[.val (.int p0_), .val (.int p1_), .val (.int p2_), .val (.int (1 : Int32)), .unset, .unset, .unset, .unset, .unset, .unset, .unset] [(.int p1_)])) _
    refine X0.ldcInt hx hown (mvT hZ (hw _ (List.mem_of_getElem? (i := 0) rfl))) (g := (mkF m 13 #[.val (.int p0_), .val (.int p1_), .val (.int p2_), .val (.int (1 : Int32)), .unset, .unset, .unset, .unset, .unset, .unset, .unset] [(.int p1_)])) rfl (hb hby at_13) _ ?_
    refine XS.iand X0.here hx rfl (hb hby at_15) rfl ?_
    show Steps p.tables e below (s₁.setTop (mkF m 16 #[.val (.int p0_), .val (.int p1_), .val (.int p2_), .val (.int (1 : Int32)), .unset, .unset, .unset, .unset, .unset, .unset, .unset] [(.int (p1_ &&& (2147483647 : Int32)))])) _
    rw [hf1]
    refine XS.istore X0.here hx rfl (hb hby at_16) rfl (l' := #[.val (.int p0_), .val (.int p1_), .val (.int p2_), .val (.int (1 : Int32)), .val (.int m_), .unset, .unset, .unset, .unset, .unset, .unset]) rfl ?_
    refine XS.iload X0.here hx rfl (hb hby at_18) rfl ?_
    refine XS.ifYes X0.here hx rfl (pc0 := 20) (pc' := 26) rfl (hb hby at_20) rfl ((if0 _ _).trans (feq hf2).2) (by decide) (by decide) ?_
    show Steps p.tables e below (s₁.setTop (mkF m 26 #[.val (.int p0_), .val (.int p1_), .val (.int p2_), .val (.int (1 : Int32)), .val (.int m_), .unset, .unset, .unset, .unset, .unset, .unset] [])) _
    refine XS.iloadN X0.here hx rfl (hb hby at_26) rfl ?_
    refine XS.ifNo X0.here hx rfl (hb hby at_27) rfl ((if0 _ _).trans (feq (by decide : ¬ ((1 : Int32) = (0 : Int32)))).1) ?_
    show Steps p.tables e below (s₁.setTop (mkF m 30 #[.val (.int p0_), .val (.int p1_), .val (.int p2_), .val (.int (1 : Int32)), .val (.int m_), .unset, .unset, .unset, .unset, .unset, .unset] [])) _
    refine st1 _ ?_
    refine XS.dup X1.here hx rfl (hb hby at_33) rfl rfl ?_
    show Steps p.tables e below (T1.setTop (mkF m 34 #[.val (.int p0_), .val (.int p1_), .val (.int p2_), .val (.int (1 : Int32)), .val (.int m_), .unset, .unset, .unset, .unset, .unset, .unset] [(.ref b1), (.ref b1)])) _
    refine st2.trans ?_
    refine XS.astore X2.here hx rfl (hb hby at_37) rfl rfl (l' := #[.val (.int p0_), .val (.int p1_), .val (.int p2_), .val (.int (1 : Int32)), .val (.int m_), .val (.ref b1), .unset, .unset, .unset, .unset, .unset]) rfl ?_
    refine XS.iconst X2.here hx rfl (hb hby at_39) ?_
    refine XS.istore X2.here hx rfl (hb hby at_40) rfl (l' := #[.val (.int p0_), .val (.int p1_), .val (.int p2_), .val (.int (1 : Int32)), .val (.int (5 : Int32)), .val (.ref b1), .unset, .unset, .unset, .unset, .unset]) rfl ?_
    show Steps p.tables e below (T2.setTop (mkF m 42 #[.val (.int p0_), .val (.int p1_), .val (.int p2_), .val (.int (1 : Int32)), .val (.int (5 : Int32)), .val (.ref b1), .unset, .unset, .unset, .unset, .unset] [])) _
    refine XS.goto X2.here hx rfl (pc0 := 42) (pc' := 59) rfl (hb hby at_42) (by decide) (by decide) ?_
    refine XS.aload X2.here hx rfl (hb hby at_59) rfl rfl ?_
    refine XS.iloadN X2.here hx rfl (hb hby at_61) rfl ?_
    show Steps p.tables e below (T2.setTop (mkF m 62 #[.val (.int p0_), .val (.int p1_), .val (.int p2_), .val (.int (1 : Int32)), .val (.int (5 : Int32)), .val (.ref b1), .unset, .unset, .unset, .unset, .unset] [(.int p2_), (.ref b1)])) _
    refine st3.trans ?_
    refine XS.istore X3.here hx rfl (hb hby at_65) rfl (l' := #[.val (.int p0_), .val (.int p1_), .val (.int p2_), .val (.int (1 : Int32)), .val (.int (5 : Int32)), .val (.ref b1), .val (.int (0 : Int32)), .unset, .unset, .unset, .unset]) rfl ?_
    refine XS.iloadN X3.here hx rfl (hb hby at_67) rfl ?_
    refine XS.iload X3.here hx rfl (hb hby at_68) rfl ?_
    show Steps p.tables e below (T3.setTop (mkF m 70 #[.val (.int p0_), .val (.int p1_), .val (.int p2_), .val (.int (1 : Int32)), .val (.int (5 : Int32)), .val (.ref b1), .val (.int (0 : Int32)), .unset, .unset, .unset, .unset] [(.int (5 : Int32)), (.int p2_)])) _
    refine XS.icmpYes X3.here hx rfl (pc0 := 70) (pc' := 77) rfl (hb hby at_70) rfl (tlt hf3).1 (by decide) (by decide) ?_
    refine XS.iconst X3.here hx rfl (hb hby at_77) ?_
    refine XS.istore X3.here hx rfl (hb hby at_78) rfl (l' := #[.val (.int p0_), .val (.int p1_), .val (.int p2_), .val (.int (1 : Int32)), .val (.int (5 : Int32)), .val (.ref b1), .val (.int (0 : Int32)), .val (.int (0 : Int32)), .unset, .unset, .unset]) rfl ?_
    refine XS.iload X3.here hx rfl (hb hby at_80) rfl ?_
    show Steps p.tables e below (T3.setTop (mkF m 82 #[.val (.int p0_), .val (.int p1_), .val (.int p2_), .val (.int (1 : Int32)), .val (.int (5 : Int32)), .val (.ref b1), .val (.int (0 : Int32)), .val (.int (0 : Int32)), .unset, .unset, .unset] [(.int (0 : Int32))])) _
    refine XS.iload X3.here hx rfl (hb hby at_82) rfl ?_
    refine XS.icmpYes X3.here hx rfl (pc0 := 84) (pc' := 89) rfl (hb hby at_84) rfl (teq (rfl : (0 : Int32) = (0 : Int32))).1 (by decide) (by decide) ?_
    refine XS.aload X3.here hx rfl (hb hby at_89) rfl rfl ?_
    refine XS.iload X3.here hx rfl (hb hby at_91) rfl ?_
    show Steps p.tables e below (T3.setTop (mkF m 93 #[.val (.int p0_), .val (.int p1_), .val (.int p2_), .val (.int (1 : Int32)), .val (.int (5 : Int32)), .val (.ref b1), .val (.int (0 : Int32)), .val (.int (0 : Int32)), .unset, .unset, .unset] [(.int (5 : Int32)), (.ref b1)])) _
    refine st4.trans ?_
    refine XS.ifYes X4.here hx rfl (pc0 := 96) (pc' := 101) rfl (hb hby at_96) rfl ((if0 _ _).trans (feq (by decide : ¬ ((1 : Int32) = (0 : Int32)))).2) (by decide) (by decide) ?_
    refine XS.iload X4.here hx rfl (hb hby at_101) rfl ?_
    refine XS.iconst X4.here hx rfl (hb hby at_103) ?_
    show Steps p.tables e below (T4.setTop (mkF m 104 #[.val (.int p0_), .val (.int p1_), .val (.int p2_), .val (.int (1 : Int32)), .val (.int (5 : Int32)), .val (.ref b1), .val (.int (0 : Int32)), .val (.int (0 : Int32)), .unset, .unset, .unset] [(.int (1 : Int32)), (.int (5 : Int32))])) _
    refine XS.icmpNo X4.here hx rfl (hb hby at_104) rfl (tlt (by decide : (1 : Int32) < (5 : Int32))).2.2.2 ?_
    refine XS.aload X4.here hx rfl (hb hby at_107) rfl rfl ?_
    refine XS.iload X4.here hx rfl (hb hby at_109) rfl ?_
    refine XS.iconst X4.here hx rfl (hb hby at_111) ?_
    show Steps p.tables e below (T4.setTop (mkF m 112 #[.val (.int p0_), .val (.int p1_), .val (.int p2_), .val (.int (1 : Int32)), .val (.int (5 : Int32)), .val (.ref b1), .val (.int (0 : Int32)), .val (.int (0 : Int32)), .unset, .unset, .unset] [(.int (1 : Int32)), (.int (5 : Int32)), (.ref b1)])) _
    refine XS.isub X4.here hx rfl (hb hby at_112) rfl ?_
    show Steps p.tables e below (T4.setTop (mkF m 113 #[.val (.int p0_), .val (.int p1_), .val (.int p2_), .val (.int (1 : Int32)), .val (.int (5 : Int32)), .val (.ref b1), .val (.int (0 : Int32)), .val (.int (0 : Int32)), .unset, .unset, .unset] [(.int ((5 : Int32) - (1 : Int32))), (.ref b1)])) _
    refine st5.trans ?_
    refine XS.ifYes X5.here hx rfl (pc0 := 116) (pc' := 121) rfl (hb hby at_116) rfl ((if0 _ _).trans (teq (rfl : (0 : Int32) = (0 : Int32))).1) (by decide) (by decide) ?_
    refine XS.iloadN X5.here hx rfl (hb hby at_121) rfl ?_
    refine XS.iconst X5.here hx rfl (hb hby at_122) ?_
    show Steps p.tables e below (T5.setTop (mkF m 123 #[.val (.int p0_), .val (.int p1_), .val (.int p2_), .val (.int (1 : Int32)), .val (.int (5 : Int32)), .val (.ref b1), .val (.int (0 : Int32)), .val (.int (0 : Int32)), .unset, .unset, .unset] [(.int (1 : Int32)), (.int p0_)])) _
    refine XS.iushr X5.here hx rfl (hb hby at_123) rfl ?_
    refine XS.iconst X5.here hx rfl (hb hby at_124) ?_
    show Steps p.tables e below (T5.setTop (mkF m 125 #[.val (.int p0_), .val (.int p1_), .val (.int p2_), .val (.int (1 : Int32)), .val (.int (5 : Int32)), .val (.ref b1), .val (.int (0 : Int32)), .val (.int (0 : Int32)), .unset, .unset, .unset] [(.int (5 : Int32)), (.int ((p0_.toUInt32 >>> ((1 : Int32) &&& 31).toUInt32).toInt32))])) _
    refine iremM X5 hx rfl (hb hby at_125) rfl (by decide) ?_
    show Steps p.tables e below (T5.setTop (mkF m 126 #[.val (.int p0_), .val (.int p1_), .val (.int p2_), .val (.int (1 : Int32)), .val (.int (5 : Int32)), .val (.ref b1), .val (.int (0 : Int32)), .val (.int (0 : Int32)), .unset, .unset, .unset] [(.int (((p0_.toUInt32 >>> ((1 : Int32) &&& 31).toUInt32).toInt32) % (5 : Int32)))])) _
    rw [hf4]
    refine XS.iconst X5.here hx rfl (hb hby at_126) ?_
    refine XS.isub X5.here hx rfl (hb hby at_127) rfl ?_
    show Steps p.tables e below (T5.setTop (mkF m 128 #[.val (.int p0_), .val (.int p1_), .val (.int p2_), .val (.int (1 : Int32)), .val (.int (5 : Int32)), .val (.ref b1), .val (.int (0 : Int32)), .val (.int (0 : Int32)), .unset, .unset, .unset] [(.int (o_ - (2 : Int32)))])) _
    rw [hf5]
    refine XS.istore X5.here hx rfl (hb hby at_128) rfl (l' := #[.val (.int p0_), .val (.int p1_), .val (.int p2_), .val (.int (1 : Int32)), .val (.int (5 : Int32)), .val (.ref b1), .val (.int (0 : Int32)), .val (.int (0 : Int32)), .val (.int f_), .unset, .unset]) rfl ?_
    refine XS.iload X5.here hx rfl (hb hby at_130) rfl ?_
    refine XS.i2l X5.here hx rfl (hb hby at_132) rfl ?_
    show Steps p.tables e below (T5.setTop (mkF m 133 #[.val (.int p0_), .val (.int p1_), .val (.int p2_), .val (.int (1 : Int32)), .val (.int (5 : Int32)), .val (.ref b1), .val (.int (0 : Int32)), .val (.int (0 : Int32)), .val (.int f_), .unset, .unset] [(.long ((5 : Int32).toInt64))])) _
    refine XS.iload X5.here hx rfl (hb hby at_133) rfl ?_
    refine XS.i2l X5.here hx rfl (hb hby at_135) rfl ?_
    refine XS.ladd X5.here hx rfl (hb hby at_136) rfl ?_
    show Steps p.tables e below (T5.setTop (mkF m 137 #[.val (.int p0_), .val (.int p1_), .val (.int p2_), .val (.int (1 : Int32)), .val (.int (5 : Int32)), .val (.ref b1), .val (.int (0 : Int32)), .val (.int (0 : Int32)), .val (.int f_), .unset, .unset] [(.long (((5 : Int32).toInt64) + (f_.toInt64)))])) _
    rw [hf6]
    refine XS.lstore X5.here hx rfl (hb hby at_137) rfl (l' := #[.val (.int p0_), .val (.int p1_), .val (.int p2_), .val (.int (1 : Int32)), .val (.int (5 : Int32)), .val (.ref b1), .val (.int (0 : Int32)), .val (.int (0 : Int32)), .val (.int f_), .val (.long l_), .second]) rfl ?_
    refine XS.lload X5.here hx rfl (hb hby at_139) rfl ?_
    show Steps p.tables e below (T5.setTop (mkF m 141 #[.val (.int p0_), .val (.int p1_), .val (.int p2_), .val (.int (1 : Int32)), .val (.int (5 : Int32)), .val (.ref b1), .val (.int (0 : Int32)), .val (.int (0 : Int32)), .val (.int f_), .val (.long l_), .second] [(.long l_)])) _
    refine X5.ldc2Long hx hown (mvT hZ (hw _ (List.mem_of_getElem? (i := 32) rfl))) (g := (mkF m 141 #[.val (.int p0_), .val (.int p1_), .val (.int p2_), .val (.int (1 : Int32)), .val (.int (5 : Int32)), .val (.ref b1), .val (.int (0 : Int32)), .val (.int (0 : Int32)), .val (.int f_), .val (.long l_), .second] [(.long l_)])) rfl (hb hby at_141) _ ?_
    refine XS.lcmp X5.here hx rfl (hb hby at_144) rfl ?_
    refine XS.ifNo X5.here hx rfl (hb hby at_145) rfl ((if0 _ _).trans (flt hf7).2.2.1) ?_
    refine XS.aload X5.here hx rfl (hb hby at_148) rfl rfl ?_
    show Steps p.tables e below (T5.setTop (mkF m 150 #[.val (.int p0_), .val (.int p1_), .val (.int p2_), .val (.int (1 : Int32)), .val (.int (5 : Int32)), .val (.ref b1), .val (.int (0 : Int32)), .val (.int (0 : Int32)), .val (.int f_), .val (.long l_), .second] [(.ref b1)])) _
    refine XS.lload X5.here hx rfl (hb hby at_150) rfl ?_
    refine XS.l2i X5.here hx rfl (hb hby at_152) rfl ?_
    show Steps p.tables e below (T5.setTop (mkF m 153 #[.val (.int p0_), .val (.int p1_), .val (.int p2_), .val (.int (1 : Int32)), .val (.int (5 : Int32)), .val (.ref b1), .val (.int (0 : Int32)), .val (.int (0 : Int32)), .val (.int f_), .val (.long l_), .second] [(.int (l_.toInt32)), (.ref b1)])) _
    refine st6.trans ?_
    refine XS.iload X6.here hx rfl (hb hby at_156) rfl ?_
    refine XS.ifNo X6.here hx rfl (hb hby at_158) rfl ((if0 _ _).trans (flt hf9).1) ?_
    refine XS.iconst X6.here hx rfl (hb hby at_161) ?_
    show Steps p.tables e below (T6.setTop (mkF m 162 #[.val (.int p0_), .val (.int p1_), .val (.int p2_), .val (.int (1 : Int32)), .val (.int (5 : Int32)), .val (.ref b1), .val (.int (0 : Int32)), .val (.int (0 : Int32)), .val (.int f_), .val (.long l_), .second] [(.int (1 : Int32)), (.int (1 : Int32))])) _
    refine XS.goto X6.here hx rfl (pc0 := 162) (pc' := 166) rfl (hb hby at_162) (by decide) (by decide) ?_
    refine XS.icmpYes X6.here hx rfl (pc0 := 166) (pc' := 171) rfl (hb hby at_166) rfl (teq (rfl : (1 : Int32) = (1 : Int32))).1 (by decide) (by decide) ?_
    refine XS.iconst X6.here hx rfl (hb hby at_171) ?_
    show Steps p.tables e below (T6.setTop (mkF m 172 #[.val (.int p0_), .val (.int p1_), .val (.int p2_), .val (.int (1 : Int32)), .val (.int (5 : Int32)), .val (.ref b1), .val (.int (0 : Int32)), .val (.int (0 : Int32)), .val (.int f_), .val (.long l_), .second] [(.int (1 : Int32))])) _
    exact retN X6 hx (t := .boolean) Bd.returns (by simp) (hb hby at_172) hr
  · show own_QL n0 _ T6.heap _
    exact ⟨rfl, N6⟩
set_option maxRecDepth 65536 in
set_option maxHeartbeats 40000000 in
theorem own_law_Dngl (l : Launch) (Z : State) (a0 : Array Value) (hw : ∀ d ∈ tables_1, d.before a0 Z = true) (ws : List Jvm.Cond) (p0_ : Int32) (p1_ : Int32) (p2_ : Int32) (m_ : Int32) (w_DEFAULT_BACKOFF : Addr) (o_ : Int32) (f_ : Int32) (l_ : Int64) (h0 : Heap) (n0 : Nat) (Z0 : n0 ≤ h0.size) (S_DEFAULT_BACKOFF : Sta Z h0 "com/example/mersey/mersey/JobTypeSettings" "DEFAULT_BACKOFF" "Lcom/example/mersey/mersey/Backoff;" (.ref w_DEFAULT_BACKOFF)) (hf0 : (p0_ &&& (1 : Int32)) = (1 : Int32)) (hf1 : (p1_ &&& (2147483647 : Int32)) = m_) (hf2 : ¬ (m_ = (0 : Int32))) (hf3 : ¬ (p2_ < (5 : Int32))) (hf4 : (((p0_.toUInt32 >>> ((1 : Int32) &&& 31).toUInt32).toInt32) % (5 : Int32)) = o_) (hf5 : (o_ - (2 : Int32)) = f_) (hf6 : (((5 : Int32).toInt64) + (f_.toInt64)) = l_) (hf7 : ¬ ((0 : Int32) < (lcmpW l_ (2147483647 : Int64)))) (hf8 : (l_.toInt32) < (5 : Int32)) (hf9 : f_ < (0 : Int32)) :
    MetFree l x (head1 (Jvm.Cond.code x code maxLocals ret :: ws) room_1) (fun a U => a = #[(.int p0_), (.int p1_), (.int p2_)] ∧ Z.Warmed39 U.vm ∧ U.heap = h0) (fun _ _ _ _ _ => True) (fun _ U o U' => ∃ v L, o = .returned v ∧ own_QL n0 v U'.heap L ∧ FrameEnd U o U' L room_1.cells room_1.slots) := by
  refine MetFree.of_bodySF (plainFor_of_name own_pn1) hisR ?_
  intro p e s m args below meth c s₁ Bd hml0 hP hK
  obtain ⟨rfl, hZ, hh⟩ := hP
  have hx := Bd.exec
  have hby := Bd.bytes
  have hml : c.maxLocals = 11 := hml0
  have hown : s.vm.findClass "com/example/mersey/mersey/JobTypeSettingsIsLastAttemptPinLaw" = some m.cls := findClass_of_methodNamed Bd.named
  have hnm := (name_of_methodNamed Bd.named Bd.method).1
  have X0 : Stand p l e room_1 s m #[(.int p0_), (.int p1_), (.int p2_)] below meth c s₁ [] 0 0 := Stand.of_body Bd
  have e0 : s₁.heap = h0 := by rw [← hh, Bd.state]; rfl
  have N0 := Fr.nil n0
  have pre0 : ∀ t, Steps p.tables e below (s₁.setTop (mkF m 0 #[.val (.int p0_), .val (.int p1_), .val (.int p2_), .unset, .unset, .unset, .unset, .unset, .unset, .unset, .unset] [])) t → Steps p.tables e below (s₁.setTop (entryFrame m #[(.int p0_), (.int p1_), (.int p2_)] maxLocals)) t := fun t k => castTop (own_ef2 m p0_ p1_ p2_) k
  obtain ⟨T1, h1, X1, e1, E1, A1, D1, -, st1⟩ := newO X0 hx hZ hown (hw _ (List.mem_of_getElem? (i := 1) rfl)) (hw _ (List.mem_of_getElem? (i := 2) rfl)) (hw _ (List.mem_of_getElem? (i := 3) rfl)) e0 (g := (mkF m 30 #[.val (.int p0_), .val (.int p1_), .val (.int p2_), .val (.int (1 : Int32)), .val (.int m_), .unset, .unset, .unset, .unset, .unset, .unset] [])) rfl (hb hby at_30) (by decide) (by decide)
  obtain ⟨b1, g1⟩ : ∃ z, z = h0.size := ⟨_, rfl⟩
  rw [← g1] at A1 D1 st1
  have lo_b1 : h0.size ≤ b1 := Nat.le_of_eq g1.symm
  have sz_b1 : h0.size ≤ b1 := Nat.le_trans (Keep.refl h0 []).1 lo_b1
  have g_b1 : n0 ≤ b1 := Nat.le_trans Z0 sz_b1
  have K1 : Keep h0 h1 [] := (Keep.refl h0 []).ext E1
  have F_maxAttempts_b1_1 : Fld Z h1 b1 "com/example/mersey/mersey/JobTypeSettings" "maxAttempts" "I" (.int (0 : Int32)) := D1 (Or.inl (hw _ (List.mem_of_getElem? (i := 11) rfl))) (ty := .int) (by decide)
  have F_backoff_b1_1 : Fld Z h1 b1 "com/example/mersey/mersey/JobTypeSettings" "backoff" "Lcom/example/mersey/mersey/Backoff;" .null := D1 (Or.inl (hw _ (List.mem_of_getElem? (i := 15) rfl))) (ty := (.object "com/example/mersey/mersey/Backoff")) (by decide)
  have F_longestRunTime_b1_1 : Fld Z h1 b1 "com/example/mersey/mersey/JobTypeSettings" "longestRunTime" "Ljava/time/Duration;" .null := D1 (Or.inl (hw _ (List.mem_of_getElem? (i := 26) rfl))) (ty := (.object "java/time/Duration")) (by decide)
  obtain ⟨_, _, ⟨T2, L2, k2, n2⟩, -, X2, ⟨Lc2, hQ2, l2, y2, z2⟩, st2⟩ := X1.specialBack hx (y := (⟨"com/example/mersey/mersey/JobTypeSettings", "<init>", "()V"⟩ : MethodName)) rfl hown (mvT hZ (hw _ (List.mem_of_getElem? (i := 4) rfl))) (mvT hZ (hw _ (List.mem_of_getElem? (i := 5) rfl))) (mvT hZ (hw _ (List.mem_of_getElem? (i := 6) rfl))) (by decide) (backOf (W := 1) (own_b1_x l Z a0 hw [] b1 (.int (0 : Int32)) w_DEFAULT_BACKOFF .null .null h1 n0 (Nat.le_trans Z0 (own_ext K1).1) A1 F_maxAttempts_b1_1 g_b1 (S_DEFAULT_BACKOFF.ext (own_ext K1)) F_backoff_b1_1 F_longestRunTime_b1_1) hZ (hw _ (List.mem_of_getElem? (i := 6) rfl)) (hw _ (List.mem_of_getElem? (i := 3) rfl)) (by decide) (by decide)) (g := (mkF m 34 #[.val (.int p0_), .val (.int p1_), .val (.int p2_), .val (.int (1 : Int32)), .val (.int m_), .unset, .unset, .unset, .unset, .unset, .unset] [(.ref b1), (.ref b1)])) rfl (by rw [hml]; rfl) (Steps.refl _) (a := b1) (argsL := []) (rest := [(.ref b1)]) (lenOf own_pd0 rfl) rfl (by show 2 * 0 + _ ≤ _; exact Nat.le_of_eq rfl) (hb hby at_34) (fun _ _ => ⟨rfl, e1, (by decide : 1 + 0 ≤ _), (by decide : 3 + 0 ≤ _)⟩)
  dsimp only [Pt.U, Pt.locs, Pt.cells, Pt.slots] at X2 l2 y2 z2 st2 hQ2
  subst l2 y2 z2
  obtain ⟨rfl, N2q, Kq2, Eq2, Fq2_maxAttempts, Fq2_backoff, Fq2_longestRunTime⟩ := hQ2
  have N2 := Fr.app N0 N2q
  have K2 : Keep h0 T2.heap [] := K1.trans Kq2 (fun x hx => by cases List.mem_singleton.mp hx; exact Or.inr sz_b1)
  obtain ⟨cq3, kq3, q3a, q3b, q3c⟩ := isOf hZ rfl Eq2
  obtain ⟨_, _, ⟨T3, L3, k3, n3⟩, -, X3, ⟨Lc3, hQ3, l3, y3, z3⟩, st3⟩ := X2.virtualBack hx (y := (⟨"com/example/mersey/mersey/JobTypeSettings", "isLastAttempt", "(I)Z"⟩ : MethodName)) (z := (⟨"com/example/mersey/mersey/JobTypeSettings", "isLastAttempt", "(I)Z"⟩ : MethodName)) hown (mvT hZ (hw _ (List.mem_of_getElem? (i := 27) rfl))) (mvT hZ (hw _ (List.mem_of_getElem? (i := 28) rfl))) (notFace_of_selects (args := #[]) (mvT hZ (hw _ (List.mem_of_getElem? (i := 30) rfl)))) (mvT hZ (hw _ (List.mem_of_getElem? (i := 30) rfl))) (mvT hZ (hw _ (List.mem_of_getElem? (i := 29) rfl))) (by decide) (backOf (W := 0) (own_b5_f l Z a0 hw [] b1 p2_ (5 : Int32) T2.heap n0 (Nat.le_trans Z0 (own_ext K2).1) Fq2_maxAttempts hf3) hZ (hw _ (List.mem_of_getElem? (i := 31) rfl)) (hw _ (List.mem_of_getElem? (i := 3) rfl)) (by decide) (by decide)) q3a q3c (g := (mkF m 62 #[.val (.int p0_), .val (.int p1_), .val (.int p2_), .val (.int (1 : Int32)), .val (.int (5 : Int32)), .val (.ref b1), .unset, .unset, .unset, .unset, .unset] [(.int p2_), (.ref b1)])) rfl (by rw [hml]; rfl) (Steps.refl _) (argsL := [(.int p2_)]) (rest := []) (lenOf own_pd1 rfl) rfl (by show 2 * 0 + _ ≤ _; exact Nat.le_of_eq rfl) (hb hby at_62) (fun _ _ => ⟨rfl, rfl, (by decide : 1 + 0 ≤ _), (by decide : 3 + 0 ≤ _)⟩)
  dsimp only [Pt.U, Pt.locs, Pt.cells, Pt.slots] at X3 l3 y3 z3 st3 hQ3
  subst l3 y3 z3
  obtain ⟨rfl, N3q, e3⟩ := hQ3
  have N3 := Fr.app N2 N3q
  obtain ⟨cq4, kq4, q4a, q4b, q4c⟩ := isOf hZ e3 Eq2
  obtain ⟨_, _, ⟨T4, L4, k4, n4⟩, -, X4, ⟨Lc4, hQ4, l4, y4, z4⟩, st4⟩ := X3.virtualBack hx (y := (⟨"com/example/mersey/mersey/JobTypeSettings", "isLastAttempt", "(I)Z"⟩ : MethodName)) (z := (⟨"com/example/mersey/mersey/JobTypeSettings", "isLastAttempt", "(I)Z"⟩ : MethodName)) hown (mvT hZ (hw _ (List.mem_of_getElem? (i := 27) rfl))) (mvT hZ (hw _ (List.mem_of_getElem? (i := 28) rfl))) (notFace_of_selects (args := #[]) (mvT hZ (hw _ (List.mem_of_getElem? (i := 30) rfl)))) (mvT hZ (hw _ (List.mem_of_getElem? (i := 30) rfl))) (mvT hZ (hw _ (List.mem_of_getElem? (i := 29) rfl))) (by decide) (backOf (W := 0) (own_b5_f l Z a0 hw [] b1 (5 : Int32) (5 : Int32) T2.heap n0 (Nat.le_trans Z0 (own_ext K2).1) Fq2_maxAttempts (by decide)) hZ (hw _ (List.mem_of_getElem? (i := 31) rfl)) (hw _ (List.mem_of_getElem? (i := 3) rfl)) (by decide) (by decide)) q4a q4c (g := (mkF m 93 #[.val (.int p0_), .val (.int p1_), .val (.int p2_), .val (.int (1 : Int32)), .val (.int (5 : Int32)), .val (.ref b1), .val (.int (1 : Int32)), .val (.int (1 : Int32)), .unset, .unset, .unset] [(.int (5 : Int32)), (.ref b1)])) rfl (by rw [hml]; rfl) (Steps.refl _) (argsL := [(.int (5 : Int32))]) (rest := []) (lenOf own_pd1 rfl) rfl (by show 2 * 0 + _ ≤ _; exact Nat.le_of_eq rfl) (hb hby at_93) (fun _ _ => ⟨rfl, e3, (by decide : 1 + 0 ≤ _), (by decide : 3 + 0 ≤ _)⟩)
  dsimp only [Pt.U, Pt.locs, Pt.cells, Pt.slots] at X4 l4 y4 z4 st4 hQ4
  subst l4 y4 z4
  obtain ⟨rfl, N4q, e4⟩ := hQ4
  have N4 := Fr.app N3 N4q
  obtain ⟨cq5, kq5, q5a, q5b, q5c⟩ := isOf hZ e4 Eq2
  obtain ⟨_, _, ⟨T5, L5, k5, n5⟩, -, X5, ⟨Lc5, hQ5, l5, y5, z5⟩, st5⟩ := X4.virtualBack hx (y := (⟨"com/example/mersey/mersey/JobTypeSettings", "isLastAttempt", "(I)Z"⟩ : MethodName)) (z := (⟨"com/example/mersey/mersey/JobTypeSettings", "isLastAttempt", "(I)Z"⟩ : MethodName)) hown (mvT hZ (hw _ (List.mem_of_getElem? (i := 27) rfl))) (mvT hZ (hw _ (List.mem_of_getElem? (i := 28) rfl))) (notFace_of_selects (args := #[]) (mvT hZ (hw _ (List.mem_of_getElem? (i := 30) rfl)))) (mvT hZ (hw _ (List.mem_of_getElem? (i := 30) rfl))) (mvT hZ (hw _ (List.mem_of_getElem? (i := 29) rfl))) (by decide) (backOf (W := 0) (own_b5_t l Z a0 hw [] b1 ((5 : Int32) - (1 : Int32)) (5 : Int32) T2.heap n0 (Nat.le_trans Z0 (own_ext K2).1) Fq2_maxAttempts (by decide)) hZ (hw _ (List.mem_of_getElem? (i := 31) rfl)) (hw _ (List.mem_of_getElem? (i := 3) rfl)) (by decide) (by decide)) q5a q5c (g := (mkF m 113 #[.val (.int p0_), .val (.int p1_), .val (.int p2_), .val (.int (1 : Int32)), .val (.int (5 : Int32)), .val (.ref b1), .val (.int (1 : Int32)), .val (.int (1 : Int32)), .unset, .unset, .unset] [(.int ((5 : Int32) - (1 : Int32))), (.ref b1)])) rfl (by rw [hml]; rfl) (Steps.refl _) (argsL := [(.int ((5 : Int32) - (1 : Int32)))]) (rest := []) (lenOf own_pd1 rfl) rfl (by show 2 * 0 + _ ≤ _; exact Nat.le_of_eq rfl) (hb hby at_113) (fun _ _ => ⟨rfl, e4, (by decide : 1 + 0 ≤ _), (by decide : 3 + 0 ≤ _)⟩)
  dsimp only [Pt.U, Pt.locs, Pt.cells, Pt.slots] at X5 l5 y5 z5 st5 hQ5
  subst l5 y5 z5
  obtain ⟨rfl, N5q, e5⟩ := hQ5
  have N5 := Fr.app N4 N5q
  obtain ⟨cq6, kq6, q6a, q6b, q6c⟩ := isOf hZ e5 Eq2
  obtain ⟨_, _, ⟨T6, L6, k6, n6⟩, -, X6, ⟨Lc6, hQ6, l6, y6, z6⟩, st6⟩ := X5.virtualBack hx (y := (⟨"com/example/mersey/mersey/JobTypeSettings", "isLastAttempt", "(I)Z"⟩ : MethodName)) (z := (⟨"com/example/mersey/mersey/JobTypeSettings", "isLastAttempt", "(I)Z"⟩ : MethodName)) hown (mvT hZ (hw _ (List.mem_of_getElem? (i := 27) rfl))) (mvT hZ (hw _ (List.mem_of_getElem? (i := 28) rfl))) (notFace_of_selects (args := #[]) (mvT hZ (hw _ (List.mem_of_getElem? (i := 30) rfl)))) (mvT hZ (hw _ (List.mem_of_getElem? (i := 30) rfl))) (mvT hZ (hw _ (List.mem_of_getElem? (i := 29) rfl))) (by decide) (backOf (W := 0) (own_b5_t l Z a0 hw [] b1 (l_.toInt32) (5 : Int32) T2.heap n0 (Nat.le_trans Z0 (own_ext K2).1) Fq2_maxAttempts hf8) hZ (hw _ (List.mem_of_getElem? (i := 31) rfl)) (hw _ (List.mem_of_getElem? (i := 3) rfl)) (by decide) (by decide)) q6a q6c (g := (mkF m 153 #[.val (.int p0_), .val (.int p1_), .val (.int p2_), .val (.int (1 : Int32)), .val (.int (5 : Int32)), .val (.ref b1), .val (.int (1 : Int32)), .val (.int (1 : Int32)), .val (.int f_), .val (.long l_), .second] [(.int (l_.toInt32)), (.ref b1)])) rfl (by rw [hml]; rfl) (Steps.refl _) (argsL := [(.int (l_.toInt32))]) (rest := []) (lenOf own_pd1 rfl) rfl (by show 2 * 0 + _ ≤ _; exact Nat.le_of_eq rfl) (hb hby at_153) (fun _ _ => ⟨rfl, e5, (by decide : 1 + 0 ≤ _), (by decide : 3 + 0 ≤ _)⟩)
  dsimp only [Pt.U, Pt.locs, Pt.cells, Pt.slots] at X6 l6 y6 z6 st6 hQ6
  subst l6 y6 z6
  obtain ⟨rfl, N6q, e6⟩ := hQ6
  have N6 := Fr.app N5 N6q
  obtain ⟨fs, hr, hrun, hended, hW, hsame⟩ := X6.leave (v := some (.int (1 : Int32))) (fun h => by rw [Bd.returns] at h; cases h)
  refine ⟨_, _, pre0 _ ?_, hrun, hended, _, _, rfl, ?_, ⟨_, rfl⟩, hW, hsame.mono (by decide) (by decide)⟩
  · show Steps p.tables e below (s₁.setTop (mkF m 0 #[.val (.int p0_), .val (.int p1_), .val (.int p2_), .unset, .unset, .unset, .unset, .unset, .unset, .unset, .unset] [])) _
    refine XS.iloadN X0.here hx rfl (hb hby at_0) rfl ?_
    refine XS.iconst X0.here hx rfl (hb hby at_1) ?_
    refine XS.iand X0.here hx rfl (hb hby at_2) rfl ?_
    show Steps p.tables e below (s₁.setTop (mkF m 3 #[.val (.int p0_), .val (.int p1_), .val (.int p2_), .unset, .unset, .unset, .unset, .unset, .unset, .unset, .unset] [(.int (p0_ &&& (1 : Int32)))])) _
    rw [hf0]
    refine XS.ifNo X0.here hx rfl (hb hby at_3) rfl ((if0 _ _).trans (feq (by decide : ¬ ((1 : Int32) = (0 : Int32)))).1) ?_
    refine XS.iconst X0.here hx rfl (hb hby at_6) ?_
    refine XS.goto X0.here hx rfl (pc0 := 7) (pc' := 11) rfl (hb hby at_7) (by decide) (by decide) ?_
    show Steps p.tables e below (s₁.setTop (mkF m 11 #[.val (.int p0_), .val (.int p1_), .val (.int p2_), .unset, .unset, .unset, .unset, .unset, .unset, .unset, .unset] [(.int (1 : Int32))])) _
    refine XS.istoreN X0.here hx rfl (hb hby at_11) rfl (l' := #[.val (.int p0_), .val (.int p1_), .val (.int p2_), .val (.int (1 : Int32)), .unset, .unset, .unset, .unset, .unset, .unset, .unset]) rfl ?_
    refine XS.iloadN X0.here hx rfl (hb hby at_12) rfl ?_
    show Steps p.tables e below (s₁.setTop (mkF m 13 #[.val (.int p0_), .val (.int p1_), .val (.int p2_), .val (.int (1 : Int32)), .unset, .unset, .unset, .unset, .unset, .unset, .unset] [(.int p1_)])) _
    refine X0.ldcInt hx hown (mvT hZ (hw _ (List.mem_of_getElem? (i := 0) rfl))) (g := (mkF m 13 #[.val (.int p0_), .val (.int p1_), .val (.int p2_), .val (.int (1 : Int32)), .unset, .unset, .unset, .unset, .unset, .unset, .unset] [(.int p1_)])) rfl (hb hby at_13) _ ?_
    refine XS.iand X0.here hx rfl (hb hby at_15) rfl ?_
    show Steps p.tables e below (s₁.setTop (mkF m 16 #[.val (.int p0_), .val (.int p1_), .val (.int p2_), .val (.int (1 : Int32)), .unset, .unset, .unset, .unset, .unset, .unset, .unset] [(.int (p1_ &&& (2147483647 : Int32)))])) _
    rw [hf1]
    refine XS.istore X0.here hx rfl (hb hby at_16) rfl (l' := #[.val (.int p0_), .val (.int p1_), .val (.int p2_), .val (.int (1 : Int32)), .val (.int m_), .unset, .unset, .unset, .unset, .unset, .unset]) rfl ?_
    refine XS.iload X0.here hx rfl (hb hby at_18) rfl ?_
    refine XS.ifYes X0.here hx rfl (pc0 := 20) (pc' := 26) rfl (hb hby at_20) rfl ((if0 _ _).trans (feq hf2).2) (by decide) (by decide) ?_
    show Steps p.tables e below (s₁.setTop (mkF m 26 #[.val (.int p0_), .val (.int p1_), .val (.int p2_), .val (.int (1 : Int32)), .val (.int m_), .unset, .unset, .unset, .unset, .unset, .unset] [])) _
    refine XS.iloadN X0.here hx rfl (hb hby at_26) rfl ?_
    refine XS.ifNo X0.here hx rfl (hb hby at_27) rfl ((if0 _ _).trans (feq (by decide : ¬ ((1 : Int32) = (0 : Int32)))).1) ?_
    show Steps p.tables e below (s₁.setTop (mkF m 30 #[.val (.int p0_), .val (.int p1_), .val (.int p2_), .val (.int (1 : Int32)), .val (.int m_), .unset, .unset, .unset, .unset, .unset, .unset] [])) _
    refine st1 _ ?_
    refine XS.dup X1.here hx rfl (hb hby at_33) rfl rfl ?_
    show Steps p.tables e below (T1.setTop (mkF m 34 #[.val (.int p0_), .val (.int p1_), .val (.int p2_), .val (.int (1 : Int32)), .val (.int m_), .unset, .unset, .unset, .unset, .unset, .unset] [(.ref b1), (.ref b1)])) _
    refine st2.trans ?_
    refine XS.astore X2.here hx rfl (hb hby at_37) rfl rfl (l' := #[.val (.int p0_), .val (.int p1_), .val (.int p2_), .val (.int (1 : Int32)), .val (.int m_), .val (.ref b1), .unset, .unset, .unset, .unset, .unset]) rfl ?_
    refine XS.iconst X2.here hx rfl (hb hby at_39) ?_
    refine XS.istore X2.here hx rfl (hb hby at_40) rfl (l' := #[.val (.int p0_), .val (.int p1_), .val (.int p2_), .val (.int (1 : Int32)), .val (.int (5 : Int32)), .val (.ref b1), .unset, .unset, .unset, .unset, .unset]) rfl ?_
    show Steps p.tables e below (T2.setTop (mkF m 42 #[.val (.int p0_), .val (.int p1_), .val (.int p2_), .val (.int (1 : Int32)), .val (.int (5 : Int32)), .val (.ref b1), .unset, .unset, .unset, .unset, .unset] [])) _
    refine XS.goto X2.here hx rfl (pc0 := 42) (pc' := 59) rfl (hb hby at_42) (by decide) (by decide) ?_
    refine XS.aload X2.here hx rfl (hb hby at_59) rfl rfl ?_
    refine XS.iloadN X2.here hx rfl (hb hby at_61) rfl ?_
    show Steps p.tables e below (T2.setTop (mkF m 62 #[.val (.int p0_), .val (.int p1_), .val (.int p2_), .val (.int (1 : Int32)), .val (.int (5 : Int32)), .val (.ref b1), .unset, .unset, .unset, .unset, .unset] [(.int p2_), (.ref b1)])) _
    refine st3.trans ?_
    refine XS.istore X3.here hx rfl (hb hby at_65) rfl (l' := #[.val (.int p0_), .val (.int p1_), .val (.int p2_), .val (.int (1 : Int32)), .val (.int (5 : Int32)), .val (.ref b1), .val (.int (1 : Int32)), .unset, .unset, .unset, .unset]) rfl ?_
    refine XS.iloadN X3.here hx rfl (hb hby at_67) rfl ?_
    refine XS.iload X3.here hx rfl (hb hby at_68) rfl ?_
    show Steps p.tables e below (T3.setTop (mkF m 70 #[.val (.int p0_), .val (.int p1_), .val (.int p2_), .val (.int (1 : Int32)), .val (.int (5 : Int32)), .val (.ref b1), .val (.int (1 : Int32)), .unset, .unset, .unset, .unset] [(.int (5 : Int32)), (.int p2_)])) _
    refine XS.icmpNo X3.here hx rfl (hb hby at_70) rfl (flt hf3).1 ?_
    refine XS.iconst X3.here hx rfl (hb hby at_73) ?_
    refine XS.goto X3.here hx rfl (pc0 := 74) (pc' := 78) rfl (hb hby at_74) (by decide) (by decide) ?_
    refine XS.istore X3.here hx rfl (hb hby at_78) rfl (l' := #[.val (.int p0_), .val (.int p1_), .val (.int p2_), .val (.int (1 : Int32)), .val (.int (5 : Int32)), .val (.ref b1), .val (.int (1 : Int32)), .val (.int (1 : Int32)), .unset, .unset, .unset]) rfl ?_
    show Steps p.tables e below (T3.setTop (mkF m 80 #[.val (.int p0_), .val (.int p1_), .val (.int p2_), .val (.int (1 : Int32)), .val (.int (5 : Int32)), .val (.ref b1), .val (.int (1 : Int32)), .val (.int (1 : Int32)), .unset, .unset, .unset] [])) _
    refine XS.iload X3.here hx rfl (hb hby at_80) rfl ?_
    refine XS.iload X3.here hx rfl (hb hby at_82) rfl ?_
    refine XS.icmpYes X3.here hx rfl (pc0 := 84) (pc' := 89) rfl (hb hby at_84) rfl (teq (rfl : (1 : Int32) = (1 : Int32))).1 (by decide) (by decide) ?_
    refine XS.aload X3.here hx rfl (hb hby at_89) rfl rfl ?_
    show Steps p.tables e below (T3.setTop (mkF m 91 #[.val (.int p0_), .val (.int p1_), .val (.int p2_), .val (.int (1 : Int32)), .val (.int (5 : Int32)), .val (.ref b1), .val (.int (1 : Int32)), .val (.int (1 : Int32)), .unset, .unset, .unset] [(.ref b1)])) _
    refine XS.iload X3.here hx rfl (hb hby at_91) rfl ?_
    show Steps p.tables e below (T3.setTop (mkF m 93 #[.val (.int p0_), .val (.int p1_), .val (.int p2_), .val (.int (1 : Int32)), .val (.int (5 : Int32)), .val (.ref b1), .val (.int (1 : Int32)), .val (.int (1 : Int32)), .unset, .unset, .unset] [(.int (5 : Int32)), (.ref b1)])) _
    refine st4.trans ?_
    refine XS.ifYes X4.here hx rfl (pc0 := 96) (pc' := 101) rfl (hb hby at_96) rfl ((if0 _ _).trans (feq (by decide : ¬ ((1 : Int32) = (0 : Int32)))).2) (by decide) (by decide) ?_
    refine XS.iload X4.here hx rfl (hb hby at_101) rfl ?_
    refine XS.iconst X4.here hx rfl (hb hby at_103) ?_
    show Steps p.tables e below (T4.setTop (mkF m 104 #[.val (.int p0_), .val (.int p1_), .val (.int p2_), .val (.int (1 : Int32)), .val (.int (5 : Int32)), .val (.ref b1), .val (.int (1 : Int32)), .val (.int (1 : Int32)), .unset, .unset, .unset] [(.int (1 : Int32)), (.int (5 : Int32))])) _
    refine XS.icmpNo X4.here hx rfl (hb hby at_104) rfl (tlt (by decide : (1 : Int32) < (5 : Int32))).2.2.2 ?_
    refine XS.aload X4.here hx rfl (hb hby at_107) rfl rfl ?_
    refine XS.iload X4.here hx rfl (hb hby at_109) rfl ?_
    refine XS.iconst X4.here hx rfl (hb hby at_111) ?_
    show Steps p.tables e below (T4.setTop (mkF m 112 #[.val (.int p0_), .val (.int p1_), .val (.int p2_), .val (.int (1 : Int32)), .val (.int (5 : Int32)), .val (.ref b1), .val (.int (1 : Int32)), .val (.int (1 : Int32)), .unset, .unset, .unset] [(.int (1 : Int32)), (.int (5 : Int32)), (.ref b1)])) _
    refine XS.isub X4.here hx rfl (hb hby at_112) rfl ?_
    show Steps p.tables e below (T4.setTop (mkF m 113 #[.val (.int p0_), .val (.int p1_), .val (.int p2_), .val (.int (1 : Int32)), .val (.int (5 : Int32)), .val (.ref b1), .val (.int (1 : Int32)), .val (.int (1 : Int32)), .unset, .unset, .unset] [(.int ((5 : Int32) - (1 : Int32))), (.ref b1)])) _
    refine st5.trans ?_
    refine XS.ifYes X5.here hx rfl (pc0 := 116) (pc' := 121) rfl (hb hby at_116) rfl ((if0 _ _).trans (teq (rfl : (0 : Int32) = (0 : Int32))).1) (by decide) (by decide) ?_
    refine XS.iloadN X5.here hx rfl (hb hby at_121) rfl ?_
    refine XS.iconst X5.here hx rfl (hb hby at_122) ?_
    show Steps p.tables e below (T5.setTop (mkF m 123 #[.val (.int p0_), .val (.int p1_), .val (.int p2_), .val (.int (1 : Int32)), .val (.int (5 : Int32)), .val (.ref b1), .val (.int (1 : Int32)), .val (.int (1 : Int32)), .unset, .unset, .unset] [(.int (1 : Int32)), (.int p0_)])) _
    refine XS.iushr X5.here hx rfl (hb hby at_123) rfl ?_
    refine XS.iconst X5.here hx rfl (hb hby at_124) ?_
    show Steps p.tables e below (T5.setTop (mkF m 125 #[.val (.int p0_), .val (.int p1_), .val (.int p2_), .val (.int (1 : Int32)), .val (.int (5 : Int32)), .val (.ref b1), .val (.int (1 : Int32)), .val (.int (1 : Int32)), .unset, .unset, .unset] [(.int (5 : Int32)), (.int ((p0_.toUInt32 >>> ((1 : Int32) &&& 31).toUInt32).toInt32))])) _
    refine iremM X5 hx rfl (hb hby at_125) rfl (by decide) ?_
    show Steps p.tables e below (T5.setTop (mkF m 126 #[.val (.int p0_), .val (.int p1_), .val (.int p2_), .val (.int (1 : Int32)), .val (.int (5 : Int32)), .val (.ref b1), .val (.int (1 : Int32)), .val (.int (1 : Int32)), .unset, .unset, .unset] [(.int (((p0_.toUInt32 >>> ((1 : Int32) &&& 31).toUInt32).toInt32) % (5 : Int32)))])) _
    rw [hf4]
    refine XS.iconst X5.here hx rfl (hb hby at_126) ?_
    refine XS.isub X5.here hx rfl (hb hby at_127) rfl ?_
    show Steps p.tables e below (T5.setTop (mkF m 128 #[.val (.int p0_), .val (.int p1_), .val (.int p2_), .val (.int (1 : Int32)), .val (.int (5 : Int32)), .val (.ref b1), .val (.int (1 : Int32)), .val (.int (1 : Int32)), .unset, .unset, .unset] [(.int (o_ - (2 : Int32)))])) _
    rw [hf5]
    refine XS.istore X5.here hx rfl (hb hby at_128) rfl (l' := #[.val (.int p0_), .val (.int p1_), .val (.int p2_), .val (.int (1 : Int32)), .val (.int (5 : Int32)), .val (.ref b1), .val (.int (1 : Int32)), .val (.int (1 : Int32)), .val (.int f_), .unset, .unset]) rfl ?_
    refine XS.iload X5.here hx rfl (hb hby at_130) rfl ?_
    refine XS.i2l X5.here hx rfl (hb hby at_132) rfl ?_
    show Steps p.tables e below (T5.setTop (mkF m 133 #[.val (.int p0_), .val (.int p1_), .val (.int p2_), .val (.int (1 : Int32)), .val (.int (5 : Int32)), .val (.ref b1), .val (.int (1 : Int32)), .val (.int (1 : Int32)), .val (.int f_), .unset, .unset] [(.long ((5 : Int32).toInt64))])) _
    refine XS.iload X5.here hx rfl (hb hby at_133) rfl ?_
    refine XS.i2l X5.here hx rfl (hb hby at_135) rfl ?_
    refine XS.ladd X5.here hx rfl (hb hby at_136) rfl ?_
    show Steps p.tables e below (T5.setTop (mkF m 137 #[.val (.int p0_), .val (.int p1_), .val (.int p2_), .val (.int (1 : Int32)), .val (.int (5 : Int32)), .val (.ref b1), .val (.int (1 : Int32)), .val (.int (1 : Int32)), .val (.int f_), .unset, .unset] [(.long (((5 : Int32).toInt64) + (f_.toInt64)))])) _
    rw [hf6]
    refine XS.lstore X5.here hx rfl (hb hby at_137) rfl (l' := #[.val (.int p0_), .val (.int p1_), .val (.int p2_), .val (.int (1 : Int32)), .val (.int (5 : Int32)), .val (.ref b1), .val (.int (1 : Int32)), .val (.int (1 : Int32)), .val (.int f_), .val (.long l_), .second]) rfl ?_
    refine XS.lload X5.here hx rfl (hb hby at_139) rfl ?_
    show Steps p.tables e below (T5.setTop (mkF m 141 #[.val (.int p0_), .val (.int p1_), .val (.int p2_), .val (.int (1 : Int32)), .val (.int (5 : Int32)), .val (.ref b1), .val (.int (1 : Int32)), .val (.int (1 : Int32)), .val (.int f_), .val (.long l_), .second] [(.long l_)])) _
    refine X5.ldc2Long hx hown (mvT hZ (hw _ (List.mem_of_getElem? (i := 32) rfl))) (g := (mkF m 141 #[.val (.int p0_), .val (.int p1_), .val (.int p2_), .val (.int (1 : Int32)), .val (.int (5 : Int32)), .val (.ref b1), .val (.int (1 : Int32)), .val (.int (1 : Int32)), .val (.int f_), .val (.long l_), .second] [(.long l_)])) rfl (hb hby at_141) _ ?_
    refine XS.lcmp X5.here hx rfl (hb hby at_144) rfl ?_
    refine XS.ifNo X5.here hx rfl (hb hby at_145) rfl ((if0 _ _).trans (flt hf7).2.2.1) ?_
    refine XS.aload X5.here hx rfl (hb hby at_148) rfl rfl ?_
    show Steps p.tables e below (T5.setTop (mkF m 150 #[.val (.int p0_), .val (.int p1_), .val (.int p2_), .val (.int (1 : Int32)), .val (.int (5 : Int32)), .val (.ref b1), .val (.int (1 : Int32)), .val (.int (1 : Int32)), .val (.int f_), .val (.long l_), .second] [(.ref b1)])) _
    refine XS.lload X5.here hx rfl (hb hby at_150) rfl ?_
    refine XS.l2i X5.here hx rfl (hb hby at_152) rfl ?_
    show Steps p.tables e below (T5.setTop (mkF m 153 #[.val (.int p0_), .val (.int p1_), .val (.int p2_), .val (.int (1 : Int32)), .val (.int (5 : Int32)), .val (.ref b1), .val (.int (1 : Int32)), .val (.int (1 : Int32)), .val (.int f_), .val (.long l_), .second] [(.int (l_.toInt32)), (.ref b1)])) _
    refine st6.trans ?_
    refine XS.iload X6.here hx rfl (hb hby at_156) rfl ?_
    refine XS.ifYes X6.here hx rfl (pc0 := 158) (pc' := 165) rfl (hb hby at_158) rfl ((if0 _ _).trans (tlt hf9).1) (by decide) (by decide) ?_
    refine XS.iconst X6.here hx rfl (hb hby at_165) ?_
    show Steps p.tables e below (T6.setTop (mkF m 166 #[.val (.int p0_), .val (.int p1_), .val (.int p2_), .val (.int (1 : Int32)), .val (.int (5 : Int32)), .val (.ref b1), .val (.int (1 : Int32)), .val (.int (1 : Int32)), .val (.int f_), .val (.long l_), .second] [(.int (0 : Int32)), (.int (0 : Int32))])) _
    refine XS.icmpYes X6.here hx rfl (pc0 := 166) (pc' := 171) rfl (hb hby at_166) rfl (teq (rfl : (0 : Int32) = (0 : Int32))).1 (by decide) (by decide) ?_
    refine XS.iconst X6.here hx rfl (hb hby at_171) ?_
    show Steps p.tables e below (T6.setTop (mkF m 172 #[.val (.int p0_), .val (.int p1_), .val (.int p2_), .val (.int (1 : Int32)), .val (.int (5 : Int32)), .val (.ref b1), .val (.int (1 : Int32)), .val (.int (1 : Int32)), .val (.int f_), .val (.long l_), .second] [(.int (1 : Int32))])) _
    exact retN X6 hx (t := .boolean) Bd.returns (by simp) (hb hby at_172) hr
  · show own_QL n0 _ T6.heap _
    exact ⟨rfl, N6⟩
set_option maxRecDepth 65536 in
set_option maxHeartbeats 40000000 in
theorem own_law_Dngg (l : Launch) (Z : State) (a0 : Array Value) (hw : ∀ d ∈ tables_1, d.before a0 Z = true) (ws : List Jvm.Cond) (p0_ : Int32) (p1_ : Int32) (p2_ : Int32) (m_ : Int32) (w_DEFAULT_BACKOFF : Addr) (o_ : Int32) (f_ : Int32) (l_ : Int64) (h0 : Heap) (n0 : Nat) (Z0 : n0 ≤ h0.size) (S_DEFAULT_BACKOFF : Sta Z h0 "com/example/mersey/mersey/JobTypeSettings" "DEFAULT_BACKOFF" "Lcom/example/mersey/mersey/Backoff;" (.ref w_DEFAULT_BACKOFF)) (hf0 : (p0_ &&& (1 : Int32)) = (1 : Int32)) (hf1 : (p1_ &&& (2147483647 : Int32)) = m_) (hf2 : ¬ (m_ = (0 : Int32))) (hf3 : ¬ (p2_ < (5 : Int32))) (hf4 : (((p0_.toUInt32 >>> ((1 : Int32) &&& 31).toUInt32).toInt32) % (5 : Int32)) = o_) (hf5 : (o_ - (2 : Int32)) = f_) (hf6 : (((5 : Int32).toInt64) + (f_.toInt64)) = l_) (hf7 : ¬ ((0 : Int32) < (lcmpW l_ (2147483647 : Int64)))) (hf8 : ¬ ((l_.toInt32) < (5 : Int32))) (hf9 : ¬ (f_ < (0 : Int32))) :
    MetFree l x (head1 (Jvm.Cond.code x code maxLocals ret :: ws) room_1) (fun a U => a = #[(.int p0_), (.int p1_), (.int p2_)] ∧ Z.Warmed39 U.vm ∧ U.heap = h0) (fun _ _ _ _ _ => True) (fun _ U o U' => ∃ v L, o = .returned v ∧ own_QL n0 v U'.heap L ∧ FrameEnd U o U' L room_1.cells room_1.slots) := by
  refine MetFree.of_bodySF (plainFor_of_name own_pn1) hisR ?_
  intro p e s m args below meth c s₁ Bd hml0 hP hK
  obtain ⟨rfl, hZ, hh⟩ := hP
  have hx := Bd.exec
  have hby := Bd.bytes
  have hml : c.maxLocals = 11 := hml0
  have hown : s.vm.findClass "com/example/mersey/mersey/JobTypeSettingsIsLastAttemptPinLaw" = some m.cls := findClass_of_methodNamed Bd.named
  have hnm := (name_of_methodNamed Bd.named Bd.method).1
  have X0 : Stand p l e room_1 s m #[(.int p0_), (.int p1_), (.int p2_)] below meth c s₁ [] 0 0 := Stand.of_body Bd
  have e0 : s₁.heap = h0 := by rw [← hh, Bd.state]; rfl
  have N0 := Fr.nil n0
  have pre0 : ∀ t, Steps p.tables e below (s₁.setTop (mkF m 0 #[.val (.int p0_), .val (.int p1_), .val (.int p2_), .unset, .unset, .unset, .unset, .unset, .unset, .unset, .unset] [])) t → Steps p.tables e below (s₁.setTop (entryFrame m #[(.int p0_), (.int p1_), (.int p2_)] maxLocals)) t := fun t k => castTop (own_ef2 m p0_ p1_ p2_) k
  obtain ⟨T1, h1, X1, e1, E1, A1, D1, -, st1⟩ := newO X0 hx hZ hown (hw _ (List.mem_of_getElem? (i := 1) rfl)) (hw _ (List.mem_of_getElem? (i := 2) rfl)) (hw _ (List.mem_of_getElem? (i := 3) rfl)) e0 (g := (mkF m 30 #[.val (.int p0_), .val (.int p1_), .val (.int p2_), .val (.int (1 : Int32)), .val (.int m_), .unset, .unset, .unset, .unset, .unset, .unset] [])) rfl (hb hby at_30) (by decide) (by decide)
  obtain ⟨b1, g1⟩ : ∃ z, z = h0.size := ⟨_, rfl⟩
  rw [← g1] at A1 D1 st1
  have lo_b1 : h0.size ≤ b1 := Nat.le_of_eq g1.symm
  have sz_b1 : h0.size ≤ b1 := Nat.le_trans (Keep.refl h0 []).1 lo_b1
  have g_b1 : n0 ≤ b1 := Nat.le_trans Z0 sz_b1
  have K1 : Keep h0 h1 [] := (Keep.refl h0 []).ext E1
  have F_maxAttempts_b1_1 : Fld Z h1 b1 "com/example/mersey/mersey/JobTypeSettings" "maxAttempts" "I" (.int (0 : Int32)) := D1 (Or.inl (hw _ (List.mem_of_getElem? (i := 11) rfl))) (ty := .int) (by decide)
  have F_backoff_b1_1 : Fld Z h1 b1 "com/example/mersey/mersey/JobTypeSettings" "backoff" "Lcom/example/mersey/mersey/Backoff;" .null := D1 (Or.inl (hw _ (List.mem_of_getElem? (i := 15) rfl))) (ty := (.object "com/example/mersey/mersey/Backoff")) (by decide)
  have F_longestRunTime_b1_1 : Fld Z h1 b1 "com/example/mersey/mersey/JobTypeSettings" "longestRunTime" "Ljava/time/Duration;" .null := D1 (Or.inl (hw _ (List.mem_of_getElem? (i := 26) rfl))) (ty := (.object "java/time/Duration")) (by decide)
  obtain ⟨_, _, ⟨T2, L2, k2, n2⟩, -, X2, ⟨Lc2, hQ2, l2, y2, z2⟩, st2⟩ := X1.specialBack hx (y := (⟨"com/example/mersey/mersey/JobTypeSettings", "<init>", "()V"⟩ : MethodName)) rfl hown (mvT hZ (hw _ (List.mem_of_getElem? (i := 4) rfl))) (mvT hZ (hw _ (List.mem_of_getElem? (i := 5) rfl))) (mvT hZ (hw _ (List.mem_of_getElem? (i := 6) rfl))) (by decide) (backOf (W := 1) (own_b1_x l Z a0 hw [] b1 (.int (0 : Int32)) w_DEFAULT_BACKOFF .null .null h1 n0 (Nat.le_trans Z0 (own_ext K1).1) A1 F_maxAttempts_b1_1 g_b1 (S_DEFAULT_BACKOFF.ext (own_ext K1)) F_backoff_b1_1 F_longestRunTime_b1_1) hZ (hw _ (List.mem_of_getElem? (i := 6) rfl)) (hw _ (List.mem_of_getElem? (i := 3) rfl)) (by decide) (by decide)) (g := (mkF m 34 #[.val (.int p0_), .val (.int p1_), .val (.int p2_), .val (.int (1 : Int32)), .val (.int m_), .unset, .unset, .unset, .unset, .unset, .unset] [(.ref b1), (.ref b1)])) rfl (by rw [hml]; rfl) (Steps.refl _) (a := b1) (argsL := []) (rest := [(.ref b1)]) (lenOf own_pd0 rfl) rfl (by show 2 * 0 + _ ≤ _; exact Nat.le_of_eq rfl) (hb hby at_34) (fun _ _ => ⟨rfl, e1, (by decide : 1 + 0 ≤ _), (by decide : 3 + 0 ≤ _)⟩)
  dsimp only [Pt.U, Pt.locs, Pt.cells, Pt.slots] at X2 l2 y2 z2 st2 hQ2
  subst l2 y2 z2
  obtain ⟨rfl, N2q, Kq2, Eq2, Fq2_maxAttempts, Fq2_backoff, Fq2_longestRunTime⟩ := hQ2
  have N2 := Fr.app N0 N2q
  have K2 : Keep h0 T2.heap [] := K1.trans Kq2 (fun x hx => by cases List.mem_singleton.mp hx; exact Or.inr sz_b1)
  obtain ⟨cq3, kq3, q3a, q3b, q3c⟩ := isOf hZ rfl Eq2
  obtain ⟨_, _, ⟨T3, L3, k3, n3⟩, -, X3, ⟨Lc3, hQ3, l3, y3, z3⟩, st3⟩ := X2.virtualBack hx (y := (⟨"com/example/mersey/mersey/JobTypeSettings", "isLastAttempt", "(I)Z"⟩ : MethodName)) (z := (⟨"com/example/mersey/mersey/JobTypeSettings", "isLastAttempt", "(I)Z"⟩ : MethodName)) hown (mvT hZ (hw _ (List.mem_of_getElem? (i := 27) rfl))) (mvT hZ (hw _ (List.mem_of_getElem? (i := 28) rfl))) (notFace_of_selects (args := #[]) (mvT hZ (hw _ (List.mem_of_getElem? (i := 30) rfl)))) (mvT hZ (hw _ (List.mem_of_getElem? (i := 30) rfl))) (mvT hZ (hw _ (List.mem_of_getElem? (i := 29) rfl))) (by decide) (backOf (W := 0) (own_b5_f l Z a0 hw [] b1 p2_ (5 : Int32) T2.heap n0 (Nat.le_trans Z0 (own_ext K2).1) Fq2_maxAttempts hf3) hZ (hw _ (List.mem_of_getElem? (i := 31) rfl)) (hw _ (List.mem_of_getElem? (i := 3) rfl)) (by decide) (by decide)) q3a q3c (g := (mkF m 62 #[.val (.int p0_), .val (.int p1_), .val (.int p2_), .val (.int (1 : Int32)), .val (.int (5 : Int32)), .val (.ref b1), .unset, .unset, .unset, .unset, .unset] [(.int p2_), (.ref b1)])) rfl (by rw [hml]; rfl) (Steps.refl _) (argsL := [(.int p2_)]) (rest := []) (lenOf own_pd1 rfl) rfl (by show 2 * 0 + _ ≤ _; exact Nat.le_of_eq rfl) (hb hby at_62) (fun _ _ => ⟨rfl, rfl, (by decide : 1 + 0 ≤ _), (by decide : 3 + 0 ≤ _)⟩)
  dsimp only [Pt.U, Pt.locs, Pt.cells, Pt.slots] at X3 l3 y3 z3 st3 hQ3
  subst l3 y3 z3
  obtain ⟨rfl, N3q, e3⟩ := hQ3
  have N3 := Fr.app N2 N3q
  obtain ⟨cq4, kq4, q4a, q4b, q4c⟩ := isOf hZ e3 Eq2
  obtain ⟨_, _, ⟨T4, L4, k4, n4⟩, -, X4, ⟨Lc4, hQ4, l4, y4, z4⟩, st4⟩ := X3.virtualBack hx (y := (⟨"com/example/mersey/mersey/JobTypeSettings", "isLastAttempt", "(I)Z"⟩ : MethodName)) (z := (⟨"com/example/mersey/mersey/JobTypeSettings", "isLastAttempt", "(I)Z"⟩ : MethodName)) hown (mvT hZ (hw _ (List.mem_of_getElem? (i := 27) rfl))) (mvT hZ (hw _ (List.mem_of_getElem? (i := 28) rfl))) (notFace_of_selects (args := #[]) (mvT hZ (hw _ (List.mem_of_getElem? (i := 30) rfl)))) (mvT hZ (hw _ (List.mem_of_getElem? (i := 30) rfl))) (mvT hZ (hw _ (List.mem_of_getElem? (i := 29) rfl))) (by decide) (backOf (W := 0) (own_b5_f l Z a0 hw [] b1 (5 : Int32) (5 : Int32) T2.heap n0 (Nat.le_trans Z0 (own_ext K2).1) Fq2_maxAttempts (by decide)) hZ (hw _ (List.mem_of_getElem? (i := 31) rfl)) (hw _ (List.mem_of_getElem? (i := 3) rfl)) (by decide) (by decide)) q4a q4c (g := (mkF m 93 #[.val (.int p0_), .val (.int p1_), .val (.int p2_), .val (.int (1 : Int32)), .val (.int (5 : Int32)), .val (.ref b1), .val (.int (1 : Int32)), .val (.int (1 : Int32)), .unset, .unset, .unset] [(.int (5 : Int32)), (.ref b1)])) rfl (by rw [hml]; rfl) (Steps.refl _) (argsL := [(.int (5 : Int32))]) (rest := []) (lenOf own_pd1 rfl) rfl (by show 2 * 0 + _ ≤ _; exact Nat.le_of_eq rfl) (hb hby at_93) (fun _ _ => ⟨rfl, e3, (by decide : 1 + 0 ≤ _), (by decide : 3 + 0 ≤ _)⟩)
  dsimp only [Pt.U, Pt.locs, Pt.cells, Pt.slots] at X4 l4 y4 z4 st4 hQ4
  subst l4 y4 z4
  obtain ⟨rfl, N4q, e4⟩ := hQ4
  have N4 := Fr.app N3 N4q
  obtain ⟨cq5, kq5, q5a, q5b, q5c⟩ := isOf hZ e4 Eq2
  obtain ⟨_, _, ⟨T5, L5, k5, n5⟩, -, X5, ⟨Lc5, hQ5, l5, y5, z5⟩, st5⟩ := X4.virtualBack hx (y := (⟨"com/example/mersey/mersey/JobTypeSettings", "isLastAttempt", "(I)Z"⟩ : MethodName)) (z := (⟨"com/example/mersey/mersey/JobTypeSettings", "isLastAttempt", "(I)Z"⟩ : MethodName)) hown (mvT hZ (hw _ (List.mem_of_getElem? (i := 27) rfl))) (mvT hZ (hw _ (List.mem_of_getElem? (i := 28) rfl))) (notFace_of_selects (args := #[]) (mvT hZ (hw _ (List.mem_of_getElem? (i := 30) rfl)))) (mvT hZ (hw _ (List.mem_of_getElem? (i := 30) rfl))) (mvT hZ (hw _ (List.mem_of_getElem? (i := 29) rfl))) (by decide) (backOf (W := 0) (own_b5_t l Z a0 hw [] b1 ((5 : Int32) - (1 : Int32)) (5 : Int32) T2.heap n0 (Nat.le_trans Z0 (own_ext K2).1) Fq2_maxAttempts (by decide)) hZ (hw _ (List.mem_of_getElem? (i := 31) rfl)) (hw _ (List.mem_of_getElem? (i := 3) rfl)) (by decide) (by decide)) q5a q5c (g := (mkF m 113 #[.val (.int p0_), .val (.int p1_), .val (.int p2_), .val (.int (1 : Int32)), .val (.int (5 : Int32)), .val (.ref b1), .val (.int (1 : Int32)), .val (.int (1 : Int32)), .unset, .unset, .unset] [(.int ((5 : Int32) - (1 : Int32))), (.ref b1)])) rfl (by rw [hml]; rfl) (Steps.refl _) (argsL := [(.int ((5 : Int32) - (1 : Int32)))]) (rest := []) (lenOf own_pd1 rfl) rfl (by show 2 * 0 + _ ≤ _; exact Nat.le_of_eq rfl) (hb hby at_113) (fun _ _ => ⟨rfl, e4, (by decide : 1 + 0 ≤ _), (by decide : 3 + 0 ≤ _)⟩)
  dsimp only [Pt.U, Pt.locs, Pt.cells, Pt.slots] at X5 l5 y5 z5 st5 hQ5
  subst l5 y5 z5
  obtain ⟨rfl, N5q, e5⟩ := hQ5
  have N5 := Fr.app N4 N5q
  obtain ⟨cq6, kq6, q6a, q6b, q6c⟩ := isOf hZ e5 Eq2
  obtain ⟨_, _, ⟨T6, L6, k6, n6⟩, -, X6, ⟨Lc6, hQ6, l6, y6, z6⟩, st6⟩ := X5.virtualBack hx (y := (⟨"com/example/mersey/mersey/JobTypeSettings", "isLastAttempt", "(I)Z"⟩ : MethodName)) (z := (⟨"com/example/mersey/mersey/JobTypeSettings", "isLastAttempt", "(I)Z"⟩ : MethodName)) hown (mvT hZ (hw _ (List.mem_of_getElem? (i := 27) rfl))) (mvT hZ (hw _ (List.mem_of_getElem? (i := 28) rfl))) (notFace_of_selects (args := #[]) (mvT hZ (hw _ (List.mem_of_getElem? (i := 30) rfl)))) (mvT hZ (hw _ (List.mem_of_getElem? (i := 30) rfl))) (mvT hZ (hw _ (List.mem_of_getElem? (i := 29) rfl))) (by decide) (backOf (W := 0) (own_b5_f l Z a0 hw [] b1 (l_.toInt32) (5 : Int32) T2.heap n0 (Nat.le_trans Z0 (own_ext K2).1) Fq2_maxAttempts hf8) hZ (hw _ (List.mem_of_getElem? (i := 31) rfl)) (hw _ (List.mem_of_getElem? (i := 3) rfl)) (by decide) (by decide)) q6a q6c (g := (mkF m 153 #[.val (.int p0_), .val (.int p1_), .val (.int p2_), .val (.int (1 : Int32)), .val (.int (5 : Int32)), .val (.ref b1), .val (.int (1 : Int32)), .val (.int (1 : Int32)), .val (.int f_), .val (.long l_), .second] [(.int (l_.toInt32)), (.ref b1)])) rfl (by rw [hml]; rfl) (Steps.refl _) (argsL := [(.int (l_.toInt32))]) (rest := []) (lenOf own_pd1 rfl) rfl (by show 2 * 0 + _ ≤ _; exact Nat.le_of_eq rfl) (hb hby at_153) (fun _ _ => ⟨rfl, e5, (by decide : 1 + 0 ≤ _), (by decide : 3 + 0 ≤ _)⟩)
  dsimp only [Pt.U, Pt.locs, Pt.cells, Pt.slots] at X6 l6 y6 z6 st6 hQ6
  subst l6 y6 z6
  obtain ⟨rfl, N6q, e6⟩ := hQ6
  have N6 := Fr.app N5 N6q
  obtain ⟨fs, hr, hrun, hended, hW, hsame⟩ := X6.leave (v := some (.int (1 : Int32))) (fun h => by rw [Bd.returns] at h; cases h)
  refine ⟨_, _, pre0 _ ?_, hrun, hended, _, _, rfl, ?_, ⟨_, rfl⟩, hW, hsame.mono (by decide) (by decide)⟩
  · show Steps p.tables e below (s₁.setTop (mkF m 0 #[.val (.int p0_), .val (.int p1_), .val (.int p2_), .unset, .unset, .unset, .unset, .unset, .unset, .unset, .unset] [])) _
    refine XS.iloadN X0.here hx rfl (hb hby at_0) rfl ?_
    refine XS.iconst X0.here hx rfl (hb hby at_1) ?_
    refine XS.iand X0.here hx rfl (hb hby at_2) rfl ?_
    show Steps p.tables e below (s₁.setTop (mkF m 3 #[.val (.int p0_), .val (.int p1_), .val (.int p2_), .unset, .unset, .unset, .unset, .unset, .unset, .unset, .unset] [(.int (p0_ &&& (1 : Int32)))])) _
    rw [hf0]
    refine XS.ifNo X0.here hx rfl (hb hby at_3) rfl ((if0 _ _).trans (feq (by decide : ¬ ((1 : Int32) = (0 : Int32)))).1) ?_
    refine XS.iconst X0.here hx rfl (hb hby at_6) ?_
    refine XS.goto X0.here hx rfl (pc0 := 7) (pc' := 11) rfl (hb hby at_7) (by decide) (by decide) ?_
    show Steps p.tables e below (s₁.setTop (mkF m 11 #[.val (.int p0_), .val (.int p1_), .val (.int p2_), .unset, .unset, .unset, .unset, .unset, .unset, .unset, .unset] [(.int (1 : Int32))])) _
    refine XS.istoreN X0.here hx rfl (hb hby at_11) rfl (l' := #[.val (.int p0_), .val (.int p1_), .val (.int p2_), .val (.int (1 : Int32)), .unset, .unset, .unset, .unset, .unset, .unset, .unset]) rfl ?_
    refine XS.iloadN X0.here hx rfl (hb hby at_12) rfl ?_
    show Steps p.tables e below (s₁.setTop (mkF m 13 #[.val (.int p0_), .val (.int p1_), .val (.int p2_), .val (.int (1 : Int32)), .unset, .unset, .unset, .unset, .unset, .unset, .unset] [(.int p1_)])) _
    refine X0.ldcInt hx hown (mvT hZ (hw _ (List.mem_of_getElem? (i := 0) rfl))) (g := (mkF m 13 #[.val (.int p0_), .val (.int p1_), .val (.int p2_), .val (.int (1 : Int32)), .unset, .unset, .unset, .unset, .unset, .unset, .unset] [(.int p1_)])) rfl (hb hby at_13) _ ?_
    refine XS.iand X0.here hx rfl (hb hby at_15) rfl ?_
    show Steps p.tables e below (s₁.setTop (mkF m 16 #[.val (.int p0_), .val (.int p1_), .val (.int p2_), .val (.int (1 : Int32)), .unset, .unset, .unset, .unset, .unset, .unset, .unset] [(.int (p1_ &&& (2147483647 : Int32)))])) _
    rw [hf1]
    refine XS.istore X0.here hx rfl (hb hby at_16) rfl (l' := #[.val (.int p0_), .val (.int p1_), .val (.int p2_), .val (.int (1 : Int32)), .val (.int m_), .unset, .unset, .unset, .unset, .unset, .unset]) rfl ?_
    refine XS.iload X0.here hx rfl (hb hby at_18) rfl ?_
    refine XS.ifYes X0.here hx rfl (pc0 := 20) (pc' := 26) rfl (hb hby at_20) rfl ((if0 _ _).trans (feq hf2).2) (by decide) (by decide) ?_
    show Steps p.tables e below (s₁.setTop (mkF m 26 #[.val (.int p0_), .val (.int p1_), .val (.int p2_), .val (.int (1 : Int32)), .val (.int m_), .unset, .unset, .unset, .unset, .unset, .unset] [])) _
    refine XS.iloadN X0.here hx rfl (hb hby at_26) rfl ?_
    refine XS.ifNo X0.here hx rfl (hb hby at_27) rfl ((if0 _ _).trans (feq (by decide : ¬ ((1 : Int32) = (0 : Int32)))).1) ?_
    show Steps p.tables e below (s₁.setTop (mkF m 30 #[.val (.int p0_), .val (.int p1_), .val (.int p2_), .val (.int (1 : Int32)), .val (.int m_), .unset, .unset, .unset, .unset, .unset, .unset] [])) _
    refine st1 _ ?_
    refine XS.dup X1.here hx rfl (hb hby at_33) rfl rfl ?_
    show Steps p.tables e below (T1.setTop (mkF m 34 #[.val (.int p0_), .val (.int p1_), .val (.int p2_), .val (.int (1 : Int32)), .val (.int m_), .unset, .unset, .unset, .unset, .unset, .unset] [(.ref b1), (.ref b1)])) _
    refine st2.trans ?_
    refine XS.astore X2.here hx rfl (hb hby at_37) rfl rfl (l' := #[.val (.int p0_), .val (.int p1_), .val (.int p2_), .val (.int (1 : Int32)), .val (.int m_), .val (.ref b1), .unset, .unset, .unset, .unset, .unset]) rfl ?_
    refine XS.iconst X2.here hx rfl (hb hby at_39) ?_
    refine XS.istore X2.here hx rfl (hb hby at_40) rfl (l' := #[.val (.int p0_), .val (.int p1_), .val (.int p2_), .val (.int (1 : Int32)), .val (.int (5 : Int32)), .val (.ref b1), .unset, .unset, .unset, .unset, .unset]) rfl ?_
    show Steps p.tables e below (T2.setTop (mkF m 42 #[.val (.int p0_), .val (.int p1_), .val (.int p2_), .val (.int (1 : Int32)), .val (.int (5 : Int32)), .val (.ref b1), .unset, .unset, .unset, .unset, .unset] [])) _
    refine XS.goto X2.here hx rfl (pc0 := 42) (pc' := 59) rfl (hb hby at_42) (by decide) (by decide) ?_
    refine XS.aload X2.here hx rfl (hb hby at_59) rfl rfl ?_
    refine XS.iloadN X2.here hx rfl (hb hby at_61) rfl ?_
    show Steps p.tables e below (T2.setTop (mkF m 62 #[.val (.int p0_), .val (.int p1_), .val (.int p2_), .val (.int (1 : Int32)), .val (.int (5 : Int32)), .val (.ref b1), .unset, .unset, .unset, .unset, .unset] [(.int p2_), (.ref b1)])) _
    refine st3.trans ?_
    refine XS.istore X3.here hx rfl (hb hby at_65) rfl (l' := #[.val (.int p0_), .val (.int p1_), .val (.int p2_), .val (.int (1 : Int32)), .val (.int (5 : Int32)), .val (.ref b1), .val (.int (1 : Int32)), .unset, .unset, .unset, .unset]) rfl ?_
    refine XS.iloadN X3.here hx rfl (hb hby at_67) rfl ?_
    refine XS.iload X3.here hx rfl (hb hby at_68) rfl ?_
    show Steps p.tables e below (T3.setTop (mkF m 70 #[.val (.int p0_), .val (.int p1_), .val (.int p2_), .val (.int (1 : Int32)), .val (.int (5 : Int32)), .val (.ref b1), .val (.int (1 : Int32)), .unset, .unset, .unset, .unset] [(.int (5 : Int32)), (.int p2_)])) _
    refine XS.icmpNo X3.here hx rfl (hb hby at_70) rfl (flt hf3).1 ?_
    refine XS.iconst X3.here hx rfl (hb hby at_73) ?_
    refine XS.goto X3.here hx rfl (pc0 := 74) (pc' := 78) rfl (hb hby at_74) (by decide) (by decide) ?_
    refine XS.istore X3.here hx rfl (hb hby at_78) rfl (l' := #[.val (.int p0_), .val (.int p1_), .val (.int p2_), .val (.int (1 : Int32)), .val (.int (5 : Int32)), .val (.ref b1), .val (.int (1 : Int32)), .val (.int (1 : Int32)), .unset, .unset, .unset]) rfl ?_
    show Steps p.tables e below (T3.setTop (mkF m 80 #[.val (.int p0_), .val (.int p1_), .val (.int p2_), .val (.int (1 : Int32)), .val (.int (5 : Int32)), .val (.ref b1), .val (.int (1 : Int32)), .val (.int (1 : Int32)), .unset, .unset, .unset] [])) _
    refine XS.iload X3.here hx rfl (hb hby at_80) rfl ?_
    refine XS.iload X3.here hx rfl (hb hby at_82) rfl ?_
    refine XS.icmpYes X3.here hx rfl (pc0 := 84) (pc' := 89) rfl (hb hby at_84) rfl (teq (rfl : (1 : Int32) = (1 : Int32))).1 (by decide) (by decide) ?_
    refine XS.aload X3.here hx rfl (hb hby at_89) rfl rfl ?_
    show Steps p.tables e below (T3.setTop (mkF m 91 #[.val (.int p0_), .val (.int p1_), .val (.int p2_), .val (.int (1 : Int32)), .val (.int (5 : Int32)), .val (.ref b1), .val (.int (1 : Int32)), .val (.int (1 : Int32)), .unset, .unset, .unset] [(.ref b1)])) _
    refine XS.iload X3.here hx rfl (hb hby at_91) rfl ?_
    show Steps p.tables e below (T3.setTop (mkF m 93 #[.val (.int p0_), .val (.int p1_), .val (.int p2_), .val (.int (1 : Int32)), .val (.int (5 : Int32)), .val (.ref b1), .val (.int (1 : Int32)), .val (.int (1 : Int32)), .unset, .unset, .unset] [(.int (5 : Int32)), (.ref b1)])) _
    refine st4.trans ?_
    refine XS.ifYes X4.here hx rfl (pc0 := 96) (pc' := 101) rfl (hb hby at_96) rfl ((if0 _ _).trans (feq (by decide : ¬ ((1 : Int32) = (0 : Int32)))).2) (by decide) (by decide) ?_
    refine XS.iload X4.here hx rfl (hb hby at_101) rfl ?_
    refine XS.iconst X4.here hx rfl (hb hby at_103) ?_
    show Steps p.tables e below (T4.setTop (mkF m 104 #[.val (.int p0_), .val (.int p1_), .val (.int p2_), .val (.int (1 : Int32)), .val (.int (5 : Int32)), .val (.ref b1), .val (.int (1 : Int32)), .val (.int (1 : Int32)), .unset, .unset, .unset] [(.int (1 : Int32)), (.int (5 : Int32))])) _
    refine XS.icmpNo X4.here hx rfl (hb hby at_104) rfl (tlt (by decide : (1 : Int32) < (5 : Int32))).2.2.2 ?_
    refine XS.aload X4.here hx rfl (hb hby at_107) rfl rfl ?_
    refine XS.iload X4.here hx rfl (hb hby at_109) rfl ?_
    refine XS.iconst X4.here hx rfl (hb hby at_111) ?_
    show Steps p.tables e below (T4.setTop (mkF m 112 #[.val (.int p0_), .val (.int p1_), .val (.int p2_), .val (.int (1 : Int32)), .val (.int (5 : Int32)), .val (.ref b1), .val (.int (1 : Int32)), .val (.int (1 : Int32)), .unset, .unset, .unset] [(.int (1 : Int32)), (.int (5 : Int32)), (.ref b1)])) _
    refine XS.isub X4.here hx rfl (hb hby at_112) rfl ?_
    show Steps p.tables e below (T4.setTop (mkF m 113 #[.val (.int p0_), .val (.int p1_), .val (.int p2_), .val (.int (1 : Int32)), .val (.int (5 : Int32)), .val (.ref b1), .val (.int (1 : Int32)), .val (.int (1 : Int32)), .unset, .unset, .unset] [(.int ((5 : Int32) - (1 : Int32))), (.ref b1)])) _
    refine st5.trans ?_
    refine XS.ifYes X5.here hx rfl (pc0 := 116) (pc' := 121) rfl (hb hby at_116) rfl ((if0 _ _).trans (teq (rfl : (0 : Int32) = (0 : Int32))).1) (by decide) (by decide) ?_
    refine XS.iloadN X5.here hx rfl (hb hby at_121) rfl ?_
    refine XS.iconst X5.here hx rfl (hb hby at_122) ?_
    show Steps p.tables e below (T5.setTop (mkF m 123 #[.val (.int p0_), .val (.int p1_), .val (.int p2_), .val (.int (1 : Int32)), .val (.int (5 : Int32)), .val (.ref b1), .val (.int (1 : Int32)), .val (.int (1 : Int32)), .unset, .unset, .unset] [(.int (1 : Int32)), (.int p0_)])) _
    refine XS.iushr X5.here hx rfl (hb hby at_123) rfl ?_
    refine XS.iconst X5.here hx rfl (hb hby at_124) ?_
    show Steps p.tables e below (T5.setTop (mkF m 125 #[.val (.int p0_), .val (.int p1_), .val (.int p2_), .val (.int (1 : Int32)), .val (.int (5 : Int32)), .val (.ref b1), .val (.int (1 : Int32)), .val (.int (1 : Int32)), .unset, .unset, .unset] [(.int (5 : Int32)), (.int ((p0_.toUInt32 >>> ((1 : Int32) &&& 31).toUInt32).toInt32))])) _
    refine iremM X5 hx rfl (hb hby at_125) rfl (by decide) ?_
    show Steps p.tables e below (T5.setTop (mkF m 126 #[.val (.int p0_), .val (.int p1_), .val (.int p2_), .val (.int (1 : Int32)), .val (.int (5 : Int32)), .val (.ref b1), .val (.int (1 : Int32)), .val (.int (1 : Int32)), .unset, .unset, .unset] [(.int (((p0_.toUInt32 >>> ((1 : Int32) &&& 31).toUInt32).toInt32) % (5 : Int32)))])) _
    rw [hf4]
    refine XS.iconst X5.here hx rfl (hb hby at_126) ?_
    refine XS.isub X5.here hx rfl (hb hby at_127) rfl ?_
    show Steps p.tables e below (T5.setTop (mkF m 128 #[.val (.int p0_), .val (.int p1_), .val (.int p2_), .val (.int (1 : Int32)), .val (.int (5 : Int32)), .val (.ref b1), .val (.int (1 : Int32)), .val (.int (1 : Int32)), .unset, .unset, .unset] [(.int (o_ - (2 : Int32)))])) _
    rw [hf5]
    refine XS.istore X5.here hx rfl (hb hby at_128) rfl (l' := #[.val (.int p0_), .val (.int p1_), .val (.int p2_), .val (.int (1 : Int32)), .val (.int (5 : Int32)), .val (.ref b1), .val (.int (1 : Int32)), .val (.int (1 : Int32)), .val (.int f_), .unset, .unset]) rfl ?_
    refine XS.iload X5.here hx rfl (hb hby at_130) rfl ?_
    refine XS.i2l X5.here hx rfl (hb hby at_132) rfl ?_
    show Steps p.tables e below (T5.setTop (mkF m 133 #[.val (.int p0_), .val (.int p1_), .val (.int p2_), .val (.int (1 : Int32)), .val (.int (5 : Int32)), .val (.ref b1), .val (.int (1 : Int32)), .val (.int (1 : Int32)), .val (.int f_), .unset, .unset] [(.long ((5 : Int32).toInt64))])) _
    refine XS.iload X5.here hx rfl (hb hby at_133) rfl ?_
    refine XS.i2l X5.here hx rfl (hb hby at_135) rfl ?_
    refine XS.ladd X5.here hx rfl (hb hby at_136) rfl ?_
    show Steps p.tables e below (T5.setTop (mkF m 137 #[.val (.int p0_), .val (.int p1_), .val (.int p2_), .val (.int (1 : Int32)), .val (.int (5 : Int32)), .val (.ref b1), .val (.int (1 : Int32)), .val (.int (1 : Int32)), .val (.int f_), .unset, .unset] [(.long (((5 : Int32).toInt64) + (f_.toInt64)))])) _
    rw [hf6]
    refine XS.lstore X5.here hx rfl (hb hby at_137) rfl (l' := #[.val (.int p0_), .val (.int p1_), .val (.int p2_), .val (.int (1 : Int32)), .val (.int (5 : Int32)), .val (.ref b1), .val (.int (1 : Int32)), .val (.int (1 : Int32)), .val (.int f_), .val (.long l_), .second]) rfl ?_
    refine XS.lload X5.here hx rfl (hb hby at_139) rfl ?_
    show Steps p.tables e below (T5.setTop (mkF m 141 #[.val (.int p0_), .val (.int p1_), .val (.int p2_), .val (.int (1 : Int32)), .val (.int (5 : Int32)), .val (.ref b1), .val (.int (1 : Int32)), .val (.int (1 : Int32)), .val (.int f_), .val (.long l_), .second] [(.long l_)])) _
    refine X5.ldc2Long hx hown (mvT hZ (hw _ (List.mem_of_getElem? (i := 32) rfl))) (g := (mkF m 141 #[.val (.int p0_), .val (.int p1_), .val (.int p2_), .val (.int (1 : Int32)), .val (.int (5 : Int32)), .val (.ref b1), .val (.int (1 : Int32)), .val (.int (1 : Int32)), .val (.int f_), .val (.long l_), .second] [(.long l_)])) rfl (hb hby at_141) _ ?_
    refine XS.lcmp X5.here hx rfl (hb hby at_144) rfl ?_
    refine XS.ifNo X5.here hx rfl (hb hby at_145) rfl ((if0 _ _).trans (flt hf7).2.2.1) ?_
    refine XS.aload X5.here hx rfl (hb hby at_148) rfl rfl ?_
    show Steps p.tables e below (T5.setTop (mkF m 150 #[.val (.int p0_), .val (.int p1_), .val (.int p2_), .val (.int (1 : Int32)), .val (.int (5 : Int32)), .val (.ref b1), .val (.int (1 : Int32)), .val (.int (1 : Int32)), .val (.int f_), .val (.long l_), .second] [(.ref b1)])) _
    refine XS.lload X5.here hx rfl (hb hby at_150) rfl ?_
    refine XS.l2i X5.here hx rfl (hb hby at_152) rfl ?_
    show Steps p.tables e below (T5.setTop (mkF m 153 #[.val (.int p0_), .val (.int p1_), .val (.int p2_), .val (.int (1 : Int32)), .val (.int (5 : Int32)), .val (.ref b1), .val (.int (1 : Int32)), .val (.int (1 : Int32)), .val (.int f_), .val (.long l_), .second] [(.int (l_.toInt32)), (.ref b1)])) _
    refine st6.trans ?_
    refine XS.iload X6.here hx rfl (hb hby at_156) rfl ?_
    refine XS.ifNo X6.here hx rfl (hb hby at_158) rfl ((if0 _ _).trans (flt hf9).1) ?_
    refine XS.iconst X6.here hx rfl (hb hby at_161) ?_
    show Steps p.tables e below (T6.setTop (mkF m 162 #[.val (.int p0_), .val (.int p1_), .val (.int p2_), .val (.int (1 : Int32)), .val (.int (5 : Int32)), .val (.ref b1), .val (.int (1 : Int32)), .val (.int (1 : Int32)), .val (.int f_), .val (.long l_), .second] [(.int (1 : Int32)), (.int (1 : Int32))])) _
    refine XS.goto X6.here hx rfl (pc0 := 162) (pc' := 166) rfl (hb hby at_162) (by decide) (by decide) ?_
    refine XS.icmpYes X6.here hx rfl (pc0 := 166) (pc' := 171) rfl (hb hby at_166) rfl (teq (rfl : (1 : Int32) = (1 : Int32))).1 (by decide) (by decide) ?_
    refine XS.iconst X6.here hx rfl (hb hby at_171) ?_
    show Steps p.tables e below (T6.setTop (mkF m 172 #[.val (.int p0_), .val (.int p1_), .val (.int p2_), .val (.int (1 : Int32)), .val (.int (5 : Int32)), .val (.ref b1), .val (.int (1 : Int32)), .val (.int (1 : Int32)), .val (.int f_), .val (.long l_), .second] [(.int (1 : Int32))])) _
    exact retN X6 hx (t := .boolean) Bd.returns (by simp) (hb hby at_172) hr
  · show own_QL n0 _ T6.heap _
    exact ⟨rfl, N6⟩
set_option maxRecDepth 65536 in
set_option maxHeartbeats 40000000 in
theorem own_law_Sll (l : Launch) (Z : State) (a0 : Array Value) (hw : ∀ d ∈ tables_1, d.before a0 Z = true) (ws : List Jvm.Cond) (p0_ : Int32) (p1_ : Int32) (p2_ : Int32) (m_ : Int32) (w_DEFAULT_BACKOFF : Addr) (o_ : Int32) (f_ : Int32) (l_ : Int64) (h0 : Heap) (n0 : Nat) (Z0 : n0 ≤ h0.size) (S_DEFAULT_BACKOFF : Sta Z h0 "com/example/mersey/mersey/JobTypeSettings" "DEFAULT_BACKOFF" "Lcom/example/mersey/mersey/Backoff;" (.ref w_DEFAULT_BACKOFF)) (hf0 : (p0_ &&& (1 : Int32)) = (0 : Int32)) (hf1 : (p1_ &&& (2147483647 : Int32)) = m_) (hf2 : m_ = (0 : Int32)) (hf3 : p2_ < (1 : Int32)) (hf4 : (((p0_.toUInt32 >>> ((1 : Int32) &&& 31).toUInt32).toInt32) % (5 : Int32)) = o_) (hf5 : (o_ - (2 : Int32)) = f_) (hf6 : (((1 : Int32).toInt64) + (f_.toInt64)) = l_) (hf7 : ¬ ((0 : Int32) < (lcmpW l_ (2147483647 : Int64)))) (hf8 : (l_.toInt32) < (1 : Int32)) (hf9 : f_ < (0 : Int32)) :
    MetFree l x (head1 (Jvm.Cond.code x code maxLocals ret :: ws) room_1) (fun a U => a = #[(.int p0_), (.int p1_), (.int p2_)] ∧ Z.Warmed39 U.vm ∧ U.heap = h0) (fun _ _ _ _ _ => True) (fun _ U o U' => ∃ v L, o = .returned v ∧ own_QL n0 v U'.heap L ∧ FrameEnd U o U' L room_1.cells room_1.slots) := by
  refine MetFree.of_bodySF (plainFor_of_name own_pn1) hisR ?_
  intro p e s m args below meth c s₁ Bd hml0 hP hK
  obtain ⟨rfl, hZ, hh⟩ := hP
  have hx := Bd.exec
  have hby := Bd.bytes
  have hml : c.maxLocals = 11 := hml0
  have hown : s.vm.findClass "com/example/mersey/mersey/JobTypeSettingsIsLastAttemptPinLaw" = some m.cls := findClass_of_methodNamed Bd.named
  have hnm := (name_of_methodNamed Bd.named Bd.method).1
  have X0 : Stand p l e room_1 s m #[(.int p0_), (.int p1_), (.int p2_)] below meth c s₁ [] 0 0 := Stand.of_body Bd
  have e0 : s₁.heap = h0 := by rw [← hh, Bd.state]; rfl
  have N0 := Fr.nil n0
  have pre0 : ∀ t, Steps p.tables e below (s₁.setTop (mkF m 0 #[.val (.int p0_), .val (.int p1_), .val (.int p2_), .unset, .unset, .unset, .unset, .unset, .unset, .unset, .unset] [])) t → Steps p.tables e below (s₁.setTop (entryFrame m #[(.int p0_), (.int p1_), (.int p2_)] maxLocals)) t := fun t k => castTop (own_ef2 m p0_ p1_ p2_) k
  obtain ⟨T1, h1, X1, e1, E1, A1, D1, -, st1⟩ := newO X0 hx hZ hown (hw _ (List.mem_of_getElem? (i := 1) rfl)) (hw _ (List.mem_of_getElem? (i := 2) rfl)) (hw _ (List.mem_of_getElem? (i := 3) rfl)) e0 (g := (mkF m 45 #[.val (.int p0_), .val (.int p1_), .val (.int p2_), .val (.int (0 : Int32)), .val (.int (1 : Int32)), .unset, .unset, .unset, .unset, .unset, .unset] [])) rfl (hb hby at_45) (by decide) (by decide)
  obtain ⟨b1, g1⟩ : ∃ z, z = h0.size := ⟨_, rfl⟩
  rw [← g1] at A1 D1 st1
  have lo_b1 : h0.size ≤ b1 := Nat.le_of_eq g1.symm
  have sz_b1 : h0.size ≤ b1 := Nat.le_trans (Keep.refl h0 []).1 lo_b1
  have g_b1 : n0 ≤ b1 := Nat.le_trans Z0 sz_b1
  have K1 : Keep h0 h1 [] := (Keep.refl h0 []).ext E1
  have F_maxAttempts_b1_1 : Fld Z h1 b1 "com/example/mersey/mersey/JobTypeSettings" "maxAttempts" "I" (.int (0 : Int32)) := D1 (Or.inl (hw _ (List.mem_of_getElem? (i := 11) rfl))) (ty := .int) (by decide)
  have F_backoff_b1_1 : Fld Z h1 b1 "com/example/mersey/mersey/JobTypeSettings" "backoff" "Lcom/example/mersey/mersey/Backoff;" .null := D1 (Or.inl (hw _ (List.mem_of_getElem? (i := 15) rfl))) (ty := (.object "com/example/mersey/mersey/Backoff")) (by decide)
  have F_longestRunTime_b1_1 : Fld Z h1 b1 "com/example/mersey/mersey/JobTypeSettings" "longestRunTime" "Ljava/time/Duration;" .null := D1 (Or.inl (hw _ (List.mem_of_getElem? (i := 26) rfl))) (ty := (.object "java/time/Duration")) (by decide)
  obtain ⟨_, _, ⟨T2, L2, k2, n2⟩, -, X2, ⟨Lc2, hQ2, l2, y2, z2⟩, st2⟩ := X1.specialBack hx (y := (⟨"com/example/mersey/mersey/JobTypeSettings", "<init>", "()V"⟩ : MethodName)) rfl hown (mvT hZ (hw _ (List.mem_of_getElem? (i := 4) rfl))) (mvT hZ (hw _ (List.mem_of_getElem? (i := 5) rfl))) (mvT hZ (hw _ (List.mem_of_getElem? (i := 6) rfl))) (by decide) (backOf (W := 1) (own_b1_x l Z a0 hw [] b1 (.int (0 : Int32)) w_DEFAULT_BACKOFF .null .null h1 n0 (Nat.le_trans Z0 (own_ext K1).1) A1 F_maxAttempts_b1_1 g_b1 (S_DEFAULT_BACKOFF.ext (own_ext K1)) F_backoff_b1_1 F_longestRunTime_b1_1) hZ (hw _ (List.mem_of_getElem? (i := 6) rfl)) (hw _ (List.mem_of_getElem? (i := 3) rfl)) (by decide) (by decide)) (g := (mkF m 49 #[.val (.int p0_), .val (.int p1_), .val (.int p2_), .val (.int (0 : Int32)), .val (.int (1 : Int32)), .unset, .unset, .unset, .unset, .unset, .unset] [(.ref b1), (.ref b1)])) rfl (by rw [hml]; rfl) (Steps.refl _) (a := b1) (argsL := []) (rest := [(.ref b1)]) (lenOf own_pd0 rfl) rfl (by show 2 * 0 + _ ≤ _; exact Nat.le_of_eq rfl) (hb hby at_49) (fun _ _ => ⟨rfl, e1, (by decide : 1 + 0 ≤ _), (by decide : 3 + 0 ≤ _)⟩)
  dsimp only [Pt.U, Pt.locs, Pt.cells, Pt.slots] at X2 l2 y2 z2 st2 hQ2
  subst l2 y2 z2
  obtain ⟨rfl, N2q, Kq2, Eq2, Fq2_maxAttempts, Fq2_backoff, Fq2_longestRunTime⟩ := hQ2
  have N2 := Fr.app N0 N2q
  have K2 : Keep h0 T2.heap [] := K1.trans Kq2 (fun x hx => by cases List.mem_singleton.mp hx; exact Or.inr sz_b1)
  obtain ⟨cq3, kq3, q3a, q3b, q3c⟩ := isOf hZ rfl Eq2
  obtain ⟨_, _, ⟨T3, L3, k3, n3⟩, -, X3, ⟨Lc3, hQ3, l3, y3, z3⟩, st3⟩ := X2.virtualBack hx (y := (⟨"com/example/mersey/mersey/JobTypeSettings", "withMaxAttempts", "(I)Lcom/example/mersey/mersey/JobTypeSettings;"⟩ : MethodName)) (z := (⟨"com/example/mersey/mersey/JobTypeSettings", "withMaxAttempts", "(I)Lcom/example/mersey/mersey/JobTypeSettings;"⟩ : MethodName)) hown (mvT hZ (hw _ (List.mem_of_getElem? (i := 16) rfl))) (mvT hZ (hw _ (List.mem_of_getElem? (i := 17) rfl))) (notFace_of_selects (args := #[]) (mvT hZ (hw _ (List.mem_of_getElem? (i := 19) rfl)))) (mvT hZ (hw _ (List.mem_of_getElem? (i := 19) rfl))) (mvT hZ (hw _ (List.mem_of_getElem? (i := 18) rfl))) (by decide) (backOf (W := 0) (own_b3_tN l Z a0 hw [] b1 (1 : Int32) w_DEFAULT_BACKOFF (5 : Int32) w_DEFAULT_BACKOFF T2.heap n0 (Nat.le_trans Z0 (own_ext K2).1) (S_DEFAULT_BACKOFF.ext (own_ext K2)) Fq2_longestRunTime Fq2_maxAttempts Fq2_backoff (by decide)) hZ (hw _ (List.mem_of_getElem? (i := 20) rfl)) (hw _ (List.mem_of_getElem? (i := 3) rfl)) (by decide) (by decide)) q3a q3c (g := (mkF m 54 #[.val (.int p0_), .val (.int p1_), .val (.int p2_), .val (.int (0 : Int32)), .val (.int (1 : Int32)), .unset, .unset, .unset, .unset, .unset, .unset] [(.int (1 : Int32)), (.ref b1)])) rfl (by rw [hml]; rfl) (Steps.refl _) (argsL := [(.int (1 : Int32))]) (rest := []) (lenOf own_pd3 rfl) rfl (by show 2 * 0 + _ ≤ _; exact Nat.le_of_eq rfl) (hb hby at_54) (fun _ _ => ⟨rfl, rfl, (by decide : 1 + 1 ≤ _), (by decide : 3 + 3 ≤ _)⟩)
  dsimp only [Pt.U, Pt.locs, Pt.cells, Pt.slots] at X3 l3 y3 z3 st3 hQ3
  subst l3 y3 z3
  obtain ⟨r3, rfl, N3q, Kq3, lo_r3, Eq3, Fq3_maxAttempts, Fq3_backoff, Fq3_longestRunTime⟩ := hQ3
  have N3 := Fr.app N2 N3q
  have ne_b1_r3 : b1 ≠ r3 := Nat.ne_of_lt (Nat.lt_of_lt_of_le Eq2.lt lo_r3)
  have sz_r3 : h0.size ≤ r3 := Nat.le_trans K2.1 lo_r3
  have g_r3 : n0 ≤ r3 := Nat.le_trans Z0 sz_r3
  have E_b1_3 := Eq2.ext (own_ext Kq3)
  have F_maxAttempts_b1_3 := Fq2_maxAttempts.ext (own_ext Kq3)
  have F_backoff_b1_3 := Fq2_backoff.ext (own_ext Kq3)
  have F_longestRunTime_b1_3 := Fq2_longestRunTime.ext (own_ext Kq3)
  have K3 : Keep h0 T3.heap [] := K2.trans Kq3 (fun x hx => by cases hx)
  obtain ⟨cq4, kq4, q4a, q4b, q4c⟩ := isOf hZ rfl Eq3
  obtain ⟨_, _, ⟨T4, L4, k4, n4⟩, -, X4, ⟨Lc4, hQ4, l4, y4, z4⟩, st4⟩ := X3.virtualBack hx (y := (⟨"com/example/mersey/mersey/JobTypeSettings", "isLastAttempt", "(I)Z"⟩ : MethodName)) (z := (⟨"com/example/mersey/mersey/JobTypeSettings", "isLastAttempt", "(I)Z"⟩ : MethodName)) hown (mvT hZ (hw _ (List.mem_of_getElem? (i := 27) rfl))) (mvT hZ (hw _ (List.mem_of_getElem? (i := 28) rfl))) (notFace_of_selects (args := #[]) (mvT hZ (hw _ (List.mem_of_getElem? (i := 30) rfl)))) (mvT hZ (hw _ (List.mem_of_getElem? (i := 30) rfl))) (mvT hZ (hw _ (List.mem_of_getElem? (i := 29) rfl))) (by decide) (backOf (W := 0) (own_b5_t l Z a0 hw [] r3 p2_ (1 : Int32) T3.heap n0 (Nat.le_trans Z0 (own_ext K3).1) Fq3_maxAttempts hf3) hZ (hw _ (List.mem_of_getElem? (i := 31) rfl)) (hw _ (List.mem_of_getElem? (i := 3) rfl)) (by decide) (by decide)) q4a q4c (g := (mkF m 62 #[.val (.int p0_), .val (.int p1_), .val (.int p2_), .val (.int (0 : Int32)), .val (.int (1 : Int32)), .val (.ref r3), .unset, .unset, .unset, .unset, .unset] [(.int p2_), (.ref r3)])) rfl (by rw [hml]; rfl) (Steps.refl _) (argsL := [(.int p2_)]) (rest := []) (lenOf own_pd1 rfl) rfl (by show 2 * 0 + _ ≤ _; exact Nat.le_of_eq rfl) (hb hby at_62) (fun _ _ => ⟨rfl, rfl, (by decide : 2 + 0 ≤ _), (by decide : 6 + 0 ≤ _)⟩)
  dsimp only [Pt.U, Pt.locs, Pt.cells, Pt.slots] at X4 l4 y4 z4 st4 hQ4
  subst l4 y4 z4
  obtain ⟨rfl, N4q, e4⟩ := hQ4
  have N4 := Fr.app N3 N4q
  obtain ⟨cq5, kq5, q5a, q5b, q5c⟩ := isOf hZ e4 Eq3
  obtain ⟨_, _, ⟨T5, L5, k5, n5⟩, -, X5, ⟨Lc5, hQ5, l5, y5, z5⟩, st5⟩ := X4.virtualBack hx (y := (⟨"com/example/mersey/mersey/JobTypeSettings", "isLastAttempt", "(I)Z"⟩ : MethodName)) (z := (⟨"com/example/mersey/mersey/JobTypeSettings", "isLastAttempt", "(I)Z"⟩ : MethodName)) hown (mvT hZ (hw _ (List.mem_of_getElem? (i := 27) rfl))) (mvT hZ (hw _ (List.mem_of_getElem? (i := 28) rfl))) (notFace_of_selects (args := #[]) (mvT hZ (hw _ (List.mem_of_getElem? (i := 30) rfl)))) (mvT hZ (hw _ (List.mem_of_getElem? (i := 30) rfl))) (mvT hZ (hw _ (List.mem_of_getElem? (i := 29) rfl))) (by decide) (backOf (W := 0) (own_b5_f l Z a0 hw [] r3 (1 : Int32) (1 : Int32) T3.heap n0 (Nat.le_trans Z0 (own_ext K3).1) Fq3_maxAttempts (by decide)) hZ (hw _ (List.mem_of_getElem? (i := 31) rfl)) (hw _ (List.mem_of_getElem? (i := 3) rfl)) (by decide) (by decide)) q5a q5c (g := (mkF m 93 #[.val (.int p0_), .val (.int p1_), .val (.int p2_), .val (.int (0 : Int32)), .val (.int (1 : Int32)), .val (.ref r3), .val (.int (0 : Int32)), .val (.int (0 : Int32)), .unset, .unset, .unset] [(.int (1 : Int32)), (.ref r3)])) rfl (by rw [hml]; rfl) (Steps.refl _) (argsL := [(.int (1 : Int32))]) (rest := []) (lenOf own_pd1 rfl) rfl (by show 2 * 0 + _ ≤ _; exact Nat.le_of_eq rfl) (hb hby at_93) (fun _ _ => ⟨rfl, e4, (by decide : 2 + 0 ≤ _), (by decide : 6 + 0 ≤ _)⟩)
  dsimp only [Pt.U, Pt.locs, Pt.cells, Pt.slots] at X5 l5 y5 z5 st5 hQ5
  subst l5 y5 z5
  obtain ⟨rfl, N5q, e5⟩ := hQ5
  have N5 := Fr.app N4 N5q
  obtain ⟨cq6, kq6, q6a, q6b, q6c⟩ := isOf hZ e5 Eq3
  obtain ⟨_, _, ⟨T6, L6, k6, n6⟩, -, X6, ⟨Lc6, hQ6, l6, y6, z6⟩, st6⟩ := X5.virtualBack hx (y := (⟨"com/example/mersey/mersey/JobTypeSettings", "isLastAttempt", "(I)Z"⟩ : MethodName)) (z := (⟨"com/example/mersey/mersey/JobTypeSettings", "isLastAttempt", "(I)Z"⟩ : MethodName)) hown (mvT hZ (hw _ (List.mem_of_getElem? (i := 27) rfl))) (mvT hZ (hw _ (List.mem_of_getElem? (i := 28) rfl))) (notFace_of_selects (args := #[]) (mvT hZ (hw _ (List.mem_of_getElem? (i := 30) rfl)))) (mvT hZ (hw _ (List.mem_of_getElem? (i := 30) rfl))) (mvT hZ (hw _ (List.mem_of_getElem? (i := 29) rfl))) (by decide) (backOf (W := 0) (own_b5_t l Z a0 hw [] r3 (l_.toInt32) (1 : Int32) T3.heap n0 (Nat.le_trans Z0 (own_ext K3).1) Fq3_maxAttempts hf8) hZ (hw _ (List.mem_of_getElem? (i := 31) rfl)) (hw _ (List.mem_of_getElem? (i := 3) rfl)) (by decide) (by decide)) q6a q6c (g := (mkF m 153 #[.val (.int p0_), .val (.int p1_), .val (.int p2_), .val (.int (0 : Int32)), .val (.int (1 : Int32)), .val (.ref r3), .val (.int (0 : Int32)), .val (.int (0 : Int32)), .val (.int f_), .val (.long l_), .second] [(.int (l_.toInt32)), (.ref r3)])) rfl (by rw [hml]; rfl) (Steps.refl _) (argsL := [(.int (l_.toInt32))]) (rest := []) (lenOf own_pd1 rfl) rfl (by show 2 * 0 + _ ≤ _; exact Nat.le_of_eq rfl) (hb hby at_153) (fun _ _ => ⟨rfl, e5, (by decide : 2 + 0 ≤ _), (by decide : 6 + 0 ≤ _)⟩)
  dsimp only [Pt.U, Pt.locs, Pt.cells, Pt.slots] at X6 l6 y6 z6 st6 hQ6
  subst l6 y6 z6
  obtain ⟨rfl, N6q, e6⟩ := hQ6
  have N6 := Fr.app N5 N6q
  obtain ⟨fs, hr, hrun, hended, hW, hsame⟩ := X6.leave (v := some (.int (1 : Int32))) (fun h => by rw [Bd.returns] at h; cases h)
  refine ⟨_, _, pre0 _ ?_, hrun, hended, _, _, rfl, ?_, ⟨_, rfl⟩, hW, hsame.mono (by decide) (by decide)⟩
  · show Steps p.tables e below (s₁.setTop (mkF m 0 #[.val (.int p0_), .val (.int p1_), .val (.int p2_), .unset, .unset, .unset, .unset, .unset, .unset, .unset, .unset] [])) _
    refine XS.iloadN X0.here hx rfl (hb hby at_0) rfl ?_
    refine XS.iconst X0.here hx rfl (hb hby at_1) ?_
    refine XS.iand X0.here hx rfl (hb hby at_2) rfl ?_
    show Steps p.tables e below (s₁.setTop (mkF m 3 #[.val (.int p0_), .val (.int p1_), .val (.int p2_), .unset, .unset, .unset, .unset, .unset, .unset, .unset, .unset] [(.int (p0_ &&& (1 : Int32)))])) _
    rw [hf0]
    refine XS.ifYes X0.here hx rfl (pc0 := 3) (pc' := 10) rfl (hb hby at_3) rfl ((if0 _ _).trans (teq (rfl : (0 : Int32) = (0 : Int32))).1) (by decide) (by decide) ?_
    refine XS.iconst X0.here hx rfl (hb hby at_10) ?_
    refine XS.istoreN X0.here hx rfl (hb hby at_11) rfl (l' := #[.val (.int p0_), .val (.int p1_), .val (.int p2_), .val (.int (0 : Int32)), .unset, .unset, .unset, .unset, .unset, .unset, .unset]) rfl ?_
    show Steps p.tables e below (s₁.setTop (mkF m 12 #[.val (.int p0_), .val (.int p1_), .val (.int p2_), .val (.int (0 : Int32)), .unset, .unset, .unset, .unset, .unset, .unset, .unset] [])) _
    refine XS.iloadN X0.here hx rfl (hb hby at_12) rfl ?_
    show Steps p.tables e below (s₁.setTop (mkF m 13 #[.val (.int p0_), .val (.int p1_), .val (.int p2_), .val (.int (0 : Int32)), .unset, .unset, .unset, .unset, .unset, .unset, .unset] [(.int p1_)])) _
    refine X0.ldcInt hx hown (mvT hZ (hw _ (List.mem_of_getElem? (i := 0) rfl))) (g := (mkF m 13 #[.val (.int p0_), .val (.int p1_), .val (.int p2_), .val (.int (0 : Int32)), .unset, .unset, .unset, .unset, .unset, .unset, .unset] [(.int p1_)])) rfl (hb hby at_13) _ ?_
    refine XS.iand X0.here hx rfl (hb hby at_15) rfl ?_
    show Steps p.tables e below (s₁.setTop (mkF m 16 #[.val (.int p0_), .val (.int p1_), .val (.int p2_), .val (.int (0 : Int32)), .unset, .unset, .unset, .unset, .unset, .unset, .unset] [(.int (p1_ &&& (2147483647 : Int32)))])) _
    rw [hf1]
    refine XS.istore X0.here hx rfl (hb hby at_16) rfl (l' := #[.val (.int p0_), .val (.int p1_), .val (.int p2_), .val (.int (0 : Int32)), .val (.int m_), .unset, .unset, .unset, .unset, .unset, .unset]) rfl ?_
    refine XS.iload X0.here hx rfl (hb hby at_18) rfl ?_
    refine XS.ifNo X0.here hx rfl (hb hby at_20) rfl ((if0 _ _).trans (teq hf2).2) ?_
    show Steps p.tables e below (s₁.setTop (mkF m 23 #[.val (.int p0_), .val (.int p1_), .val (.int p2_), .val (.int (0 : Int32)), .val (.int m_), .unset, .unset, .unset, .unset, .unset, .unset] [])) _
    refine XS.iconst X0.here hx rfl (hb hby at_23) ?_
    refine XS.istore X0.here hx rfl (hb hby at_24) rfl (l' := #[.val (.int p0_), .val (.int p1_), .val (.int p2_), .val (.int (0 : Int32)), .val (.int (1 : Int32)), .unset, .unset, .unset, .unset, .unset, .unset]) rfl ?_
    refine XS.iloadN X0.here hx rfl (hb hby at_26) rfl ?_
    refine XS.ifYes X0.here hx rfl (pc0 := 27) (pc' := 45) rfl (hb hby at_27) rfl ((if0 _ _).trans (teq (rfl : (0 : Int32) = (0 : Int32))).1) (by decide) (by decide) ?_
    show Steps p.tables e below (s₁.setTop (mkF m 45 #[.val (.int p0_), .val (.int p1_), .val (.int p2_), .val (.int (0 : Int32)), .val (.int (1 : Int32)), .unset, .unset, .unset, .unset, .unset, .unset] [])) _
    refine st1 _ ?_
    refine XS.dup X1.here hx rfl (hb hby at_48) rfl rfl ?_
    show Steps p.tables e below (T1.setTop (mkF m 49 #[.val (.int p0_), .val (.int p1_), .val (.int p2_), .val (.int (0 : Int32)), .val (.int (1 : Int32)), .unset, .unset, .unset, .unset, .unset, .unset] [(.ref b1), (.ref b1)])) _
    refine st2.trans ?_
    refine XS.iload X2.here hx rfl (hb hby at_52) rfl ?_
    show Steps p.tables e below (T2.setTop (mkF m 54 #[.val (.int p0_), .val (.int p1_), .val (.int p2_), .val (.int (0 : Int32)), .val (.int (1 : Int32)), .unset, .unset, .unset, .unset, .unset, .unset] [(.int (1 : Int32)), (.ref b1)])) _
    refine st3.trans ?_
    refine XS.astore X3.here hx rfl (hb hby at_57) rfl rfl (l' := #[.val (.int p0_), .val (.int p1_), .val (.int p2_), .val (.int (0 : Int32)), .val (.int (1 : Int32)), .val (.ref r3), .unset, .unset, .unset, .unset, .unset]) rfl ?_
    refine XS.aload X3.here hx rfl (hb hby at_59) rfl rfl ?_
    refine XS.iloadN X3.here hx rfl (hb hby at_61) rfl ?_
    show Steps p.tables e below (T3.setTop (mkF m 62 #[.val (.int p0_), .val (.int p1_), .val (.int p2_), .val (.int (0 : Int32)), .val (.int (1 : Int32)), .val (.ref r3), .unset, .unset, .unset, .unset, .unset] [(.int p2_), (.ref r3)])) _
    refine st4.trans ?_
    refine XS.istore X4.here hx rfl (hb hby at_65) rfl (l' := #[.val (.int p0_), .val (.int p1_), .val (.int p2_), .val (.int (0 : Int32)), .val (.int (1 : Int32)), .val (.ref r3), .val (.int (0 : Int32)), .unset, .unset, .unset, .unset]) rfl ?_
    refine XS.iloadN X4.here hx rfl (hb hby at_67) rfl ?_
    refine XS.iload X4.here hx rfl (hb hby at_68) rfl ?_
    show Steps p.tables e below (T4.setTop (mkF m 70 #[.val (.int p0_), .val (.int p1_), .val (.int p2_), .val (.int (0 : Int32)), .val (.int (1 : Int32)), .val (.ref r3), .val (.int (0 : Int32)), .unset, .unset, .unset, .unset] [(.int (1 : Int32)), (.int p2_)])) _
    refine XS.icmpYes X4.here hx rfl (pc0 := 70) (pc' := 77) rfl (hb hby at_70) rfl (tlt hf3).1 (by decide) (by decide) ?_
    refine XS.iconst X4.here hx rfl (hb hby at_77) ?_
    refine XS.istore X4.here hx rfl (hb hby at_78) rfl (l' := #[.val (.int p0_), .val (.int p1_), .val (.int p2_), .val (.int (0 : Int32)), .val (.int (1 : Int32)), .val (.ref r3), .val (.int (0 : Int32)), .val (.int (0 : Int32)), .unset, .unset, .unset]) rfl ?_
    refine XS.iload X4.here hx rfl (hb hby at_80) rfl ?_
    show Steps p.tables e below (T4.setTop (mkF m 82 #[.val (.int p0_), .val (.int p1_), .val (.int p2_), .val (.int (0 : Int32)), .val (.int (1 : Int32)), .val (.ref r3), .val (.int (0 : Int32)), .val (.int (0 : Int32)), .unset, .unset, .unset] [(.int (0 : Int32))])) _
    refine XS.iload X4.here hx rfl (hb hby at_82) rfl ?_
    refine XS.icmpYes X4.here hx rfl (pc0 := 84) (pc' := 89) rfl (hb hby at_84) rfl (teq (rfl : (0 : Int32) = (0 : Int32))).1 (by decide) (by decide) ?_
    refine XS.aload X4.here hx rfl (hb hby at_89) rfl rfl ?_
    refine XS.iload X4.here hx rfl (hb hby at_91) rfl ?_
    show Steps p.tables e below (T4.setTop (mkF m 93 #[.val (.int p0_), .val (.int p1_), .val (.int p2_), .val (.int (0 : Int32)), .val (.int (1 : Int32)), .val (.ref r3), .val (.int (0 : Int32)), .val (.int (0 : Int32)), .unset, .unset, .unset] [(.int (1 : Int32)), (.ref r3)])) _
    refine st5.trans ?_
    refine XS.ifYes X5.here hx rfl (pc0 := 96) (pc' := 101) rfl (hb hby at_96) rfl ((if0 _ _).trans (feq (by decide : ¬ ((1 : Int32) = (0 : Int32)))).2) (by decide) (by decide) ?_
    refine XS.iload X5.here hx rfl (hb hby at_101) rfl ?_
    refine XS.iconst X5.here hx rfl (hb hby at_103) ?_
    show Steps p.tables e below (T5.setTop (mkF m 104 #[.val (.int p0_), .val (.int p1_), .val (.int p2_), .val (.int (0 : Int32)), .val (.int (1 : Int32)), .val (.ref r3), .val (.int (0 : Int32)), .val (.int (0 : Int32)), .unset, .unset, .unset] [(.int (1 : Int32)), (.int (1 : Int32))])) _
    refine XS.icmpYes X5.here hx rfl (pc0 := 104) (pc' := 121) rfl (hb hby at_104) rfl (flt (by decide : ¬ ((1 : Int32) < (1 : Int32)))).2.2.2 (by decide) (by decide) ?_
    refine XS.iloadN X5.here hx rfl (hb hby at_121) rfl ?_
    refine XS.iconst X5.here hx rfl (hb hby at_122) ?_
    refine XS.iushr X5.here hx rfl (hb hby at_123) rfl ?_
    show Steps p.tables e below (T5.setTop (mkF m 124 #[.val (.int p0_), .val (.int p1_), .val (.int p2_), .val (.int (0 : Int32)), .val (.int (1 : Int32)), .val (.ref r3), .val (.int (0 : Int32)), .val (.int (0 : Int32)), .unset, .unset, .unset] [(.int ((p0_.toUInt32 >>> ((1 : Int32) &&& 31).toUInt32).toInt32))])) _
    refine XS.iconst X5.here hx rfl (hb hby at_124) ?_
    show Steps p.tables e below (T5.setTop (mkF m 125 #[.val (.int p0_), .val (.int p1_), .val (.int p2_), .val (.int (0 : Int32)), .val (.int (1 : Int32)), .val (.ref r3), .val (.int (0 : Int32)), .val (.int (0 : Int32)), .unset, .unset, .unset] [(.int (5 : Int32)), (.int ((p0_.toUInt32 >>> ((1 : Int32) &&& 31).toUInt32).toInt32))])) _
    refine iremM X5 hx rfl (hb hby at_125) rfl (by decide) ?_
    show Steps p.tables e below (T5.setTop (mkF m 126 #[.val (.int p0_), .val (.int p1_), .val (.int p2_), .val (.int (0 : Int32)), .val (.int (1 : Int32)), .val (.ref r3), .val (.int (0 : Int32)), .val (.int (0 : Int32)), .unset, .unset, .unset] [(.int (((p0_.toUInt32 >>> ((1 : Int32) &&& 31).toUInt32).toInt32) % (5 : Int32)))])) _
    rw [hf4]
    refine XS.iconst X5.here hx rfl (hb hby at_126) ?_
    refine XS.isub X5.here hx rfl (hb hby at_127) rfl ?_
    show Steps p.tables e below (T5.setTop (mkF m 128 #[.val (.int p0_), .val (.int p1_), .val (.int p2_), .val (.int (0 : Int32)), .val (.int (1 : Int32)), .val (.ref r3), .val (.int (0 : Int32)), .val (.int (0 : Int32)), .unset, .unset, .unset] [(.int (o_ - (2 : Int32)))])) _
    rw [hf5]
    refine XS.istore X5.here hx rfl (hb hby at_128) rfl (l' := #[.val (.int p0_), .val (.int p1_), .val (.int p2_), .val (.int (0 : Int32)), .val (.int (1 : Int32)), .val (.ref r3), .val (.int (0 : Int32)), .val (.int (0 : Int32)), .val (.int f_), .unset, .unset]) rfl ?_
    refine XS.iload X5.here hx rfl (hb hby at_130) rfl ?_
    refine XS.i2l X5.here hx rfl (hb hby at_132) rfl ?_
    show Steps p.tables e below (T5.setTop (mkF m 133 #[.val (.int p0_), .val (.int p1_), .val (.int p2_), .val (.int (0 : Int32)), .val (.int (1 : Int32)), .val (.ref r3), .val (.int (0 : Int32)), .val (.int (0 : Int32)), .val (.int f_), .unset, .unset] [(.long ((1 : Int32).toInt64))])) _
    refine XS.iload X5.here hx rfl (hb hby at_133) rfl ?_
    refine XS.i2l X5.here hx rfl (hb hby at_135) rfl ?_
    refine XS.ladd X5.here hx rfl (hb hby at_136) rfl ?_
    show Steps p.tables e below (T5.setTop (mkF m 137 #[.val (.int p0_), .val (.int p1_), .val (.int p2_), .val (.int (0 : Int32)), .val (.int (1 : Int32)), .val (.ref r3), .val (.int (0 : Int32)), .val (.int (0 : Int32)), .val (.int f_), .unset, .unset] [(.long (((1 : Int32).toInt64) + (f_.toInt64)))])) _
    rw [hf6]
    refine XS.lstore X5.here hx rfl (hb hby at_137) rfl (l' := #[.val (.int p0_), .val (.int p1_), .val (.int p2_), .val (.int (0 : Int32)), .val (.int (1 : Int32)), .val (.ref r3), .val (.int (0 : Int32)), .val (.int (0 : Int32)), .val (.int f_), .val (.long l_), .second]) rfl ?_
    refine XS.lload X5.here hx rfl (hb hby at_139) rfl ?_
    show Steps p.tables e below (T5.setTop (mkF m 141 #[.val (.int p0_), .val (.int p1_), .val (.int p2_), .val (.int (0 : Int32)), .val (.int (1 : Int32)), .val (.ref r3), .val (.int (0 : Int32)), .val (.int (0 : Int32)), .val (.int f_), .val (.long l_), .second] [(.long l_)])) _
    refine X5.ldc2Long hx hown (mvT hZ (hw _ (List.mem_of_getElem? (i := 32) rfl))) (g := (mkF m 141 #[.val (.int p0_), .val (.int p1_), .val (.int p2_), .val (.int (0 : Int32)), .val (.int (1 : Int32)), .val (.ref r3), .val (.int (0 : Int32)), .val (.int (0 : Int32)), .val (.int f_), .val (.long l_), .second] [(.long l_)])) rfl (hb hby at_141) _ ?_
    refine XS.lcmp X5.here hx rfl (hb hby at_144) rfl ?_
    refine XS.ifNo X5.here hx rfl (hb hby at_145) rfl ((if0 _ _).trans (flt hf7).2.2.1) ?_
    refine XS.aload X5.here hx rfl (hb hby at_148) rfl rfl ?_
    show Steps p.tables e below (T5.setTop (mkF m 150 #[.val (.int p0_), .val (.int p1_), .val (.int p2_), .val (.int (0 : Int32)), .val (.int (1 : Int32)), .val (.ref r3), .val (.int (0 : Int32)), .val (.int (0 : Int32)), .val (.int f_), .val (.long l_), .second] [(.ref r3)])) _
    refine XS.lload X5.here hx rfl (hb hby at_150) rfl ?_
    refine XS.l2i X5.here hx rfl (hb hby at_152) rfl ?_
    show Steps p.tables e below (T5.setTop (mkF m 153 #[.val (.int p0_), .val (.int p1_), .val (.int p2_), .val (.int (0 : Int32)), .val (.int (1 : Int32)), .val (.ref r3), .val (.int (0 : Int32)), .val (.int (0 : Int32)), .val (.int f_), .val (.long l_), .second] [(.int (l_.toInt32)), (.ref r3)])) _
    refine st6.trans ?_
    refine XS.iload X6.here hx rfl (hb hby at_156) rfl ?_
    refine XS.ifYes X6.here hx rfl (pc0 := 158) (pc' := 165) rfl (hb hby at_158) rfl ((if0 _ _).trans (tlt hf9).1) (by decide) (by decide) ?_
    refine XS.iconst X6.here hx rfl (hb hby at_165) ?_
    show Steps p.tables e below (T6.setTop (mkF m 166 #[.val (.int p0_), .val (.int p1_), .val (.int p2_), .val (.int (0 : Int32)), .val (.int (1 : Int32)), .val (.ref r3), .val (.int (0 : Int32)), .val (.int (0 : Int32)), .val (.int f_), .val (.long l_), .second] [(.int (0 : Int32)), (.int (0 : Int32))])) _
    refine XS.icmpYes X6.here hx rfl (pc0 := 166) (pc' := 171) rfl (hb hby at_166) rfl (teq (rfl : (0 : Int32) = (0 : Int32))).1 (by decide) (by decide) ?_
    refine XS.iconst X6.here hx rfl (hb hby at_171) ?_
    show Steps p.tables e below (T6.setTop (mkF m 172 #[.val (.int p0_), .val (.int p1_), .val (.int p2_), .val (.int (0 : Int32)), .val (.int (1 : Int32)), .val (.ref r3), .val (.int (0 : Int32)), .val (.int (0 : Int32)), .val (.int f_), .val (.long l_), .second] [(.int (1 : Int32))])) _
    exact retN X6 hx (t := .boolean) Bd.returns (by simp) (hb hby at_172) hr
  · show own_QL n0 _ T6.heap _
    exact ⟨rfl, N6⟩
set_option maxRecDepth 65536 in
set_option maxHeartbeats 40000000 in
theorem own_law_Slg (l : Launch) (Z : State) (a0 : Array Value) (hw : ∀ d ∈ tables_1, d.before a0 Z = true) (ws : List Jvm.Cond) (p0_ : Int32) (p1_ : Int32) (p2_ : Int32) (m_ : Int32) (w_DEFAULT_BACKOFF : Addr) (o_ : Int32) (f_ : Int32) (l_ : Int64) (h0 : Heap) (n0 : Nat) (Z0 : n0 ≤ h0.size) (S_DEFAULT_BACKOFF : Sta Z h0 "com/example/mersey/mersey/JobTypeSettings" "DEFAULT_BACKOFF" "Lcom/example/mersey/mersey/Backoff;" (.ref w_DEFAULT_BACKOFF)) (hf0 : (p0_ &&& (1 : Int32)) = (0 : Int32)) (hf1 : (p1_ &&& (2147483647 : Int32)) = m_) (hf2 : m_ = (0 : Int32)) (hf3 : p2_ < (1 : Int32)) (hf4 : (((p0_.toUInt32 >>> ((1 : Int32) &&& 31).toUInt32).toInt32) % (5 : Int32)) = o_) (hf5 : (o_ - (2 : Int32)) = f_) (hf6 : (((1 : Int32).toInt64) + (f_.toInt64)) = l_) (hf7 : ¬ ((0 : Int32) < (lcmpW l_ (2147483647 : Int64)))) (hf8 : ¬ ((l_.toInt32) < (1 : Int32))) (hf9 : ¬ (f_ < (0 : Int32))) :
    MetFree l x (head1 (Jvm.Cond.code x code maxLocals ret :: ws) room_1) (fun a U => a = #[(.int p0_), (.int p1_), (.int p2_)] ∧ Z.Warmed39 U.vm ∧ U.heap = h0) (fun _ _ _ _ _ => True) (fun _ U o U' => ∃ v L, o = .returned v ∧ own_QL n0 v U'.heap L ∧ FrameEnd U o U' L room_1.cells room_1.slots) := by
  refine MetFree.of_bodySF (plainFor_of_name own_pn1) hisR ?_
  intro p e s m args below meth c s₁ Bd hml0 hP hK
  obtain ⟨rfl, hZ, hh⟩ := hP
  have hx := Bd.exec
  have hby := Bd.bytes
  have hml : c.maxLocals = 11 := hml0
  have hown : s.vm.findClass "com/example/mersey/mersey/JobTypeSettingsIsLastAttemptPinLaw" = some m.cls := findClass_of_methodNamed Bd.named
  have hnm := (name_of_methodNamed Bd.named Bd.method).1
  have X0 : Stand p l e room_1 s m #[(.int p0_), (.int p1_), (.int p2_)] below meth c s₁ [] 0 0 := Stand.of_body Bd
  have e0 : s₁.heap = h0 := by rw [← hh, Bd.state]; rfl
  have N0 := Fr.nil n0
  have pre0 : ∀ t, Steps p.tables e below (s₁.setTop (mkF m 0 #[.val (.int p0_), .val (.int p1_), .val (.int p2_), .unset, .unset, .unset, .unset, .unset, .unset, .unset, .unset] [])) t → Steps p.tables e below (s₁.setTop (entryFrame m #[(.int p0_), (.int p1_), (.int p2_)] maxLocals)) t := fun t k => castTop (own_ef2 m p0_ p1_ p2_) k
  obtain ⟨T1, h1, X1, e1, E1, A1, D1, -, st1⟩ := newO X0 hx hZ hown (hw _ (List.mem_of_getElem? (i := 1) rfl)) (hw _ (List.mem_of_getElem? (i := 2) rfl)) (hw _ (List.mem_of_getElem? (i := 3) rfl)) e0 (g := (mkF m 45 #[.val (.int p0_), .val (.int p1_), .val (.int p2_), .val (.int (0 : Int32)), .val (.int (1 : Int32)), .unset, .unset, .unset, .unset, .unset, .unset] [])) rfl (hb hby at_45) (by decide) (by decide)
  obtain ⟨b1, g1⟩ : ∃ z, z = h0.size := ⟨_, rfl⟩
  rw [← g1] at A1 D1 st1
  have lo_b1 : h0.size ≤ b1 := Nat.le_of_eq g1.symm
  have sz_b1 : h0.size ≤ b1 := Nat.le_trans (Keep.refl h0 []).1 lo_b1
  have g_b1 : n0 ≤ b1 := Nat.le_trans Z0 sz_b1
  have K1 : Keep h0 h1 [] := (Keep.refl h0 []).ext E1
  have F_maxAttempts_b1_1 : Fld Z h1 b1 "com/example/mersey/mersey/JobTypeSettings" "maxAttempts" "I" (.int (0 : Int32)) := D1 (Or.inl (hw _ (List.mem_of_getElem? (i := 11) rfl))) (ty := .int) (by decide)
  have F_backoff_b1_1 : Fld Z h1 b1 "com/example/mersey/mersey/JobTypeSettings" "backoff" "Lcom/example/mersey/mersey/Backoff;" .null := D1 (Or.inl (hw _ (List.mem_of_getElem? (i := 15) rfl))) (ty := (.object "com/example/mersey/mersey/Backoff")) (by decide)
  have F_longestRunTime_b1_1 : Fld Z h1 b1 "com/example/mersey/mersey/JobTypeSettings" "longestRunTime" "Ljava/time/Duration;" .null := D1 (Or.inl (hw _ (List.mem_of_getElem? (i := 26) rfl))) (ty := (.object "java/time/Duration")) (by decide)
  obtain ⟨_, _, ⟨T2, L2, k2, n2⟩, -, X2, ⟨Lc2, hQ2, l2, y2, z2⟩, st2⟩ := X1.specialBack hx (y := (⟨"com/example/mersey/mersey/JobTypeSettings", "<init>", "()V"⟩ : MethodName)) rfl hown (mvT hZ (hw _ (List.mem_of_getElem? (i := 4) rfl))) (mvT hZ (hw _ (List.mem_of_getElem? (i := 5) rfl))) (mvT hZ (hw _ (List.mem_of_getElem? (i := 6) rfl))) (by decide) (backOf (W := 1) (own_b1_x l Z a0 hw [] b1 (.int (0 : Int32)) w_DEFAULT_BACKOFF .null .null h1 n0 (Nat.le_trans Z0 (own_ext K1).1) A1 F_maxAttempts_b1_1 g_b1 (S_DEFAULT_BACKOFF.ext (own_ext K1)) F_backoff_b1_1 F_longestRunTime_b1_1) hZ (hw _ (List.mem_of_getElem? (i := 6) rfl)) (hw _ (List.mem_of_getElem? (i := 3) rfl)) (by decide) (by decide)) (g := (mkF m 49 #[.val (.int p0_), .val (.int p1_), .val (.int p2_), .val (.int (0 : Int32)), .val (.int (1 : Int32)), .unset, .unset, .unset, .unset, .unset, .unset] [(.ref b1), (.ref b1)])) rfl (by rw [hml]; rfl) (Steps.refl _) (a := b1) (argsL := []) (rest := [(.ref b1)]) (lenOf own_pd0 rfl) rfl (by show 2 * 0 + _ ≤ _; exact Nat.le_of_eq rfl) (hb hby at_49) (fun _ _ => ⟨rfl, e1, (by decide : 1 + 0 ≤ _), (by decide : 3 + 0 ≤ _)⟩)
  dsimp only [Pt.U, Pt.locs, Pt.cells, Pt.slots] at X2 l2 y2 z2 st2 hQ2
  subst l2 y2 z2
  obtain ⟨rfl, N2q, Kq2, Eq2, Fq2_maxAttempts, Fq2_backoff, Fq2_longestRunTime⟩ := hQ2
  have N2 := Fr.app N0 N2q
  have K2 : Keep h0 T2.heap [] := K1.trans Kq2 (fun x hx => by cases List.mem_singleton.mp hx; exact Or.inr sz_b1)
  obtain ⟨cq3, kq3, q3a, q3b, q3c⟩ := isOf hZ rfl Eq2
  obtain ⟨_, _, ⟨T3, L3, k3, n3⟩, -, X3, ⟨Lc3, hQ3, l3, y3, z3⟩, st3⟩ := X2.virtualBack hx (y := (⟨"com/example/mersey/mersey/JobTypeSettings", "withMaxAttempts", "(I)Lcom/example/mersey/mersey/JobTypeSettings;"⟩ : MethodName)) (z := (⟨"com/example/mersey/mersey/JobTypeSettings", "withMaxAttempts", "(I)Lcom/example/mersey/mersey/JobTypeSettings;"⟩ : MethodName)) hown (mvT hZ (hw _ (List.mem_of_getElem? (i := 16) rfl))) (mvT hZ (hw _ (List.mem_of_getElem? (i := 17) rfl))) (notFace_of_selects (args := #[]) (mvT hZ (hw _ (List.mem_of_getElem? (i := 19) rfl)))) (mvT hZ (hw _ (List.mem_of_getElem? (i := 19) rfl))) (mvT hZ (hw _ (List.mem_of_getElem? (i := 18) rfl))) (by decide) (backOf (W := 0) (own_b3_tN l Z a0 hw [] b1 (1 : Int32) w_DEFAULT_BACKOFF (5 : Int32) w_DEFAULT_BACKOFF T2.heap n0 (Nat.le_trans Z0 (own_ext K2).1) (S_DEFAULT_BACKOFF.ext (own_ext K2)) Fq2_longestRunTime Fq2_maxAttempts Fq2_backoff (by decide)) hZ (hw _ (List.mem_of_getElem? (i := 20) rfl)) (hw _ (List.mem_of_getElem? (i := 3) rfl)) (by decide) (by decide)) q3a q3c (g := (mkF m 54 #[.val (.int p0_), .val (.int p1_), .val (.int p2_), .val (.int (0 : Int32)), .val (.int (1 : Int32)), .unset, .unset, .unset, .unset, .unset, .unset] [(.int (1 : Int32)), (.ref b1)])) rfl (by rw [hml]; rfl) (Steps.refl _) (argsL := [(.int (1 : Int32))]) (rest := []) (lenOf own_pd3 rfl) rfl (by show 2 * 0 + _ ≤ _; exact Nat.le_of_eq rfl) (hb hby at_54) (fun _ _ => ⟨rfl, rfl, (by decide : 1 + 1 ≤ _), (by decide : 3 + 3 ≤ _)⟩)
  dsimp only [Pt.U, Pt.locs, Pt.cells, Pt.slots] at X3 l3 y3 z3 st3 hQ3
  subst l3 y3 z3
  obtain ⟨r3, rfl, N3q, Kq3, lo_r3, Eq3, Fq3_maxAttempts, Fq3_backoff, Fq3_longestRunTime⟩ := hQ3
  have N3 := Fr.app N2 N3q
  have ne_b1_r3 : b1 ≠ r3 := Nat.ne_of_lt (Nat.lt_of_lt_of_le Eq2.lt lo_r3)
  have sz_r3 : h0.size ≤ r3 := Nat.le_trans K2.1 lo_r3
  have g_r3 : n0 ≤ r3 := Nat.le_trans Z0 sz_r3
  have E_b1_3 := Eq2.ext (own_ext Kq3)
  have F_maxAttempts_b1_3 := Fq2_maxAttempts.ext (own_ext Kq3)
  have F_backoff_b1_3 := Fq2_backoff.ext (own_ext Kq3)
  have F_longestRunTime_b1_3 := Fq2_longestRunTime.ext (own_ext Kq3)
  have K3 : Keep h0 T3.heap [] := K2.trans Kq3 (fun x hx => by cases hx)
  obtain ⟨cq4, kq4, q4a, q4b, q4c⟩ := isOf hZ rfl Eq3
  obtain ⟨_, _, ⟨T4, L4, k4, n4⟩, -, X4, ⟨Lc4, hQ4, l4, y4, z4⟩, st4⟩ := X3.virtualBack hx (y := (⟨"com/example/mersey/mersey/JobTypeSettings", "isLastAttempt", "(I)Z"⟩ : MethodName)) (z := (⟨"com/example/mersey/mersey/JobTypeSettings", "isLastAttempt", "(I)Z"⟩ : MethodName)) hown (mvT hZ (hw _ (List.mem_of_getElem? (i := 27) rfl))) (mvT hZ (hw _ (List.mem_of_getElem? (i := 28) rfl))) (notFace_of_selects (args := #[]) (mvT hZ (hw _ (List.mem_of_getElem? (i := 30) rfl)))) (mvT hZ (hw _ (List.mem_of_getElem? (i := 30) rfl))) (mvT hZ (hw _ (List.mem_of_getElem? (i := 29) rfl))) (by decide) (backOf (W := 0) (own_b5_t l Z a0 hw [] r3 p2_ (1 : Int32) T3.heap n0 (Nat.le_trans Z0 (own_ext K3).1) Fq3_maxAttempts hf3) hZ (hw _ (List.mem_of_getElem? (i := 31) rfl)) (hw _ (List.mem_of_getElem? (i := 3) rfl)) (by decide) (by decide)) q4a q4c (g := (mkF m 62 #[.val (.int p0_), .val (.int p1_), .val (.int p2_), .val (.int (0 : Int32)), .val (.int (1 : Int32)), .val (.ref r3), .unset, .unset, .unset, .unset, .unset] [(.int p2_), (.ref r3)])) rfl (by rw [hml]; rfl) (Steps.refl _) (argsL := [(.int p2_)]) (rest := []) (lenOf own_pd1 rfl) rfl (by show 2 * 0 + _ ≤ _; exact Nat.le_of_eq rfl) (hb hby at_62) (fun _ _ => ⟨rfl, rfl, (by decide : 2 + 0 ≤ _), (by decide : 6 + 0 ≤ _)⟩)
  dsimp only [Pt.U, Pt.locs, Pt.cells, Pt.slots] at X4 l4 y4 z4 st4 hQ4
  subst l4 y4 z4
  obtain ⟨rfl, N4q, e4⟩ := hQ4
  have N4 := Fr.app N3 N4q
  obtain ⟨cq5, kq5, q5a, q5b, q5c⟩ := isOf hZ e4 Eq3
  obtain ⟨_, _, ⟨T5, L5, k5, n5⟩, -, X5, ⟨Lc5, hQ5, l5, y5, z5⟩, st5⟩ := X4.virtualBack hx (y := (⟨"com/example/mersey/mersey/JobTypeSettings", "isLastAttempt", "(I)Z"⟩ : MethodName)) (z := (⟨"com/example/mersey/mersey/JobTypeSettings", "isLastAttempt", "(I)Z"⟩ : MethodName)) hown (mvT hZ (hw _ (List.mem_of_getElem? (i := 27) rfl))) (mvT hZ (hw _ (List.mem_of_getElem? (i := 28) rfl))) (notFace_of_selects (args := #[]) (mvT hZ (hw _ (List.mem_of_getElem? (i := 30) rfl)))) (mvT hZ (hw _ (List.mem_of_getElem? (i := 30) rfl))) (mvT hZ (hw _ (List.mem_of_getElem? (i := 29) rfl))) (by decide) (backOf (W := 0) (own_b5_f l Z a0 hw [] r3 (1 : Int32) (1 : Int32) T3.heap n0 (Nat.le_trans Z0 (own_ext K3).1) Fq3_maxAttempts (by decide)) hZ (hw _ (List.mem_of_getElem? (i := 31) rfl)) (hw _ (List.mem_of_getElem? (i := 3) rfl)) (by decide) (by decide)) q5a q5c (g := (mkF m 93 #[.val (.int p0_), .val (.int p1_), .val (.int p2_), .val (.int (0 : Int32)), .val (.int (1 : Int32)), .val (.ref r3), .val (.int (0 : Int32)), .val (.int (0 : Int32)), .unset, .unset, .unset] [(.int (1 : Int32)), (.ref r3)])) rfl (by rw [hml]; rfl) (Steps.refl _) (argsL := [(.int (1 : Int32))]) (rest := []) (lenOf own_pd1 rfl) rfl (by show 2 * 0 + _ ≤ _; exact Nat.le_of_eq rfl) (hb hby at_93) (fun _ _ => ⟨rfl, e4, (by decide : 2 + 0 ≤ _), (by decide : 6 + 0 ≤ _)⟩)
  dsimp only [Pt.U, Pt.locs, Pt.cells, Pt.slots] at X5 l5 y5 z5 st5 hQ5
  subst l5 y5 z5
  obtain ⟨rfl, N5q, e5⟩ := hQ5
  have N5 := Fr.app N4 N5q
  obtain ⟨cq6, kq6, q6a, q6b, q6c⟩ := isOf hZ e5 Eq3
  obtain ⟨_, _, ⟨T6, L6, k6, n6⟩, -, X6, ⟨Lc6, hQ6, l6, y6, z6⟩, st6⟩ := X5.virtualBack hx (y := (⟨"com/example/mersey/mersey/JobTypeSettings", "isLastAttempt", "(I)Z"⟩ : MethodName)) (z := (⟨"com/example/mersey/mersey/JobTypeSettings", "isLastAttempt", "(I)Z"⟩ : MethodName)) hown (mvT hZ (hw _ (List.mem_of_getElem? (i := 27) rfl))) (mvT hZ (hw _ (List.mem_of_getElem? (i := 28) rfl))) (notFace_of_selects (args := #[]) (mvT hZ (hw _ (List.mem_of_getElem? (i := 30) rfl)))) (mvT hZ (hw _ (List.mem_of_getElem? (i := 30) rfl))) (mvT hZ (hw _ (List.mem_of_getElem? (i := 29) rfl))) (by decide) (backOf (W := 0) (own_b5_f l Z a0 hw [] r3 (l_.toInt32) (1 : Int32) T3.heap n0 (Nat.le_trans Z0 (own_ext K3).1) Fq3_maxAttempts hf8) hZ (hw _ (List.mem_of_getElem? (i := 31) rfl)) (hw _ (List.mem_of_getElem? (i := 3) rfl)) (by decide) (by decide)) q6a q6c (g := (mkF m 153 #[.val (.int p0_), .val (.int p1_), .val (.int p2_), .val (.int (0 : Int32)), .val (.int (1 : Int32)), .val (.ref r3), .val (.int (0 : Int32)), .val (.int (0 : Int32)), .val (.int f_), .val (.long l_), .second] [(.int (l_.toInt32)), (.ref r3)])) rfl (by rw [hml]; rfl) (Steps.refl _) (argsL := [(.int (l_.toInt32))]) (rest := []) (lenOf own_pd1 rfl) rfl (by show 2 * 0 + _ ≤ _; exact Nat.le_of_eq rfl) (hb hby at_153) (fun _ _ => ⟨rfl, e5, (by decide : 2 + 0 ≤ _), (by decide : 6 + 0 ≤ _)⟩)
  dsimp only [Pt.U, Pt.locs, Pt.cells, Pt.slots] at X6 l6 y6 z6 st6 hQ6
  subst l6 y6 z6
  obtain ⟨rfl, N6q, e6⟩ := hQ6
  have N6 := Fr.app N5 N6q
  obtain ⟨fs, hr, hrun, hended, hW, hsame⟩ := X6.leave (v := some (.int (1 : Int32))) (fun h => by rw [Bd.returns] at h; cases h)
  refine ⟨_, _, pre0 _ ?_, hrun, hended, _, _, rfl, ?_, ⟨_, rfl⟩, hW, hsame.mono (by decide) (by decide)⟩
  · show Steps p.tables e below (s₁.setTop (mkF m 0 #[.val (.int p0_), .val (.int p1_), .val (.int p2_), .unset, .unset, .unset, .unset, .unset, .unset, .unset, .unset] [])) _
    refine XS.iloadN X0.here hx rfl (hb hby at_0) rfl ?_
    refine XS.iconst X0.here hx rfl (hb hby at_1) ?_
    refine XS.iand X0.here hx rfl (hb hby at_2) rfl ?_
    show Steps p.tables e below (s₁.setTop (mkF m 3 #[.val (.int p0_), .val (.int p1_), .val (.int p2_), .unset, .unset, .unset, .unset, .unset, .unset, .unset, .unset] [(.int (p0_ &&& (1 : Int32)))])) _
    rw [hf0]
    refine XS.ifYes X0.here hx rfl (pc0 := 3) (pc' := 10) rfl (hb hby at_3) rfl ((if0 _ _).trans (teq (rfl : (0 : Int32) = (0 : Int32))).1) (by decide) (by decide) ?_
    refine XS.iconst X0.here hx rfl (hb hby at_10) ?_
    refine XS.istoreN X0.here hx rfl (hb hby at_11) rfl (l' := #[.val (.int p0_), .val (.int p1_), .val (.int p2_), .val (.int (0 : Int32)), .unset, .unset, .unset, .unset, .unset, .unset, .unset]) rfl ?_
    show Steps p.tables e below (s₁.setTop (mkF m 12 #[.val (.int p0_), .val (.int p1_), .val (.int p2_), .val (.int (0 : Int32)), .unset, .unset, .unset, .unset, .unset, .unset, .unset] [])) _
    refine XS.iloadN X0.here hx rfl (hb hby at_12) rfl ?_
    show Steps p.tables e below (s₁.setTop (mkF m 13 #[.val (.int p0_), .val (.int p1_), .val (.int p2_), .val (.int (0 : Int32)), .unset, .unset, .unset, .unset, .unset, .unset, .unset] [(.int p1_)])) _
    refine X0.ldcInt hx hown (mvT hZ (hw _ (List.mem_of_getElem? (i := 0) rfl))) (g := (mkF m 13 #[.val (.int p0_), .val (.int p1_), .val (.int p2_), .val (.int (0 : Int32)), .unset, .unset, .unset, .unset, .unset, .unset, .unset] [(.int p1_)])) rfl (hb hby at_13) _ ?_
    refine XS.iand X0.here hx rfl (hb hby at_15) rfl ?_
    show Steps p.tables e below (s₁.setTop (mkF m 16 #[.val (.int p0_), .val (.int p1_), .val (.int p2_), .val (.int (0 : Int32)), .unset, .unset, .unset, .unset, .unset, .unset, .unset] [(.int (p1_ &&& (2147483647 : Int32)))])) _
    rw [hf1]
    refine XS.istore X0.here hx rfl (hb hby at_16) rfl (l' := #[.val (.int p0_), .val (.int p1_), .val (.int p2_), .val (.int (0 : Int32)), .val (.int m_), .unset, .unset, .unset, .unset, .unset, .unset]) rfl ?_
    refine XS.iload X0.here hx rfl (hb hby at_18) rfl ?_
    refine XS.ifNo X0.here hx rfl (hb hby at_20) rfl ((if0 _ _).trans (teq hf2).2) ?_
    show Steps p.tables e below (s₁.setTop (mkF m 23 #[.val (.int p0_), .val (.int p1_), .val (.int p2_), .val (.int (0 : Int32)), .val (.int m_), .unset, .unset, .unset, .unset, .unset, .unset] [])) _
    refine XS.iconst X0.here hx rfl (hb hby at_23) ?_
    refine XS.istore X0.here hx rfl (hb hby at_24) rfl (l' := #[.val (.int p0_), .val (.int p1_), .val (.int p2_), .val (.int (0 : Int32)), .val (.int (1 : Int32)), .unset, .unset, .unset, .unset, .unset, .unset]) rfl ?_
    refine XS.iloadN X0.here hx rfl (hb hby at_26) rfl ?_
    refine XS.ifYes X0.here hx rfl (pc0 := 27) (pc' := 45) rfl (hb hby at_27) rfl ((if0 _ _).trans (teq (rfl : (0 : Int32) = (0 : Int32))).1) (by decide) (by decide) ?_
    show Steps p.tables e below (s₁.setTop (mkF m 45 #[.val (.int p0_), .val (.int p1_), .val (.int p2_), .val (.int (0 : Int32)), .val (.int (1 : Int32)), .unset, .unset, .unset, .unset, .unset, .unset] [])) _
    refine st1 _ ?_
    refine XS.dup X1.here hx rfl (hb hby at_48) rfl rfl ?_
    show Steps p.tables e below (T1.setTop (mkF m 49 #[.val (.int p0_), .val (.int p1_), .val (.int p2_), .val (.int (0 : Int32)), .val (.int (1 : Int32)), .unset, .unset, .unset, .unset, .unset, .unset] [(.ref b1), (.ref b1)])) _
    refine st2.trans ?_
    refine XS.iload X2.here hx rfl (hb hby at_52) rfl ?_
    show Steps p.tables e below (T2.setTop (mkF m 54 #[.val (.int p0_), .val (.int p1_), .val (.int p2_), .val (.int (0 : Int32)), .val (.int (1 : Int32)), .unset, .unset, .unset, .unset, .unset, .unset] [(.int (1 : Int32)), (.ref b1)])) _
    refine st3.trans ?_
    refine XS.astore X3.here hx rfl (hb hby at_57) rfl rfl (l' := #[.val (.int p0_), .val (.int p1_), .val (.int p2_), .val (.int (0 : Int32)), .val (.int (1 : Int32)), .val (.ref r3), .unset, .unset, .unset, .unset, .unset]) rfl ?_
    refine XS.aload X3.here hx rfl (hb hby at_59) rfl rfl ?_
    refine XS.iloadN X3.here hx rfl (hb hby at_61) rfl ?_
    show Steps p.tables e below (T3.setTop (mkF m 62 #[.val (.int p0_), .val (.int p1_), .val (.int p2_), .val (.int (0 : Int32)), .val (.int (1 : Int32)), .val (.ref r3), .unset, .unset, .unset, .unset, .unset] [(.int p2_), (.ref r3)])) _
    refine st4.trans ?_
    refine XS.istore X4.here hx rfl (hb hby at_65) rfl (l' := #[.val (.int p0_), .val (.int p1_), .val (.int p2_), .val (.int (0 : Int32)), .val (.int (1 : Int32)), .val (.ref r3), .val (.int (0 : Int32)), .unset, .unset, .unset, .unset]) rfl ?_
    refine XS.iloadN X4.here hx rfl (hb hby at_67) rfl ?_
    refine XS.iload X4.here hx rfl (hb hby at_68) rfl ?_
    show Steps p.tables e below (T4.setTop (mkF m 70 #[.val (.int p0_), .val (.int p1_), .val (.int p2_), .val (.int (0 : Int32)), .val (.int (1 : Int32)), .val (.ref r3), .val (.int (0 : Int32)), .unset, .unset, .unset, .unset] [(.int (1 : Int32)), (.int p2_)])) _
    refine XS.icmpYes X4.here hx rfl (pc0 := 70) (pc' := 77) rfl (hb hby at_70) rfl (tlt hf3).1 (by decide) (by decide) ?_
    refine XS.iconst X4.here hx rfl (hb hby at_77) ?_
    refine XS.istore X4.here hx rfl (hb hby at_78) rfl (l' := #[.val (.int p0_), .val (.int p1_), .val (.int p2_), .val (.int (0 : Int32)), .val (.int (1 : Int32)), .val (.ref r3), .val (.int (0 : Int32)), .val (.int (0 : Int32)), .unset, .unset, .unset]) rfl ?_
    refine XS.iload X4.here hx rfl (hb hby at_80) rfl ?_
    show Steps p.tables e below (T4.setTop (mkF m 82 #[.val (.int p0_), .val (.int p1_), .val (.int p2_), .val (.int (0 : Int32)), .val (.int (1 : Int32)), .val (.ref r3), .val (.int (0 : Int32)), .val (.int (0 : Int32)), .unset, .unset, .unset] [(.int (0 : Int32))])) _
    refine XS.iload X4.here hx rfl (hb hby at_82) rfl ?_
    refine XS.icmpYes X4.here hx rfl (pc0 := 84) (pc' := 89) rfl (hb hby at_84) rfl (teq (rfl : (0 : Int32) = (0 : Int32))).1 (by decide) (by decide) ?_
    refine XS.aload X4.here hx rfl (hb hby at_89) rfl rfl ?_
    refine XS.iload X4.here hx rfl (hb hby at_91) rfl ?_
    show Steps p.tables e below (T4.setTop (mkF m 93 #[.val (.int p0_), .val (.int p1_), .val (.int p2_), .val (.int (0 : Int32)), .val (.int (1 : Int32)), .val (.ref r3), .val (.int (0 : Int32)), .val (.int (0 : Int32)), .unset, .unset, .unset] [(.int (1 : Int32)), (.ref r3)])) _
    refine st5.trans ?_
    refine XS.ifYes X5.here hx rfl (pc0 := 96) (pc' := 101) rfl (hb hby at_96) rfl ((if0 _ _).trans (feq (by decide : ¬ ((1 : Int32) = (0 : Int32)))).2) (by decide) (by decide) ?_
    refine XS.iload X5.here hx rfl (hb hby at_101) rfl ?_
    refine XS.iconst X5.here hx rfl (hb hby at_103) ?_
    show Steps p.tables e below (T5.setTop (mkF m 104 #[.val (.int p0_), .val (.int p1_), .val (.int p2_), .val (.int (0 : Int32)), .val (.int (1 : Int32)), .val (.ref r3), .val (.int (0 : Int32)), .val (.int (0 : Int32)), .unset, .unset, .unset] [(.int (1 : Int32)), (.int (1 : Int32))])) _
    refine XS.icmpYes X5.here hx rfl (pc0 := 104) (pc' := 121) rfl (hb hby at_104) rfl (flt (by decide : ¬ ((1 : Int32) < (1 : Int32)))).2.2.2 (by decide) (by decide) ?_
    refine XS.iloadN X5.here hx rfl (hb hby at_121) rfl ?_
    refine XS.iconst X5.here hx rfl (hb hby at_122) ?_
    refine XS.iushr X5.here hx rfl (hb hby at_123) rfl ?_
    show Steps p.tables e below (T5.setTop (mkF m 124 #[.val (.int p0_), .val (.int p1_), .val (.int p2_), .val (.int (0 : Int32)), .val (.int (1 : Int32)), .val (.ref r3), .val (.int (0 : Int32)), .val (.int (0 : Int32)), .unset, .unset, .unset] [(.int ((p0_.toUInt32 >>> ((1 : Int32) &&& 31).toUInt32).toInt32))])) _
    refine XS.iconst X5.here hx rfl (hb hby at_124) ?_
    show Steps p.tables e below (T5.setTop (mkF m 125 #[.val (.int p0_), .val (.int p1_), .val (.int p2_), .val (.int (0 : Int32)), .val (.int (1 : Int32)), .val (.ref r3), .val (.int (0 : Int32)), .val (.int (0 : Int32)), .unset, .unset, .unset] [(.int (5 : Int32)), (.int ((p0_.toUInt32 >>> ((1 : Int32) &&& 31).toUInt32).toInt32))])) _
    refine iremM X5 hx rfl (hb hby at_125) rfl (by decide) ?_
    show Steps p.tables e below (T5.setTop (mkF m 126 #[.val (.int p0_), .val (.int p1_), .val (.int p2_), .val (.int (0 : Int32)), .val (.int (1 : Int32)), .val (.ref r3), .val (.int (0 : Int32)), .val (.int (0 : Int32)), .unset, .unset, .unset] [(.int (((p0_.toUInt32 >>> ((1 : Int32) &&& 31).toUInt32).toInt32) % (5 : Int32)))])) _
    rw [hf4]
    refine XS.iconst X5.here hx rfl (hb hby at_126) ?_
    refine XS.isub X5.here hx rfl (hb hby at_127) rfl ?_
    show Steps p.tables e below (T5.setTop (mkF m 128 #[.val (.int p0_), .val (.int p1_), .val (.int p2_), .val (.int (0 : Int32)), .val (.int (1 : Int32)), .val (.ref r3), .val (.int (0 : Int32)), .val (.int (0 : Int32)), .unset, .unset, .unset] [(.int (o_ - (2 : Int32)))])) _
    rw [hf5]
    refine XS.istore X5.here hx rfl (hb hby at_128) rfl (l' := #[.val (.int p0_), .val (.int p1_), .val (.int p2_), .val (.int (0 : Int32)), .val (.int (1 : Int32)), .val (.ref r3), .val (.int (0 : Int32)), .val (.int (0 : Int32)), .val (.int f_), .unset, .unset]) rfl ?_
    refine XS.iload X5.here hx rfl (hb hby at_130) rfl ?_
    refine XS.i2l X5.here hx rfl (hb hby at_132) rfl ?_
    show Steps p.tables e below (T5.setTop (mkF m 133 #[.val (.int p0_), .val (.int p1_), .val (.int p2_), .val (.int (0 : Int32)), .val (.int (1 : Int32)), .val (.ref r3), .val (.int (0 : Int32)), .val (.int (0 : Int32)), .val (.int f_), .unset, .unset] [(.long ((1 : Int32).toInt64))])) _
    refine XS.iload X5.here hx rfl (hb hby at_133) rfl ?_
    refine XS.i2l X5.here hx rfl (hb hby at_135) rfl ?_
    refine XS.ladd X5.here hx rfl (hb hby at_136) rfl ?_
    show Steps p.tables e below (T5.setTop (mkF m 137 #[.val (.int p0_), .val (.int p1_), .val (.int p2_), .val (.int (0 : Int32)), .val (.int (1 : Int32)), .val (.ref r3), .val (.int (0 : Int32)), .val (.int (0 : Int32)), .val (.int f_), .unset, .unset] [(.long (((1 : Int32).toInt64) + (f_.toInt64)))])) _
    rw [hf6]
    refine XS.lstore X5.here hx rfl (hb hby at_137) rfl (l' := #[.val (.int p0_), .val (.int p1_), .val (.int p2_), .val (.int (0 : Int32)), .val (.int (1 : Int32)), .val (.ref r3), .val (.int (0 : Int32)), .val (.int (0 : Int32)), .val (.int f_), .val (.long l_), .second]) rfl ?_
    refine XS.lload X5.here hx rfl (hb hby at_139) rfl ?_
    show Steps p.tables e below (T5.setTop (mkF m 141 #[.val (.int p0_), .val (.int p1_), .val (.int p2_), .val (.int (0 : Int32)), .val (.int (1 : Int32)), .val (.ref r3), .val (.int (0 : Int32)), .val (.int (0 : Int32)), .val (.int f_), .val (.long l_), .second] [(.long l_)])) _
    refine X5.ldc2Long hx hown (mvT hZ (hw _ (List.mem_of_getElem? (i := 32) rfl))) (g := (mkF m 141 #[.val (.int p0_), .val (.int p1_), .val (.int p2_), .val (.int (0 : Int32)), .val (.int (1 : Int32)), .val (.ref r3), .val (.int (0 : Int32)), .val (.int (0 : Int32)), .val (.int f_), .val (.long l_), .second] [(.long l_)])) rfl (hb hby at_141) _ ?_
    refine XS.lcmp X5.here hx rfl (hb hby at_144) rfl ?_
    refine XS.ifNo X5.here hx rfl (hb hby at_145) rfl ((if0 _ _).trans (flt hf7).2.2.1) ?_
    refine XS.aload X5.here hx rfl (hb hby at_148) rfl rfl ?_
    show Steps p.tables e below (T5.setTop (mkF m 150 #[.val (.int p0_), .val (.int p1_), .val (.int p2_), .val (.int (0 : Int32)), .val (.int (1 : Int32)), .val (.ref r3), .val (.int (0 : Int32)), .val (.int (0 : Int32)), .val (.int f_), .val (.long l_), .second] [(.ref r3)])) _
    refine XS.lload X5.here hx rfl (hb hby at_150) rfl ?_
    refine XS.l2i X5.here hx rfl (hb hby at_152) rfl ?_
    show Steps p.tables e below (T5.setTop (mkF m 153 #[.val (.int p0_), .val (.int p1_), .val (.int p2_), .val (.int (0 : Int32)), .val (.int (1 : Int32)), .val (.ref r3), .val (.int (0 : Int32)), .val (.int (0 : Int32)), .val (.int f_), .val (.long l_), .second] [(.int (l_.toInt32)), (.ref r3)])) _
    refine st6.trans ?_
    refine XS.iload X6.here hx rfl (hb hby at_156) rfl ?_
    refine XS.ifNo X6.here hx rfl (hb hby at_158) rfl ((if0 _ _).trans (flt hf9).1) ?_
    refine XS.iconst X6.here hx rfl (hb hby at_161) ?_
    show Steps p.tables e below (T6.setTop (mkF m 162 #[.val (.int p0_), .val (.int p1_), .val (.int p2_), .val (.int (0 : Int32)), .val (.int (1 : Int32)), .val (.ref r3), .val (.int (0 : Int32)), .val (.int (0 : Int32)), .val (.int f_), .val (.long l_), .second] [(.int (1 : Int32)), (.int (1 : Int32))])) _
    refine XS.goto X6.here hx rfl (pc0 := 162) (pc' := 166) rfl (hb hby at_162) (by decide) (by decide) ?_
    refine XS.icmpYes X6.here hx rfl (pc0 := 166) (pc' := 171) rfl (hb hby at_166) rfl (teq (rfl : (1 : Int32) = (1 : Int32))).1 (by decide) (by decide) ?_
    refine XS.iconst X6.here hx rfl (hb hby at_171) ?_
    show Steps p.tables e below (T6.setTop (mkF m 172 #[.val (.int p0_), .val (.int p1_), .val (.int p2_), .val (.int (0 : Int32)), .val (.int (1 : Int32)), .val (.ref r3), .val (.int (0 : Int32)), .val (.int (0 : Int32)), .val (.int f_), .val (.long l_), .second] [(.int (1 : Int32))])) _
    exact retN X6 hx (t := .boolean) Bd.returns (by simp) (hb hby at_172) hr
  · show own_QL n0 _ T6.heap _
    exact ⟨rfl, N6⟩
set_option maxRecDepth 65536 in
set_option maxHeartbeats 40000000 in
theorem own_law_Sgl (l : Launch) (Z : State) (a0 : Array Value) (hw : ∀ d ∈ tables_1, d.before a0 Z = true) (ws : List Jvm.Cond) (p0_ : Int32) (p1_ : Int32) (p2_ : Int32) (m_ : Int32) (w_DEFAULT_BACKOFF : Addr) (o_ : Int32) (f_ : Int32) (l_ : Int64) (h0 : Heap) (n0 : Nat) (Z0 : n0 ≤ h0.size) (S_DEFAULT_BACKOFF : Sta Z h0 "com/example/mersey/mersey/JobTypeSettings" "DEFAULT_BACKOFF" "Lcom/example/mersey/mersey/Backoff;" (.ref w_DEFAULT_BACKOFF)) (hf0 : (p0_ &&& (1 : Int32)) = (0 : Int32)) (hf1 : (p1_ &&& (2147483647 : Int32)) = m_) (hf2 : m_ = (0 : Int32)) (hf3 : ¬ (p2_ < (1 : Int32))) (hf4 : (((p0_.toUInt32 >>> ((1 : Int32) &&& 31).toUInt32).toInt32) % (5 : Int32)) = o_) (hf5 : (o_ - (2 : Int32)) = f_) (hf6 : (((1 : Int32).toInt64) + (f_.toInt64)) = l_) (hf7 : ¬ ((0 : Int32) < (lcmpW l_ (2147483647 : Int64)))) (hf8 : (l_.toInt32) < (1 : Int32)) (hf9 : f_ < (0 : Int32)) :
    MetFree l x (head1 (Jvm.Cond.code x code maxLocals ret :: ws) room_1) (fun a U => a = #[(.int p0_), (.int p1_), (.int p2_)] ∧ Z.Warmed39 U.vm ∧ U.heap = h0) (fun _ _ _ _ _ => True) (fun _ U o U' => ∃ v L, o = .returned v ∧ own_QL n0 v U'.heap L ∧ FrameEnd U o U' L room_1.cells room_1.slots) := by
  refine MetFree.of_bodySF (plainFor_of_name own_pn1) hisR ?_
  intro p e s m args below meth c s₁ Bd hml0 hP hK
  obtain ⟨rfl, hZ, hh⟩ := hP
  have hx := Bd.exec
  have hby := Bd.bytes
  have hml : c.maxLocals = 11 := hml0
  have hown : s.vm.findClass "com/example/mersey/mersey/JobTypeSettingsIsLastAttemptPinLaw" = some m.cls := findClass_of_methodNamed Bd.named
  have hnm := (name_of_methodNamed Bd.named Bd.method).1
  have X0 : Stand p l e room_1 s m #[(.int p0_), (.int p1_), (.int p2_)] below meth c s₁ [] 0 0 := Stand.of_body Bd
  have e0 : s₁.heap = h0 := by rw [← hh, Bd.state]; rfl
  have N0 := Fr.nil n0
  have pre0 : ∀ t, Steps p.tables e below (s₁.setTop (mkF m 0 #[.val (.int p0_), .val (.int p1_), .val (.int p2_), .unset, .unset, .unset, .unset, .unset, .unset, .unset, .unset] [])) t → Steps p.tables e below (s₁.setTop (entryFrame m #[(.int p0_), (.int p1_), (.int p2_)] maxLocals)) t := fun t k => castTop (own_ef2 m p0_ p1_ p2_) k
  obtain ⟨T1, h1, X1, e1, E1, A1, D1, -, st1⟩ := newO X0 hx hZ hown (hw _ (List.mem_of_getElem? (i := 1) rfl)) (hw _ (List.mem_of_getElem? (i := 2) rfl)) (hw _ (List.mem_of_getElem? (i := 3) rfl)) e0 (g := (mkF m 45 #[.val (.int p0_), .val (.int p1_), .val (.int p2_), .val (.int (0 : Int32)), .val (.int (1 : Int32)), .unset, .unset, .unset, .unset, .unset, .unset] [])) rfl (hb hby at_45) (by decide) (by decide)
  obtain ⟨b1, g1⟩ : ∃ z, z = h0.size := ⟨_, rfl⟩
  rw [← g1] at A1 D1 st1
  have lo_b1 : h0.size ≤ b1 := Nat.le_of_eq g1.symm
  have sz_b1 : h0.size ≤ b1 := Nat.le_trans (Keep.refl h0 []).1 lo_b1
  have g_b1 : n0 ≤ b1 := Nat.le_trans Z0 sz_b1
  have K1 : Keep h0 h1 [] := (Keep.refl h0 []).ext E1
  have F_maxAttempts_b1_1 : Fld Z h1 b1 "com/example/mersey/mersey/JobTypeSettings" "maxAttempts" "I" (.int (0 : Int32)) := D1 (Or.inl (hw _ (List.mem_of_getElem? (i := 11) rfl))) (ty := .int) (by decide)
  have F_backoff_b1_1 : Fld Z h1 b1 "com/example/mersey/mersey/JobTypeSettings" "backoff" "Lcom/example/mersey/mersey/Backoff;" .null := D1 (Or.inl (hw _ (List.mem_of_getElem? (i := 15) rfl))) (ty := (.object "com/example/mersey/mersey/Backoff")) (by decide)
  have F_longestRunTime_b1_1 : Fld Z h1 b1 "com/example/mersey/mersey/JobTypeSettings" "longestRunTime" "Ljava/time/Duration;" .null := D1 (Or.inl (hw _ (List.mem_of_getElem? (i := 26) rfl))) (ty := (.object "java/time/Duration")) (by decide)
  obtain ⟨_, _, ⟨T2, L2, k2, n2⟩, -, X2, ⟨Lc2, hQ2, l2, y2, z2⟩, st2⟩ := X1.specialBack hx (y := (⟨"com/example/mersey/mersey/JobTypeSettings", "<init>", "()V"⟩ : MethodName)) rfl hown (mvT hZ (hw _ (List.mem_of_getElem? (i := 4) rfl))) (mvT hZ (hw _ (List.mem_of_getElem? (i := 5) rfl))) (mvT hZ (hw _ (List.mem_of_getElem? (i := 6) rfl))) (by decide) (backOf (W := 1) (own_b1_x l Z a0 hw [] b1 (.int (0 : Int32)) w_DEFAULT_BACKOFF .null .null h1 n0 (Nat.le_trans Z0 (own_ext K1).1) A1 F_maxAttempts_b1_1 g_b1 (S_DEFAULT_BACKOFF.ext (own_ext K1)) F_backoff_b1_1 F_longestRunTime_b1_1) hZ (hw _ (List.mem_of_getElem? (i := 6) rfl)) (hw _ (List.mem_of_getElem? (i := 3) rfl)) (by decide) (by decide)) (g := (mkF m 49 #[.val (.int p0_), .val (.int p1_), .val (.int p2_), .val (.int (0 : Int32)), .val (.int (1 : Int32)), .unset, .unset, .unset, .unset, .unset, .unset] [(.ref b1), (.ref b1)])) rfl (by rw [hml]; rfl) (Steps.refl _) (a := b1) (argsL := []) (rest := [(.ref b1)]) (lenOf own_pd0 rfl) rfl (by show 2 * 0 + _ ≤ _; exact Nat.le_of_eq rfl) (hb hby at_49) (fun _ _ => ⟨rfl, e1, (by decide : 1 + 0 ≤ _), (by decide : 3 + 0 ≤ _)⟩)
  dsimp only [Pt.U, Pt.locs, Pt.cells, Pt.slots] at X2 l2 y2 z2 st2 hQ2
  subst l2 y2 z2
  obtain ⟨rfl, N2q, Kq2, Eq2, Fq2_maxAttempts, Fq2_backoff, Fq2_longestRunTime⟩ := hQ2
  have N2 := Fr.app N0 N2q
  have K2 : Keep h0 T2.heap [] := K1.trans Kq2 (fun x hx => by cases List.mem_singleton.mp hx; exact Or.inr sz_b1)
  obtain ⟨cq3, kq3, q3a, q3b, q3c⟩ := isOf hZ rfl Eq2
  obtain ⟨_, _, ⟨T3, L3, k3, n3⟩, -, X3, ⟨Lc3, hQ3, l3, y3, z3⟩, st3⟩ := X2.virtualBack hx (y := (⟨"com/example/mersey/mersey/JobTypeSettings", "withMaxAttempts", "(I)Lcom/example/mersey/mersey/JobTypeSettings;"⟩ : MethodName)) (z := (⟨"com/example/mersey/mersey/JobTypeSettings", "withMaxAttempts", "(I)Lcom/example/mersey/mersey/JobTypeSettings;"⟩ : MethodName)) hown (mvT hZ (hw _ (List.mem_of_getElem? (i := 16) rfl))) (mvT hZ (hw _ (List.mem_of_getElem? (i := 17) rfl))) (notFace_of_selects (args := #[]) (mvT hZ (hw _ (List.mem_of_getElem? (i := 19) rfl)))) (mvT hZ (hw _ (List.mem_of_getElem? (i := 19) rfl))) (mvT hZ (hw _ (List.mem_of_getElem? (i := 18) rfl))) (by decide) (backOf (W := 0) (own_b3_tN l Z a0 hw [] b1 (1 : Int32) w_DEFAULT_BACKOFF (5 : Int32) w_DEFAULT_BACKOFF T2.heap n0 (Nat.le_trans Z0 (own_ext K2).1) (S_DEFAULT_BACKOFF.ext (own_ext K2)) Fq2_longestRunTime Fq2_maxAttempts Fq2_backoff (by decide)) hZ (hw _ (List.mem_of_getElem? (i := 20) rfl)) (hw _ (List.mem_of_getElem? (i := 3) rfl)) (by decide) (by decide)) q3a q3c (g := (mkF m 54 #[.val (.int p0_), .val (.int p1_), .val (.int p2_), .val (.int (0 : Int32)), .val (.int (1 : Int32)), .unset, .unset, .unset, .unset, .unset, .unset] [(.int (1 : Int32)), (.ref b1)])) rfl (by rw [hml]; rfl) (Steps.refl _) (argsL := [(.int (1 : Int32))]) (rest := []) (lenOf own_pd3 rfl) rfl (by show 2 * 0 + _ ≤ _; exact Nat.le_of_eq rfl) (hb hby at_54) (fun _ _ => ⟨rfl, rfl, (by decide : 1 + 1 ≤ _), (by decide : 3 + 3 ≤ _)⟩)
  dsimp only [Pt.U, Pt.locs, Pt.cells, Pt.slots] at X3 l3 y3 z3 st3 hQ3
  subst l3 y3 z3
  obtain ⟨r3, rfl, N3q, Kq3, lo_r3, Eq3, Fq3_maxAttempts, Fq3_backoff, Fq3_longestRunTime⟩ := hQ3
  have N3 := Fr.app N2 N3q
  have ne_b1_r3 : b1 ≠ r3 := Nat.ne_of_lt (Nat.lt_of_lt_of_le Eq2.lt lo_r3)
  have sz_r3 : h0.size ≤ r3 := Nat.le_trans K2.1 lo_r3
  have g_r3 : n0 ≤ r3 := Nat.le_trans Z0 sz_r3
  have E_b1_3 := Eq2.ext (own_ext Kq3)
  have F_maxAttempts_b1_3 := Fq2_maxAttempts.ext (own_ext Kq3)
  have F_backoff_b1_3 := Fq2_backoff.ext (own_ext Kq3)
  have F_longestRunTime_b1_3 := Fq2_longestRunTime.ext (own_ext Kq3)
  have K3 : Keep h0 T3.heap [] := K2.trans Kq3 (fun x hx => by cases hx)
  obtain ⟨cq4, kq4, q4a, q4b, q4c⟩ := isOf hZ rfl Eq3
  obtain ⟨_, _, ⟨T4, L4, k4, n4⟩, -, X4, ⟨Lc4, hQ4, l4, y4, z4⟩, st4⟩ := X3.virtualBack hx (y := (⟨"com/example/mersey/mersey/JobTypeSettings", "isLastAttempt", "(I)Z"⟩ : MethodName)) (z := (⟨"com/example/mersey/mersey/JobTypeSettings", "isLastAttempt", "(I)Z"⟩ : MethodName)) hown (mvT hZ (hw _ (List.mem_of_getElem? (i := 27) rfl))) (mvT hZ (hw _ (List.mem_of_getElem? (i := 28) rfl))) (notFace_of_selects (args := #[]) (mvT hZ (hw _ (List.mem_of_getElem? (i := 30) rfl)))) (mvT hZ (hw _ (List.mem_of_getElem? (i := 30) rfl))) (mvT hZ (hw _ (List.mem_of_getElem? (i := 29) rfl))) (by decide) (backOf (W := 0) (own_b5_f l Z a0 hw [] r3 p2_ (1 : Int32) T3.heap n0 (Nat.le_trans Z0 (own_ext K3).1) Fq3_maxAttempts hf3) hZ (hw _ (List.mem_of_getElem? (i := 31) rfl)) (hw _ (List.mem_of_getElem? (i := 3) rfl)) (by decide) (by decide)) q4a q4c (g := (mkF m 62 #[.val (.int p0_), .val (.int p1_), .val (.int p2_), .val (.int (0 : Int32)), .val (.int (1 : Int32)), .val (.ref r3), .unset, .unset, .unset, .unset, .unset] [(.int p2_), (.ref r3)])) rfl (by rw [hml]; rfl) (Steps.refl _) (argsL := [(.int p2_)]) (rest := []) (lenOf own_pd1 rfl) rfl (by show 2 * 0 + _ ≤ _; exact Nat.le_of_eq rfl) (hb hby at_62) (fun _ _ => ⟨rfl, rfl, (by decide : 2 + 0 ≤ _), (by decide : 6 + 0 ≤ _)⟩)
  dsimp only [Pt.U, Pt.locs, Pt.cells, Pt.slots] at X4 l4 y4 z4 st4 hQ4
  subst l4 y4 z4
  obtain ⟨rfl, N4q, e4⟩ := hQ4
  have N4 := Fr.app N3 N4q
  obtain ⟨cq5, kq5, q5a, q5b, q5c⟩ := isOf hZ e4 Eq3
  obtain ⟨_, _, ⟨T5, L5, k5, n5⟩, -, X5, ⟨Lc5, hQ5, l5, y5, z5⟩, st5⟩ := X4.virtualBack hx (y := (⟨"com/example/mersey/mersey/JobTypeSettings", "isLastAttempt", "(I)Z"⟩ : MethodName)) (z := (⟨"com/example/mersey/mersey/JobTypeSettings", "isLastAttempt", "(I)Z"⟩ : MethodName)) hown (mvT hZ (hw _ (List.mem_of_getElem? (i := 27) rfl))) (mvT hZ (hw _ (List.mem_of_getElem? (i := 28) rfl))) (notFace_of_selects (args := #[]) (mvT hZ (hw _ (List.mem_of_getElem? (i := 30) rfl)))) (mvT hZ (hw _ (List.mem_of_getElem? (i := 30) rfl))) (mvT hZ (hw _ (List.mem_of_getElem? (i := 29) rfl))) (by decide) (backOf (W := 0) (own_b5_f l Z a0 hw [] r3 (1 : Int32) (1 : Int32) T3.heap n0 (Nat.le_trans Z0 (own_ext K3).1) Fq3_maxAttempts (by decide)) hZ (hw _ (List.mem_of_getElem? (i := 31) rfl)) (hw _ (List.mem_of_getElem? (i := 3) rfl)) (by decide) (by decide)) q5a q5c (g := (mkF m 93 #[.val (.int p0_), .val (.int p1_), .val (.int p2_), .val (.int (0 : Int32)), .val (.int (1 : Int32)), .val (.ref r3), .val (.int (1 : Int32)), .val (.int (1 : Int32)), .unset, .unset, .unset] [(.int (1 : Int32)), (.ref r3)])) rfl (by rw [hml]; rfl) (Steps.refl _) (argsL := [(.int (1 : Int32))]) (rest := []) (lenOf own_pd1 rfl) rfl (by show 2 * 0 + _ ≤ _; exact Nat.le_of_eq rfl) (hb hby at_93) (fun _ _ => ⟨rfl, e4, (by decide : 2 + 0 ≤ _), (by decide : 6 + 0 ≤ _)⟩)
  dsimp only [Pt.U, Pt.locs, Pt.cells, Pt.slots] at X5 l5 y5 z5 st5 hQ5
  subst l5 y5 z5
  obtain ⟨rfl, N5q, e5⟩ := hQ5
  have N5 := Fr.app N4 N5q
  obtain ⟨cq6, kq6, q6a, q6b, q6c⟩ := isOf hZ e5 Eq3
  obtain ⟨_, _, ⟨T6, L6, k6, n6⟩, -, X6, ⟨Lc6, hQ6, l6, y6, z6⟩, st6⟩ := X5.virtualBack hx (y := (⟨"com/example/mersey/mersey/JobTypeSettings", "isLastAttempt", "(I)Z"⟩ : MethodName)) (z := (⟨"com/example/mersey/mersey/JobTypeSettings", "isLastAttempt", "(I)Z"⟩ : MethodName)) hown (mvT hZ (hw _ (List.mem_of_getElem? (i := 27) rfl))) (mvT hZ (hw _ (List.mem_of_getElem? (i := 28) rfl))) (notFace_of_selects (args := #[]) (mvT hZ (hw _ (List.mem_of_getElem? (i := 30) rfl)))) (mvT hZ (hw _ (List.mem_of_getElem? (i := 30) rfl))) (mvT hZ (hw _ (List.mem_of_getElem? (i := 29) rfl))) (by decide) (backOf (W := 0) (own_b5_t l Z a0 hw [] r3 (l_.toInt32) (1 : Int32) T3.heap n0 (Nat.le_trans Z0 (own_ext K3).1) Fq3_maxAttempts hf8) hZ (hw _ (List.mem_of_getElem? (i := 31) rfl)) (hw _ (List.mem_of_getElem? (i := 3) rfl)) (by decide) (by decide)) q6a q6c (g := (mkF m 153 #[.val (.int p0_), .val (.int p1_), .val (.int p2_), .val (.int (0 : Int32)), .val (.int (1 : Int32)), .val (.ref r3), .val (.int (1 : Int32)), .val (.int (1 : Int32)), .val (.int f_), .val (.long l_), .second] [(.int (l_.toInt32)), (.ref r3)])) rfl (by rw [hml]; rfl) (Steps.refl _) (argsL := [(.int (l_.toInt32))]) (rest := []) (lenOf own_pd1 rfl) rfl (by show 2 * 0 + _ ≤ _; exact Nat.le_of_eq rfl) (hb hby at_153) (fun _ _ => ⟨rfl, e5, (by decide : 2 + 0 ≤ _), (by decide : 6 + 0 ≤ _)⟩)
  dsimp only [Pt.U, Pt.locs, Pt.cells, Pt.slots] at X6 l6 y6 z6 st6 hQ6
  subst l6 y6 z6
  obtain ⟨rfl, N6q, e6⟩ := hQ6
  have N6 := Fr.app N5 N6q
  obtain ⟨fs, hr, hrun, hended, hW, hsame⟩ := X6.leave (v := some (.int (1 : Int32))) (fun h => by rw [Bd.returns] at h; cases h)
  refine ⟨_, _, pre0 _ ?_, hrun, hended, _, _, rfl, ?_, ⟨_, rfl⟩, hW, hsame.mono (by decide) (by decide)⟩
  · show Steps p.tables e below (s₁.setTop (mkF m 0 #[.val (.int p0_), .val (.int p1_), .val (.int p2_), .unset, .unset, .unset, .unset, .unset, .unset, .unset, .unset] [])) _
    refine XS.iloadN X0.here hx rfl (hb hby at_0) rfl ?_
    refine XS.iconst X0.here hx rfl (hb hby at_1) ?_
    refine XS.iand X0.here hx rfl (hb hby at_2) rfl ?_
    show Steps p.tables e below (s₁.setTop (mkF m 3 #[.val (.int p0_), .val (.int p1_), .val (.int p2_), .unset, .unset, .unset, .unset, .unset, .unset, .unset, .unset] [(.int (p0_ &&& (1 : Int32)))])) _
    rw [hf0]
    refine XS.ifYes X0.here hx rfl (pc0 := 3) (pc' := 10) rfl (hb hby at_3) rfl ((if0 _ _).trans (teq (rfl : (0 : Int32) = (0 : Int32))).1) (by decide) (by decide) ?_
    refine XS.iconst X0.here hx rfl (hb hby at_10) ?_
    refine XS.istoreN X0.here hx rfl (hb hby at_11) rfl (l' := #[.val (.int p0_), .val (.int p1_), .val (.int p2_), .val (.int (0 : Int32)), .unset, .unset, .unset, .unset, .unset, .unset, .unset]) rfl ?_
    show Steps p.tables e below (s₁.setTop (mkF m 12 #[.val (.int p0_), .val (.int p1_), .val (.int p2_), .val (.int (0 : Int32)), .unset, .unset, .unset, .unset, .unset, .unset, .unset] [])) _
    refine XS.iloadN X0.here hx rfl (hb hby at_12) rfl ?_
    show Steps p.tables e below (s₁.setTop (mkF m 13 #[.val (.int p0_), .val (.int p1_), .val (.int p2_), .val (.int (0 : Int32)), .unset, .unset, .unset, .unset, .unset, .unset, .unset] [(.int p1_)])) _
    refine X0.ldcInt hx hown (mvT hZ (hw _ (List.mem_of_getElem? (i := 0) rfl))) (g := (mkF m 13 #[.val (.int p0_), .val (.int p1_), .val (.int p2_), .val (.int (0 : Int32)), .unset, .unset, .unset, .unset, .unset, .unset, .unset] [(.int p1_)])) rfl (hb hby at_13) _ ?_
    refine XS.iand X0.here hx rfl (hb hby at_15) rfl ?_
    show Steps p.tables e below (s₁.setTop (mkF m 16 #[.val (.int p0_), .val (.int p1_), .val (.int p2_), .val (.int (0 : Int32)), .unset, .unset, .unset, .unset, .unset, .unset, .unset] [(.int (p1_ &&& (2147483647 : Int32)))])) _
    rw [hf1]
    refine XS.istore X0.here hx rfl (hb hby at_16) rfl (l' := #[.val (.int p0_), .val (.int p1_), .val (.int p2_), .val (.int (0 : Int32)), .val (.int m_), .unset, .unset, .unset, .unset, .unset, .unset]) rfl ?_
    refine XS.iload X0.here hx rfl (hb hby at_18) rfl ?_
    refine XS.ifNo X0.here hx rfl (hb hby at_20) rfl ((if0 _ _).trans (teq hf2).2) ?_
    show Steps p.tables e below (s₁.setTop (mkF m 23 #[.val (.int p0_), .val (.int p1_), .val (.int p2_), .val (.int (0 : Int32)), .val (.int m_), .unset, .unset, .unset, .unset, .unset, .unset] [])) _
    refine XS.iconst X0.here hx rfl (hb hby at_23) ?_
    refine XS.istore X0.here hx rfl (hb hby at_24) rfl (l' := #[.val (.int p0_), .val (.int p1_), .val (.int p2_), .val (.int (0 : Int32)), .val (.int (1 : Int32)), .unset, .unset, .unset, .unset, .unset, .unset]) rfl ?_
    refine XS.iloadN X0.here hx rfl (hb hby at_26) rfl ?_
    refine XS.ifYes X0.here hx rfl (pc0 := 27) (pc' := 45) rfl (hb hby at_27) rfl ((if0 _ _).trans (teq (rfl : (0 : Int32) = (0 : Int32))).1) (by decide) (by decide) ?_
    show Steps p.tables e below (s₁.setTop (mkF m 45 #[.val (.int p0_), .val (.int p1_), .val (.int p2_), .val (.int (0 : Int32)), .val (.int (1 : Int32)), .unset, .unset, .unset, .unset, .unset, .unset] [])) _
    refine st1 _ ?_
    refine XS.dup X1.here hx rfl (hb hby at_48) rfl rfl ?_
    show Steps p.tables e below (T1.setTop (mkF m 49 #[.val (.int p0_), .val (.int p1_), .val (.int p2_), .val (.int (0 : Int32)), .val (.int (1 : Int32)), .unset, .unset, .unset, .unset, .unset, .unset] [(.ref b1), (.ref b1)])) _
    refine st2.trans ?_
    refine XS.iload X2.here hx rfl (hb hby at_52) rfl ?_
    show Steps p.tables e below (T2.setTop (mkF m 54 #[.val (.int p0_), .val (.int p1_), .val (.int p2_), .val (.int (0 : Int32)), .val (.int (1 : Int32)), .unset, .unset, .unset, .unset, .unset, .unset] [(.int (1 : Int32)), (.ref b1)])) _
    refine st3.trans ?_
    refine XS.astore X3.here hx rfl (hb hby at_57) rfl rfl (l' := #[.val (.int p0_), .val (.int p1_), .val (.int p2_), .val (.int (0 : Int32)), .val (.int (1 : Int32)), .val (.ref r3), .unset, .unset, .unset, .unset, .unset]) rfl ?_
    refine XS.aload X3.here hx rfl (hb hby at_59) rfl rfl ?_
    refine XS.iloadN X3.here hx rfl (hb hby at_61) rfl ?_
    show Steps p.tables e below (T3.setTop (mkF m 62 #[.val (.int p0_), .val (.int p1_), .val (.int p2_), .val (.int (0 : Int32)), .val (.int (1 : Int32)), .val (.ref r3), .unset, .unset, .unset, .unset, .unset] [(.int p2_), (.ref r3)])) _
    refine st4.trans ?_
    refine XS.istore X4.here hx rfl (hb hby at_65) rfl (l' := #[.val (.int p0_), .val (.int p1_), .val (.int p2_), .val (.int (0 : Int32)), .val (.int (1 : Int32)), .val (.ref r3), .val (.int (1 : Int32)), .unset, .unset, .unset, .unset]) rfl ?_
    refine XS.iloadN X4.here hx rfl (hb hby at_67) rfl ?_
    refine XS.iload X4.here hx rfl (hb hby at_68) rfl ?_
    show Steps p.tables e below (T4.setTop (mkF m 70 #[.val (.int p0_), .val (.int p1_), .val (.int p2_), .val (.int (0 : Int32)), .val (.int (1 : Int32)), .val (.ref r3), .val (.int (1 : Int32)), .unset, .unset, .unset, .unset] [(.int (1 : Int32)), (.int p2_)])) _
    refine XS.icmpNo X4.here hx rfl (hb hby at_70) rfl (flt hf3).1 ?_
    refine XS.iconst X4.here hx rfl (hb hby at_73) ?_
    refine XS.goto X4.here hx rfl (pc0 := 74) (pc' := 78) rfl (hb hby at_74) (by decide) (by decide) ?_
    refine XS.istore X4.here hx rfl (hb hby at_78) rfl (l' := #[.val (.int p0_), .val (.int p1_), .val (.int p2_), .val (.int (0 : Int32)), .val (.int (1 : Int32)), .val (.ref r3), .val (.int (1 : Int32)), .val (.int (1 : Int32)), .unset, .unset, .unset]) rfl ?_
    show Steps p.tables e below (T4.setTop (mkF m 80 #[.val (.int p0_), .val (.int p1_), .val (.int p2_), .val (.int (0 : Int32)), .val (.int (1 : Int32)), .val (.ref r3), .val (.int (1 : Int32)), .val (.int (1 : Int32)), .unset, .unset, .unset] [])) _
    refine XS.iload X4.here hx rfl (hb hby at_80) rfl ?_
    refine XS.iload X4.here hx rfl (hb hby at_82) rfl ?_
    refine XS.icmpYes X4.here hx rfl (pc0 := 84) (pc' := 89) rfl (hb hby at_84) rfl (teq (rfl : (1 : Int32) = (1 : Int32))).1 (by decide) (by decide) ?_
    refine XS.aload X4.here hx rfl (hb hby at_89) rfl rfl ?_
    show Steps p.tables e below (T4.setTop (mkF m 91 #[.val (.int p0_), .val (.int p1_), .val (.int p2_), .val (.int (0 : Int32)), .val (.int (1 : Int32)), .val (.ref r3), .val (.int (1 : Int32)), .val (.int (1 : Int32)), .unset, .unset, .unset] [(.ref r3)])) _
    refine XS.iload X4.here hx rfl (hb hby at_91) rfl ?_
    show Steps p.tables e below (T4.setTop (mkF m 93 #[.val (.int p0_), .val (.int p1_), .val (.int p2_), .val (.int (0 : Int32)), .val (.int (1 : Int32)), .val (.ref r3), .val (.int (1 : Int32)), .val (.int (1 : Int32)), .unset, .unset, .unset] [(.int (1 : Int32)), (.ref r3)])) _
    refine st5.trans ?_
    refine XS.ifYes X5.here hx rfl (pc0 := 96) (pc' := 101) rfl (hb hby at_96) rfl ((if0 _ _).trans (feq (by decide : ¬ ((1 : Int32) = (0 : Int32)))).2) (by decide) (by decide) ?_
    refine XS.iload X5.here hx rfl (hb hby at_101) rfl ?_
    refine XS.iconst X5.here hx rfl (hb hby at_103) ?_
    show Steps p.tables e below (T5.setTop (mkF m 104 #[.val (.int p0_), .val (.int p1_), .val (.int p2_), .val (.int (0 : Int32)), .val (.int (1 : Int32)), .val (.ref r3), .val (.int (1 : Int32)), .val (.int (1 : Int32)), .unset, .unset, .unset] [(.int (1 : Int32)), (.int (1 : Int32))])) _
    refine XS.icmpYes X5.here hx rfl (pc0 := 104) (pc' := 121) rfl (hb hby at_104) rfl (flt (by decide : ¬ ((1 : Int32) < (1 : Int32)))).2.2.2 (by decide) (by decide) ?_
    refine XS.iloadN X5.here hx rfl (hb hby at_121) rfl ?_
    refine XS.iconst X5.here hx rfl (hb hby at_122) ?_
    refine XS.iushr X5.here hx rfl (hb hby at_123) rfl ?_
    show Steps p.tables e below (T5.setTop (mkF m 124 #[.val (.int p0_), .val (.int p1_), .val (.int p2_), .val (.int (0 : Int32)), .val (.int (1 : Int32)), .val (.ref r3), .val (.int (1 : Int32)), .val (.int (1 : Int32)), .unset, .unset, .unset] [(.int ((p0_.toUInt32 >>> ((1 : Int32) &&& 31).toUInt32).toInt32))])) _
    refine XS.iconst X5.here hx rfl (hb hby at_124) ?_
    show Steps p.tables e below (T5.setTop (mkF m 125 #[.val (.int p0_), .val (.int p1_), .val (.int p2_), .val (.int (0 : Int32)), .val (.int (1 : Int32)), .val (.ref r3), .val (.int (1 : Int32)), .val (.int (1 : Int32)), .unset, .unset, .unset] [(.int (5 : Int32)), (.int ((p0_.toUInt32 >>> ((1 : Int32) &&& 31).toUInt32).toInt32))])) _
    refine iremM X5 hx rfl (hb hby at_125) rfl (by decide) ?_
    show Steps p.tables e below (T5.setTop (mkF m 126 #[.val (.int p0_), .val (.int p1_), .val (.int p2_), .val (.int (0 : Int32)), .val (.int (1 : Int32)), .val (.ref r3), .val (.int (1 : Int32)), .val (.int (1 : Int32)), .unset, .unset, .unset] [(.int (((p0_.toUInt32 >>> ((1 : Int32) &&& 31).toUInt32).toInt32) % (5 : Int32)))])) _
    rw [hf4]
    refine XS.iconst X5.here hx rfl (hb hby at_126) ?_
    refine XS.isub X5.here hx rfl (hb hby at_127) rfl ?_
    show Steps p.tables e below (T5.setTop (mkF m 128 #[.val (.int p0_), .val (.int p1_), .val (.int p2_), .val (.int (0 : Int32)), .val (.int (1 : Int32)), .val (.ref r3), .val (.int (1 : Int32)), .val (.int (1 : Int32)), .unset, .unset, .unset] [(.int (o_ - (2 : Int32)))])) _
    rw [hf5]
    refine XS.istore X5.here hx rfl (hb hby at_128) rfl (l' := #[.val (.int p0_), .val (.int p1_), .val (.int p2_), .val (.int (0 : Int32)), .val (.int (1 : Int32)), .val (.ref r3), .val (.int (1 : Int32)), .val (.int (1 : Int32)), .val (.int f_), .unset, .unset]) rfl ?_
    refine XS.iload X5.here hx rfl (hb hby at_130) rfl ?_
    refine XS.i2l X5.here hx rfl (hb hby at_132) rfl ?_
    show Steps p.tables e below (T5.setTop (mkF m 133 #[.val (.int p0_), .val (.int p1_), .val (.int p2_), .val (.int (0 : Int32)), .val (.int (1 : Int32)), .val (.ref r3), .val (.int (1 : Int32)), .val (.int (1 : Int32)), .val (.int f_), .unset, .unset] [(.long ((1 : Int32).toInt64))])) _
    refine XS.iload X5.here hx rfl (hb hby at_133) rfl ?_
    refine XS.i2l X5.here hx rfl (hb hby at_135) rfl ?_
    refine XS.ladd X5.here hx rfl (hb hby at_136) rfl ?_
    show Steps p.tables e below (T5.setTop (mkF m 137 #[.val (.int p0_), .val (.int p1_), .val (.int p2_), .val (.int (0 : Int32)), .val (.int (1 : Int32)), .val (.ref r3), .val (.int (1 : Int32)), .val (.int (1 : Int32)), .val (.int f_), .unset, .unset] [(.long (((1 : Int32).toInt64) + (f_.toInt64)))])) _
    rw [hf6]
    refine XS.lstore X5.here hx rfl (hb hby at_137) rfl (l' := #[.val (.int p0_), .val (.int p1_), .val (.int p2_), .val (.int (0 : Int32)), .val (.int (1 : Int32)), .val (.ref r3), .val (.int (1 : Int32)), .val (.int (1 : Int32)), .val (.int f_), .val (.long l_), .second]) rfl ?_
    refine XS.lload X5.here hx rfl (hb hby at_139) rfl ?_
    show Steps p.tables e below (T5.setTop (mkF m 141 #[.val (.int p0_), .val (.int p1_), .val (.int p2_), .val (.int (0 : Int32)), .val (.int (1 : Int32)), .val (.ref r3), .val (.int (1 : Int32)), .val (.int (1 : Int32)), .val (.int f_), .val (.long l_), .second] [(.long l_)])) _
    refine X5.ldc2Long hx hown (mvT hZ (hw _ (List.mem_of_getElem? (i := 32) rfl))) (g := (mkF m 141 #[.val (.int p0_), .val (.int p1_), .val (.int p2_), .val (.int (0 : Int32)), .val (.int (1 : Int32)), .val (.ref r3), .val (.int (1 : Int32)), .val (.int (1 : Int32)), .val (.int f_), .val (.long l_), .second] [(.long l_)])) rfl (hb hby at_141) _ ?_
    refine XS.lcmp X5.here hx rfl (hb hby at_144) rfl ?_
    refine XS.ifNo X5.here hx rfl (hb hby at_145) rfl ((if0 _ _).trans (flt hf7).2.2.1) ?_
    refine XS.aload X5.here hx rfl (hb hby at_148) rfl rfl ?_
    show Steps p.tables e below (T5.setTop (mkF m 150 #[.val (.int p0_), .val (.int p1_), .val (.int p2_), .val (.int (0 : Int32)), .val (.int (1 : Int32)), .val (.ref r3), .val (.int (1 : Int32)), .val (.int (1 : Int32)), .val (.int f_), .val (.long l_), .second] [(.ref r3)])) _
    refine XS.lload X5.here hx rfl (hb hby at_150) rfl ?_
    refine XS.l2i X5.here hx rfl (hb hby at_152) rfl ?_
    show Steps p.tables e below (T5.setTop (mkF m 153 #[.val (.int p0_), .val (.int p1_), .val (.int p2_), .val (.int (0 : Int32)), .val (.int (1 : Int32)), .val (.ref r3), .val (.int (1 : Int32)), .val (.int (1 : Int32)), .val (.int f_), .val (.long l_), .second] [(.int (l_.toInt32)), (.ref r3)])) _
    refine st6.trans ?_
    refine XS.iload X6.here hx rfl (hb hby at_156) rfl ?_
    refine XS.ifYes X6.here hx rfl (pc0 := 158) (pc' := 165) rfl (hb hby at_158) rfl ((if0 _ _).trans (tlt hf9).1) (by decide) (by decide) ?_
    refine XS.iconst X6.here hx rfl (hb hby at_165) ?_
    show Steps p.tables e below (T6.setTop (mkF m 166 #[.val (.int p0_), .val (.int p1_), .val (.int p2_), .val (.int (0 : Int32)), .val (.int (1 : Int32)), .val (.ref r3), .val (.int (1 : Int32)), .val (.int (1 : Int32)), .val (.int f_), .val (.long l_), .second] [(.int (0 : Int32)), (.int (0 : Int32))])) _
    refine XS.icmpYes X6.here hx rfl (pc0 := 166) (pc' := 171) rfl (hb hby at_166) rfl (teq (rfl : (0 : Int32) = (0 : Int32))).1 (by decide) (by decide) ?_
    refine XS.iconst X6.here hx rfl (hb hby at_171) ?_
    show Steps p.tables e below (T6.setTop (mkF m 172 #[.val (.int p0_), .val (.int p1_), .val (.int p2_), .val (.int (0 : Int32)), .val (.int (1 : Int32)), .val (.ref r3), .val (.int (1 : Int32)), .val (.int (1 : Int32)), .val (.int f_), .val (.long l_), .second] [(.int (1 : Int32))])) _
    exact retN X6 hx (t := .boolean) Bd.returns (by simp) (hb hby at_172) hr
  · show own_QL n0 _ T6.heap _
    exact ⟨rfl, N6⟩
set_option maxRecDepth 65536 in
set_option maxHeartbeats 40000000 in
theorem own_law_Sgg (l : Launch) (Z : State) (a0 : Array Value) (hw : ∀ d ∈ tables_1, d.before a0 Z = true) (ws : List Jvm.Cond) (p0_ : Int32) (p1_ : Int32) (p2_ : Int32) (m_ : Int32) (w_DEFAULT_BACKOFF : Addr) (o_ : Int32) (f_ : Int32) (l_ : Int64) (h0 : Heap) (n0 : Nat) (Z0 : n0 ≤ h0.size) (S_DEFAULT_BACKOFF : Sta Z h0 "com/example/mersey/mersey/JobTypeSettings" "DEFAULT_BACKOFF" "Lcom/example/mersey/mersey/Backoff;" (.ref w_DEFAULT_BACKOFF)) (hf0 : (p0_ &&& (1 : Int32)) = (0 : Int32)) (hf1 : (p1_ &&& (2147483647 : Int32)) = m_) (hf2 : m_ = (0 : Int32)) (hf3 : ¬ (p2_ < (1 : Int32))) (hf4 : (((p0_.toUInt32 >>> ((1 : Int32) &&& 31).toUInt32).toInt32) % (5 : Int32)) = o_) (hf5 : (o_ - (2 : Int32)) = f_) (hf6 : (((1 : Int32).toInt64) + (f_.toInt64)) = l_) (hf7 : ¬ ((0 : Int32) < (lcmpW l_ (2147483647 : Int64)))) (hf8 : ¬ ((l_.toInt32) < (1 : Int32))) (hf9 : ¬ (f_ < (0 : Int32))) :
    MetFree l x (head1 (Jvm.Cond.code x code maxLocals ret :: ws) room_1) (fun a U => a = #[(.int p0_), (.int p1_), (.int p2_)] ∧ Z.Warmed39 U.vm ∧ U.heap = h0) (fun _ _ _ _ _ => True) (fun _ U o U' => ∃ v L, o = .returned v ∧ own_QL n0 v U'.heap L ∧ FrameEnd U o U' L room_1.cells room_1.slots) := by
  refine MetFree.of_bodySF (plainFor_of_name own_pn1) hisR ?_
  intro p e s m args below meth c s₁ Bd hml0 hP hK
  obtain ⟨rfl, hZ, hh⟩ := hP
  have hx := Bd.exec
  have hby := Bd.bytes
  have hml : c.maxLocals = 11 := hml0
  have hown : s.vm.findClass "com/example/mersey/mersey/JobTypeSettingsIsLastAttemptPinLaw" = some m.cls := findClass_of_methodNamed Bd.named
  have hnm := (name_of_methodNamed Bd.named Bd.method).1
  have X0 : Stand p l e room_1 s m #[(.int p0_), (.int p1_), (.int p2_)] below meth c s₁ [] 0 0 := Stand.of_body Bd
  have e0 : s₁.heap = h0 := by rw [← hh, Bd.state]; rfl
  have N0 := Fr.nil n0
  have pre0 : ∀ t, Steps p.tables e below (s₁.setTop (mkF m 0 #[.val (.int p0_), .val (.int p1_), .val (.int p2_), .unset, .unset, .unset, .unset, .unset, .unset, .unset, .unset] [])) t → Steps p.tables e below (s₁.setTop (entryFrame m #[(.int p0_), (.int p1_), (.int p2_)] maxLocals)) t := fun t k => castTop (own_ef2 m p0_ p1_ p2_) k
  obtain ⟨T1, h1, X1, e1, E1, A1, D1, -, st1⟩ := newO X0 hx hZ hown (hw _ (List.mem_of_getElem? (i := 1) rfl)) (hw _ (List.mem_of_getElem? (i := 2) rfl)) (hw _ (List.mem_of_getElem? (i := 3) rfl)) e0 (g := (mkF m 45 #[.val (.int p0_), .val (.int p1_), .val (.int p2_), .val (.int (0 : Int32)), .val (.int (1 : Int32)), .unset, .unset, .unset, .unset, .unset, .unset] [])) rfl (hb hby at_45) (by decide) (by decide)
  obtain ⟨b1, g1⟩ : ∃ z, z = h0.size := ⟨_, rfl⟩
  rw [← g1] at A1 D1 st1
  have lo_b1 : h0.size ≤ b1 := Nat.le_of_eq g1.symm
  have sz_b1 : h0.size ≤ b1 := Nat.le_trans (Keep.refl h0 []).1 lo_b1
  have g_b1 : n0 ≤ b1 := Nat.le_trans Z0 sz_b1
  have K1 : Keep h0 h1 [] := (Keep.refl h0 []).ext E1
  have F_maxAttempts_b1_1 : Fld Z h1 b1 "com/example/mersey/mersey/JobTypeSettings" "maxAttempts" "I" (.int (0 : Int32)) := D1 (Or.inl (hw _ (List.mem_of_getElem? (i := 11) rfl))) (ty := .int) (by decide)
  have F_backoff_b1_1 : Fld Z h1 b1 "com/example/mersey/mersey/JobTypeSettings" "backoff" "Lcom/example/mersey/mersey/Backoff;" .null := D1 (Or.inl (hw _ (List.mem_of_getElem? (i := 15) rfl))) (ty := (.object "com/example/mersey/mersey/Backoff")) (by decide)
  have F_longestRunTime_b1_1 : Fld Z h1 b1 "com/example/mersey/mersey/JobTypeSettings" "longestRunTime" "Ljava/time/Duration;" .null := D1 (Or.inl (hw _ (List.mem_of_getElem? (i := 26) rfl))) (ty := (.object "java/time/Duration")) (by decide)
  obtain ⟨_, _, ⟨T2, L2, k2, n2⟩, -, X2, ⟨Lc2, hQ2, l2, y2, z2⟩, st2⟩ := X1.specialBack hx (y := (⟨"com/example/mersey/mersey/JobTypeSettings", "<init>", "()V"⟩ : MethodName)) rfl hown (mvT hZ (hw _ (List.mem_of_getElem? (i := 4) rfl))) (mvT hZ (hw _ (List.mem_of_getElem? (i := 5) rfl))) (mvT hZ (hw _ (List.mem_of_getElem? (i := 6) rfl))) (by decide) (backOf (W := 1) (own_b1_x l Z a0 hw [] b1 (.int (0 : Int32)) w_DEFAULT_BACKOFF .null .null h1 n0 (Nat.le_trans Z0 (own_ext K1).1) A1 F_maxAttempts_b1_1 g_b1 (S_DEFAULT_BACKOFF.ext (own_ext K1)) F_backoff_b1_1 F_longestRunTime_b1_1) hZ (hw _ (List.mem_of_getElem? (i := 6) rfl)) (hw _ (List.mem_of_getElem? (i := 3) rfl)) (by decide) (by decide)) (g := (mkF m 49 #[.val (.int p0_), .val (.int p1_), .val (.int p2_), .val (.int (0 : Int32)), .val (.int (1 : Int32)), .unset, .unset, .unset, .unset, .unset, .unset] [(.ref b1), (.ref b1)])) rfl (by rw [hml]; rfl) (Steps.refl _) (a := b1) (argsL := []) (rest := [(.ref b1)]) (lenOf own_pd0 rfl) rfl (by show 2 * 0 + _ ≤ _; exact Nat.le_of_eq rfl) (hb hby at_49) (fun _ _ => ⟨rfl, e1, (by decide : 1 + 0 ≤ _), (by decide : 3 + 0 ≤ _)⟩)
  dsimp only [Pt.U, Pt.locs, Pt.cells, Pt.slots] at X2 l2 y2 z2 st2 hQ2
  subst l2 y2 z2
  obtain ⟨rfl, N2q, Kq2, Eq2, Fq2_maxAttempts, Fq2_backoff, Fq2_longestRunTime⟩ := hQ2
  have N2 := Fr.app N0 N2q
  have K2 : Keep h0 T2.heap [] := K1.trans Kq2 (fun x hx => by cases List.mem_singleton.mp hx; exact Or.inr sz_b1)
  obtain ⟨cq3, kq3, q3a, q3b, q3c⟩ := isOf hZ rfl Eq2
  obtain ⟨_, _, ⟨T3, L3, k3, n3⟩, -, X3, ⟨Lc3, hQ3, l3, y3, z3⟩, st3⟩ := X2.virtualBack hx (y := (⟨"com/example/mersey/mersey/JobTypeSettings", "withMaxAttempts", "(I)Lcom/example/mersey/mersey/JobTypeSettings;"⟩ : MethodName)) (z := (⟨"com/example/mersey/mersey/JobTypeSettings", "withMaxAttempts", "(I)Lcom/example/mersey/mersey/JobTypeSettings;"⟩ : MethodName)) hown (mvT hZ (hw _ (List.mem_of_getElem? (i := 16) rfl))) (mvT hZ (hw _ (List.mem_of_getElem? (i := 17) rfl))) (notFace_of_selects (args := #[]) (mvT hZ (hw _ (List.mem_of_getElem? (i := 19) rfl)))) (mvT hZ (hw _ (List.mem_of_getElem? (i := 19) rfl))) (mvT hZ (hw _ (List.mem_of_getElem? (i := 18) rfl))) (by decide) (backOf (W := 0) (own_b3_tN l Z a0 hw [] b1 (1 : Int32) w_DEFAULT_BACKOFF (5 : Int32) w_DEFAULT_BACKOFF T2.heap n0 (Nat.le_trans Z0 (own_ext K2).1) (S_DEFAULT_BACKOFF.ext (own_ext K2)) Fq2_longestRunTime Fq2_maxAttempts Fq2_backoff (by decide)) hZ (hw _ (List.mem_of_getElem? (i := 20) rfl)) (hw _ (List.mem_of_getElem? (i := 3) rfl)) (by decide) (by decide)) q3a q3c (g := (mkF m 54 #[.val (.int p0_), .val (.int p1_), .val (.int p2_), .val (.int (0 : Int32)), .val (.int (1 : Int32)), .unset, .unset, .unset, .unset, .unset, .unset] [(.int (1 : Int32)), (.ref b1)])) rfl (by rw [hml]; rfl) (Steps.refl _) (argsL := [(.int (1 : Int32))]) (rest := []) (lenOf own_pd3 rfl) rfl (by show 2 * 0 + _ ≤ _; exact Nat.le_of_eq rfl) (hb hby at_54) (fun _ _ => ⟨rfl, rfl, (by decide : 1 + 1 ≤ _), (by decide : 3 + 3 ≤ _)⟩)
  dsimp only [Pt.U, Pt.locs, Pt.cells, Pt.slots] at X3 l3 y3 z3 st3 hQ3
  subst l3 y3 z3
  obtain ⟨r3, rfl, N3q, Kq3, lo_r3, Eq3, Fq3_maxAttempts, Fq3_backoff, Fq3_longestRunTime⟩ := hQ3
  have N3 := Fr.app N2 N3q
  have ne_b1_r3 : b1 ≠ r3 := Nat.ne_of_lt (Nat.lt_of_lt_of_le Eq2.lt lo_r3)
  have sz_r3 : h0.size ≤ r3 := Nat.le_trans K2.1 lo_r3
  have g_r3 : n0 ≤ r3 := Nat.le_trans Z0 sz_r3
  have E_b1_3 := Eq2.ext (own_ext Kq3)
  have F_maxAttempts_b1_3 := Fq2_maxAttempts.ext (own_ext Kq3)
  have F_backoff_b1_3 := Fq2_backoff.ext (own_ext Kq3)
  have F_longestRunTime_b1_3 := Fq2_longestRunTime.ext (own_ext Kq3)
  have K3 : Keep h0 T3.heap [] := K2.trans Kq3 (fun x hx => by cases hx)
  obtain ⟨cq4, kq4, q4a, q4b, q4c⟩ := isOf hZ rfl Eq3
  obtain ⟨_, _, ⟨T4, L4, k4, n4⟩, -, X4, ⟨Lc4, hQ4, l4, y4, z4⟩, st4⟩ := X3.virtualBack hx (y := (⟨"com/example/mersey/mersey/JobTypeSettings", "isLastAttempt", "(I)Z"⟩ : MethodName)) (z := (⟨"com/example/mersey/mersey/JobTypeSettings", "isLastAttempt", "(I)Z"⟩ : MethodName)) hown (mvT hZ (hw _ (List.mem_of_getElem? (i := 27) rfl))) (mvT hZ (hw _ (List.mem_of_getElem? (i := 28) rfl))) (notFace_of_selects (args := #[]) (mvT hZ (hw _ (List.mem_of_getElem? (i := 30) rfl)))) (mvT hZ (hw _ (List.mem_of_getElem? (i := 30) rfl))) (mvT hZ (hw _ (List.mem_of_getElem? (i := 29) rfl))) (by decide) (backOf (W := 0) (own_b5_f l Z a0 hw [] r3 p2_ (1 : Int32) T3.heap n0 (Nat.le_trans Z0 (own_ext K3).1) Fq3_maxAttempts hf3) hZ (hw _ (List.mem_of_getElem? (i := 31) rfl)) (hw _ (List.mem_of_getElem? (i := 3) rfl)) (by decide) (by decide)) q4a q4c (g := (mkF m 62 #[.val (.int p0_), .val (.int p1_), .val (.int p2_), .val (.int (0 : Int32)), .val (.int (1 : Int32)), .val (.ref r3), .unset, .unset, .unset, .unset, .unset] [(.int p2_), (.ref r3)])) rfl (by rw [hml]; rfl) (Steps.refl _) (argsL := [(.int p2_)]) (rest := []) (lenOf own_pd1 rfl) rfl (by show 2 * 0 + _ ≤ _; exact Nat.le_of_eq rfl) (hb hby at_62) (fun _ _ => ⟨rfl, rfl, (by decide : 2 + 0 ≤ _), (by decide : 6 + 0 ≤ _)⟩)
  dsimp only [Pt.U, Pt.locs, Pt.cells, Pt.slots] at X4 l4 y4 z4 st4 hQ4
  subst l4 y4 z4
  obtain ⟨rfl, N4q, e4⟩ := hQ4
  have N4 := Fr.app N3 N4q
  obtain ⟨cq5, kq5, q5a, q5b, q5c⟩ := isOf hZ e4 Eq3
  obtain ⟨_, _, ⟨T5, L5, k5, n5⟩, -, X5, ⟨Lc5, hQ5, l5, y5, z5⟩, st5⟩ := X4.virtualBack hx (y := (⟨"com/example/mersey/mersey/JobTypeSettings", "isLastAttempt", "(I)Z"⟩ : MethodName)) (z := (⟨"com/example/mersey/mersey/JobTypeSettings", "isLastAttempt", "(I)Z"⟩ : MethodName)) hown (mvT hZ (hw _ (List.mem_of_getElem? (i := 27) rfl))) (mvT hZ (hw _ (List.mem_of_getElem? (i := 28) rfl))) (notFace_of_selects (args := #[]) (mvT hZ (hw _ (List.mem_of_getElem? (i := 30) rfl)))) (mvT hZ (hw _ (List.mem_of_getElem? (i := 30) rfl))) (mvT hZ (hw _ (List.mem_of_getElem? (i := 29) rfl))) (by decide) (backOf (W := 0) (own_b5_f l Z a0 hw [] r3 (1 : Int32) (1 : Int32) T3.heap n0 (Nat.le_trans Z0 (own_ext K3).1) Fq3_maxAttempts (by decide)) hZ (hw _ (List.mem_of_getElem? (i := 31) rfl)) (hw _ (List.mem_of_getElem? (i := 3) rfl)) (by decide) (by decide)) q5a q5c (g := (mkF m 93 #[.val (.int p0_), .val (.int p1_), .val (.int p2_), .val (.int (0 : Int32)), .val (.int (1 : Int32)), .val (.ref r3), .val (.int (1 : Int32)), .val (.int (1 : Int32)), .unset, .unset, .unset] [(.int (1 : Int32)), (.ref r3)])) rfl (by rw [hml]; rfl) (Steps.refl _) (argsL := [(.int (1 : Int32))]) (rest := []) (lenOf own_pd1 rfl) rfl (by show 2 * 0 + _ ≤ _; exact Nat.le_of_eq rfl) (hb hby at_93) (fun _ _ => ⟨rfl, e4, (by decide : 2 + 0 ≤ _), (by decide : 6 + 0 ≤ _)⟩)
  dsimp only [Pt.U, Pt.locs, Pt.cells, Pt.slots] at X5 l5 y5 z5 st5 hQ5
  subst l5 y5 z5
  obtain ⟨rfl, N5q, e5⟩ := hQ5
  have N5 := Fr.app N4 N5q
  obtain ⟨cq6, kq6, q6a, q6b, q6c⟩ := isOf hZ e5 Eq3
  obtain ⟨_, _, ⟨T6, L6, k6, n6⟩, -, X6, ⟨Lc6, hQ6, l6, y6, z6⟩, st6⟩ := X5.virtualBack hx (y := (⟨"com/example/mersey/mersey/JobTypeSettings", "isLastAttempt", "(I)Z"⟩ : MethodName)) (z := (⟨"com/example/mersey/mersey/JobTypeSettings", "isLastAttempt", "(I)Z"⟩ : MethodName)) hown (mvT hZ (hw _ (List.mem_of_getElem? (i := 27) rfl))) (mvT hZ (hw _ (List.mem_of_getElem? (i := 28) rfl))) (notFace_of_selects (args := #[]) (mvT hZ (hw _ (List.mem_of_getElem? (i := 30) rfl)))) (mvT hZ (hw _ (List.mem_of_getElem? (i := 30) rfl))) (mvT hZ (hw _ (List.mem_of_getElem? (i := 29) rfl))) (by decide) (backOf (W := 0) (own_b5_f l Z a0 hw [] r3 (l_.toInt32) (1 : Int32) T3.heap n0 (Nat.le_trans Z0 (own_ext K3).1) Fq3_maxAttempts hf8) hZ (hw _ (List.mem_of_getElem? (i := 31) rfl)) (hw _ (List.mem_of_getElem? (i := 3) rfl)) (by decide) (by decide)) q6a q6c (g := (mkF m 153 #[.val (.int p0_), .val (.int p1_), .val (.int p2_), .val (.int (0 : Int32)), .val (.int (1 : Int32)), .val (.ref r3), .val (.int (1 : Int32)), .val (.int (1 : Int32)), .val (.int f_), .val (.long l_), .second] [(.int (l_.toInt32)), (.ref r3)])) rfl (by rw [hml]; rfl) (Steps.refl _) (argsL := [(.int (l_.toInt32))]) (rest := []) (lenOf own_pd1 rfl) rfl (by show 2 * 0 + _ ≤ _; exact Nat.le_of_eq rfl) (hb hby at_153) (fun _ _ => ⟨rfl, e5, (by decide : 2 + 0 ≤ _), (by decide : 6 + 0 ≤ _)⟩)
  dsimp only [Pt.U, Pt.locs, Pt.cells, Pt.slots] at X6 l6 y6 z6 st6 hQ6
  subst l6 y6 z6
  obtain ⟨rfl, N6q, e6⟩ := hQ6
  have N6 := Fr.app N5 N6q
  obtain ⟨fs, hr, hrun, hended, hW, hsame⟩ := X6.leave (v := some (.int (1 : Int32))) (fun h => by rw [Bd.returns] at h; cases h)
  refine ⟨_, _, pre0 _ ?_, hrun, hended, _, _, rfl, ?_, ⟨_, rfl⟩, hW, hsame.mono (by decide) (by decide)⟩
  · show Steps p.tables e below (s₁.setTop (mkF m 0 #[.val (.int p0_), .val (.int p1_), .val (.int p2_), .unset, .unset, .unset, .unset, .unset, .unset, .unset, .unset] [])) _
    refine XS.iloadN X0.here hx rfl (hb hby at_0) rfl ?_
    refine XS.iconst X0.here hx rfl (hb hby at_1) ?_
    refine XS.iand X0.here hx rfl (hb hby at_2) rfl ?_
    show Steps p.tables e below (s₁.setTop (mkF m 3 #[.val (.int p0_), .val (.int p1_), .val (.int p2_), .unset, .unset, .unset, .unset, .unset, .unset, .unset, .unset] [(.int (p0_ &&& (1 : Int32)))])) _
    rw [hf0]
    refine XS.ifYes X0.here hx rfl (pc0 := 3) (pc' := 10) rfl (hb hby at_3) rfl ((if0 _ _).trans (teq (rfl : (0 : Int32) = (0 : Int32))).1) (by decide) (by decide) ?_
    refine XS.iconst X0.here hx rfl (hb hby at_10) ?_
    refine XS.istoreN X0.here hx rfl (hb hby at_11) rfl (l' := #[.val (.int p0_), .val (.int p1_), .val (.int p2_), .val (.int (0 : Int32)), .unset, .unset, .unset, .unset, .unset, .unset, .unset]) rfl ?_
    show Steps p.tables e below (s₁.setTop (mkF m 12 #[.val (.int p0_), .val (.int p1_), .val (.int p2_), .val (.int (0 : Int32)), .unset, .unset, .unset, .unset, .unset, .unset, .unset] [])) _
    refine XS.iloadN X0.here hx rfl (hb hby at_12) rfl ?_
    show Steps p.tables e below (s₁.setTop (mkF m 13 #[.val (.int p0_), .val (.int p1_), .val (.int p2_), .val (.int (0 : Int32)), .unset, .unset, .unset, .unset, .unset, .unset, .unset] [(.int p1_)])) _
    refine X0.ldcInt hx hown (mvT hZ (hw _ (List.mem_of_getElem? (i := 0) rfl))) (g := (mkF m 13 #[.val (.int p0_), .val (.int p1_), .val (.int p2_), .val (.int (0 : Int32)), .unset, .unset, .unset, .unset, .unset, .unset, .unset] [(.int p1_)])) rfl (hb hby at_13) _ ?_
    refine XS.iand X0.here hx rfl (hb hby at_15) rfl ?_
    show Steps p.tables e below (s₁.setTop (mkF m 16 #[.val (.int p0_), .val (.int p1_), .val (.int p2_), .val (.int (0 : Int32)), .unset, .unset, .unset, .unset, .unset, .unset, .unset] [(.int (p1_ &&& (2147483647 : Int32)))])) _
    rw [hf1]
    refine XS.istore X0.here hx rfl (hb hby at_16) rfl (l' := #[.val (.int p0_), .val (.int p1_), .val (.int p2_), .val (.int (0 : Int32)), .val (.int m_), .unset, .unset, .unset, .unset, .unset, .unset]) rfl ?_
    refine XS.iload X0.here hx rfl (hb hby at_18) rfl ?_
    refine XS.ifNo X0.here hx rfl (hb hby at_20) rfl ((if0 _ _).trans (teq hf2).2) ?_
    show Steps p.tables e below (s₁.setTop (mkF m 23 #[.val (.int p0_), .val (.int p1_), .val (.int p2_), .val (.int (0 : Int32)), .val (.int m_), .unset, .unset, .unset, .unset, .unset, .unset] [])) _
    refine XS.iconst X0.here hx rfl (hb hby at_23) ?_
    refine XS.istore X0.here hx rfl (hb hby at_24) rfl (l' := #[.val (.int p0_), .val (.int p1_), .val (.int p2_), .val (.int (0 : Int32)), .val (.int (1 : Int32)), .unset, .unset, .unset, .unset, .unset, .unset]) rfl ?_
    refine XS.iloadN X0.here hx rfl (hb hby at_26) rfl ?_
    refine XS.ifYes X0.here hx rfl (pc0 := 27) (pc' := 45) rfl (hb hby at_27) rfl ((if0 _ _).trans (teq (rfl : (0 : Int32) = (0 : Int32))).1) (by decide) (by decide) ?_
    show Steps p.tables e below (s₁.setTop (mkF m 45 #[.val (.int p0_), .val (.int p1_), .val (.int p2_), .val (.int (0 : Int32)), .val (.int (1 : Int32)), .unset, .unset, .unset, .unset, .unset, .unset] [])) _
    refine st1 _ ?_
    refine XS.dup X1.here hx rfl (hb hby at_48) rfl rfl ?_
    show Steps p.tables e below (T1.setTop (mkF m 49 #[.val (.int p0_), .val (.int p1_), .val (.int p2_), .val (.int (0 : Int32)), .val (.int (1 : Int32)), .unset, .unset, .unset, .unset, .unset, .unset] [(.ref b1), (.ref b1)])) _
    refine st2.trans ?_
    refine XS.iload X2.here hx rfl (hb hby at_52) rfl ?_
    show Steps p.tables e below (T2.setTop (mkF m 54 #[.val (.int p0_), .val (.int p1_), .val (.int p2_), .val (.int (0 : Int32)), .val (.int (1 : Int32)), .unset, .unset, .unset, .unset, .unset, .unset] [(.int (1 : Int32)), (.ref b1)])) _
    refine st3.trans ?_
    refine XS.astore X3.here hx rfl (hb hby at_57) rfl rfl (l' := #[.val (.int p0_), .val (.int p1_), .val (.int p2_), .val (.int (0 : Int32)), .val (.int (1 : Int32)), .val (.ref r3), .unset, .unset, .unset, .unset, .unset]) rfl ?_
    refine XS.aload X3.here hx rfl (hb hby at_59) rfl rfl ?_
    refine XS.iloadN X3.here hx rfl (hb hby at_61) rfl ?_
    show Steps p.tables e below (T3.setTop (mkF m 62 #[.val (.int p0_), .val (.int p1_), .val (.int p2_), .val (.int (0 : Int32)), .val (.int (1 : Int32)), .val (.ref r3), .unset, .unset, .unset, .unset, .unset] [(.int p2_), (.ref r3)])) _
    refine st4.trans ?_
    refine XS.istore X4.here hx rfl (hb hby at_65) rfl (l' := #[.val (.int p0_), .val (.int p1_), .val (.int p2_), .val (.int (0 : Int32)), .val (.int (1 : Int32)), .val (.ref r3), .val (.int (1 : Int32)), .unset, .unset, .unset, .unset]) rfl ?_
    refine XS.iloadN X4.here hx rfl (hb hby at_67) rfl ?_
    refine XS.iload X4.here hx rfl (hb hby at_68) rfl ?_
    show Steps p.tables e below (T4.setTop (mkF m 70 #[.val (.int p0_), .val (.int p1_), .val (.int p2_), .val (.int (0 : Int32)), .val (.int (1 : Int32)), .val (.ref r3), .val (.int (1 : Int32)), .unset, .unset, .unset, .unset] [(.int (1 : Int32)), (.int p2_)])) _
    refine XS.icmpNo X4.here hx rfl (hb hby at_70) rfl (flt hf3).1 ?_
    refine XS.iconst X4.here hx rfl (hb hby at_73) ?_
    refine XS.goto X4.here hx rfl (pc0 := 74) (pc' := 78) rfl (hb hby at_74) (by decide) (by decide) ?_
    refine XS.istore X4.here hx rfl (hb hby at_78) rfl (l' := #[.val (.int p0_), .val (.int p1_), .val (.int p2_), .val (.int (0 : Int32)), .val (.int (1 : Int32)), .val (.ref r3), .val (.int (1 : Int32)), .val (.int (1 : Int32)), .unset, .unset, .unset]) rfl ?_
    show Steps p.tables e below (T4.setTop (mkF m 80 #[.val (.int p0_), .val (.int p1_), .val (.int p2_), .val (.int (0 : Int32)), .val (.int (1 : Int32)), .val (.ref r3), .val (.int (1 : Int32)), .val (.int (1 : Int32)), .unset, .unset, .unset] [])) _
    refine XS.iload X4.here hx rfl (hb hby at_80) rfl ?_
    refine XS.iload X4.here hx rfl (hb hby at_82) rfl ?_
    refine XS.icmpYes X4.here hx rfl (pc0 := 84) (pc' := 89) rfl (hb hby at_84) rfl (teq (rfl : (1 : Int32) = (1 : Int32))).1 (by decide) (by decide) ?_
    refine XS.aload X4.here hx rfl (hb hby at_89) rfl rfl ?_
    show Steps p.tables e below (T4.setTop (mkF m 91 #[.val (.int p0_), .val (.int p1_), .val (.int p2_), .val (.int (0 : Int32)), .val (.int (1 : Int32)), .val (.ref r3), .val (.int (1 : Int32)), .val (.int (1 : Int32)), .unset, .unset, .unset] [(.ref r3)])) _
    refine XS.iload X4.here hx rfl (hb hby at_91) rfl ?_
    show Steps p.tables e below (T4.setTop (mkF m 93 #[.val (.int p0_), .val (.int p1_), .val (.int p2_), .val (.int (0 : Int32)), .val (.int (1 : Int32)), .val (.ref r3), .val (.int (1 : Int32)), .val (.int (1 : Int32)), .unset, .unset, .unset] [(.int (1 : Int32)), (.ref r3)])) _
    refine st5.trans ?_
    refine XS.ifYes X5.here hx rfl (pc0 := 96) (pc' := 101) rfl (hb hby at_96) rfl ((if0 _ _).trans (feq (by decide : ¬ ((1 : Int32) = (0 : Int32)))).2) (by decide) (by decide) ?_
    refine XS.iload X5.here hx rfl (hb hby at_101) rfl ?_
    refine XS.iconst X5.here hx rfl (hb hby at_103) ?_
    show Steps p.tables e below (T5.setTop (mkF m 104 #[.val (.int p0_), .val (.int p1_), .val (.int p2_), .val (.int (0 : Int32)), .val (.int (1 : Int32)), .val (.ref r3), .val (.int (1 : Int32)), .val (.int (1 : Int32)), .unset, .unset, .unset] [(.int (1 : Int32)), (.int (1 : Int32))])) _
    refine XS.icmpYes X5.here hx rfl (pc0 := 104) (pc' := 121) rfl (hb hby at_104) rfl (flt (by decide : ¬ ((1 : Int32) < (1 : Int32)))).2.2.2 (by decide) (by decide) ?_
    refine XS.iloadN X5.here hx rfl (hb hby at_121) rfl ?_
    refine XS.iconst X5.here hx rfl (hb hby at_122) ?_
    refine XS.iushr X5.here hx rfl (hb hby at_123) rfl ?_
    show Steps p.tables e below (T5.setTop (mkF m 124 #[.val (.int p0_), .val (.int p1_), .val (.int p2_), .val (.int (0 : Int32)), .val (.int (1 : Int32)), .val (.ref r3), .val (.int (1 : Int32)), .val (.int (1 : Int32)), .unset, .unset, .unset] [(.int ((p0_.toUInt32 >>> ((1 : Int32) &&& 31).toUInt32).toInt32))])) _
    refine XS.iconst X5.here hx rfl (hb hby at_124) ?_
    show Steps p.tables e below (T5.setTop (mkF m 125 #[.val (.int p0_), .val (.int p1_), .val (.int p2_), .val (.int (0 : Int32)), .val (.int (1 : Int32)), .val (.ref r3), .val (.int (1 : Int32)), .val (.int (1 : Int32)), .unset, .unset, .unset] [(.int (5 : Int32)), (.int ((p0_.toUInt32 >>> ((1 : Int32) &&& 31).toUInt32).toInt32))])) _
    refine iremM X5 hx rfl (hb hby at_125) rfl (by decide) ?_
    show Steps p.tables e below (T5.setTop (mkF m 126 #[.val (.int p0_), .val (.int p1_), .val (.int p2_), .val (.int (0 : Int32)), .val (.int (1 : Int32)), .val (.ref r3), .val (.int (1 : Int32)), .val (.int (1 : Int32)), .unset, .unset, .unset] [(.int (((p0_.toUInt32 >>> ((1 : Int32) &&& 31).toUInt32).toInt32) % (5 : Int32)))])) _
    rw [hf4]
    refine XS.iconst X5.here hx rfl (hb hby at_126) ?_
    refine XS.isub X5.here hx rfl (hb hby at_127) rfl ?_
    show Steps p.tables e below (T5.setTop (mkF m 128 #[.val (.int p0_), .val (.int p1_), .val (.int p2_), .val (.int (0 : Int32)), .val (.int (1 : Int32)), .val (.ref r3), .val (.int (1 : Int32)), .val (.int (1 : Int32)), .unset, .unset, .unset] [(.int (o_ - (2 : Int32)))])) _
    rw [hf5]
    refine XS.istore X5.here hx rfl (hb hby at_128) rfl (l' := #[.val (.int p0_), .val (.int p1_), .val (.int p2_), .val (.int (0 : Int32)), .val (.int (1 : Int32)), .val (.ref r3), .val (.int (1 : Int32)), .val (.int (1 : Int32)), .val (.int f_), .unset, .unset]) rfl ?_
    refine XS.iload X5.here hx rfl (hb hby at_130) rfl ?_
    refine XS.i2l X5.here hx rfl (hb hby at_132) rfl ?_
    show Steps p.tables e below (T5.setTop (mkF m 133 #[.val (.int p0_), .val (.int p1_), .val (.int p2_), .val (.int (0 : Int32)), .val (.int (1 : Int32)), .val (.ref r3), .val (.int (1 : Int32)), .val (.int (1 : Int32)), .val (.int f_), .unset, .unset] [(.long ((1 : Int32).toInt64))])) _
    refine XS.iload X5.here hx rfl (hb hby at_133) rfl ?_
    refine XS.i2l X5.here hx rfl (hb hby at_135) rfl ?_
    refine XS.ladd X5.here hx rfl (hb hby at_136) rfl ?_
    show Steps p.tables e below (T5.setTop (mkF m 137 #[.val (.int p0_), .val (.int p1_), .val (.int p2_), .val (.int (0 : Int32)), .val (.int (1 : Int32)), .val (.ref r3), .val (.int (1 : Int32)), .val (.int (1 : Int32)), .val (.int f_), .unset, .unset] [(.long (((1 : Int32).toInt64) + (f_.toInt64)))])) _
    rw [hf6]
    refine XS.lstore X5.here hx rfl (hb hby at_137) rfl (l' := #[.val (.int p0_), .val (.int p1_), .val (.int p2_), .val (.int (0 : Int32)), .val (.int (1 : Int32)), .val (.ref r3), .val (.int (1 : Int32)), .val (.int (1 : Int32)), .val (.int f_), .val (.long l_), .second]) rfl ?_
    refine XS.lload X5.here hx rfl (hb hby at_139) rfl ?_
    show Steps p.tables e below (T5.setTop (mkF m 141 #[.val (.int p0_), .val (.int p1_), .val (.int p2_), .val (.int (0 : Int32)), .val (.int (1 : Int32)), .val (.ref r3), .val (.int (1 : Int32)), .val (.int (1 : Int32)), .val (.int f_), .val (.long l_), .second] [(.long l_)])) _
    refine X5.ldc2Long hx hown (mvT hZ (hw _ (List.mem_of_getElem? (i := 32) rfl))) (g := (mkF m 141 #[.val (.int p0_), .val (.int p1_), .val (.int p2_), .val (.int (0 : Int32)), .val (.int (1 : Int32)), .val (.ref r3), .val (.int (1 : Int32)), .val (.int (1 : Int32)), .val (.int f_), .val (.long l_), .second] [(.long l_)])) rfl (hb hby at_141) _ ?_
    refine XS.lcmp X5.here hx rfl (hb hby at_144) rfl ?_
    refine XS.ifNo X5.here hx rfl (hb hby at_145) rfl ((if0 _ _).trans (flt hf7).2.2.1) ?_
    refine XS.aload X5.here hx rfl (hb hby at_148) rfl rfl ?_
    show Steps p.tables e below (T5.setTop (mkF m 150 #[.val (.int p0_), .val (.int p1_), .val (.int p2_), .val (.int (0 : Int32)), .val (.int (1 : Int32)), .val (.ref r3), .val (.int (1 : Int32)), .val (.int (1 : Int32)), .val (.int f_), .val (.long l_), .second] [(.ref r3)])) _
    refine XS.lload X5.here hx rfl (hb hby at_150) rfl ?_
    refine XS.l2i X5.here hx rfl (hb hby at_152) rfl ?_
    show Steps p.tables e below (T5.setTop (mkF m 153 #[.val (.int p0_), .val (.int p1_), .val (.int p2_), .val (.int (0 : Int32)), .val (.int (1 : Int32)), .val (.ref r3), .val (.int (1 : Int32)), .val (.int (1 : Int32)), .val (.int f_), .val (.long l_), .second] [(.int (l_.toInt32)), (.ref r3)])) _
    refine st6.trans ?_
    refine XS.iload X6.here hx rfl (hb hby at_156) rfl ?_
    refine XS.ifNo X6.here hx rfl (hb hby at_158) rfl ((if0 _ _).trans (flt hf9).1) ?_
    refine XS.iconst X6.here hx rfl (hb hby at_161) ?_
    show Steps p.tables e below (T6.setTop (mkF m 162 #[.val (.int p0_), .val (.int p1_), .val (.int p2_), .val (.int (0 : Int32)), .val (.int (1 : Int32)), .val (.ref r3), .val (.int (1 : Int32)), .val (.int (1 : Int32)), .val (.int f_), .val (.long l_), .second] [(.int (1 : Int32)), (.int (1 : Int32))])) _
    refine XS.goto X6.here hx rfl (pc0 := 162) (pc' := 166) rfl (hb hby at_162) (by decide) (by decide) ?_
    refine XS.icmpYes X6.here hx rfl (pc0 := 166) (pc' := 171) rfl (hb hby at_166) rfl (teq (rfl : (1 : Int32) = (1 : Int32))).1 (by decide) (by decide) ?_
    refine XS.iconst X6.here hx rfl (hb hby at_171) ?_
    show Steps p.tables e below (T6.setTop (mkF m 172 #[.val (.int p0_), .val (.int p1_), .val (.int p2_), .val (.int (0 : Int32)), .val (.int (1 : Int32)), .val (.ref r3), .val (.int (1 : Int32)), .val (.int (1 : Int32)), .val (.int f_), .val (.long l_), .second] [(.int (1 : Int32))])) _
    exact retN X6 hx (t := .boolean) Bd.returns (by simp) (hb hby at_172) hr
  · show own_QL n0 _ T6.heap _
    exact ⟨rfl, N6⟩
set_option maxRecDepth 65536 in
set_option maxHeartbeats 40000000 in
theorem own_law_V1ll (l : Launch) (Z : State) (a0 : Array Value) (hw : ∀ d ∈ tables_1, d.before a0 Z = true) (ws : List Jvm.Cond) (p0_ : Int32) (p1_ : Int32) (p2_ : Int32) (m_ : Int32) (w_DEFAULT_BACKOFF : Addr) (o_ : Int32) (f_ : Int32) (l_ : Int64) (h0 : Heap) (n0 : Nat) (Z0 : n0 ≤ h0.size) (S_DEFAULT_BACKOFF : Sta Z h0 "com/example/mersey/mersey/JobTypeSettings" "DEFAULT_BACKOFF" "Lcom/example/mersey/mersey/Backoff;" (.ref w_DEFAULT_BACKOFF)) (hf0 : (p0_ &&& (1 : Int32)) = (0 : Int32)) (hf1 : (p1_ &&& (2147483647 : Int32)) = m_) (hf2 : ¬ (m_ = (0 : Int32))) (hf3 : ¬ (m_ < (1 : Int32))) (hf4 : p2_ < m_) (hf5 : ¬ (m_ < m_)) (hf6 : ¬ ((1 : Int32) < m_)) (hf7 : (((p0_.toUInt32 >>> ((1 : Int32) &&& 31).toUInt32).toInt32) % (5 : Int32)) = o_) (hf8 : (o_ - (2 : Int32)) = f_) (hf9 : ((m_.toInt64) + (f_.toInt64)) = l_) (hf10 : ¬ ((0 : Int32) < (lcmpW l_ (2147483647 : Int64)))) (hf11 : (l_.toInt32) < m_) (hf12 : f_ < (0 : Int32)) :
    MetFree l x (head1 (Jvm.Cond.code x code maxLocals ret :: ws) room_1) (fun a U => a = #[(.int p0_), (.int p1_), (.int p2_)] ∧ Z.Warmed39 U.vm ∧ U.heap = h0) (fun _ _ _ _ _ => True) (fun _ U o U' => ∃ v L, o = .returned v ∧ own_QL n0 v U'.heap L ∧ FrameEnd U o U' L room_1.cells room_1.slots) := by
  refine MetFree.of_bodySF (plainFor_of_name own_pn1) hisR ?_
  intro p e s m args below meth c s₁ Bd hml0 hP hK
  obtain ⟨rfl, hZ, hh⟩ := hP
  have hx := Bd.exec
  have hby := Bd.bytes
  have hml : c.maxLocals = 11 := hml0
  have hown : s.vm.findClass "com/example/mersey/mersey/JobTypeSettingsIsLastAttemptPinLaw" = some m.cls := findClass_of_methodNamed Bd.named
  have hnm := (name_of_methodNamed Bd.named Bd.method).1
  have X0 : Stand p l e room_1 s m #[(.int p0_), (.int p1_), (.int p2_)] below meth c s₁ [] 0 0 := Stand.of_body Bd
  have e0 : s₁.heap = h0 := by rw [← hh, Bd.state]; rfl
  have N0 := Fr.nil n0
  have pre0 : ∀ t, Steps p.tables e below (s₁.setTop (mkF m 0 #[.val (.int p0_), .val (.int p1_), .val (.int p2_), .unset, .unset, .unset, .unset, .unset, .unset, .unset, .unset] [])) t → Steps p.tables e below (s₁.setTop (entryFrame m #[(.int p0_), (.int p1_), (.int p2_)] maxLocals)) t := fun t k => castTop (own_ef2 m p0_ p1_ p2_) k
  obtain ⟨T1, h1, X1, e1, E1, A1, D1, -, st1⟩ := newO X0 hx hZ hown (hw _ (List.mem_of_getElem? (i := 1) rfl)) (hw _ (List.mem_of_getElem? (i := 2) rfl)) (hw _ (List.mem_of_getElem? (i := 3) rfl)) e0 (g := (mkF m 45 #[.val (.int p0_), .val (.int p1_), .val (.int p2_), .val (.int (0 : Int32)), .val (.int m_), .unset, .unset, .unset, .unset, .unset, .unset] [])) rfl (hb hby at_45) (by decide) (by decide)
  obtain ⟨b1, g1⟩ : ∃ z, z = h0.size := ⟨_, rfl⟩
  rw [← g1] at A1 D1 st1
  have lo_b1 : h0.size ≤ b1 := Nat.le_of_eq g1.symm
  have sz_b1 : h0.size ≤ b1 := Nat.le_trans (Keep.refl h0 []).1 lo_b1
  have g_b1 : n0 ≤ b1 := Nat.le_trans Z0 sz_b1
  have K1 : Keep h0 h1 [] := (Keep.refl h0 []).ext E1
  have F_maxAttempts_b1_1 : Fld Z h1 b1 "com/example/mersey/mersey/JobTypeSettings" "maxAttempts" "I" (.int (0 : Int32)) := D1 (Or.inl (hw _ (List.mem_of_getElem? (i := 11) rfl))) (ty := .int) (by decide)
  have F_backoff_b1_1 : Fld Z h1 b1 "com/example/mersey/mersey/JobTypeSettings" "backoff" "Lcom/example/mersey/mersey/Backoff;" .null := D1 (Or.inl (hw _ (List.mem_of_getElem? (i := 15) rfl))) (ty := (.object "com/example/mersey/mersey/Backoff")) (by decide)
  have F_longestRunTime_b1_1 : Fld Z h1 b1 "com/example/mersey/mersey/JobTypeSettings" "longestRunTime" "Ljava/time/Duration;" .null := D1 (Or.inl (hw _ (List.mem_of_getElem? (i := 26) rfl))) (ty := (.object "java/time/Duration")) (by decide)
  obtain ⟨_, _, ⟨T2, L2, k2, n2⟩, -, X2, ⟨Lc2, hQ2, l2, y2, z2⟩, st2⟩ := X1.specialBack hx (y := (⟨"com/example/mersey/mersey/JobTypeSettings", "<init>", "()V"⟩ : MethodName)) rfl hown (mvT hZ (hw _ (List.mem_of_getElem? (i := 4) rfl))) (mvT hZ (hw _ (List.mem_of_getElem? (i := 5) rfl))) (mvT hZ (hw _ (List.mem_of_getElem? (i := 6) rfl))) (by decide) (backOf (W := 1) (own_b1_x l Z a0 hw [] b1 (.int (0 : Int32)) w_DEFAULT_BACKOFF .null .null h1 n0 (Nat.le_trans Z0 (own_ext K1).1) A1 F_maxAttempts_b1_1 g_b1 (S_DEFAULT_BACKOFF.ext (own_ext K1)) F_backoff_b1_1 F_longestRunTime_b1_1) hZ (hw _ (List.mem_of_getElem? (i := 6) rfl)) (hw _ (List.mem_of_getElem? (i := 3) rfl)) (by decide) (by decide)) (g := (mkF m 49 #[.val (.int p0_), .val (.int p1_), .val (.int p2_), .val (.int (0 : Int32)), .val (.int m_), .unset, .unset, .unset, .unset, .unset, .unset] [(.ref b1), (.ref b1)])) rfl (by rw [hml]; rfl) (Steps.refl _) (a := b1) (argsL := []) (rest := [(.ref b1)]) (lenOf own_pd0 rfl) rfl (by show 2 * 0 + _ ≤ _; exact Nat.le_of_eq rfl) (hb hby at_49) (fun _ _ => ⟨rfl, e1, (by decide : 1 + 0 ≤ _), (by decide : 3 + 0 ≤ _)⟩)
  dsimp only [Pt.U, Pt.locs, Pt.cells, Pt.slots] at X2 l2 y2 z2 st2 hQ2
  subst l2 y2 z2
  obtain ⟨rfl, N2q, Kq2, Eq2, Fq2_maxAttempts, Fq2_backoff, Fq2_longestRunTime⟩ := hQ2
  have N2 := Fr.app N0 N2q
  have K2 : Keep h0 T2.heap [] := K1.trans Kq2 (fun x hx => by cases List.mem_singleton.mp hx; exact Or.inr sz_b1)
  obtain ⟨cq3, kq3, q3a, q3b, q3c⟩ := isOf hZ rfl Eq2
  obtain ⟨_, _, ⟨T3, L3, k3, n3⟩, -, X3, ⟨Lc3, hQ3, l3, y3, z3⟩, st3⟩ := X2.virtualBack hx (y := (⟨"com/example/mersey/mersey/JobTypeSettings", "withMaxAttempts", "(I)Lcom/example/mersey/mersey/JobTypeSettings;"⟩ : MethodName)) (z := (⟨"com/example/mersey/mersey/JobTypeSettings", "withMaxAttempts", "(I)Lcom/example/mersey/mersey/JobTypeSettings;"⟩ : MethodName)) hown (mvT hZ (hw _ (List.mem_of_getElem? (i := 16) rfl))) (mvT hZ (hw _ (List.mem_of_getElem? (i := 17) rfl))) (notFace_of_selects (args := #[]) (mvT hZ (hw _ (List.mem_of_getElem? (i := 19) rfl)))) (mvT hZ (hw _ (List.mem_of_getElem? (i := 19) rfl))) (mvT hZ (hw _ (List.mem_of_getElem? (i := 18) rfl))) (by decide) (backOf (W := 0) (own_b3_tN l Z a0 hw [] b1 m_ w_DEFAULT_BACKOFF (5 : Int32) w_DEFAULT_BACKOFF T2.heap n0 (Nat.le_trans Z0 (own_ext K2).1) (S_DEFAULT_BACKOFF.ext (own_ext K2)) Fq2_longestRunTime Fq2_maxAttempts Fq2_backoff hf3) hZ (hw _ (List.mem_of_getElem? (i := 20) rfl)) (hw _ (List.mem_of_getElem? (i := 3) rfl)) (by decide) (by decide)) q3a q3c (g := (mkF m 54 #[.val (.int p0_), .val (.int p1_), .val (.int p2_), .val (.int (0 : Int32)), .val (.int m_), .unset, .unset, .unset, .unset, .unset, .unset] [(.int m_), (.ref b1)])) rfl (by rw [hml]; rfl) (Steps.refl _) (argsL := [(.int m_)]) (rest := []) (lenOf own_pd3 rfl) rfl (by show 2 * 0 + _ ≤ _; exact Nat.le_of_eq rfl) (hb hby at_54) (fun _ _ => ⟨rfl, rfl, (by decide : 1 + 1 ≤ _), (by decide : 3 + 3 ≤ _)⟩)
  dsimp only [Pt.U, Pt.locs, Pt.cells, Pt.slots] at X3 l3 y3 z3 st3 hQ3
  subst l3 y3 z3
  obtain ⟨r3, rfl, N3q, Kq3, lo_r3, Eq3, Fq3_maxAttempts, Fq3_backoff, Fq3_longestRunTime⟩ := hQ3
  have N3 := Fr.app N2 N3q
  have ne_b1_r3 : b1 ≠ r3 := Nat.ne_of_lt (Nat.lt_of_lt_of_le Eq2.lt lo_r3)
  have sz_r3 : h0.size ≤ r3 := Nat.le_trans K2.1 lo_r3
  have g_r3 : n0 ≤ r3 := Nat.le_trans Z0 sz_r3
  have E_b1_3 := Eq2.ext (own_ext Kq3)
  have F_maxAttempts_b1_3 := Fq2_maxAttempts.ext (own_ext Kq3)
  have F_backoff_b1_3 := Fq2_backoff.ext (own_ext Kq3)
  have F_longestRunTime_b1_3 := Fq2_longestRunTime.ext (own_ext Kq3)
  have K3 : Keep h0 T3.heap [] := K2.trans Kq3 (fun x hx => by cases hx)
  obtain ⟨cq4, kq4, q4a, q4b, q4c⟩ := isOf hZ rfl Eq3
  obtain ⟨_, _, ⟨T4, L4, k4, n4⟩, -, X4, ⟨Lc4, hQ4, l4, y4, z4⟩, st4⟩ := X3.virtualBack hx (y := (⟨"com/example/mersey/mersey/JobTypeSettings", "isLastAttempt", "(I)Z"⟩ : MethodName)) (z := (⟨"com/example/mersey/mersey/JobTypeSettings", "isLastAttempt", "(I)Z"⟩ : MethodName)) hown (mvT hZ (hw _ (List.mem_of_getElem? (i := 27) rfl))) (mvT hZ (hw _ (List.mem_of_getElem? (i := 28) rfl))) (notFace_of_selects (args := #[]) (mvT hZ (hw _ (List.mem_of_getElem? (i := 30) rfl)))) (mvT hZ (hw _ (List.mem_of_getElem? (i := 30) rfl))) (mvT hZ (hw _ (List.mem_of_getElem? (i := 29) rfl))) (by decide) (backOf (W := 0) (own_b5_t l Z a0 hw [] r3 p2_ m_ T3.heap n0 (Nat.le_trans Z0 (own_ext K3).1) Fq3_maxAttempts hf4) hZ (hw _ (List.mem_of_getElem? (i := 31) rfl)) (hw _ (List.mem_of_getElem? (i := 3) rfl)) (by decide) (by decide)) q4a q4c (g := (mkF m 62 #[.val (.int p0_), .val (.int p1_), .val (.int p2_), .val (.int (0 : Int32)), .val (.int m_), .val (.ref r3), .unset, .unset, .unset, .unset, .unset] [(.int p2_), (.ref r3)])) rfl (by rw [hml]; rfl) (Steps.refl _) (argsL := [(.int p2_)]) (rest := []) (lenOf own_pd1 rfl) rfl (by show 2 * 0 + _ ≤ _; exact Nat.le_of_eq rfl) (hb hby at_62) (fun _ _ => ⟨rfl, rfl, (by decide : 2 + 0 ≤ _), (by decide : 6 + 0 ≤ _)⟩)
  dsimp only [Pt.U, Pt.locs, Pt.cells, Pt.slots] at X4 l4 y4 z4 st4 hQ4
  subst l4 y4 z4
  obtain ⟨rfl, N4q, e4⟩ := hQ4
  have N4 := Fr.app N3 N4q
  obtain ⟨cq5, kq5, q5a, q5b, q5c⟩ := isOf hZ e4 Eq3
  obtain ⟨_, _, ⟨T5, L5, k5, n5⟩, -, X5, ⟨Lc5, hQ5, l5, y5, z5⟩, st5⟩ := X4.virtualBack hx (y := (⟨"com/example/mersey/mersey/JobTypeSettings", "isLastAttempt", "(I)Z"⟩ : MethodName)) (z := (⟨"com/example/mersey/mersey/JobTypeSettings", "isLastAttempt", "(I)Z"⟩ : MethodName)) hown (mvT hZ (hw _ (List.mem_of_getElem? (i := 27) rfl))) (mvT hZ (hw _ (List.mem_of_getElem? (i := 28) rfl))) (notFace_of_selects (args := #[]) (mvT hZ (hw _ (List.mem_of_getElem? (i := 30) rfl)))) (mvT hZ (hw _ (List.mem_of_getElem? (i := 30) rfl))) (mvT hZ (hw _ (List.mem_of_getElem? (i := 29) rfl))) (by decide) (backOf (W := 0) (own_b5_f l Z a0 hw [] r3 m_ m_ T3.heap n0 (Nat.le_trans Z0 (own_ext K3).1) Fq3_maxAttempts hf5) hZ (hw _ (List.mem_of_getElem? (i := 31) rfl)) (hw _ (List.mem_of_getElem? (i := 3) rfl)) (by decide) (by decide)) q5a q5c (g := (mkF m 93 #[.val (.int p0_), .val (.int p1_), .val (.int p2_), .val (.int (0 : Int32)), .val (.int m_), .val (.ref r3), .val (.int (0 : Int32)), .val (.int (0 : Int32)), .unset, .unset, .unset] [(.int m_), (.ref r3)])) rfl (by rw [hml]; rfl) (Steps.refl _) (argsL := [(.int m_)]) (rest := []) (lenOf own_pd1 rfl) rfl (by show 2 * 0 + _ ≤ _; exact Nat.le_of_eq rfl) (hb hby at_93) (fun _ _ => ⟨rfl, e4, (by decide : 2 + 0 ≤ _), (by decide : 6 + 0 ≤ _)⟩)
  dsimp only [Pt.U, Pt.locs, Pt.cells, Pt.slots] at X5 l5 y5 z5 st5 hQ5
  subst l5 y5 z5
  obtain ⟨rfl, N5q, e5⟩ := hQ5
  have N5 := Fr.app N4 N5q
  obtain ⟨cq6, kq6, q6a, q6b, q6c⟩ := isOf hZ e5 Eq3
  obtain ⟨_, _, ⟨T6, L6, k6, n6⟩, -, X6, ⟨Lc6, hQ6, l6, y6, z6⟩, st6⟩ := X5.virtualBack hx (y := (⟨"com/example/mersey/mersey/JobTypeSettings", "isLastAttempt", "(I)Z"⟩ : MethodName)) (z := (⟨"com/example/mersey/mersey/JobTypeSettings", "isLastAttempt", "(I)Z"⟩ : MethodName)) hown (mvT hZ (hw _ (List.mem_of_getElem? (i := 27) rfl))) (mvT hZ (hw _ (List.mem_of_getElem? (i := 28) rfl))) (notFace_of_selects (args := #[]) (mvT hZ (hw _ (List.mem_of_getElem? (i := 30) rfl)))) (mvT hZ (hw _ (List.mem_of_getElem? (i := 30) rfl))) (mvT hZ (hw _ (List.mem_of_getElem? (i := 29) rfl))) (by decide) (backOf (W := 0) (own_b5_t l Z a0 hw [] r3 (l_.toInt32) m_ T3.heap n0 (Nat.le_trans Z0 (own_ext K3).1) Fq3_maxAttempts hf11) hZ (hw _ (List.mem_of_getElem? (i := 31) rfl)) (hw _ (List.mem_of_getElem? (i := 3) rfl)) (by decide) (by decide)) q6a q6c (g := (mkF m 153 #[.val (.int p0_), .val (.int p1_), .val (.int p2_), .val (.int (0 : Int32)), .val (.int m_), .val (.ref r3), .val (.int (0 : Int32)), .val (.int (0 : Int32)), .val (.int f_), .val (.long l_), .second] [(.int (l_.toInt32)), (.ref r3)])) rfl (by rw [hml]; rfl) (Steps.refl _) (argsL := [(.int (l_.toInt32))]) (rest := []) (lenOf own_pd1 rfl) rfl (by show 2 * 0 + _ ≤ _; exact Nat.le_of_eq rfl) (hb hby at_153) (fun _ _ => ⟨rfl, e5, (by decide : 2 + 0 ≤ _), (by decide : 6 + 0 ≤ _)⟩)
  dsimp only [Pt.U, Pt.locs, Pt.cells, Pt.slots] at X6 l6 y6 z6 st6 hQ6
  subst l6 y6 z6
  obtain ⟨rfl, N6q, e6⟩ := hQ6
  have N6 := Fr.app N5 N6q
  obtain ⟨fs, hr, hrun, hended, hW, hsame⟩ := X6.leave (v := some (.int (1 : Int32))) (fun h => by rw [Bd.returns] at h; cases h)
  refine ⟨_, _, pre0 _ ?_, hrun, hended, _, _, rfl, ?_, ⟨_, rfl⟩, hW, hsame.mono (by decide) (by decide)⟩
  · show Steps p.tables e below (s₁.setTop (mkF m 0 #[.val (.int p0_), .val (.int p1_), .val (.int p2_), .unset, .unset, .unset, .unset, .unset, .unset, .unset, .unset] [])) _
    refine XS.iloadN X0.here hx rfl (hb hby at_0) rfl ?_
    refine XS.iconst X0.here hx rfl (hb hby at_1) ?_
    refine XS.iand X0.here hx rfl (hb hby at_2) rfl ?_
    show Steps p.tables e below (s₁.setTop (mkF m 3 #[.val (.int p0_), .val (.int p1_), .val (.int p2_), .unset, .unset, .unset, .unset, .unset, .unset, .unset, .unset] [(.int (p0_ &&& (1 : Int32)))])) _
    rw [hf0]
    refine XS.ifYes X0.here hx rfl (pc0 := 3) (pc' := 10) rfl (hb hby at_3) rfl ((if0 _ _).trans (teq (rfl : (0 : Int32) = (0 : Int32))).1) (by decide) (by decide) ?_
    refine XS.iconst X0.here hx rfl (hb hby at_10) ?_
    refine XS.istoreN X0.here hx rfl (hb hby at_11) rfl (l' := #[.val (.int p0_), .val (.int p1_), .val (.int p2_), .val (.int (0 : Int32)), .unset, .unset, .unset, .unset, .unset, .unset, .unset]) rfl ?_
    show Steps p.tables e below (s₁.setTop (mkF m 12 #[.val (.int p0_), .val (.int p1_), .val (.int p2_), .val (.int (0 : Int32)), .unset, .unset, .unset, .unset, .unset, .unset, .unset] [])) _
    refine XS.iloadN X0.here hx rfl (hb hby at_12) rfl ?_
    show Steps p.tables e below (s₁.setTop (mkF m 13 #[.val (.int p0_), .val (.int p1_), .val (.int p2_), .val (.int (0 : Int32)), .unset, .unset, .unset, .unset, .unset, .unset, .unset] [(.int p1_)])) _
    refine X0.ldcInt hx hown (mvT hZ (hw _ (List.mem_of_getElem? (i := 0) rfl))) (g := (mkF m 13 #[.val (.int p0_), .val (.int p1_), .val (.int p2_), .val (.int (0 : Int32)), .unset, .unset, .unset, .unset, .unset, .unset, .unset] [(.int p1_)])) rfl (hb hby at_13) _ ?_
    refine XS.iand X0.here hx rfl (hb hby at_15) rfl ?_
    show Steps p.tables e below (s₁.setTop (mkF m 16 #[.val (.int p0_), .val (.int p1_), .val (.int p2_), .val (.int (0 : Int32)), .unset, .unset, .unset, .unset, .unset, .unset, .unset] [(.int (p1_ &&& (2147483647 : Int32)))])) _
    rw [hf1]
    refine XS.istore X0.here hx rfl (hb hby at_16) rfl (l' := #[.val (.int p0_), .val (.int p1_), .val (.int p2_), .val (.int (0 : Int32)), .val (.int m_), .unset, .unset, .unset, .unset, .unset, .unset]) rfl ?_
    refine XS.iload X0.here hx rfl (hb hby at_18) rfl ?_
    refine XS.ifYes X0.here hx rfl (pc0 := 20) (pc' := 26) rfl (hb hby at_20) rfl ((if0 _ _).trans (feq hf2).2) (by decide) (by decide) ?_
    show Steps p.tables e below (s₁.setTop (mkF m 26 #[.val (.int p0_), .val (.int p1_), .val (.int p2_), .val (.int (0 : Int32)), .val (.int m_), .unset, .unset, .unset, .unset, .unset, .unset] [])) _
    refine XS.iloadN X0.here hx rfl (hb hby at_26) rfl ?_
    refine XS.ifYes X0.here hx rfl (pc0 := 27) (pc' := 45) rfl (hb hby at_27) rfl ((if0 _ _).trans (teq (rfl : (0 : Int32) = (0 : Int32))).1) (by decide) (by decide) ?_
    show Steps p.tables e below (s₁.setTop (mkF m 45 #[.val (.int p0_), .val (.int p1_), .val (.int p2_), .val (.int (0 : Int32)), .val (.int m_), .unset, .unset, .unset, .unset, .unset, .unset] [])) _
    refine st1 _ ?_
    refine XS.dup X1.here hx rfl (hb hby at_48) rfl rfl ?_
    show Steps p.tables e below (T1.setTop (mkF m 49 #[.val (.int p0_), .val (.int p1_), .val (.int p2_), .val (.int (0 : Int32)), .val (.int m_), .unset, .unset, .unset, .unset, .unset, .unset] [(.ref b1), (.ref b1)])) _
    refine st2.trans ?_
    refine XS.iload X2.here hx rfl (hb hby at_52) rfl ?_
    show Steps p.tables e below (T2.setTop (mkF m 54 #[.val (.int p0_), .val (.int p1_), .val (.int p2_), .val (.int (0 : Int32)), .val (.int m_), .unset, .unset, .unset, .unset, .unset, .unset] [(.int m_), (.ref b1)])) _
    refine st3.trans ?_
    refine XS.astore X3.here hx rfl (hb hby at_57) rfl rfl (l' := #[.val (.int p0_), .val (.int p1_), .val (.int p2_), .val (.int (0 : Int32)), .val (.int m_), .val (.ref r3), .unset, .unset, .unset, .unset, .unset]) rfl ?_
    refine XS.aload X3.here hx rfl (hb hby at_59) rfl rfl ?_
    refine XS.iloadN X3.here hx rfl (hb hby at_61) rfl ?_
    show Steps p.tables e below (T3.setTop (mkF m 62 #[.val (.int p0_), .val (.int p1_), .val (.int p2_), .val (.int (0 : Int32)), .val (.int m_), .val (.ref r3), .unset, .unset, .unset, .unset, .unset] [(.int p2_), (.ref r3)])) _
    refine st4.trans ?_
    refine XS.istore X4.here hx rfl (hb hby at_65) rfl (l' := #[.val (.int p0_), .val (.int p1_), .val (.int p2_), .val (.int (0 : Int32)), .val (.int m_), .val (.ref r3), .val (.int (0 : Int32)), .unset, .unset, .unset, .unset]) rfl ?_
    refine XS.iloadN X4.here hx rfl (hb hby at_67) rfl ?_
    refine XS.iload X4.here hx rfl (hb hby at_68) rfl ?_
    show Steps p.tables e below (T4.setTop (mkF m 70 #[.val (.int p0_), .val (.int p1_), .val (.int p2_), .val (.int (0 : Int32)), .val (.int m_), .val (.ref r3), .val (.int (0 : Int32)), .unset, .unset, .unset, .unset] [(.int m_), (.int p2_)])) _
    refine XS.icmpYes X4.here hx rfl (pc0 := 70) (pc' := 77) rfl (hb hby at_70) rfl (tlt hf4).1 (by decide) (by decide) ?_
    refine XS.iconst X4.here hx rfl (hb hby at_77) ?_
    refine XS.istore X4.here hx rfl (hb hby at_78) rfl (l' := #[.val (.int p0_), .val (.int p1_), .val (.int p2_), .val (.int (0 : Int32)), .val (.int m_), .val (.ref r3), .val (.int (0 : Int32)), .val (.int (0 : Int32)), .unset, .unset, .unset]) rfl ?_
    refine XS.iload X4.here hx rfl (hb hby at_80) rfl ?_
    show Steps p.tables e below (T4.setTop (mkF m 82 #[.val (.int p0_), .val (.int p1_), .val (.int p2_), .val (.int (0 : Int32)), .val (.int m_), .val (.ref r3), .val (.int (0 : Int32)), .val (.int (0 : Int32)), .unset, .unset, .unset] [(.int (0 : Int32))])) _
    refine XS.iload X4.here hx rfl (hb hby at_82) rfl ?_
    refine XS.icmpYes X4.here hx rfl (pc0 := 84) (pc' := 89) rfl (hb hby at_84) rfl (teq (rfl : (0 : Int32) = (0 : Int32))).1 (by decide) (by decide) ?_
    refine XS.aload X4.here hx rfl (hb hby at_89) rfl rfl ?_
    refine XS.iload X4.here hx rfl (hb hby at_91) rfl ?_
    show Steps p.tables e below (T4.setTop (mkF m 93 #[.val (.int p0_), .val (.int p1_), .val (.int p2_), .val (.int (0 : Int32)), .val (.int m_), .val (.ref r3), .val (.int (0 : Int32)), .val (.int (0 : Int32)), .unset, .unset, .unset] [(.int m_), (.ref r3)])) _
    refine st5.trans ?_
    refine XS.ifYes X5.here hx rfl (pc0 := 96) (pc' := 101) rfl (hb hby at_96) rfl ((if0 _ _).trans (feq (by decide : ¬ ((1 : Int32) = (0 : Int32)))).2) (by decide) (by decide) ?_
    refine XS.iload X5.here hx rfl (hb hby at_101) rfl ?_
    refine XS.iconst X5.here hx rfl (hb hby at_103) ?_
    show Steps p.tables e below (T5.setTop (mkF m 104 #[.val (.int p0_), .val (.int p1_), .val (.int p2_), .val (.int (0 : Int32)), .val (.int m_), .val (.ref r3), .val (.int (0 : Int32)), .val (.int (0 : Int32)), .unset, .unset, .unset] [(.int (1 : Int32)), (.int m_)])) _
    refine XS.icmpYes X5.here hx rfl (pc0 := 104) (pc' := 121) rfl (hb hby at_104) rfl (flt hf6).2.2.2 (by decide) (by decide) ?_
    refine XS.iloadN X5.here hx rfl (hb hby at_121) rfl ?_
    refine XS.iconst X5.here hx rfl (hb hby at_122) ?_
    refine XS.iushr X5.here hx rfl (hb hby at_123) rfl ?_
    show Steps p.tables e below (T5.setTop (mkF m 124 #[.val (.int p0_), .val (.int p1_), .val (.int p2_), .val (.int (0 : Int32)), .val (.int m_), .val (.ref r3), .val (.int (0 : Int32)), .val (.int (0 : Int32)), .unset, .unset, .unset] [(.int ((p0_.toUInt32 >>> ((1 : Int32) &&& 31).toUInt32).toInt32))])) _
    refine XS.iconst X5.here hx rfl (hb hby at_124) ?_
    show Steps p.tables e below (T5.setTop (mkF m 125 #[.val (.int p0_), .val (.int p1_), .val (.int p2_), .val (.int (0 : Int32)), .val (.int m_), .val (.ref r3), .val (.int (0 : Int32)), .val (.int (0 : Int32)), .unset, .unset, .unset] [(.int (5 : Int32)), (.int ((p0_.toUInt32 >>> ((1 : Int32) &&& 31).toUInt32).toInt32))])) _
    refine iremM X5 hx rfl (hb hby at_125) rfl (by decide) ?_
    show Steps p.tables e below (T5.setTop (mkF m 126 #[.val (.int p0_), .val (.int p1_), .val (.int p2_), .val (.int (0 : Int32)), .val (.int m_), .val (.ref r3), .val (.int (0 : Int32)), .val (.int (0 : Int32)), .unset, .unset, .unset] [(.int (((p0_.toUInt32 >>> ((1 : Int32) &&& 31).toUInt32).toInt32) % (5 : Int32)))])) _
    rw [hf7]
    refine XS.iconst X5.here hx rfl (hb hby at_126) ?_
    refine XS.isub X5.here hx rfl (hb hby at_127) rfl ?_
    show Steps p.tables e below (T5.setTop (mkF m 128 #[.val (.int p0_), .val (.int p1_), .val (.int p2_), .val (.int (0 : Int32)), .val (.int m_), .val (.ref r3), .val (.int (0 : Int32)), .val (.int (0 : Int32)), .unset, .unset, .unset] [(.int (o_ - (2 : Int32)))])) _
    rw [hf8]
    refine XS.istore X5.here hx rfl (hb hby at_128) rfl (l' := #[.val (.int p0_), .val (.int p1_), .val (.int p2_), .val (.int (0 : Int32)), .val (.int m_), .val (.ref r3), .val (.int (0 : Int32)), .val (.int (0 : Int32)), .val (.int f_), .unset, .unset]) rfl ?_
    refine XS.iload X5.here hx rfl (hb hby at_130) rfl ?_
    refine XS.i2l X5.here hx rfl (hb hby at_132) rfl ?_
    show Steps p.tables e below (T5.setTop (mkF m 133 #[.val (.int p0_), .val (.int p1_), .val (.int p2_), .val (.int (0 : Int32)), .val (.int m_), .val (.ref r3), .val (.int (0 : Int32)), .val (.int (0 : Int32)), .val (.int f_), .unset, .unset] [(.long (m_.toInt64))])) _
    refine XS.iload X5.here hx rfl (hb hby at_133) rfl ?_
    refine XS.i2l X5.here hx rfl (hb hby at_135) rfl ?_
    refine XS.ladd X5.here hx rfl (hb hby at_136) rfl ?_
    show Steps p.tables e below (T5.setTop (mkF m 137 #[.val (.int p0_), .val (.int p1_), .val (.int p2_), .val (.int (0 : Int32)), .val (.int m_), .val (.ref r3), .val (.int (0 : Int32)), .val (.int (0 : Int32)), .val (.int f_), .unset, .unset] [(.long ((m_.toInt64) + (f_.toInt64)))])) _
    rw [hf9]
    refine XS.lstore X5.here hx rfl (hb hby at_137) rfl (l' := #[.val (.int p0_), .val (.int p1_), .val (.int p2_), .val (.int (0 : Int32)), .val (.int m_), .val (.ref r3), .val (.int (0 : Int32)), .val (.int (0 : Int32)), .val (.int f_), .val (.long l_), .second]) rfl ?_
    refine XS.lload X5.here hx rfl (hb hby at_139) rfl ?_
    show Steps p.tables e below (T5.setTop (mkF m 141 #[.val (.int p0_), .val (.int p1_), .val (.int p2_), .val (.int (0 : Int32)), .val (.int m_), .val (.ref r3), .val (.int (0 : Int32)), .val (.int (0 : Int32)), .val (.int f_), .val (.long l_), .second] [(.long l_)])) _
    refine X5.ldc2Long hx hown (mvT hZ (hw _ (List.mem_of_getElem? (i := 32) rfl))) (g := (mkF m 141 #[.val (.int p0_), .val (.int p1_), .val (.int p2_), .val (.int (0 : Int32)), .val (.int m_), .val (.ref r3), .val (.int (0 : Int32)), .val (.int (0 : Int32)), .val (.int f_), .val (.long l_), .second] [(.long l_)])) rfl (hb hby at_141) _ ?_
    refine XS.lcmp X5.here hx rfl (hb hby at_144) rfl ?_
    refine XS.ifNo X5.here hx rfl (hb hby at_145) rfl ((if0 _ _).trans (flt hf10).2.2.1) ?_
    refine XS.aload X5.here hx rfl (hb hby at_148) rfl rfl ?_
    show Steps p.tables e below (T5.setTop (mkF m 150 #[.val (.int p0_), .val (.int p1_), .val (.int p2_), .val (.int (0 : Int32)), .val (.int m_), .val (.ref r3), .val (.int (0 : Int32)), .val (.int (0 : Int32)), .val (.int f_), .val (.long l_), .second] [(.ref r3)])) _
    refine XS.lload X5.here hx rfl (hb hby at_150) rfl ?_
    refine XS.l2i X5.here hx rfl (hb hby at_152) rfl ?_
    show Steps p.tables e below (T5.setTop (mkF m 153 #[.val (.int p0_), .val (.int p1_), .val (.int p2_), .val (.int (0 : Int32)), .val (.int m_), .val (.ref r3), .val (.int (0 : Int32)), .val (.int (0 : Int32)), .val (.int f_), .val (.long l_), .second] [(.int (l_.toInt32)), (.ref r3)])) _
    refine st6.trans ?_
    refine XS.iload X6.here hx rfl (hb hby at_156) rfl ?_
    refine XS.ifYes X6.here hx rfl (pc0 := 158) (pc' := 165) rfl (hb hby at_158) rfl ((if0 _ _).trans (tlt hf12).1) (by decide) (by decide) ?_
    refine XS.iconst X6.here hx rfl (hb hby at_165) ?_
    show Steps p.tables e below (T6.setTop (mkF m 166 #[.val (.int p0_), .val (.int p1_), .val (.int p2_), .val (.int (0 : Int32)), .val (.int m_), .val (.ref r3), .val (.int (0 : Int32)), .val (.int (0 : Int32)), .val (.int f_), .val (.long l_), .second] [(.int (0 : Int32)), (.int (0 : Int32))])) _
    refine XS.icmpYes X6.here hx rfl (pc0 := 166) (pc' := 171) rfl (hb hby at_166) rfl (teq (rfl : (0 : Int32) = (0 : Int32))).1 (by decide) (by decide) ?_
    refine XS.iconst X6.here hx rfl (hb hby at_171) ?_
    show Steps p.tables e below (T6.setTop (mkF m 172 #[.val (.int p0_), .val (.int p1_), .val (.int p2_), .val (.int (0 : Int32)), .val (.int m_), .val (.ref r3), .val (.int (0 : Int32)), .val (.int (0 : Int32)), .val (.int f_), .val (.long l_), .second] [(.int (1 : Int32))])) _
    exact retN X6 hx (t := .boolean) Bd.returns (by simp) (hb hby at_172) hr
  · show own_QL n0 _ T6.heap _
    exact ⟨rfl, N6⟩
set_option maxRecDepth 65536 in
set_option maxHeartbeats 40000000 in
theorem own_law_V1lg (l : Launch) (Z : State) (a0 : Array Value) (hw : ∀ d ∈ tables_1, d.before a0 Z = true) (ws : List Jvm.Cond) (p0_ : Int32) (p1_ : Int32) (p2_ : Int32) (m_ : Int32) (w_DEFAULT_BACKOFF : Addr) (o_ : Int32) (f_ : Int32) (l_ : Int64) (h0 : Heap) (n0 : Nat) (Z0 : n0 ≤ h0.size) (S_DEFAULT_BACKOFF : Sta Z h0 "com/example/mersey/mersey/JobTypeSettings" "DEFAULT_BACKOFF" "Lcom/example/mersey/mersey/Backoff;" (.ref w_DEFAULT_BACKOFF)) (hf0 : (p0_ &&& (1 : Int32)) = (0 : Int32)) (hf1 : (p1_ &&& (2147483647 : Int32)) = m_) (hf2 : ¬ (m_ = (0 : Int32))) (hf3 : ¬ (m_ < (1 : Int32))) (hf4 : p2_ < m_) (hf5 : ¬ (m_ < m_)) (hf6 : ¬ ((1 : Int32) < m_)) (hf7 : (((p0_.toUInt32 >>> ((1 : Int32) &&& 31).toUInt32).toInt32) % (5 : Int32)) = o_) (hf8 : (o_ - (2 : Int32)) = f_) (hf9 : ((m_.toInt64) + (f_.toInt64)) = l_) (hf10 : ¬ ((0 : Int32) < (lcmpW l_ (2147483647 : Int64)))) (hf11 : ¬ ((l_.toInt32) < m_)) (hf12 : ¬ (f_ < (0 : Int32))) :
    MetFree l x (head1 (Jvm.Cond.code x code maxLocals ret :: ws) room_1) (fun a U => a = #[(.int p0_), (.int p1_), (.int p2_)] ∧ Z.Warmed39 U.vm ∧ U.heap = h0) (fun _ _ _ _ _ => True) (fun _ U o U' => ∃ v L, o = .returned v ∧ own_QL n0 v U'.heap L ∧ FrameEnd U o U' L room_1.cells room_1.slots) := by
  refine MetFree.of_bodySF (plainFor_of_name own_pn1) hisR ?_
  intro p e s m args below meth c s₁ Bd hml0 hP hK
  obtain ⟨rfl, hZ, hh⟩ := hP
  have hx := Bd.exec
  have hby := Bd.bytes
  have hml : c.maxLocals = 11 := hml0
  have hown : s.vm.findClass "com/example/mersey/mersey/JobTypeSettingsIsLastAttemptPinLaw" = some m.cls := findClass_of_methodNamed Bd.named
  have hnm := (name_of_methodNamed Bd.named Bd.method).1
  have X0 : Stand p l e room_1 s m #[(.int p0_), (.int p1_), (.int p2_)] below meth c s₁ [] 0 0 := Stand.of_body Bd
  have e0 : s₁.heap = h0 := by rw [← hh, Bd.state]; rfl
  have N0 := Fr.nil n0
  have pre0 : ∀ t, Steps p.tables e below (s₁.setTop (mkF m 0 #[.val (.int p0_), .val (.int p1_), .val (.int p2_), .unset, .unset, .unset, .unset, .unset, .unset, .unset, .unset] [])) t → Steps p.tables e below (s₁.setTop (entryFrame m #[(.int p0_), (.int p1_), (.int p2_)] maxLocals)) t := fun t k => castTop (own_ef2 m p0_ p1_ p2_) k
  obtain ⟨T1, h1, X1, e1, E1, A1, D1, -, st1⟩ := newO X0 hx hZ hown (hw _ (List.mem_of_getElem? (i := 1) rfl)) (hw _ (List.mem_of_getElem? (i := 2) rfl)) (hw _ (List.mem_of_getElem? (i := 3) rfl)) e0 (g := (mkF m 45 #[.val (.int p0_), .val (.int p1_), .val (.int p2_), .val (.int (0 : Int32)), .val (.int m_), .unset, .unset, .unset, .unset, .unset, .unset] [])) rfl (hb hby at_45) (by decide) (by decide)
  obtain ⟨b1, g1⟩ : ∃ z, z = h0.size := ⟨_, rfl⟩
  rw [← g1] at A1 D1 st1
  have lo_b1 : h0.size ≤ b1 := Nat.le_of_eq g1.symm
  have sz_b1 : h0.size ≤ b1 := Nat.le_trans (Keep.refl h0 []).1 lo_b1
  have g_b1 : n0 ≤ b1 := Nat.le_trans Z0 sz_b1
  have K1 : Keep h0 h1 [] := (Keep.refl h0 []).ext E1
  have F_maxAttempts_b1_1 : Fld Z h1 b1 "com/example/mersey/mersey/JobTypeSettings" "maxAttempts" "I" (.int (0 : Int32)) := D1 (Or.inl (hw _ (List.mem_of_getElem? (i := 11) rfl))) (ty := .int) (by decide)
  have F_backoff_b1_1 : Fld Z h1 b1 "com/example/mersey/mersey/JobTypeSettings" "backoff" "Lcom/example/mersey/mersey/Backoff;" .null := D1 (Or.inl (hw _ (List.mem_of_getElem? (i := 15) rfl))) (ty := (.object "com/example/mersey/mersey/Backoff")) (by decide)
  have F_longestRunTime_b1_1 : Fld Z h1 b1 "com/example/mersey/mersey/JobTypeSettings" "longestRunTime" "Ljava/time/Duration;" .null := D1 (Or.inl (hw _ (List.mem_of_getElem? (i := 26) rfl))) (ty := (.object "java/time/Duration")) (by decide)
  obtain ⟨_, _, ⟨T2, L2, k2, n2⟩, -, X2, ⟨Lc2, hQ2, l2, y2, z2⟩, st2⟩ := X1.specialBack hx (y := (⟨"com/example/mersey/mersey/JobTypeSettings", "<init>", "()V"⟩ : MethodName)) rfl hown (mvT hZ (hw _ (List.mem_of_getElem? (i := 4) rfl))) (mvT hZ (hw _ (List.mem_of_getElem? (i := 5) rfl))) (mvT hZ (hw _ (List.mem_of_getElem? (i := 6) rfl))) (by decide) (backOf (W := 1) (own_b1_x l Z a0 hw [] b1 (.int (0 : Int32)) w_DEFAULT_BACKOFF .null .null h1 n0 (Nat.le_trans Z0 (own_ext K1).1) A1 F_maxAttempts_b1_1 g_b1 (S_DEFAULT_BACKOFF.ext (own_ext K1)) F_backoff_b1_1 F_longestRunTime_b1_1) hZ (hw _ (List.mem_of_getElem? (i := 6) rfl)) (hw _ (List.mem_of_getElem? (i := 3) rfl)) (by decide) (by decide)) (g := (mkF m 49 #[.val (.int p0_), .val (.int p1_), .val (.int p2_), .val (.int (0 : Int32)), .val (.int m_), .unset, .unset, .unset, .unset, .unset, .unset] [(.ref b1), (.ref b1)])) rfl (by rw [hml]; rfl) (Steps.refl _) (a := b1) (argsL := []) (rest := [(.ref b1)]) (lenOf own_pd0 rfl) rfl (by show 2 * 0 + _ ≤ _; exact Nat.le_of_eq rfl) (hb hby at_49) (fun _ _ => ⟨rfl, e1, (by decide : 1 + 0 ≤ _), (by decide : 3 + 0 ≤ _)⟩)
  dsimp only [Pt.U, Pt.locs, Pt.cells, Pt.slots] at X2 l2 y2 z2 st2 hQ2
  subst l2 y2 z2
  obtain ⟨rfl, N2q, Kq2, Eq2, Fq2_maxAttempts, Fq2_backoff, Fq2_longestRunTime⟩ := hQ2
  have N2 := Fr.app N0 N2q
  have K2 : Keep h0 T2.heap [] := K1.trans Kq2 (fun x hx => by cases List.mem_singleton.mp hx; exact Or.inr sz_b1)
  obtain ⟨cq3, kq3, q3a, q3b, q3c⟩ := isOf hZ rfl Eq2
  obtain ⟨_, _, ⟨T3, L3, k3, n3⟩, -, X3, ⟨Lc3, hQ3, l3, y3, z3⟩, st3⟩ := X2.virtualBack hx (y := (⟨"com/example/mersey/mersey/JobTypeSettings", "withMaxAttempts", "(I)Lcom/example/mersey/mersey/JobTypeSettings;"⟩ : MethodName)) (z := (⟨"com/example/mersey/mersey/JobTypeSettings", "withMaxAttempts", "(I)Lcom/example/mersey/mersey/JobTypeSettings;"⟩ : MethodName)) hown (mvT hZ (hw _ (List.mem_of_getElem? (i := 16) rfl))) (mvT hZ (hw _ (List.mem_of_getElem? (i := 17) rfl))) (notFace_of_selects (args := #[]) (mvT hZ (hw _ (List.mem_of_getElem? (i := 19) rfl)))) (mvT hZ (hw _ (List.mem_of_getElem? (i := 19) rfl))) (mvT hZ (hw _ (List.mem_of_getElem? (i := 18) rfl))) (by decide) (backOf (W := 0) (own_b3_tN l Z a0 hw [] b1 m_ w_DEFAULT_BACKOFF (5 : Int32) w_DEFAULT_BACKOFF T2.heap n0 (Nat.le_trans Z0 (own_ext K2).1) (S_DEFAULT_BACKOFF.ext (own_ext K2)) Fq2_longestRunTime Fq2_maxAttempts Fq2_backoff hf3) hZ (hw _ (List.mem_of_getElem? (i := 20) rfl)) (hw _ (List.mem_of_getElem? (i := 3) rfl)) (by decide) (by decide)) q3a q3c (g := (mkF m 54 #[.val (.int p0_), .val (.int p1_), .val (.int p2_), .val (.int (0 : Int32)), .val (.int m_), .unset, .unset, .unset, .unset, .unset, .unset] [(.int m_), (.ref b1)])) rfl (by rw [hml]; rfl) (Steps.refl _) (argsL := [(.int m_)]) (rest := []) (lenOf own_pd3 rfl) rfl (by show 2 * 0 + _ ≤ _; exact Nat.le_of_eq rfl) (hb hby at_54) (fun _ _ => ⟨rfl, rfl, (by decide : 1 + 1 ≤ _), (by decide : 3 + 3 ≤ _)⟩)
  dsimp only [Pt.U, Pt.locs, Pt.cells, Pt.slots] at X3 l3 y3 z3 st3 hQ3
  subst l3 y3 z3
  obtain ⟨r3, rfl, N3q, Kq3, lo_r3, Eq3, Fq3_maxAttempts, Fq3_backoff, Fq3_longestRunTime⟩ := hQ3
  have N3 := Fr.app N2 N3q
  have ne_b1_r3 : b1 ≠ r3 := Nat.ne_of_lt (Nat.lt_of_lt_of_le Eq2.lt lo_r3)
  have sz_r3 : h0.size ≤ r3 := Nat.le_trans K2.1 lo_r3
  have g_r3 : n0 ≤ r3 := Nat.le_trans Z0 sz_r3
  have E_b1_3 := Eq2.ext (own_ext Kq3)
  have F_maxAttempts_b1_3 := Fq2_maxAttempts.ext (own_ext Kq3)
  have F_backoff_b1_3 := Fq2_backoff.ext (own_ext Kq3)
  have F_longestRunTime_b1_3 := Fq2_longestRunTime.ext (own_ext Kq3)
  have K3 : Keep h0 T3.heap [] := K2.trans Kq3 (fun x hx => by cases hx)
  obtain ⟨cq4, kq4, q4a, q4b, q4c⟩ := isOf hZ rfl Eq3
  obtain ⟨_, _, ⟨T4, L4, k4, n4⟩, -, X4, ⟨Lc4, hQ4, l4, y4, z4⟩, st4⟩ := X3.virtualBack hx (y := (⟨"com/example/mersey/mersey/JobTypeSettings", "isLastAttempt", "(I)Z"⟩ : MethodName)) (z := (⟨"com/example/mersey/mersey/JobTypeSettings", "isLastAttempt", "(I)Z"⟩ : MethodName)) hown (mvT hZ (hw _ (List.mem_of_getElem? (i := 27) rfl))) (mvT hZ (hw _ (List.mem_of_getElem? (i := 28) rfl))) (notFace_of_selects (args := #[]) (mvT hZ (hw _ (List.mem_of_getElem? (i := 30) rfl)))) (mvT hZ (hw _ (List.mem_of_getElem? (i := 30) rfl))) (mvT hZ (hw _ (List.mem_of_getElem? (i := 29) rfl))) (by decide) (backOf (W := 0) (own_b5_t l Z a0 hw [] r3 p2_ m_ T3.heap n0 (Nat.le_trans Z0 (own_ext K3).1) Fq3_maxAttempts hf4) hZ (hw _ (List.mem_of_getElem? (i := 31) rfl)) (hw _ (List.mem_of_getElem? (i := 3) rfl)) (by decide) (by decide)) q4a q4c (g := (mkF m 62 #[.val (.int p0_), .val (.int p1_), .val (.int p2_), .val (.int (0 : Int32)), .val (.int m_), .val (.ref r3), .unset, .unset, .unset, .unset, .unset] [(.int p2_), (.ref r3)])) rfl (by rw [hml]; rfl) (Steps.refl _) (argsL := [(.int p2_)]) (rest := []) (lenOf own_pd1 rfl) rfl (by show 2 * 0 + _ ≤ _; exact Nat.le_of_eq rfl) (hb hby at_62) (fun _ _ => ⟨rfl, rfl, (by decide : 2 + 0 ≤ _), (by decide : 6 + 0 ≤ _)⟩)
  dsimp only [Pt.U, Pt.locs, Pt.cells, Pt.slots] at X4 l4 y4 z4 st4 hQ4
  subst l4 y4 z4
  obtain ⟨rfl, N4q, e4⟩ := hQ4
  have N4 := Fr.app N3 N4q
  obtain ⟨cq5, kq5, q5a, q5b, q5c⟩ := isOf hZ e4 Eq3
  obtain ⟨_, _, ⟨T5, L5, k5, n5⟩, -, X5, ⟨Lc5, hQ5, l5, y5, z5⟩, st5⟩ := X4.virtualBack hx (y := (⟨"com/example/mersey/mersey/JobTypeSettings", "isLastAttempt", "(I)Z"⟩ : MethodName)) (z := (⟨"com/example/mersey/mersey/JobTypeSettings", "isLastAttempt", "(I)Z"⟩ : MethodName)) hown (mvT hZ (hw _ (List.mem_of_getElem? (i := 27) rfl))) (mvT hZ (hw _ (List.mem_of_getElem? (i := 28) rfl))) (notFace_of_selects (args := #[]) (mvT hZ (hw _ (List.mem_of_getElem? (i := 30) rfl)))) (mvT hZ (hw _ (List.mem_of_getElem? (i := 30) rfl))) (mvT hZ (hw _ (List.mem_of_getElem? (i := 29) rfl))) (by decide) (backOf (W := 0) (own_b5_f l Z a0 hw [] r3 m_ m_ T3.heap n0 (Nat.le_trans Z0 (own_ext K3).1) Fq3_maxAttempts hf5) hZ (hw _ (List.mem_of_getElem? (i := 31) rfl)) (hw _ (List.mem_of_getElem? (i := 3) rfl)) (by decide) (by decide)) q5a q5c (g := (mkF m 93 #[.val (.int p0_), .val (.int p1_), .val (.int p2_), .val (.int (0 : Int32)), .val (.int m_), .val (.ref r3), .val (.int (0 : Int32)), .val (.int (0 : Int32)), .unset, .unset, .unset] [(.int m_), (.ref r3)])) rfl (by rw [hml]; rfl) (Steps.refl _) (argsL := [(.int m_)]) (rest := []) (lenOf own_pd1 rfl) rfl (by show 2 * 0 + _ ≤ _; exact Nat.le_of_eq rfl) (hb hby at_93) (fun _ _ => ⟨rfl, e4, (by decide : 2 + 0 ≤ _), (by decide : 6 + 0 ≤ _)⟩)
  dsimp only [Pt.U, Pt.locs, Pt.cells, Pt.slots] at X5 l5 y5 z5 st5 hQ5
  subst l5 y5 z5
  obtain ⟨rfl, N5q, e5⟩ := hQ5
  have N5 := Fr.app N4 N5q
  obtain ⟨cq6, kq6, q6a, q6b, q6c⟩ := isOf hZ e5 Eq3
  obtain ⟨_, _, ⟨T6, L6, k6, n6⟩, -, X6, ⟨Lc6, hQ6, l6, y6, z6⟩, st6⟩ := X5.virtualBack hx (y := (⟨"com/example/mersey/mersey/JobTypeSettings", "isLastAttempt", "(I)Z"⟩ : MethodName)) (z := (⟨"com/example/mersey/mersey/JobTypeSettings", "isLastAttempt", "(I)Z"⟩ : MethodName)) hown (mvT hZ (hw _ (List.mem_of_getElem? (i := 27) rfl))) (mvT hZ (hw _ (List.mem_of_getElem? (i := 28) rfl))) (notFace_of_selects (args := #[]) (mvT hZ (hw _ (List.mem_of_getElem? (i := 30) rfl)))) (mvT hZ (hw _ (List.mem_of_getElem? (i := 30) rfl))) (mvT hZ (hw _ (List.mem_of_getElem? (i := 29) rfl))) (by decide) (backOf (W := 0) (own_b5_f l Z a0 hw [] r3 (l_.toInt32) m_ T3.heap n0 (Nat.le_trans Z0 (own_ext K3).1) Fq3_maxAttempts hf11) hZ (hw _ (List.mem_of_getElem? (i := 31) rfl)) (hw _ (List.mem_of_getElem? (i := 3) rfl)) (by decide) (by decide)) q6a q6c (g := (mkF m 153 #[.val (.int p0_), .val (.int p1_), .val (.int p2_), .val (.int (0 : Int32)), .val (.int m_), .val (.ref r3), .val (.int (0 : Int32)), .val (.int (0 : Int32)), .val (.int f_), .val (.long l_), .second] [(.int (l_.toInt32)), (.ref r3)])) rfl (by rw [hml]; rfl) (Steps.refl _) (argsL := [(.int (l_.toInt32))]) (rest := []) (lenOf own_pd1 rfl) rfl (by show 2 * 0 + _ ≤ _; exact Nat.le_of_eq rfl) (hb hby at_153) (fun _ _ => ⟨rfl, e5, (by decide : 2 + 0 ≤ _), (by decide : 6 + 0 ≤ _)⟩)
  dsimp only [Pt.U, Pt.locs, Pt.cells, Pt.slots] at X6 l6 y6 z6 st6 hQ6
  subst l6 y6 z6
  obtain ⟨rfl, N6q, e6⟩ := hQ6
  have N6 := Fr.app N5 N6q
  obtain ⟨fs, hr, hrun, hended, hW, hsame⟩ := X6.leave (v := some (.int (1 : Int32))) (fun h => by rw [Bd.returns] at h; cases h)
  refine ⟨_, _, pre0 _ ?_, hrun, hended, _, _, rfl, ?_, ⟨_, rfl⟩, hW, hsame.mono (by decide) (by decide)⟩
  · show Steps p.tables e below (s₁.setTop (mkF m 0 #[.val (.int p0_), .val (.int p1_), .val (.int p2_), .unset, .unset, .unset, .unset, .unset, .unset, .unset, .unset] [])) _
    refine XS.iloadN X0.here hx rfl (hb hby at_0) rfl ?_
    refine XS.iconst X0.here hx rfl (hb hby at_1) ?_
    refine XS.iand X0.here hx rfl (hb hby at_2) rfl ?_
    show Steps p.tables e below (s₁.setTop (mkF m 3 #[.val (.int p0_), .val (.int p1_), .val (.int p2_), .unset, .unset, .unset, .unset, .unset, .unset, .unset, .unset] [(.int (p0_ &&& (1 : Int32)))])) _
    rw [hf0]
    refine XS.ifYes X0.here hx rfl (pc0 := 3) (pc' := 10) rfl (hb hby at_3) rfl ((if0 _ _).trans (teq (rfl : (0 : Int32) = (0 : Int32))).1) (by decide) (by decide) ?_
    refine XS.iconst X0.here hx rfl (hb hby at_10) ?_
    refine XS.istoreN X0.here hx rfl (hb hby at_11) rfl (l' := #[.val (.int p0_), .val (.int p1_), .val (.int p2_), .val (.int (0 : Int32)), .unset, .unset, .unset, .unset, .unset, .unset, .unset]) rfl ?_
    show Steps p.tables e below (s₁.setTop (mkF m 12 #[.val (.int p0_), .val (.int p1_), .val (.int p2_), .val (.int (0 : Int32)), .unset, .unset, .unset, .unset, .unset, .unset, .unset] [])) _
    refine XS.iloadN X0.here hx rfl (hb hby at_12) rfl ?_
    show Steps p.tables e below (s₁.setTop (mkF m 13 #[.val (.int p0_), .val (.int p1_), .val (.int p2_), .val (.int (0 : Int32)), .unset, .unset, .unset, .unset, .unset, .unset, .unset] [(.int p1_)])) _
    refine X0.ldcInt hx hown (mvT hZ (hw _ (List.mem_of_getElem? (i := 0) rfl))) (g := (mkF m 13 #[.val (.int p0_), .val (.int p1_), .val (.int p2_), .val (.int (0 : Int32)), .unset, .unset, .unset, .unset, .unset, .unset, .unset] [(.int p1_)])) rfl (hb hby at_13) _ ?_
    refine XS.iand X0.here hx rfl (hb hby at_15) rfl ?_
    show Steps p.tables e below (s₁.setTop (mkF m 16 #[.val (.int p0_), .val (.int p1_), .val (.int p2_), .val (.int (0 : Int32)), .unset, .unset, .unset, .unset, .unset, .unset, .unset] [(.int (p1_ &&& (2147483647 : Int32)))])) _
    rw [hf1]
    refine XS.istore X0.here hx rfl (hb hby at_16) rfl (l' := #[.val (.int p0_), .val (.int p1_), .val (.int p2_), .val (.int (0 : Int32)), .val (.int m_), .unset, .unset, .unset, .unset, .unset, .unset]) rfl ?_
    refine XS.iload X0.here hx rfl (hb hby at_18) rfl ?_
    refine XS.ifYes X0.here hx rfl (pc0 := 20) (pc' := 26) rfl (hb hby at_20) rfl ((if0 _ _).trans (feq hf2).2) (by decide) (by decide) ?_
    show Steps p.tables e below (s₁.setTop (mkF m 26 #[.val (.int p0_), .val (.int p1_), .val (.int p2_), .val (.int (0 : Int32)), .val (.int m_), .unset, .unset, .unset, .unset, .unset, .unset] [])) _
    refine XS.iloadN X0.here hx rfl (hb hby at_26) rfl ?_
    refine XS.ifYes X0.here hx rfl (pc0 := 27) (pc' := 45) rfl (hb hby at_27) rfl ((if0 _ _).trans (teq (rfl : (0 : Int32) = (0 : Int32))).1) (by decide) (by decide) ?_
    show Steps p.tables e below (s₁.setTop (mkF m 45 #[.val (.int p0_), .val (.int p1_), .val (.int p2_), .val (.int (0 : Int32)), .val (.int m_), .unset, .unset, .unset, .unset, .unset, .unset] [])) _
    refine st1 _ ?_
    refine XS.dup X1.here hx rfl (hb hby at_48) rfl rfl ?_
    show Steps p.tables e below (T1.setTop (mkF m 49 #[.val (.int p0_), .val (.int p1_), .val (.int p2_), .val (.int (0 : Int32)), .val (.int m_), .unset, .unset, .unset, .unset, .unset, .unset] [(.ref b1), (.ref b1)])) _
    refine st2.trans ?_
    refine XS.iload X2.here hx rfl (hb hby at_52) rfl ?_
    show Steps p.tables e below (T2.setTop (mkF m 54 #[.val (.int p0_), .val (.int p1_), .val (.int p2_), .val (.int (0 : Int32)), .val (.int m_), .unset, .unset, .unset, .unset, .unset, .unset] [(.int m_), (.ref b1)])) _
    refine st3.trans ?_
    refine XS.astore X3.here hx rfl (hb hby at_57) rfl rfl (l' := #[.val (.int p0_), .val (.int p1_), .val (.int p2_), .val (.int (0 : Int32)), .val (.int m_), .val (.ref r3), .unset, .unset, .unset, .unset, .unset]) rfl ?_
    refine XS.aload X3.here hx rfl (hb hby at_59) rfl rfl ?_
    refine XS.iloadN X3.here hx rfl (hb hby at_61) rfl ?_
    show Steps p.tables e below (T3.setTop (mkF m 62 #[.val (.int p0_), .val (.int p1_), .val (.int p2_), .val (.int (0 : Int32)), .val (.int m_), .val (.ref r3), .unset, .unset, .unset, .unset, .unset] [(.int p2_), (.ref r3)])) _
    refine st4.trans ?_
    refine XS.istore X4.here hx rfl (hb hby at_65) rfl (l' := #[.val (.int p0_), .val (.int p1_), .val (.int p2_), .val (.int (0 : Int32)), .val (.int m_), .val (.ref r3), .val (.int (0 : Int32)), .unset, .unset, .unset, .unset]) rfl ?_
    refine XS.iloadN X4.here hx rfl (hb hby at_67) rfl ?_
    refine XS.iload X4.here hx rfl (hb hby at_68) rfl ?_
    show Steps p.tables e below (T4.setTop (mkF m 70 #[.val (.int p0_), .val (.int p1_), .val (.int p2_), .val (.int (0 : Int32)), .val (.int m_), .val (.ref r3), .val (.int (0 : Int32)), .unset, .unset, .unset, .unset] [(.int m_), (.int p2_)])) _
    refine XS.icmpYes X4.here hx rfl (pc0 := 70) (pc' := 77) rfl (hb hby at_70) rfl (tlt hf4).1 (by decide) (by decide) ?_
    refine XS.iconst X4.here hx rfl (hb hby at_77) ?_
    refine XS.istore X4.here hx rfl (hb hby at_78) rfl (l' := #[.val (.int p0_), .val (.int p1_), .val (.int p2_), .val (.int (0 : Int32)), .val (.int m_), .val (.ref r3), .val (.int (0 : Int32)), .val (.int (0 : Int32)), .unset, .unset, .unset]) rfl ?_
    refine XS.iload X4.here hx rfl (hb hby at_80) rfl ?_
    show Steps p.tables e below (T4.setTop (mkF m 82 #[.val (.int p0_), .val (.int p1_), .val (.int p2_), .val (.int (0 : Int32)), .val (.int m_), .val (.ref r3), .val (.int (0 : Int32)), .val (.int (0 : Int32)), .unset, .unset, .unset] [(.int (0 : Int32))])) _
    refine XS.iload X4.here hx rfl (hb hby at_82) rfl ?_
    refine XS.icmpYes X4.here hx rfl (pc0 := 84) (pc' := 89) rfl (hb hby at_84) rfl (teq (rfl : (0 : Int32) = (0 : Int32))).1 (by decide) (by decide) ?_
    refine XS.aload X4.here hx rfl (hb hby at_89) rfl rfl ?_
    refine XS.iload X4.here hx rfl (hb hby at_91) rfl ?_
    show Steps p.tables e below (T4.setTop (mkF m 93 #[.val (.int p0_), .val (.int p1_), .val (.int p2_), .val (.int (0 : Int32)), .val (.int m_), .val (.ref r3), .val (.int (0 : Int32)), .val (.int (0 : Int32)), .unset, .unset, .unset] [(.int m_), (.ref r3)])) _
    refine st5.trans ?_
    refine XS.ifYes X5.here hx rfl (pc0 := 96) (pc' := 101) rfl (hb hby at_96) rfl ((if0 _ _).trans (feq (by decide : ¬ ((1 : Int32) = (0 : Int32)))).2) (by decide) (by decide) ?_
    refine XS.iload X5.here hx rfl (hb hby at_101) rfl ?_
    refine XS.iconst X5.here hx rfl (hb hby at_103) ?_
    show Steps p.tables e below (T5.setTop (mkF m 104 #[.val (.int p0_), .val (.int p1_), .val (.int p2_), .val (.int (0 : Int32)), .val (.int m_), .val (.ref r3), .val (.int (0 : Int32)), .val (.int (0 : Int32)), .unset, .unset, .unset] [(.int (1 : Int32)), (.int m_)])) _
    refine XS.icmpYes X5.here hx rfl (pc0 := 104) (pc' := 121) rfl (hb hby at_104) rfl (flt hf6).2.2.2 (by decide) (by decide) ?_
    refine XS.iloadN X5.here hx rfl (hb hby at_121) rfl ?_
    refine XS.iconst X5.here hx rfl (hb hby at_122) ?_
    refine XS.iushr X5.here hx rfl (hb hby at_123) rfl ?_
    show Steps p.tables e below (T5.setTop (mkF m 124 #[.val (.int p0_), .val (.int p1_), .val (.int p2_), .val (.int (0 : Int32)), .val (.int m_), .val (.ref r3), .val (.int (0 : Int32)), .val (.int (0 : Int32)), .unset, .unset, .unset] [(.int ((p0_.toUInt32 >>> ((1 : Int32) &&& 31).toUInt32).toInt32))])) _
    refine XS.iconst X5.here hx rfl (hb hby at_124) ?_
    show Steps p.tables e below (T5.setTop (mkF m 125 #[.val (.int p0_), .val (.int p1_), .val (.int p2_), .val (.int (0 : Int32)), .val (.int m_), .val (.ref r3), .val (.int (0 : Int32)), .val (.int (0 : Int32)), .unset, .unset, .unset] [(.int (5 : Int32)), (.int ((p0_.toUInt32 >>> ((1 : Int32) &&& 31).toUInt32).toInt32))])) _
    refine iremM X5 hx rfl (hb hby at_125) rfl (by decide) ?_
    show Steps p.tables e below (T5.setTop (mkF m 126 #[.val (.int p0_), .val (.int p1_), .val (.int p2_), .val (.int (0 : Int32)), .val (.int m_), .val (.ref r3), .val (.int (0 : Int32)), .val (.int (0 : Int32)), .unset, .unset, .unset] [(.int (((p0_.toUInt32 >>> ((1 : Int32) &&& 31).toUInt32).toInt32) % (5 : Int32)))])) _
    rw [hf7]
    refine XS.iconst X5.here hx rfl (hb hby at_126) ?_
    refine XS.isub X5.here hx rfl (hb hby at_127) rfl ?_
    show Steps p.tables e below (T5.setTop (mkF m 128 #[.val (.int p0_), .val (.int p1_), .val (.int p2_), .val (.int (0 : Int32)), .val (.int m_), .val (.ref r3), .val (.int (0 : Int32)), .val (.int (0 : Int32)), .unset, .unset, .unset] [(.int (o_ - (2 : Int32)))])) _
    rw [hf8]
    refine XS.istore X5.here hx rfl (hb hby at_128) rfl (l' := #[.val (.int p0_), .val (.int p1_), .val (.int p2_), .val (.int (0 : Int32)), .val (.int m_), .val (.ref r3), .val (.int (0 : Int32)), .val (.int (0 : Int32)), .val (.int f_), .unset, .unset]) rfl ?_
    refine XS.iload X5.here hx rfl (hb hby at_130) rfl ?_
    refine XS.i2l X5.here hx rfl (hb hby at_132) rfl ?_
    show Steps p.tables e below (T5.setTop (mkF m 133 #[.val (.int p0_), .val (.int p1_), .val (.int p2_), .val (.int (0 : Int32)), .val (.int m_), .val (.ref r3), .val (.int (0 : Int32)), .val (.int (0 : Int32)), .val (.int f_), .unset, .unset] [(.long (m_.toInt64))])) _
    refine XS.iload X5.here hx rfl (hb hby at_133) rfl ?_
    refine XS.i2l X5.here hx rfl (hb hby at_135) rfl ?_
    refine XS.ladd X5.here hx rfl (hb hby at_136) rfl ?_
    show Steps p.tables e below (T5.setTop (mkF m 137 #[.val (.int p0_), .val (.int p1_), .val (.int p2_), .val (.int (0 : Int32)), .val (.int m_), .val (.ref r3), .val (.int (0 : Int32)), .val (.int (0 : Int32)), .val (.int f_), .unset, .unset] [(.long ((m_.toInt64) + (f_.toInt64)))])) _
    rw [hf9]
    refine XS.lstore X5.here hx rfl (hb hby at_137) rfl (l' := #[.val (.int p0_), .val (.int p1_), .val (.int p2_), .val (.int (0 : Int32)), .val (.int m_), .val (.ref r3), .val (.int (0 : Int32)), .val (.int (0 : Int32)), .val (.int f_), .val (.long l_), .second]) rfl ?_
    refine XS.lload X5.here hx rfl (hb hby at_139) rfl ?_
    show Steps p.tables e below (T5.setTop (mkF m 141 #[.val (.int p0_), .val (.int p1_), .val (.int p2_), .val (.int (0 : Int32)), .val (.int m_), .val (.ref r3), .val (.int (0 : Int32)), .val (.int (0 : Int32)), .val (.int f_), .val (.long l_), .second] [(.long l_)])) _
    refine X5.ldc2Long hx hown (mvT hZ (hw _ (List.mem_of_getElem? (i := 32) rfl))) (g := (mkF m 141 #[.val (.int p0_), .val (.int p1_), .val (.int p2_), .val (.int (0 : Int32)), .val (.int m_), .val (.ref r3), .val (.int (0 : Int32)), .val (.int (0 : Int32)), .val (.int f_), .val (.long l_), .second] [(.long l_)])) rfl (hb hby at_141) _ ?_
    refine XS.lcmp X5.here hx rfl (hb hby at_144) rfl ?_
    refine XS.ifNo X5.here hx rfl (hb hby at_145) rfl ((if0 _ _).trans (flt hf10).2.2.1) ?_
    refine XS.aload X5.here hx rfl (hb hby at_148) rfl rfl ?_
    show Steps p.tables e below (T5.setTop (mkF m 150 #[.val (.int p0_), .val (.int p1_), .val (.int p2_), .val (.int (0 : Int32)), .val (.int m_), .val (.ref r3), .val (.int (0 : Int32)), .val (.int (0 : Int32)), .val (.int f_), .val (.long l_), .second] [(.ref r3)])) _
    refine XS.lload X5.here hx rfl (hb hby at_150) rfl ?_
    refine XS.l2i X5.here hx rfl (hb hby at_152) rfl ?_
    show Steps p.tables e below (T5.setTop (mkF m 153 #[.val (.int p0_), .val (.int p1_), .val (.int p2_), .val (.int (0 : Int32)), .val (.int m_), .val (.ref r3), .val (.int (0 : Int32)), .val (.int (0 : Int32)), .val (.int f_), .val (.long l_), .second] [(.int (l_.toInt32)), (.ref r3)])) _
    refine st6.trans ?_
    refine XS.iload X6.here hx rfl (hb hby at_156) rfl ?_
    refine XS.ifNo X6.here hx rfl (hb hby at_158) rfl ((if0 _ _).trans (flt hf12).1) ?_
    refine XS.iconst X6.here hx rfl (hb hby at_161) ?_
    show Steps p.tables e below (T6.setTop (mkF m 162 #[.val (.int p0_), .val (.int p1_), .val (.int p2_), .val (.int (0 : Int32)), .val (.int m_), .val (.ref r3), .val (.int (0 : Int32)), .val (.int (0 : Int32)), .val (.int f_), .val (.long l_), .second] [(.int (1 : Int32)), (.int (1 : Int32))])) _
    refine XS.goto X6.here hx rfl (pc0 := 162) (pc' := 166) rfl (hb hby at_162) (by decide) (by decide) ?_
    refine XS.icmpYes X6.here hx rfl (pc0 := 166) (pc' := 171) rfl (hb hby at_166) rfl (teq (rfl : (1 : Int32) = (1 : Int32))).1 (by decide) (by decide) ?_
    refine XS.iconst X6.here hx rfl (hb hby at_171) ?_
    show Steps p.tables e below (T6.setTop (mkF m 172 #[.val (.int p0_), .val (.int p1_), .val (.int p2_), .val (.int (0 : Int32)), .val (.int m_), .val (.ref r3), .val (.int (0 : Int32)), .val (.int (0 : Int32)), .val (.int f_), .val (.long l_), .second] [(.int (1 : Int32))])) _
    exact retN X6 hx (t := .boolean) Bd.returns (by simp) (hb hby at_172) hr
  · show own_QL n0 _ T6.heap _
    exact ⟨rfl, N6⟩
set_option maxRecDepth 65536 in
set_option maxHeartbeats 40000000 in
theorem own_law_V2ll (l : Launch) (Z : State) (a0 : Array Value) (hw : ∀ d ∈ tables_1, d.before a0 Z = true) (ws : List Jvm.Cond) (p0_ : Int32) (p1_ : Int32) (p2_ : Int32) (m_ : Int32) (w_DEFAULT_BACKOFF : Addr) (o_ : Int32) (f_ : Int32) (l_ : Int64) (h0 : Heap) (n0 : Nat) (Z0 : n0 ≤ h0.size) (S_DEFAULT_BACKOFF : Sta Z h0 "com/example/mersey/mersey/JobTypeSettings" "DEFAULT_BACKOFF" "Lcom/example/mersey/mersey/Backoff;" (.ref w_DEFAULT_BACKOFF)) (hf0 : (p0_ &&& (1 : Int32)) = (0 : Int32)) (hf1 : (p1_ &&& (2147483647 : Int32)) = m_) (hf2 : ¬ (m_ = (0 : Int32))) (hf3 : ¬ (m_ < (1 : Int32))) (hf4 : p2_ < m_) (hf5 : ¬ (m_ < m_)) (hf6 : (1 : Int32) < m_) (hf7 : (m_ - (1 : Int32)) < m_) (hf8 : (((p0_.toUInt32 >>> ((1 : Int32) &&& 31).toUInt32).toInt32) % (5 : Int32)) = o_) (hf9 : (o_ - (2 : Int32)) = f_) (hf10 : ((m_.toInt64) + (f_.toInt64)) = l_) (hf11 : ¬ ((0 : Int32) < (lcmpW l_ (2147483647 : Int64)))) (hf12 : (l_.toInt32) < m_) (hf13 : f_ < (0 : Int32)) :
    MetFree l x (head1 (Jvm.Cond.code x code maxLocals ret :: ws) room_1) (fun a U => a = #[(.int p0_), (.int p1_), (.int p2_)] ∧ Z.Warmed39 U.vm ∧ U.heap = h0) (fun _ _ _ _ _ => True) (fun _ U o U' => ∃ v L, o = .returned v ∧ own_QL n0 v U'.heap L ∧ FrameEnd U o U' L room_1.cells room_1.slots) := by
  refine MetFree.of_bodySF (plainFor_of_name own_pn1) hisR ?_
  intro p e s m args below meth c s₁ Bd hml0 hP hK
  obtain ⟨rfl, hZ, hh⟩ := hP
  have hx := Bd.exec
  have hby := Bd.bytes
  have hml : c.maxLocals = 11 := hml0
  have hown : s.vm.findClass "com/example/mersey/mersey/JobTypeSettingsIsLastAttemptPinLaw" = some m.cls := findClass_of_methodNamed Bd.named
  have hnm := (name_of_methodNamed Bd.named Bd.method).1
  have X0 : Stand p l e room_1 s m #[(.int p0_), (.int p1_), (.int p2_)] below meth c s₁ [] 0 0 := Stand.of_body Bd
  have e0 : s₁.heap = h0 := by rw [← hh, Bd.state]; rfl
  have N0 := Fr.nil n0
  have pre0 : ∀ t, Steps p.tables e below (s₁.setTop (mkF m 0 #[.val (.int p0_), .val (.int p1_), .val (.int p2_), .unset, .unset, .unset, .unset, .unset, .unset, .unset, .unset] [])) t → Steps p.tables e below (s₁.setTop (entryFrame m #[(.int p0_), (.int p1_), (.int p2_)] maxLocals)) t := fun t k => castTop (own_ef2 m p0_ p1_ p2_) k
  obtain ⟨T1, h1, X1, e1, E1, A1, D1, -, st1⟩ := newO X0 hx hZ hown (hw _ (List.mem_of_getElem? (i := 1) rfl)) (hw _ (List.mem_of_getElem? (i := 2) rfl)) (hw _ (List.mem_of_getElem? (i := 3) rfl)) e0 (g := (mkF m 45 #[.val (.int p0_), .val (.int p1_), .val (.int p2_), .val (.int (0 : Int32)), .val (.int m_), .unset, .unset, .unset, .unset, .unset, .unset] [])) rfl (hb hby at_45) (by decide) (by decide)
  obtain ⟨b1, g1⟩ : ∃ z, z = h0.size := ⟨_, rfl⟩
  rw [← g1] at A1 D1 st1
  have lo_b1 : h0.size ≤ b1 := Nat.le_of_eq g1.symm
  have sz_b1 : h0.size ≤ b1 := Nat.le_trans (Keep.refl h0 []).1 lo_b1
  have g_b1 : n0 ≤ b1 := Nat.le_trans Z0 sz_b1
  have K1 : Keep h0 h1 [] := (Keep.refl h0 []).ext E1
  have F_maxAttempts_b1_1 : Fld Z h1 b1 "com/example/mersey/mersey/JobTypeSettings" "maxAttempts" "I" (.int (0 : Int32)) := D1 (Or.inl (hw _ (List.mem_of_getElem? (i := 11) rfl))) (ty := .int) (by decide)
  have F_backoff_b1_1 : Fld Z h1 b1 "com/example/mersey/mersey/JobTypeSettings" "backoff" "Lcom/example/mersey/mersey/Backoff;" .null := D1 (Or.inl (hw _ (List.mem_of_getElem? (i := 15) rfl))) (ty := (.object "com/example/mersey/mersey/Backoff")) (by decide)
  have F_longestRunTime_b1_1 : Fld Z h1 b1 "com/example/mersey/mersey/JobTypeSettings" "longestRunTime" "Ljava/time/Duration;" .null := D1 (Or.inl (hw _ (List.mem_of_getElem? (i := 26) rfl))) (ty := (.object "java/time/Duration")) (by decide)
  obtain ⟨_, _, ⟨T2, L2, k2, n2⟩, -, X2, ⟨Lc2, hQ2, l2, y2, z2⟩, st2⟩ := X1.specialBack hx (y := (⟨"com/example/mersey/mersey/JobTypeSettings", "<init>", "()V"⟩ : MethodName)) rfl hown (mvT hZ (hw _ (List.mem_of_getElem? (i := 4) rfl))) (mvT hZ (hw _ (List.mem_of_getElem? (i := 5) rfl))) (mvT hZ (hw _ (List.mem_of_getElem? (i := 6) rfl))) (by decide) (backOf (W := 1) (own_b1_x l Z a0 hw [] b1 (.int (0 : Int32)) w_DEFAULT_BACKOFF .null .null h1 n0 (Nat.le_trans Z0 (own_ext K1).1) A1 F_maxAttempts_b1_1 g_b1 (S_DEFAULT_BACKOFF.ext (own_ext K1)) F_backoff_b1_1 F_longestRunTime_b1_1) hZ (hw _ (List.mem_of_getElem? (i := 6) rfl)) (hw _ (List.mem_of_getElem? (i := 3) rfl)) (by decide) (by decide)) (g := (mkF m 49 #[.val (.int p0_), .val (.int p1_), .val (.int p2_), .val (.int (0 : Int32)), .val (.int m_), .unset, .unset, .unset, .unset, .unset, .unset] [(.ref b1), (.ref b1)])) rfl (by rw [hml]; rfl) (Steps.refl _) (a := b1) (argsL := []) (rest := [(.ref b1)]) (lenOf own_pd0 rfl) rfl (by show 2 * 0 + _ ≤ _; exact Nat.le_of_eq rfl) (hb hby at_49) (fun _ _ => ⟨rfl, e1, (by decide : 1 + 0 ≤ _), (by decide : 3 + 0 ≤ _)⟩)
  dsimp only [Pt.U, Pt.locs, Pt.cells, Pt.slots] at X2 l2 y2 z2 st2 hQ2
  subst l2 y2 z2
  obtain ⟨rfl, N2q, Kq2, Eq2, Fq2_maxAttempts, Fq2_backoff, Fq2_longestRunTime⟩ := hQ2
  have N2 := Fr.app N0 N2q
  have K2 : Keep h0 T2.heap [] := K1.trans Kq2 (fun x hx => by cases List.mem_singleton.mp hx; exact Or.inr sz_b1)
  obtain ⟨cq3, kq3, q3a, q3b, q3c⟩ := isOf hZ rfl Eq2
  obtain ⟨_, _, ⟨T3, L3, k3, n3⟩, -, X3, ⟨Lc3, hQ3, l3, y3, z3⟩, st3⟩ := X2.virtualBack hx (y := (⟨"com/example/mersey/mersey/JobTypeSettings", "withMaxAttempts", "(I)Lcom/example/mersey/mersey/JobTypeSettings;"⟩ : MethodName)) (z := (⟨"com/example/mersey/mersey/JobTypeSettings", "withMaxAttempts", "(I)Lcom/example/mersey/mersey/JobTypeSettings;"⟩ : MethodName)) hown (mvT hZ (hw _ (List.mem_of_getElem? (i := 16) rfl))) (mvT hZ (hw _ (List.mem_of_getElem? (i := 17) rfl))) (notFace_of_selects (args := #[]) (mvT hZ (hw _ (List.mem_of_getElem? (i := 19) rfl)))) (mvT hZ (hw _ (List.mem_of_getElem? (i := 19) rfl))) (mvT hZ (hw _ (List.mem_of_getElem? (i := 18) rfl))) (by decide) (backOf (W := 0) (own_b3_tN l Z a0 hw [] b1 m_ w_DEFAULT_BACKOFF (5 : Int32) w_DEFAULT_BACKOFF T2.heap n0 (Nat.le_trans Z0 (own_ext K2).1) (S_DEFAULT_BACKOFF.ext (own_ext K2)) Fq2_longestRunTime Fq2_maxAttempts Fq2_backoff hf3) hZ (hw _ (List.mem_of_getElem? (i := 20) rfl)) (hw _ (List.mem_of_getElem? (i := 3) rfl)) (by decide) (by decide)) q3a q3c (g := (mkF m 54 #[.val (.int p0_), .val (.int p1_), .val (.int p2_), .val (.int (0 : Int32)), .val (.int m_), .unset, .unset, .unset, .unset, .unset, .unset] [(.int m_), (.ref b1)])) rfl (by rw [hml]; rfl) (Steps.refl _) (argsL := [(.int m_)]) (rest := []) (lenOf own_pd3 rfl) rfl (by show 2 * 0 + _ ≤ _; exact Nat.le_of_eq rfl) (hb hby at_54) (fun _ _ => ⟨rfl, rfl, (by decide : 1 + 1 ≤ _), (by decide : 3 + 3 ≤ _)⟩)
  dsimp only [Pt.U, Pt.locs, Pt.cells, Pt.slots] at X3 l3 y3 z3 st3 hQ3
  subst l3 y3 z3
  obtain ⟨r3, rfl, N3q, Kq3, lo_r3, Eq3, Fq3_maxAttempts, Fq3_backoff, Fq3_longestRunTime⟩ := hQ3
  have N3 := Fr.app N2 N3q
  have ne_b1_r3 : b1 ≠ r3 := Nat.ne_of_lt (Nat.lt_of_lt_of_le Eq2.lt lo_r3)
  have sz_r3 : h0.size ≤ r3 := Nat.le_trans K2.1 lo_r3
  have g_r3 : n0 ≤ r3 := Nat.le_trans Z0 sz_r3
  have E_b1_3 := Eq2.ext (own_ext Kq3)
  have F_maxAttempts_b1_3 := Fq2_maxAttempts.ext (own_ext Kq3)
  have F_backoff_b1_3 := Fq2_backoff.ext (own_ext Kq3)
  have F_longestRunTime_b1_3 := Fq2_longestRunTime.ext (own_ext Kq3)
  have K3 : Keep h0 T3.heap [] := K2.trans Kq3 (fun x hx => by cases hx)
  obtain ⟨cq4, kq4, q4a, q4b, q4c⟩ := isOf hZ rfl Eq3
  obtain ⟨_, _, ⟨T4, L4, k4, n4⟩, -, X4, ⟨Lc4, hQ4, l4, y4, z4⟩, st4⟩ := X3.virtualBack hx (y := (⟨"com/example/mersey/mersey/JobTypeSettings", "isLastAttempt", "(I)Z"⟩ : MethodName)) (z := (⟨"com/example/mersey/mersey/JobTypeSettings", "isLastAttempt", "(I)Z"⟩ : MethodName)) hown (mvT hZ (hw _ (List.mem_of_getElem? (i := 27) rfl))) (mvT hZ (hw _ (List.mem_of_getElem? (i := 28) rfl))) (notFace_of_selects (args := #[]) (mvT hZ (hw _ (List.mem_of_getElem? (i := 30) rfl)))) (mvT hZ (hw _ (List.mem_of_getElem? (i := 30) rfl))) (mvT hZ (hw _ (List.mem_of_getElem? (i := 29) rfl))) (by decide) (backOf (W := 0) (own_b5_t l Z a0 hw [] r3 p2_ m_ T3.heap n0 (Nat.le_trans Z0 (own_ext K3).1) Fq3_maxAttempts hf4) hZ (hw _ (List.mem_of_getElem? (i := 31) rfl)) (hw _ (List.mem_of_getElem? (i := 3) rfl)) (by decide) (by decide)) q4a q4c (g := (mkF m 62 #[.val (.int p0_), .val (.int p1_), .val (.int p2_), .val (.int (0 : Int32)), .val (.int m_), .val (.ref r3), .unset, .unset, .unset, .unset, .unset] [(.int p2_), (.ref r3)])) rfl (by rw [hml]; rfl) (Steps.refl _) (argsL := [(.int p2_)]) (rest := []) (lenOf own_pd1 rfl) rfl (by show 2 * 0 + _ ≤ _; exact Nat.le_of_eq rfl) (hb hby at_62) (fun _ _ => ⟨rfl, rfl, (by decide : 2 + 0 ≤ _), (by decide : 6 + 0 ≤ _)⟩)
  dsimp only [Pt.U, Pt.locs, Pt.cells, Pt.slots] at X4 l4 y4 z4 st4 hQ4
  subst l4 y4 z4
  obtain ⟨rfl, N4q, e4⟩ := hQ4
  have N4 := Fr.app N3 N4q
  obtain ⟨cq5, kq5, q5a, q5b, q5c⟩ := isOf hZ e4 Eq3
  obtain ⟨_, _, ⟨T5, L5, k5, n5⟩, -, X5, ⟨Lc5, hQ5, l5, y5, z5⟩, st5⟩ := X4.virtualBack hx (y := (⟨"com/example/mersey/mersey/JobTypeSettings", "isLastAttempt", "(I)Z"⟩ : MethodName)) (z := (⟨"com/example/mersey/mersey/JobTypeSettings", "isLastAttempt", "(I)Z"⟩ : MethodName)) hown (mvT hZ (hw _ (List.mem_of_getElem? (i := 27) rfl))) (mvT hZ (hw _ (List.mem_of_getElem? (i := 28) rfl))) (notFace_of_selects (args := #[]) (mvT hZ (hw _ (List.mem_of_getElem? (i := 30) rfl)))) (mvT hZ (hw _ (List.mem_of_getElem? (i := 30) rfl))) (mvT hZ (hw _ (List.mem_of_getElem? (i := 29) rfl))) (by decide) (backOf (W := 0) (own_b5_f l Z a0 hw [] r3 m_ m_ T3.heap n0 (Nat.le_trans Z0 (own_ext K3).1) Fq3_maxAttempts hf5) hZ (hw _ (List.mem_of_getElem? (i := 31) rfl)) (hw _ (List.mem_of_getElem? (i := 3) rfl)) (by decide) (by decide)) q5a q5c (g := (mkF m 93 #[.val (.int p0_), .val (.int p1_), .val (.int p2_), .val (.int (0 : Int32)), .val (.int m_), .val (.ref r3), .val (.int (0 : Int32)), .val (.int (0 : Int32)), .unset, .unset, .unset] [(.int m_), (.ref r3)])) rfl (by rw [hml]; rfl) (Steps.refl _) (argsL := [(.int m_)]) (rest := []) (lenOf own_pd1 rfl) rfl (by show 2 * 0 + _ ≤ _; exact Nat.le_of_eq rfl) (hb hby at_93) (fun _ _ => ⟨rfl, e4, (by decide : 2 + 0 ≤ _), (by decide : 6 + 0 ≤ _)⟩)
  dsimp only [Pt.U, Pt.locs, Pt.cells, Pt.slots] at X5 l5 y5 z5 st5 hQ5
  subst l5 y5 z5
  obtain ⟨rfl, N5q, e5⟩ := hQ5
  have N5 := Fr.app N4 N5q
  obtain ⟨cq6, kq6, q6a, q6b, q6c⟩ := isOf hZ e5 Eq3
  obtain ⟨_, _, ⟨T6, L6, k6, n6⟩, -, X6, ⟨Lc6, hQ6, l6, y6, z6⟩, st6⟩ := X5.virtualBack hx (y := (⟨"com/example/mersey/mersey/JobTypeSettings", "isLastAttempt", "(I)Z"⟩ : MethodName)) (z := (⟨"com/example/mersey/mersey/JobTypeSettings", "isLastAttempt", "(I)Z"⟩ : MethodName)) hown (mvT hZ (hw _ (List.mem_of_getElem? (i := 27) rfl))) (mvT hZ (hw _ (List.mem_of_getElem? (i := 28) rfl))) (notFace_of_selects (args := #[]) (mvT hZ (hw _ (List.mem_of_getElem? (i := 30) rfl)))) (mvT hZ (hw _ (List.mem_of_getElem? (i := 30) rfl))) (mvT hZ (hw _ (List.mem_of_getElem? (i := 29) rfl))) (by decide) (backOf (W := 0) (own_b5_t l Z a0 hw [] r3 (m_ - (1 : Int32)) m_ T3.heap n0 (Nat.le_trans Z0 (own_ext K3).1) Fq3_maxAttempts hf7) hZ (hw _ (List.mem_of_getElem? (i := 31) rfl)) (hw _ (List.mem_of_getElem? (i := 3) rfl)) (by decide) (by decide)) q6a q6c (g := (mkF m 113 #[.val (.int p0_), .val (.int p1_), .val (.int p2_), .val (.int (0 : Int32)), .val (.int m_), .val (.ref r3), .val (.int (0 : Int32)), .val (.int (0 : Int32)), .unset, .unset, .unset] [(.int (m_ - (1 : Int32))), (.ref r3)])) rfl (by rw [hml]; rfl) (Steps.refl _) (argsL := [(.int (m_ - (1 : Int32)))]) (rest := []) (lenOf own_pd1 rfl) rfl (by show 2 * 0 + _ ≤ _; exact Nat.le_of_eq rfl) (hb hby at_113) (fun _ _ => ⟨rfl, e5, (by decide : 2 + 0 ≤ _), (by decide : 6 + 0 ≤ _)⟩)
  dsimp only [Pt.U, Pt.locs, Pt.cells, Pt.slots] at X6 l6 y6 z6 st6 hQ6
  subst l6 y6 z6
  obtain ⟨rfl, N6q, e6⟩ := hQ6
  have N6 := Fr.app N5 N6q
  obtain ⟨cq7, kq7, q7a, q7b, q7c⟩ := isOf hZ e6 Eq3
  obtain ⟨_, _, ⟨T7, L7, k7, n7⟩, -, X7, ⟨Lc7, hQ7, l7, y7, z7⟩, st7⟩ := X6.virtualBack hx (y := (⟨"com/example/mersey/mersey/JobTypeSettings", "isLastAttempt", "(I)Z"⟩ : MethodName)) (z := (⟨"com/example/mersey/mersey/JobTypeSettings", "isLastAttempt", "(I)Z"⟩ : MethodName)) hown (mvT hZ (hw _ (List.mem_of_getElem? (i := 27) rfl))) (mvT hZ (hw _ (List.mem_of_getElem? (i := 28) rfl))) (notFace_of_selects (args := #[]) (mvT hZ (hw _ (List.mem_of_getElem? (i := 30) rfl)))) (mvT hZ (hw _ (List.mem_of_getElem? (i := 30) rfl))) (mvT hZ (hw _ (List.mem_of_getElem? (i := 29) rfl))) (by decide) (backOf (W := 0) (own_b5_t l Z a0 hw [] r3 (l_.toInt32) m_ T3.heap n0 (Nat.le_trans Z0 (own_ext K3).1) Fq3_maxAttempts hf12) hZ (hw _ (List.mem_of_getElem? (i := 31) rfl)) (hw _ (List.mem_of_getElem? (i := 3) rfl)) (by decide) (by decide)) q7a q7c (g := (mkF m 153 #[.val (.int p0_), .val (.int p1_), .val (.int p2_), .val (.int (0 : Int32)), .val (.int m_), .val (.ref r3), .val (.int (0 : Int32)), .val (.int (0 : Int32)), .val (.int f_), .val (.long l_), .second] [(.int (l_.toInt32)), (.ref r3)])) rfl (by rw [hml]; rfl) (Steps.refl _) (argsL := [(.int (l_.toInt32))]) (rest := []) (lenOf own_pd1 rfl) rfl (by show 2 * 0 + _ ≤ _; exact Nat.le_of_eq rfl) (hb hby at_153) (fun _ _ => ⟨rfl, e6, (by decide : 2 + 0 ≤ _), (by decide : 6 + 0 ≤ _)⟩)
  dsimp only [Pt.U, Pt.locs, Pt.cells, Pt.slots] at X7 l7 y7 z7 st7 hQ7
  subst l7 y7 z7
  obtain ⟨rfl, N7q, e7⟩ := hQ7
  have N7 := Fr.app N6 N7q
  obtain ⟨fs, hr, hrun, hended, hW, hsame⟩ := X7.leave (v := some (.int (1 : Int32))) (fun h => by rw [Bd.returns] at h; cases h)
  refine ⟨_, _, pre0 _ ?_, hrun, hended, _, _, rfl, ?_, ⟨_, rfl⟩, hW, hsame.mono (by decide) (by decide)⟩
  · show Steps p.tables e below (s₁.setTop (mkF m 0 #[.val (.int p0_), .val (.int p1_), .val (.int p2_), .unset, .unset, .unset, .unset, .unset, .unset, .unset, .unset] [])) _
    refine XS.iloadN X0.here hx rfl (hb hby at_0) rfl ?_
    refine XS.iconst X0.here hx rfl (hb hby at_1) ?_
    refine XS.iand X0.here hx rfl (hb hby at_2) rfl ?_
    show Steps p.tables e below (s₁.setTop (mkF m 3 #[.val (.int p0_), .val (.int p1_), .val (.int p2_), .unset, .unset, .unset, .unset, .unset, .unset, .unset, .unset] [(.int (p0_ &&& (1 : Int32)))])) _
    rw [hf0]
    refine XS.ifYes X0.here hx rfl (pc0 := 3) (pc' := 10) rfl (hb hby at_3) rfl ((if0 _ _).trans (teq (rfl : (0 : Int32) = (0 : Int32))).1) (by decide) (by decide) ?_
    refine XS.iconst X0.here hx rfl (hb hby at_10) ?_
    refine XS.istoreN X0.here hx rfl (hb hby at_11) rfl (l' := #[.val (.int p0_), .val (.int p1_), .val (.int p2_), .val (.int (0 : Int32)), .unset, .unset, .unset, .unset, .unset, .unset, .unset]) rfl ?_
    show Steps p.tables e below (s₁.setTop (mkF m 12 #[.val (.int p0_), .val (.int p1_), .val (.int p2_), .val (.int (0 : Int32)), .unset, .unset, .unset, .unset, .unset, .unset, .unset] [])) _
    refine XS.iloadN X0.here hx rfl (hb hby at_12) rfl ?_
    show Steps p.tables e below (s₁.setTop (mkF m 13 #[.val (.int p0_), .val (.int p1_), .val (.int p2_), .val (.int (0 : Int32)), .unset, .unset, .unset, .unset, .unset, .unset, .unset] [(.int p1_)])) _
    refine X0.ldcInt hx hown (mvT hZ (hw _ (List.mem_of_getElem? (i := 0) rfl))) (g := (mkF m 13 #[.val (.int p0_), .val (.int p1_), .val (.int p2_), .val (.int (0 : Int32)), .unset, .unset, .unset, .unset, .unset, .unset, .unset] [(.int p1_)])) rfl (hb hby at_13) _ ?_
    refine XS.iand X0.here hx rfl (hb hby at_15) rfl ?_
    show Steps p.tables e below (s₁.setTop (mkF m 16 #[.val (.int p0_), .val (.int p1_), .val (.int p2_), .val (.int (0 : Int32)), .unset, .unset, .unset, .unset, .unset, .unset, .unset] [(.int (p1_ &&& (2147483647 : Int32)))])) _
    rw [hf1]
    refine XS.istore X0.here hx rfl (hb hby at_16) rfl (l' := #[.val (.int p0_), .val (.int p1_), .val (.int p2_), .val (.int (0 : Int32)), .val (.int m_), .unset, .unset, .unset, .unset, .unset, .unset]) rfl ?_
    refine XS.iload X0.here hx rfl (hb hby at_18) rfl ?_
    refine XS.ifYes X0.here hx rfl (pc0 := 20) (pc' := 26) rfl (hb hby at_20) rfl ((if0 _ _).trans (feq hf2).2) (by decide) (by decide) ?_
    show Steps p.tables e below (s₁.setTop (mkF m 26 #[.val (.int p0_), .val (.int p1_), .val (.int p2_), .val (.int (0 : Int32)), .val (.int m_), .unset, .unset, .unset, .unset, .unset, .unset] [])) _
    refine XS.iloadN X0.here hx rfl (hb hby at_26) rfl ?_
    refine XS.ifYes X0.here hx rfl (pc0 := 27) (pc' := 45) rfl (hb hby at_27) rfl ((if0 _ _).trans (teq (rfl : (0 : Int32) = (0 : Int32))).1) (by decide) (by decide) ?_
    show Steps p.tables e below (s₁.setTop (mkF m 45 #[.val (.int p0_), .val (.int p1_), .val (.int p2_), .val (.int (0 : Int32)), .val (.int m_), .unset, .unset, .unset, .unset, .unset, .unset] [])) _
    refine st1 _ ?_
    refine XS.dup X1.here hx rfl (hb hby at_48) rfl rfl ?_
    show Steps p.tables e below (T1.setTop (mkF m 49 #[.val (.int p0_), .val (.int p1_), .val (.int p2_), .val (.int (0 : Int32)), .val (.int m_), .unset, .unset, .unset, .unset, .unset, .unset] [(.ref b1), (.ref b1)])) _
    refine st2.trans ?_
    refine XS.iload X2.here hx rfl (hb hby at_52) rfl ?_
    show Steps p.tables e below (T2.setTop (mkF m 54 #[.val (.int p0_), .val (.int p1_), .val (.int p2_), .val (.int (0 : Int32)), .val (.int m_), .unset, .unset, .unset, .unset, .unset, .unset] [(.int m_), (.ref b1)])) _
    refine st3.trans ?_
    refine XS.astore X3.here hx rfl (hb hby at_57) rfl rfl (l' := #[.val (.int p0_), .val (.int p1_), .val (.int p2_), .val (.int (0 : Int32)), .val (.int m_), .val (.ref r3), .unset, .unset, .unset, .unset, .unset]) rfl ?_
    refine XS.aload X3.here hx rfl (hb hby at_59) rfl rfl ?_
    refine XS.iloadN X3.here hx rfl (hb hby at_61) rfl ?_
    show Steps p.tables e below (T3.setTop (mkF m 62 #[.val (.int p0_), .val (.int p1_), .val (.int p2_), .val (.int (0 : Int32)), .val (.int m_), .val (.ref r3), .unset, .unset, .unset, .unset, .unset] [(.int p2_), (.ref r3)])) _
    refine st4.trans ?_
    refine XS.istore X4.here hx rfl (hb hby at_65) rfl (l' := #[.val (.int p0_), .val (.int p1_), .val (.int p2_), .val (.int (0 : Int32)), .val (.int m_), .val (.ref r3), .val (.int (0 : Int32)), .unset, .unset, .unset, .unset]) rfl ?_
    refine XS.iloadN X4.here hx rfl (hb hby at_67) rfl ?_
    refine XS.iload X4.here hx rfl (hb hby at_68) rfl ?_
    show Steps p.tables e below (T4.setTop (mkF m 70 #[.val (.int p0_), .val (.int p1_), .val (.int p2_), .val (.int (0 : Int32)), .val (.int m_), .val (.ref r3), .val (.int (0 : Int32)), .unset, .unset, .unset, .unset] [(.int m_), (.int p2_)])) _
    refine XS.icmpYes X4.here hx rfl (pc0 := 70) (pc' := 77) rfl (hb hby at_70) rfl (tlt hf4).1 (by decide) (by decide) ?_
    refine XS.iconst X4.here hx rfl (hb hby at_77) ?_
    refine XS.istore X4.here hx rfl (hb hby at_78) rfl (l' := #[.val (.int p0_), .val (.int p1_), .val (.int p2_), .val (.int (0 : Int32)), .val (.int m_), .val (.ref r3), .val (.int (0 : Int32)), .val (.int (0 : Int32)), .unset, .unset, .unset]) rfl ?_
    refine XS.iload X4.here hx rfl (hb hby at_80) rfl ?_
    show Steps p.tables e below (T4.setTop (mkF m 82 #[.val (.int p0_), .val (.int p1_), .val (.int p2_), .val (.int (0 : Int32)), .val (.int m_), .val (.ref r3), .val (.int (0 : Int32)), .val (.int (0 : Int32)), .unset, .unset, .unset] [(.int (0 : Int32))])) _
    refine XS.iload X4.here hx rfl (hb hby at_82) rfl ?_
    refine XS.icmpYes X4.here hx rfl (pc0 := 84) (pc' := 89) rfl (hb hby at_84) rfl (teq (rfl : (0 : Int32) = (0 : Int32))).1 (by decide) (by decide) ?_
    refine XS.aload X4.here hx rfl (hb hby at_89) rfl rfl ?_
    refine XS.iload X4.here hx rfl (hb hby at_91) rfl ?_
    show Steps p.tables e below (T4.setTop (mkF m 93 #[.val (.int p0_), .val (.int p1_), .val (.int p2_), .val (.int (0 : Int32)), .val (.int m_), .val (.ref r3), .val (.int (0 : Int32)), .val (.int (0 : Int32)), .unset, .unset, .unset] [(.int m_), (.ref r3)])) _
    refine st5.trans ?_
    refine XS.ifYes X5.here hx rfl (pc0 := 96) (pc' := 101) rfl (hb hby at_96) rfl ((if0 _ _).trans (feq (by decide : ¬ ((1 : Int32) = (0 : Int32)))).2) (by decide) (by decide) ?_
    refine XS.iload X5.here hx rfl (hb hby at_101) rfl ?_
    refine XS.iconst X5.here hx rfl (hb hby at_103) ?_
    show Steps p.tables e below (T5.setTop (mkF m 104 #[.val (.int p0_), .val (.int p1_), .val (.int p2_), .val (.int (0 : Int32)), .val (.int m_), .val (.ref r3), .val (.int (0 : Int32)), .val (.int (0 : Int32)), .unset, .unset, .unset] [(.int (1 : Int32)), (.int m_)])) _
    refine XS.icmpNo X5.here hx rfl (hb hby at_104) rfl (tlt hf6).2.2.2 ?_
    refine XS.aload X5.here hx rfl (hb hby at_107) rfl rfl ?_
    refine XS.iload X5.here hx rfl (hb hby at_109) rfl ?_
    refine XS.iconst X5.here hx rfl (hb hby at_111) ?_
    show Steps p.tables e below (T5.setTop (mkF m 112 #[.val (.int p0_), .val (.int p1_), .val (.int p2_), .val (.int (0 : Int32)), .val (.int m_), .val (.ref r3), .val (.int (0 : Int32)), .val (.int (0 : Int32)), .unset, .unset, .unset] [(.int (1 : Int32)), (.int m_), (.ref r3)])) _
    refine XS.isub X5.here hx rfl (hb hby at_112) rfl ?_
    show Steps p.tables e below (T5.setTop (mkF m 113 #[.val (.int p0_), .val (.int p1_), .val (.int p2_), .val (.int (0 : Int32)), .val (.int m_), .val (.ref r3), .val (.int (0 : Int32)), .val (.int (0 : Int32)), .unset, .unset, .unset] [(.int (m_ - (1 : Int32))), (.ref r3)])) _
    refine st6.trans ?_
    refine XS.ifYes X6.here hx rfl (pc0 := 116) (pc' := 121) rfl (hb hby at_116) rfl ((if0 _ _).trans (teq (rfl : (0 : Int32) = (0 : Int32))).1) (by decide) (by decide) ?_
    refine XS.iloadN X6.here hx rfl (hb hby at_121) rfl ?_
    refine XS.iconst X6.here hx rfl (hb hby at_122) ?_
    show Steps p.tables e below (T6.setTop (mkF m 123 #[.val (.int p0_), .val (.int p1_), .val (.int p2_), .val (.int (0 : Int32)), .val (.int m_), .val (.ref r3), .val (.int (0 : Int32)), .val (.int (0 : Int32)), .unset, .unset, .unset] [(.int (1 : Int32)), (.int p0_)])) _
    refine XS.iushr X6.here hx rfl (hb hby at_123) rfl ?_
    refine XS.iconst X6.here hx rfl (hb hby at_124) ?_
    show Steps p.tables e below (T6.setTop (mkF m 125 #[.val (.int p0_), .val (.int p1_), .val (.int p2_), .val (.int (0 : Int32)), .val (.int m_), .val (.ref r3), .val (.int (0 : Int32)), .val (.int (0 : Int32)), .unset, .unset, .unset] [(.int (5 : Int32)), (.int ((p0_.toUInt32 >>> ((1 : Int32) &&& 31).toUInt32).toInt32))])) _
    refine iremM X6 hx rfl (hb hby at_125) rfl (by decide) ?_
    show Steps p.tables e below (T6.setTop (mkF m 126 #[.val (.int p0_), .val (.int p1_), .val (.int p2_), .val (.int (0 : Int32)), .val (.int m_), .val (.ref r3), .val (.int (0 : Int32)), .val (.int (0 : Int32)), .unset, .unset, .unset] [(.int (((p0_.toUInt32 >>> ((1 : Int32) &&& 31).toUInt32).toInt32) % (5 : Int32)))])) _
    rw [hf8]
    refine XS.iconst X6.here hx rfl (hb hby at_126) ?_
    refine XS.isub X6.here hx rfl (hb hby at_127) rfl ?_
    show Steps p.tables e below (T6.setTop (mkF m 128 #[.val (.int p0_), .val (.int p1_), .val (.int p2_), .val (.int (0 : Int32)), .val (.int m_), .val (.ref r3), .val (.int (0 : Int32)), .val (.int (0 : Int32)), .unset, .unset, .unset] [(.int (o_ - (2 : Int32)))])) _
    rw [hf9]
    refine XS.istore X6.here hx rfl (hb hby at_128) rfl (l' := #[.val (.int p0_), .val (.int p1_), .val (.int p2_), .val (.int (0 : Int32)), .val (.int m_), .val (.ref r3), .val (.int (0 : Int32)), .val (.int (0 : Int32)), .val (.int f_), .unset, .unset]) rfl ?_
    refine XS.iload X6.here hx rfl (hb hby at_130) rfl ?_
    refine XS.i2l X6.here hx rfl (hb hby at_132) rfl ?_
    show Steps p.tables e below (T6.setTop (mkF m 133 #[.val (.int p0_), .val (.int p1_), .val (.int p2_), .val (.int (0 : Int32)), .val (.int m_), .val (.ref r3), .val (.int (0 : Int32)), .val (.int (0 : Int32)), .val (.int f_), .unset, .unset] [(.long (m_.toInt64))])) _
    refine XS.iload X6.here hx rfl (hb hby at_133) rfl ?_
    refine XS.i2l X6.here hx rfl (hb hby at_135) rfl ?_
    refine XS.ladd X6.here hx rfl (hb hby at_136) rfl ?_
    show Steps p.tables e below (T6.setTop (mkF m 137 #[.val (.int p0_), .val (.int p1_), .val (.int p2_), .val (.int (0 : Int32)), .val (.int m_), .val (.ref r3), .val (.int (0 : Int32)), .val (.int (0 : Int32)), .val (.int f_), .unset, .unset] [(.long ((m_.toInt64) + (f_.toInt64)))])) _
    rw [hf10]
    refine XS.lstore X6.here hx rfl (hb hby at_137) rfl (l' := #[.val (.int p0_), .val (.int p1_), .val (.int p2_), .val (.int (0 : Int32)), .val (.int m_), .val (.ref r3), .val (.int (0 : Int32)), .val (.int (0 : Int32)), .val (.int f_), .val (.long l_), .second]) rfl ?_
    refine XS.lload X6.here hx rfl (hb hby at_139) rfl ?_
    show Steps p.tables e below (T6.setTop (mkF m 141 #[.val (.int p0_), .val (.int p1_), .val (.int p2_), .val (.int (0 : Int32)), .val (.int m_), .val (.ref r3), .val (.int (0 : Int32)), .val (.int (0 : Int32)), .val (.int f_), .val (.long l_), .second] [(.long l_)])) _
    refine X6.ldc2Long hx hown (mvT hZ (hw _ (List.mem_of_getElem? (i := 32) rfl))) (g := (mkF m 141 #[.val (.int p0_), .val (.int p1_), .val (.int p2_), .val (.int (0 : Int32)), .val (.int m_), .val (.ref r3), .val (.int (0 : Int32)), .val (.int (0 : Int32)), .val (.int f_), .val (.long l_), .second] [(.long l_)])) rfl (hb hby at_141) _ ?_
    refine XS.lcmp X6.here hx rfl (hb hby at_144) rfl ?_
    refine XS.ifNo X6.here hx rfl (hb hby at_145) rfl ((if0 _ _).trans (flt hf11).2.2.1) ?_
    refine XS.aload X6.here hx rfl (hb hby at_148) rfl rfl ?_
    show Steps p.tables e below (T6.setTop (mkF m 150 #[.val (.int p0_), .val (.int p1_), .val (.int p2_), .val (.int (0 : Int32)), .val (.int m_), .val (.ref r3), .val (.int (0 : Int32)), .val (.int (0 : Int32)), .val (.int f_), .val (.long l_), .second] [(.ref r3)])) _
    refine XS.lload X6.here hx rfl (hb hby at_150) rfl ?_
    refine XS.l2i X6.here hx rfl (hb hby at_152) rfl ?_
    show Steps p.tables e below (T6.setTop (mkF m 153 #[.val (.int p0_), .val (.int p1_), .val (.int p2_), .val (.int (0 : Int32)), .val (.int m_), .val (.ref r3), .val (.int (0 : Int32)), .val (.int (0 : Int32)), .val (.int f_), .val (.long l_), .second] [(.int (l_.toInt32)), (.ref r3)])) _
    refine st7.trans ?_
    refine XS.iload X7.here hx rfl (hb hby at_156) rfl ?_
    refine XS.ifYes X7.here hx rfl (pc0 := 158) (pc' := 165) rfl (hb hby at_158) rfl ((if0 _ _).trans (tlt hf13).1) (by decide) (by decide) ?_
    refine XS.iconst X7.here hx rfl (hb hby at_165) ?_
    show Steps p.tables e below (T7.setTop (mkF m 166 #[.val (.int p0_), .val (.int p1_), .val (.int p2_), .val (.int (0 : Int32)), .val (.int m_), .val (.ref r3), .val (.int (0 : Int32)), .val (.int (0 : Int32)), .val (.int f_), .val (.long l_), .second] [(.int (0 : Int32)), (.int (0 : Int32))])) _
    refine XS.icmpYes X7.here hx rfl (pc0 := 166) (pc' := 171) rfl (hb hby at_166) rfl (teq (rfl : (0 : Int32) = (0 : Int32))).1 (by decide) (by decide) ?_
    refine XS.iconst X7.here hx rfl (hb hby at_171) ?_
    show Steps p.tables e below (T7.setTop (mkF m 172 #[.val (.int p0_), .val (.int p1_), .val (.int p2_), .val (.int (0 : Int32)), .val (.int m_), .val (.ref r3), .val (.int (0 : Int32)), .val (.int (0 : Int32)), .val (.int f_), .val (.long l_), .second] [(.int (1 : Int32))])) _
    exact retN X7 hx (t := .boolean) Bd.returns (by simp) (hb hby at_172) hr
  · show own_QL n0 _ T7.heap _
    exact ⟨rfl, N7⟩
set_option maxRecDepth 65536 in
set_option maxHeartbeats 40000000 in
theorem own_law_V2lg (l : Launch) (Z : State) (a0 : Array Value) (hw : ∀ d ∈ tables_1, d.before a0 Z = true) (ws : List Jvm.Cond) (p0_ : Int32) (p1_ : Int32) (p2_ : Int32) (m_ : Int32) (w_DEFAULT_BACKOFF : Addr) (o_ : Int32) (f_ : Int32) (l_ : Int64) (h0 : Heap) (n0 : Nat) (Z0 : n0 ≤ h0.size) (S_DEFAULT_BACKOFF : Sta Z h0 "com/example/mersey/mersey/JobTypeSettings" "DEFAULT_BACKOFF" "Lcom/example/mersey/mersey/Backoff;" (.ref w_DEFAULT_BACKOFF)) (hf0 : (p0_ &&& (1 : Int32)) = (0 : Int32)) (hf1 : (p1_ &&& (2147483647 : Int32)) = m_) (hf2 : ¬ (m_ = (0 : Int32))) (hf3 : ¬ (m_ < (1 : Int32))) (hf4 : p2_ < m_) (hf5 : ¬ (m_ < m_)) (hf6 : (1 : Int32) < m_) (hf7 : (m_ - (1 : Int32)) < m_) (hf8 : (((p0_.toUInt32 >>> ((1 : Int32) &&& 31).toUInt32).toInt32) % (5 : Int32)) = o_) (hf9 : (o_ - (2 : Int32)) = f_) (hf10 : ((m_.toInt64) + (f_.toInt64)) = l_) (hf11 : ¬ ((0 : Int32) < (lcmpW l_ (2147483647 : Int64)))) (hf12 : ¬ ((l_.toInt32) < m_)) (hf13 : ¬ (f_ < (0 : Int32))) :
    MetFree l x (head1 (Jvm.Cond.code x code maxLocals ret :: ws) room_1) (fun a U => a = #[(.int p0_), (.int p1_), (.int p2_)] ∧ Z.Warmed39 U.vm ∧ U.heap = h0) (fun _ _ _ _ _ => True) (fun _ U o U' => ∃ v L, o = .returned v ∧ own_QL n0 v U'.heap L ∧ FrameEnd U o U' L room_1.cells room_1.slots) := by
  refine MetFree.of_bodySF (plainFor_of_name own_pn1) hisR ?_
  intro p e s m args below meth c s₁ Bd hml0 hP hK
  obtain ⟨rfl, hZ, hh⟩ := hP
  have hx := Bd.exec
  have hby := Bd.bytes
  have hml : c.maxLocals = 11 := hml0
  have hown : s.vm.findClass "com/example/mersey/mersey/JobTypeSettingsIsLastAttemptPinLaw" = some m.cls := findClass_of_methodNamed Bd.named
  have hnm := (name_of_methodNamed Bd.named Bd.method).1
  have X0 : Stand p l e room_1 s m #[(.int p0_), (.int p1_), (.int p2_)] below meth c s₁ [] 0 0 := Stand.of_body Bd
  have e0 : s₁.heap = h0 := by rw [← hh, Bd.state]; rfl
  have N0 := Fr.nil n0
  have pre0 : ∀ t, Steps p.tables e below (s₁.setTop (mkF m 0 #[.val (.int p0_), .val (.int p1_), .val (.int p2_), .unset, .unset, .unset, .unset, .unset, .unset, .unset, .unset] [])) t → Steps p.tables e below (s₁.setTop (entryFrame m #[(.int p0_), (.int p1_), (.int p2_)] maxLocals)) t := fun t k => castTop (own_ef2 m p0_ p1_ p2_) k
  obtain ⟨T1, h1, X1, e1, E1, A1, D1, -, st1⟩ := newO X0 hx hZ hown (hw _ (List.mem_of_getElem? (i := 1) rfl)) (hw _ (List.mem_of_getElem? (i := 2) rfl)) (hw _ (List.mem_of_getElem? (i := 3) rfl)) e0 (g := (mkF m 45 #[.val (.int p0_), .val (.int p1_), .val (.int p2_), .val (.int (0 : Int32)), .val (.int m_), .unset, .unset, .unset, .unset, .unset, .unset] [])) rfl (hb hby at_45) (by decide) (by decide)
  obtain ⟨b1, g1⟩ : ∃ z, z = h0.size := ⟨_, rfl⟩
  rw [← g1] at A1 D1 st1
  have lo_b1 : h0.size ≤ b1 := Nat.le_of_eq g1.symm
  have sz_b1 : h0.size ≤ b1 := Nat.le_trans (Keep.refl h0 []).1 lo_b1
  have g_b1 : n0 ≤ b1 := Nat.le_trans Z0 sz_b1
  have K1 : Keep h0 h1 [] := (Keep.refl h0 []).ext E1
  have F_maxAttempts_b1_1 : Fld Z h1 b1 "com/example/mersey/mersey/JobTypeSettings" "maxAttempts" "I" (.int (0 : Int32)) := D1 (Or.inl (hw _ (List.mem_of_getElem? (i := 11) rfl))) (ty := .int) (by decide)
  have F_backoff_b1_1 : Fld Z h1 b1 "com/example/mersey/mersey/JobTypeSettings" "backoff" "Lcom/example/mersey/mersey/Backoff;" .null := D1 (Or.inl (hw _ (List.mem_of_getElem? (i := 15) rfl))) (ty := (.object "com/example/mersey/mersey/Backoff")) (by decide)
  have F_longestRunTime_b1_1 : Fld Z h1 b1 "com/example/mersey/mersey/JobTypeSettings" "longestRunTime" "Ljava/time/Duration;" .null := D1 (Or.inl (hw _ (List.mem_of_getElem? (i := 26) rfl))) (ty := (.object "java/time/Duration")) (by decide)
  obtain ⟨_, _, ⟨T2, L2, k2, n2⟩, -, X2, ⟨Lc2, hQ2, l2, y2, z2⟩, st2⟩ := X1.specialBack hx (y := (⟨"com/example/mersey/mersey/JobTypeSettings", "<init>", "()V"⟩ : MethodName)) rfl hown (mvT hZ (hw _ (List.mem_of_getElem? (i := 4) rfl))) (mvT hZ (hw _ (List.mem_of_getElem? (i := 5) rfl))) (mvT hZ (hw _ (List.mem_of_getElem? (i := 6) rfl))) (by decide) (backOf (W := 1) (own_b1_x l Z a0 hw [] b1 (.int (0 : Int32)) w_DEFAULT_BACKOFF .null .null h1 n0 (Nat.le_trans Z0 (own_ext K1).1) A1 F_maxAttempts_b1_1 g_b1 (S_DEFAULT_BACKOFF.ext (own_ext K1)) F_backoff_b1_1 F_longestRunTime_b1_1) hZ (hw _ (List.mem_of_getElem? (i := 6) rfl)) (hw _ (List.mem_of_getElem? (i := 3) rfl)) (by decide) (by decide)) (g := (mkF m 49 #[.val (.int p0_), .val (.int p1_), .val (.int p2_), .val (.int (0 : Int32)), .val (.int m_), .unset, .unset, .unset, .unset, .unset, .unset] [(.ref b1), (.ref b1)])) rfl (by rw [hml]; rfl) (Steps.refl _) (a := b1) (argsL := []) (rest := [(.ref b1)]) (lenOf own_pd0 rfl) rfl (by show 2 * 0 + _ ≤ _; exact Nat.le_of_eq rfl) (hb hby at_49) (fun _ _ => ⟨rfl, e1, (by decide : 1 + 0 ≤ _), (by decide : 3 + 0 ≤ _)⟩)
  dsimp only [Pt.U, Pt.locs, Pt.cells, Pt.slots] at X2 l2 y2 z2 st2 hQ2
  subst l2 y2 z2
  obtain ⟨rfl, N2q, Kq2, Eq2, Fq2_maxAttempts, Fq2_backoff, Fq2_longestRunTime⟩ := hQ2
  have N2 := Fr.app N0 N2q
  have K2 : Keep h0 T2.heap [] := K1.trans Kq2 (fun x hx => by cases List.mem_singleton.mp hx; exact Or.inr sz_b1)
  obtain ⟨cq3, kq3, q3a, q3b, q3c⟩ := isOf hZ rfl Eq2
  obtain ⟨_, _, ⟨T3, L3, k3, n3⟩, -, X3, ⟨Lc3, hQ3, l3, y3, z3⟩, st3⟩ := X2.virtualBack hx (y := (⟨"com/example/mersey/mersey/JobTypeSettings", "withMaxAttempts", "(I)Lcom/example/mersey/mersey/JobTypeSettings;"⟩ : MethodName)) (z := (⟨"com/example/mersey/mersey/JobTypeSettings", "withMaxAttempts", "(I)Lcom/example/mersey/mersey/JobTypeSettings;"⟩ : MethodName)) hown (mvT hZ (hw _ (List.mem_of_getElem? (i := 16) rfl))) (mvT hZ (hw _ (List.mem_of_getElem? (i := 17) rfl))) (notFace_of_selects (args := #[]) (mvT hZ (hw _ (List.mem_of_getElem? (i := 19) rfl)))) (mvT hZ (hw _ (List.mem_of_getElem? (i := 19) rfl))) (mvT hZ (hw _ (List.mem_of_getElem? (i := 18) rfl))) (by decide) (backOf (W := 0) (own_b3_tN l Z a0 hw [] b1 m_ w_DEFAULT_BACKOFF (5 : Int32) w_DEFAULT_BACKOFF T2.heap n0 (Nat.le_trans Z0 (own_ext K2).1) (S_DEFAULT_BACKOFF.ext (own_ext K2)) Fq2_longestRunTime Fq2_maxAttempts Fq2_backoff hf3) hZ (hw _ (List.mem_of_getElem? (i := 20) rfl)) (hw _ (List.mem_of_getElem? (i := 3) rfl)) (by decide) (by decide)) q3a q3c (g := (mkF m 54 #[.val (.int p0_), .val (.int p1_), .val (.int p2_), .val (.int (0 : Int32)), .val (.int m_), .unset, .unset, .unset, .unset, .unset, .unset] [(.int m_), (.ref b1)])) rfl (by rw [hml]; rfl) (Steps.refl _) (argsL := [(.int m_)]) (rest := []) (lenOf own_pd3 rfl) rfl (by show 2 * 0 + _ ≤ _; exact Nat.le_of_eq rfl) (hb hby at_54) (fun _ _ => ⟨rfl, rfl, (by decide : 1 + 1 ≤ _), (by decide : 3 + 3 ≤ _)⟩)
  dsimp only [Pt.U, Pt.locs, Pt.cells, Pt.slots] at X3 l3 y3 z3 st3 hQ3
  subst l3 y3 z3
  obtain ⟨r3, rfl, N3q, Kq3, lo_r3, Eq3, Fq3_maxAttempts, Fq3_backoff, Fq3_longestRunTime⟩ := hQ3
  have N3 := Fr.app N2 N3q
  have ne_b1_r3 : b1 ≠ r3 := Nat.ne_of_lt (Nat.lt_of_lt_of_le Eq2.lt lo_r3)
  have sz_r3 : h0.size ≤ r3 := Nat.le_trans K2.1 lo_r3
  have g_r3 : n0 ≤ r3 := Nat.le_trans Z0 sz_r3
  have E_b1_3 := Eq2.ext (own_ext Kq3)
  have F_maxAttempts_b1_3 := Fq2_maxAttempts.ext (own_ext Kq3)
  have F_backoff_b1_3 := Fq2_backoff.ext (own_ext Kq3)
  have F_longestRunTime_b1_3 := Fq2_longestRunTime.ext (own_ext Kq3)
  have K3 : Keep h0 T3.heap [] := K2.trans Kq3 (fun x hx => by cases hx)
  obtain ⟨cq4, kq4, q4a, q4b, q4c⟩ := isOf hZ rfl Eq3
  obtain ⟨_, _, ⟨T4, L4, k4, n4⟩, -, X4, ⟨Lc4, hQ4, l4, y4, z4⟩, st4⟩ := X3.virtualBack hx (y := (⟨"com/example/mersey/mersey/JobTypeSettings", "isLastAttempt", "(I)Z"⟩ : MethodName)) (z := (⟨"com/example/mersey/mersey/JobTypeSettings", "isLastAttempt", "(I)Z"⟩ : MethodName)) hown (mvT hZ (hw _ (List.mem_of_getElem? (i := 27) rfl))) (mvT hZ (hw _ (List.mem_of_getElem? (i := 28) rfl))) (notFace_of_selects (args := #[]) (mvT hZ (hw _ (List.mem_of_getElem? (i := 30) rfl)))) (mvT hZ (hw _ (List.mem_of_getElem? (i := 30) rfl))) (mvT hZ (hw _ (List.mem_of_getElem? (i := 29) rfl))) (by decide) (backOf (W := 0) (own_b5_t l Z a0 hw [] r3 p2_ m_ T3.heap n0 (Nat.le_trans Z0 (own_ext K3).1) Fq3_maxAttempts hf4) hZ (hw _ (List.mem_of_getElem? (i := 31) rfl)) (hw _ (List.mem_of_getElem? (i := 3) rfl)) (by decide) (by decide)) q4a q4c (g := (mkF m 62 #[.val (.int p0_), .val (.int p1_), .val (.int p2_), .val (.int (0 : Int32)), .val (.int m_), .val (.ref r3), .unset, .unset, .unset, .unset, .unset] [(.int p2_), (.ref r3)])) rfl (by rw [hml]; rfl) (Steps.refl _) (argsL := [(.int p2_)]) (rest := []) (lenOf own_pd1 rfl) rfl (by show 2 * 0 + _ ≤ _; exact Nat.le_of_eq rfl) (hb hby at_62) (fun _ _ => ⟨rfl, rfl, (by decide : 2 + 0 ≤ _), (by decide : 6 + 0 ≤ _)⟩)
  dsimp only [Pt.U, Pt.locs, Pt.cells, Pt.slots] at X4 l4 y4 z4 st4 hQ4
  subst l4 y4 z4
  obtain ⟨rfl, N4q, e4⟩ := hQ4
  have N4 := Fr.app N3 N4q
  obtain ⟨cq5, kq5, q5a, q5b, q5c⟩ := isOf hZ e4 Eq3
  obtain ⟨_, _, ⟨T5, L5, k5, n5⟩, -, X5, ⟨Lc5, hQ5, l5, y5, z5⟩, st5⟩ := X4.virtualBack hx (y := (⟨"com/example/mersey/mersey/JobTypeSettings", "isLastAttempt", "(I)Z"⟩ : MethodName)) (z := (⟨"com/example/mersey/mersey/JobTypeSettings", "isLastAttempt", "(I)Z"⟩ : MethodName)) hown (mvT hZ (hw _ (List.mem_of_getElem? (i := 27) rfl))) (mvT hZ (hw _ (List.mem_of_getElem? (i := 28) rfl))) (notFace_of_selects (args := #[]) (mvT hZ (hw _ (List.mem_of_getElem? (i := 30) rfl)))) (mvT hZ (hw _ (List.mem_of_getElem? (i := 30) rfl))) (mvT hZ (hw _ (List.mem_of_getElem? (i := 29) rfl))) (by decide) (backOf (W := 0) (own_b5_f l Z a0 hw [] r3 m_ m_ T3.heap n0 (Nat.le_trans Z0 (own_ext K3).1) Fq3_maxAttempts hf5) hZ (hw _ (List.mem_of_getElem? (i := 31) rfl)) (hw _ (List.mem_of_getElem? (i := 3) rfl)) (by decide) (by decide)) q5a q5c (g := (mkF m 93 #[.val (.int p0_), .val (.int p1_), .val (.int p2_), .val (.int (0 : Int32)), .val (.int m_), .val (.ref r3), .val (.int (0 : Int32)), .val (.int (0 : Int32)), .unset, .unset, .unset] [(.int m_), (.ref r3)])) rfl (by rw [hml]; rfl) (Steps.refl _) (argsL := [(.int m_)]) (rest := []) (lenOf own_pd1 rfl) rfl (by show 2 * 0 + _ ≤ _; exact Nat.le_of_eq rfl) (hb hby at_93) (fun _ _ => ⟨rfl, e4, (by decide : 2 + 0 ≤ _), (by decide : 6 + 0 ≤ _)⟩)
  dsimp only [Pt.U, Pt.locs, Pt.cells, Pt.slots] at X5 l5 y5 z5 st5 hQ5
  subst l5 y5 z5
  obtain ⟨rfl, N5q, e5⟩ := hQ5
  have N5 := Fr.app N4 N5q
  obtain ⟨cq6, kq6, q6a, q6b, q6c⟩ := isOf hZ e5 Eq3
  obtain ⟨_, _, ⟨T6, L6, k6, n6⟩, -, X6, ⟨Lc6, hQ6, l6, y6, z6⟩, st6⟩ := X5.virtualBack hx (y := (⟨"com/example/mersey/mersey/JobTypeSettings", "isLastAttempt", "(I)Z"⟩ : MethodName)) (z := (⟨"com/example/mersey/mersey/JobTypeSettings", "isLastAttempt", "(I)Z"⟩ : MethodName)) hown (mvT hZ (hw _ (List.mem_of_getElem? (i := 27) rfl))) (mvT hZ (hw _ (List.mem_of_getElem? (i := 28) rfl))) (notFace_of_selects (args := #[]) (mvT hZ (hw _ (List.mem_of_getElem? (i := 30) rfl)))) (mvT hZ (hw _ (List.mem_of_getElem? (i := 30) rfl))) (mvT hZ (hw _ (List.mem_of_getElem? (i := 29) rfl))) (by decide) (backOf (W := 0) (own_b5_t l Z a0 hw [] r3 (m_ - (1 : Int32)) m_ T3.heap n0 (Nat.le_trans Z0 (own_ext K3).1) Fq3_maxAttempts hf7) hZ (hw _ (List.mem_of_getElem? (i := 31) rfl)) (hw _ (List.mem_of_getElem? (i := 3) rfl)) (by decide) (by decide)) q6a q6c (g := (mkF m 113 #[.val (.int p0_), .val (.int p1_), .val (.int p2_), .val (.int (0 : Int32)), .val (.int m_), .val (.ref r3), .val (.int (0 : Int32)), .val (.int (0 : Int32)), .unset, .unset, .unset] [(.int (m_ - (1 : Int32))), (.ref r3)])) rfl (by rw [hml]; rfl) (Steps.refl _) (argsL := [(.int (m_ - (1 : Int32)))]) (rest := []) (lenOf own_pd1 rfl) rfl (by show 2 * 0 + _ ≤ _; exact Nat.le_of_eq rfl) (hb hby at_113) (fun _ _ => ⟨rfl, e5, (by decide : 2 + 0 ≤ _), (by decide : 6 + 0 ≤ _)⟩)
  dsimp only [Pt.U, Pt.locs, Pt.cells, Pt.slots] at X6 l6 y6 z6 st6 hQ6
  subst l6 y6 z6
  obtain ⟨rfl, N6q, e6⟩ := hQ6
  have N6 := Fr.app N5 N6q
  obtain ⟨cq7, kq7, q7a, q7b, q7c⟩ := isOf hZ e6 Eq3
  obtain ⟨_, _, ⟨T7, L7, k7, n7⟩, -, X7, ⟨Lc7, hQ7, l7, y7, z7⟩, st7⟩ := X6.virtualBack hx (y := (⟨"com/example/mersey/mersey/JobTypeSettings", "isLastAttempt", "(I)Z"⟩ : MethodName)) (z := (⟨"com/example/mersey/mersey/JobTypeSettings", "isLastAttempt", "(I)Z"⟩ : MethodName)) hown (mvT hZ (hw _ (List.mem_of_getElem? (i := 27) rfl))) (mvT hZ (hw _ (List.mem_of_getElem? (i := 28) rfl))) (notFace_of_selects (args := #[]) (mvT hZ (hw _ (List.mem_of_getElem? (i := 30) rfl)))) (mvT hZ (hw _ (List.mem_of_getElem? (i := 30) rfl))) (mvT hZ (hw _ (List.mem_of_getElem? (i := 29) rfl))) (by decide) (backOf (W := 0) (own_b5_f l Z a0 hw [] r3 (l_.toInt32) m_ T3.heap n0 (Nat.le_trans Z0 (own_ext K3).1) Fq3_maxAttempts hf12) hZ (hw _ (List.mem_of_getElem? (i := 31) rfl)) (hw _ (List.mem_of_getElem? (i := 3) rfl)) (by decide) (by decide)) q7a q7c (g := (mkF m 153 #[.val (.int p0_), .val (.int p1_), .val (.int p2_), .val (.int (0 : Int32)), .val (.int m_), .val (.ref r3), .val (.int (0 : Int32)), .val (.int (0 : Int32)), .val (.int f_), .val (.long l_), .second] [(.int (l_.toInt32)), (.ref r3)])) rfl (by rw [hml]; rfl) (Steps.refl _) (argsL := [(.int (l_.toInt32))]) (rest := []) (lenOf own_pd1 rfl) rfl (by show 2 * 0 + _ ≤ _; exact Nat.le_of_eq rfl) (hb hby at_153) (fun _ _ => ⟨rfl, e6, (by decide : 2 + 0 ≤ _), (by decide : 6 + 0 ≤ _)⟩)
  dsimp only [Pt.U, Pt.locs, Pt.cells, Pt.slots] at X7 l7 y7 z7 st7 hQ7
  subst l7 y7 z7
  obtain ⟨rfl, N7q, e7⟩ := hQ7
  have N7 := Fr.app N6 N7q
  obtain ⟨fs, hr, hrun, hended, hW, hsame⟩ := X7.leave (v := some (.int (1 : Int32))) (fun h => by rw [Bd.returns] at h; cases h)
  refine ⟨_, _, pre0 _ ?_, hrun, hended, _, _, rfl, ?_, ⟨_, rfl⟩, hW, hsame.mono (by decide) (by decide)⟩
  · show Steps p.tables e below (s₁.setTop (mkF m 0 #[.val (.int p0_), .val (.int p1_), .val (.int p2_), .unset, .unset, .unset, .unset, .unset, .unset, .unset, .unset] [])) _
    refine XS.iloadN X0.here hx rfl (hb hby at_0) rfl ?_
    refine XS.iconst X0.here hx rfl (hb hby at_1) ?_
    refine XS.iand X0.here hx rfl (hb hby at_2) rfl ?_
    show Steps p.tables e below (s₁.setTop (mkF m 3 #[.val (.int p0_), .val (.int p1_), .val (.int p2_), .unset, .unset, .unset, .unset, .unset, .unset, .unset, .unset] [(.int (p0_ &&& (1 : Int32)))])) _
    rw [hf0]
    refine XS.ifYes X0.here hx rfl (pc0 := 3) (pc' := 10) rfl (hb hby at_3) rfl ((if0 _ _).trans (teq (rfl : (0 : Int32) = (0 : Int32))).1) (by decide) (by decide) ?_
    refine XS.iconst X0.here hx rfl (hb hby at_10) ?_
    refine XS.istoreN X0.here hx rfl (hb hby at_11) rfl (l' := #[.val (.int p0_), .val (.int p1_), .val (.int p2_), .val (.int (0 : Int32)), .unset, .unset, .unset, .unset, .unset, .unset, .unset]) rfl ?_
    show Steps p.tables e below (s₁.setTop (mkF m 12 #[.val (.int p0_), .val (.int p1_), .val (.int p2_), .val (.int (0 : Int32)), .unset, .unset, .unset, .unset, .unset, .unset, .unset] [])) _
    refine XS.iloadN X0.here hx rfl (hb hby at_12) rfl ?_
    show Steps p.tables e below (s₁.setTop (mkF m 13 #[.val (.int p0_), .val (.int p1_), .val (.int p2_), .val (.int (0 : Int32)), .unset, .unset, .unset, .unset, .unset, .unset, .unset] [(.int p1_)])) _
    refine X0.ldcInt hx hown (mvT hZ (hw _ (List.mem_of_getElem? (i := 0) rfl))) (g := (mkF m 13 #[.val (.int p0_), .val (.int p1_), .val (.int p2_), .val (.int (0 : Int32)), .unset, .unset, .unset, .unset, .unset, .unset, .unset] [(.int p1_)])) rfl (hb hby at_13) _ ?_
    refine XS.iand X0.here hx rfl (hb hby at_15) rfl ?_
    show Steps p.tables e below (s₁.setTop (mkF m 16 #[.val (.int p0_), .val (.int p1_), .val (.int p2_), .val (.int (0 : Int32)), .unset, .unset, .unset, .unset, .unset, .unset, .unset] [(.int (p1_ &&& (2147483647 : Int32)))])) _
    rw [hf1]
    refine XS.istore X0.here hx rfl (hb hby at_16) rfl (l' := #[.val (.int p0_), .val (.int p1_), .val (.int p2_), .val (.int (0 : Int32)), .val (.int m_), .unset, .unset, .unset, .unset, .unset, .unset]) rfl ?_
    refine XS.iload X0.here hx rfl (hb hby at_18) rfl ?_
    refine XS.ifYes X0.here hx rfl (pc0 := 20) (pc' := 26) rfl (hb hby at_20) rfl ((if0 _ _).trans (feq hf2).2) (by decide) (by decide) ?_
    show Steps p.tables e below (s₁.setTop (mkF m 26 #[.val (.int p0_), .val (.int p1_), .val (.int p2_), .val (.int (0 : Int32)), .val (.int m_), .unset, .unset, .unset, .unset, .unset, .unset] [])) _
    refine XS.iloadN X0.here hx rfl (hb hby at_26) rfl ?_
    refine XS.ifYes X0.here hx rfl (pc0 := 27) (pc' := 45) rfl (hb hby at_27) rfl ((if0 _ _).trans (teq (rfl : (0 : Int32) = (0 : Int32))).1) (by decide) (by decide) ?_
    show Steps p.tables e below (s₁.setTop (mkF m 45 #[.val (.int p0_), .val (.int p1_), .val (.int p2_), .val (.int (0 : Int32)), .val (.int m_), .unset, .unset, .unset, .unset, .unset, .unset] [])) _
    refine st1 _ ?_
    refine XS.dup X1.here hx rfl (hb hby at_48) rfl rfl ?_
    show Steps p.tables e below (T1.setTop (mkF m 49 #[.val (.int p0_), .val (.int p1_), .val (.int p2_), .val (.int (0 : Int32)), .val (.int m_), .unset, .unset, .unset, .unset, .unset, .unset] [(.ref b1), (.ref b1)])) _
    refine st2.trans ?_
    refine XS.iload X2.here hx rfl (hb hby at_52) rfl ?_
    show Steps p.tables e below (T2.setTop (mkF m 54 #[.val (.int p0_), .val (.int p1_), .val (.int p2_), .val (.int (0 : Int32)), .val (.int m_), .unset, .unset, .unset, .unset, .unset, .unset] [(.int m_), (.ref b1)])) _
    refine st3.trans ?_
    refine XS.astore X3.here hx rfl (hb hby at_57) rfl rfl (l' := #[.val (.int p0_), .val (.int p1_), .val (.int p2_), .val (.int (0 : Int32)), .val (.int m_), .val (.ref r3), .unset, .unset, .unset, .unset, .unset]) rfl ?_
    refine XS.aload X3.here hx rfl (hb hby at_59) rfl rfl ?_
    refine XS.iloadN X3.here hx rfl (hb hby at_61) rfl ?_
    show Steps p.tables e below (T3.setTop (mkF m 62 #[.val (.int p0_), .val (.int p1_), .val (.int p2_), .val (.int (0 : Int32)), .val (.int m_), .val (.ref r3), .unset, .unset, .unset, .unset, .unset] [(.int p2_), (.ref r3)])) _
    refine st4.trans ?_
    refine XS.istore X4.here hx rfl (hb hby at_65) rfl (l' := #[.val (.int p0_), .val (.int p1_), .val (.int p2_), .val (.int (0 : Int32)), .val (.int m_), .val (.ref r3), .val (.int (0 : Int32)), .unset, .unset, .unset, .unset]) rfl ?_
    refine XS.iloadN X4.here hx rfl (hb hby at_67) rfl ?_
    refine XS.iload X4.here hx rfl (hb hby at_68) rfl ?_
    show Steps p.tables e below (T4.setTop (mkF m 70 #[.val (.int p0_), .val (.int p1_), .val (.int p2_), .val (.int (0 : Int32)), .val (.int m_), .val (.ref r3), .val (.int (0 : Int32)), .unset, .unset, .unset, .unset] [(.int m_), (.int p2_)])) _
    refine XS.icmpYes X4.here hx rfl (pc0 := 70) (pc' := 77) rfl (hb hby at_70) rfl (tlt hf4).1 (by decide) (by decide) ?_
    refine XS.iconst X4.here hx rfl (hb hby at_77) ?_
    refine XS.istore X4.here hx rfl (hb hby at_78) rfl (l' := #[.val (.int p0_), .val (.int p1_), .val (.int p2_), .val (.int (0 : Int32)), .val (.int m_), .val (.ref r3), .val (.int (0 : Int32)), .val (.int (0 : Int32)), .unset, .unset, .unset]) rfl ?_
    refine XS.iload X4.here hx rfl (hb hby at_80) rfl ?_
    show Steps p.tables e below (T4.setTop (mkF m 82 #[.val (.int p0_), .val (.int p1_), .val (.int p2_), .val (.int (0 : Int32)), .val (.int m_), .val (.ref r3), .val (.int (0 : Int32)), .val (.int (0 : Int32)), .unset, .unset, .unset] [(.int (0 : Int32))])) _
    refine XS.iload X4.here hx rfl (hb hby at_82) rfl ?_
    refine XS.icmpYes X4.here hx rfl (pc0 := 84) (pc' := 89) rfl (hb hby at_84) rfl (teq (rfl : (0 : Int32) = (0 : Int32))).1 (by decide) (by decide) ?_
    refine XS.aload X4.here hx rfl (hb hby at_89) rfl rfl ?_
    refine XS.iload X4.here hx rfl (hb hby at_91) rfl ?_
    show Steps p.tables e below (T4.setTop (mkF m 93 #[.val (.int p0_), .val (.int p1_), .val (.int p2_), .val (.int (0 : Int32)), .val (.int m_), .val (.ref r3), .val (.int (0 : Int32)), .val (.int (0 : Int32)), .unset, .unset, .unset] [(.int m_), (.ref r3)])) _
    refine st5.trans ?_
    refine XS.ifYes X5.here hx rfl (pc0 := 96) (pc' := 101) rfl (hb hby at_96) rfl ((if0 _ _).trans (feq (by decide : ¬ ((1 : Int32) = (0 : Int32)))).2) (by decide) (by decide) ?_
    refine XS.iload X5.here hx rfl (hb hby at_101) rfl ?_
    refine XS.iconst X5.here hx rfl (hb hby at_103) ?_
    show Steps p.tables e below (T5.setTop (mkF m 104 #[.val (.int p0_), .val (.int p1_), .val (.int p2_), .val (.int (0 : Int32)), .val (.int m_), .val (.ref r3), .val (.int (0 : Int32)), .val (.int (0 : Int32)), .unset, .unset, .unset] [(.int (1 : Int32)), (.int m_)])) _
    refine XS.icmpNo X5.here hx rfl (hb hby at_104) rfl (tlt hf6).2.2.2 ?_
    refine XS.aload X5.here hx rfl (hb hby at_107) rfl rfl ?_
    refine XS.iload X5.here hx rfl (hb hby at_109) rfl ?_
    refine XS.iconst X5.here hx rfl (hb hby at_111) ?_
    show Steps p.tables e below (T5.setTop (mkF m 112 #[.val (.int p0_), .val (.int p1_), .val (.int p2_), .val (.int (0 : Int32)), .val (.int m_), .val (.ref r3), .val (.int (0 : Int32)), .val (.int (0 : Int32)), .unset, .unset, .unset] [(.int (1 : Int32)), (.int m_), (.ref r3)])) _
    refine XS.isub X5.here hx rfl (hb hby at_112) rfl ?_
    show Steps p.tables e below (T5.setTop (mkF m 113 #[.val (.int p0_), .val (.int p1_), .val (.int p2_), .val (.int (0 : Int32)), .val (.int m_), .val (.ref r3), .val (.int (0 : Int32)), .val (.int (0 : Int32)), .unset, .unset, .unset] [(.int (m_ - (1 : Int32))), (.ref r3)])) _
    refine st6.trans ?_
    refine XS.ifYes X6.here hx rfl (pc0 := 116) (pc' := 121) rfl (hb hby at_116) rfl ((if0 _ _).trans (teq (rfl : (0 : Int32) = (0 : Int32))).1) (by decide) (by decide) ?_
    refine XS.iloadN X6.here hx rfl (hb hby at_121) rfl ?_
    refine XS.iconst X6.here hx rfl (hb hby at_122) ?_
    show Steps p.tables e below (T6.setTop (mkF m 123 #[.val (.int p0_), .val (.int p1_), .val (.int p2_), .val (.int (0 : Int32)), .val (.int m_), .val (.ref r3), .val (.int (0 : Int32)), .val (.int (0 : Int32)), .unset, .unset, .unset] [(.int (1 : Int32)), (.int p0_)])) _
    refine XS.iushr X6.here hx rfl (hb hby at_123) rfl ?_
    refine XS.iconst X6.here hx rfl (hb hby at_124) ?_
    show Steps p.tables e below (T6.setTop (mkF m 125 #[.val (.int p0_), .val (.int p1_), .val (.int p2_), .val (.int (0 : Int32)), .val (.int m_), .val (.ref r3), .val (.int (0 : Int32)), .val (.int (0 : Int32)), .unset, .unset, .unset] [(.int (5 : Int32)), (.int ((p0_.toUInt32 >>> ((1 : Int32) &&& 31).toUInt32).toInt32))])) _
    refine iremM X6 hx rfl (hb hby at_125) rfl (by decide) ?_
    show Steps p.tables e below (T6.setTop (mkF m 126 #[.val (.int p0_), .val (.int p1_), .val (.int p2_), .val (.int (0 : Int32)), .val (.int m_), .val (.ref r3), .val (.int (0 : Int32)), .val (.int (0 : Int32)), .unset, .unset, .unset] [(.int (((p0_.toUInt32 >>> ((1 : Int32) &&& 31).toUInt32).toInt32) % (5 : Int32)))])) _
    rw [hf8]
    refine XS.iconst X6.here hx rfl (hb hby at_126) ?_
    refine XS.isub X6.here hx rfl (hb hby at_127) rfl ?_
    show Steps p.tables e below (T6.setTop (mkF m 128 #[.val (.int p0_), .val (.int p1_), .val (.int p2_), .val (.int (0 : Int32)), .val (.int m_), .val (.ref r3), .val (.int (0 : Int32)), .val (.int (0 : Int32)), .unset, .unset, .unset] [(.int (o_ - (2 : Int32)))])) _
    rw [hf9]
    refine XS.istore X6.here hx rfl (hb hby at_128) rfl (l' := #[.val (.int p0_), .val (.int p1_), .val (.int p2_), .val (.int (0 : Int32)), .val (.int m_), .val (.ref r3), .val (.int (0 : Int32)), .val (.int (0 : Int32)), .val (.int f_), .unset, .unset]) rfl ?_
    refine XS.iload X6.here hx rfl (hb hby at_130) rfl ?_
    refine XS.i2l X6.here hx rfl (hb hby at_132) rfl ?_
    show Steps p.tables e below (T6.setTop (mkF m 133 #[.val (.int p0_), .val (.int p1_), .val (.int p2_), .val (.int (0 : Int32)), .val (.int m_), .val (.ref r3), .val (.int (0 : Int32)), .val (.int (0 : Int32)), .val (.int f_), .unset, .unset] [(.long (m_.toInt64))])) _
    refine XS.iload X6.here hx rfl (hb hby at_133) rfl ?_
    refine XS.i2l X6.here hx rfl (hb hby at_135) rfl ?_
    refine XS.ladd X6.here hx rfl (hb hby at_136) rfl ?_
    show Steps p.tables e below (T6.setTop (mkF m 137 #[.val (.int p0_), .val (.int p1_), .val (.int p2_), .val (.int (0 : Int32)), .val (.int m_), .val (.ref r3), .val (.int (0 : Int32)), .val (.int (0 : Int32)), .val (.int f_), .unset, .unset] [(.long ((m_.toInt64) + (f_.toInt64)))])) _
    rw [hf10]
    refine XS.lstore X6.here hx rfl (hb hby at_137) rfl (l' := #[.val (.int p0_), .val (.int p1_), .val (.int p2_), .val (.int (0 : Int32)), .val (.int m_), .val (.ref r3), .val (.int (0 : Int32)), .val (.int (0 : Int32)), .val (.int f_), .val (.long l_), .second]) rfl ?_
    refine XS.lload X6.here hx rfl (hb hby at_139) rfl ?_
    show Steps p.tables e below (T6.setTop (mkF m 141 #[.val (.int p0_), .val (.int p1_), .val (.int p2_), .val (.int (0 : Int32)), .val (.int m_), .val (.ref r3), .val (.int (0 : Int32)), .val (.int (0 : Int32)), .val (.int f_), .val (.long l_), .second] [(.long l_)])) _
    refine X6.ldc2Long hx hown (mvT hZ (hw _ (List.mem_of_getElem? (i := 32) rfl))) (g := (mkF m 141 #[.val (.int p0_), .val (.int p1_), .val (.int p2_), .val (.int (0 : Int32)), .val (.int m_), .val (.ref r3), .val (.int (0 : Int32)), .val (.int (0 : Int32)), .val (.int f_), .val (.long l_), .second] [(.long l_)])) rfl (hb hby at_141) _ ?_
    refine XS.lcmp X6.here hx rfl (hb hby at_144) rfl ?_
    refine XS.ifNo X6.here hx rfl (hb hby at_145) rfl ((if0 _ _).trans (flt hf11).2.2.1) ?_
    refine XS.aload X6.here hx rfl (hb hby at_148) rfl rfl ?_
    show Steps p.tables e below (T6.setTop (mkF m 150 #[.val (.int p0_), .val (.int p1_), .val (.int p2_), .val (.int (0 : Int32)), .val (.int m_), .val (.ref r3), .val (.int (0 : Int32)), .val (.int (0 : Int32)), .val (.int f_), .val (.long l_), .second] [(.ref r3)])) _
    refine XS.lload X6.here hx rfl (hb hby at_150) rfl ?_
    refine XS.l2i X6.here hx rfl (hb hby at_152) rfl ?_
    show Steps p.tables e below (T6.setTop (mkF m 153 #[.val (.int p0_), .val (.int p1_), .val (.int p2_), .val (.int (0 : Int32)), .val (.int m_), .val (.ref r3), .val (.int (0 : Int32)), .val (.int (0 : Int32)), .val (.int f_), .val (.long l_), .second] [(.int (l_.toInt32)), (.ref r3)])) _
    refine st7.trans ?_
    refine XS.iload X7.here hx rfl (hb hby at_156) rfl ?_
    refine XS.ifNo X7.here hx rfl (hb hby at_158) rfl ((if0 _ _).trans (flt hf13).1) ?_
    refine XS.iconst X7.here hx rfl (hb hby at_161) ?_
    show Steps p.tables e below (T7.setTop (mkF m 162 #[.val (.int p0_), .val (.int p1_), .val (.int p2_), .val (.int (0 : Int32)), .val (.int m_), .val (.ref r3), .val (.int (0 : Int32)), .val (.int (0 : Int32)), .val (.int f_), .val (.long l_), .second] [(.int (1 : Int32)), (.int (1 : Int32))])) _
    refine XS.goto X7.here hx rfl (pc0 := 162) (pc' := 166) rfl (hb hby at_162) (by decide) (by decide) ?_
    refine XS.icmpYes X7.here hx rfl (pc0 := 166) (pc' := 171) rfl (hb hby at_166) rfl (teq (rfl : (1 : Int32) = (1 : Int32))).1 (by decide) (by decide) ?_
    refine XS.iconst X7.here hx rfl (hb hby at_171) ?_
    show Steps p.tables e below (T7.setTop (mkF m 172 #[.val (.int p0_), .val (.int p1_), .val (.int p2_), .val (.int (0 : Int32)), .val (.int m_), .val (.ref r3), .val (.int (0 : Int32)), .val (.int (0 : Int32)), .val (.int f_), .val (.long l_), .second] [(.int (1 : Int32))])) _
    exact retN X7 hx (t := .boolean) Bd.returns (by simp) (hb hby at_172) hr
  · show own_QL n0 _ T7.heap _
    exact ⟨rfl, N7⟩
set_option maxRecDepth 65536 in
set_option maxHeartbeats 40000000 in
theorem own_law_V2lx (l : Launch) (Z : State) (a0 : Array Value) (hw : ∀ d ∈ tables_1, d.before a0 Z = true) (ws : List Jvm.Cond) (p0_ : Int32) (p1_ : Int32) (p2_ : Int32) (m_ : Int32) (w_DEFAULT_BACKOFF : Addr) (o_ : Int32) (f_ : Int32) (l_ : Int64) (h0 : Heap) (n0 : Nat) (Z0 : n0 ≤ h0.size) (S_DEFAULT_BACKOFF : Sta Z h0 "com/example/mersey/mersey/JobTypeSettings" "DEFAULT_BACKOFF" "Lcom/example/mersey/mersey/Backoff;" (.ref w_DEFAULT_BACKOFF)) (hf0 : (p0_ &&& (1 : Int32)) = (0 : Int32)) (hf1 : (p1_ &&& (2147483647 : Int32)) = m_) (hf2 : ¬ (m_ = (0 : Int32))) (hf3 : ¬ (m_ < (1 : Int32))) (hf4 : p2_ < m_) (hf5 : ¬ (m_ < m_)) (hf6 : (1 : Int32) < m_) (hf7 : (m_ - (1 : Int32)) < m_) (hf8 : (((p0_.toUInt32 >>> ((1 : Int32) &&& 31).toUInt32).toInt32) % (5 : Int32)) = o_) (hf9 : (o_ - (2 : Int32)) = f_) (hf10 : ((m_.toInt64) + (f_.toInt64)) = l_) (hf11 : (0 : Int32) < (lcmpW l_ (2147483647 : Int64))) :
    MetFree l x (head1 (Jvm.Cond.code x code maxLocals ret :: ws) room_1) (fun a U => a = #[(.int p0_), (.int p1_), (.int p2_)] ∧ Z.Warmed39 U.vm ∧ U.heap = h0) (fun _ _ _ _ _ => True) (fun _ U o U' => ∃ v L, o = .returned v ∧ own_QL n0 v U'.heap L ∧ FrameEnd U o U' L room_1.cells room_1.slots) := by
  refine MetFree.of_bodySF (plainFor_of_name own_pn1) hisR ?_
  intro p e s m args below meth c s₁ Bd hml0 hP hK
  obtain ⟨rfl, hZ, hh⟩ := hP
  have hx := Bd.exec
  have hby := Bd.bytes
  have hml : c.maxLocals = 11 := hml0
  have hown : s.vm.findClass "com/example/mersey/mersey/JobTypeSettingsIsLastAttemptPinLaw" = some m.cls := findClass_of_methodNamed Bd.named
  have hnm := (name_of_methodNamed Bd.named Bd.method).1
  have X0 : Stand p l e room_1 s m #[(.int p0_), (.int p1_), (.int p2_)] below meth c s₁ [] 0 0 := Stand.of_body Bd
  have e0 : s₁.heap = h0 := by rw [← hh, Bd.state]; rfl
  have N0 := Fr.nil n0
  have pre0 : ∀ t, Steps p.tables e below (s₁.setTop (mkF m 0 #[.val (.int p0_), .val (.int p1_), .val (.int p2_), .unset, .unset, .unset, .unset, .unset, .unset, .unset, .unset] [])) t → Steps p.tables e below (s₁.setTop (entryFrame m #[(.int p0_), (.int p1_), (.int p2_)] maxLocals)) t := fun t k => castTop (own_ef2 m p0_ p1_ p2_) k
  obtain ⟨T1, h1, X1, e1, E1, A1, D1, -, st1⟩ := newO X0 hx hZ hown (hw _ (List.mem_of_getElem? (i := 1) rfl)) (hw _ (List.mem_of_getElem? (i := 2) rfl)) (hw _ (List.mem_of_getElem? (i := 3) rfl)) e0 (g := (mkF m 45 #[.val (.int p0_), .val (.int p1_), .val (.int p2_), .val (.int (0 : Int32)), .val (.int m_), .unset, .unset, .unset, .unset, .unset, .unset] [])) rfl (hb hby at_45) (by decide) (by decide)
  obtain ⟨b1, g1⟩ : ∃ z, z = h0.size := ⟨_, rfl⟩
  rw [← g1] at A1 D1 st1
  have lo_b1 : h0.size ≤ b1 := Nat.le_of_eq g1.symm
  have sz_b1 : h0.size ≤ b1 := Nat.le_trans (Keep.refl h0 []).1 lo_b1
  have g_b1 : n0 ≤ b1 := Nat.le_trans Z0 sz_b1
  have K1 : Keep h0 h1 [] := (Keep.refl h0 []).ext E1
  have F_maxAttempts_b1_1 : Fld Z h1 b1 "com/example/mersey/mersey/JobTypeSettings" "maxAttempts" "I" (.int (0 : Int32)) := D1 (Or.inl (hw _ (List.mem_of_getElem? (i := 11) rfl))) (ty := .int) (by decide)
  have F_backoff_b1_1 : Fld Z h1 b1 "com/example/mersey/mersey/JobTypeSettings" "backoff" "Lcom/example/mersey/mersey/Backoff;" .null := D1 (Or.inl (hw _ (List.mem_of_getElem? (i := 15) rfl))) (ty := (.object "com/example/mersey/mersey/Backoff")) (by decide)
  have F_longestRunTime_b1_1 : Fld Z h1 b1 "com/example/mersey/mersey/JobTypeSettings" "longestRunTime" "Ljava/time/Duration;" .null := D1 (Or.inl (hw _ (List.mem_of_getElem? (i := 26) rfl))) (ty := (.object "java/time/Duration")) (by decide)
  obtain ⟨_, _, ⟨T2, L2, k2, n2⟩, -, X2, ⟨Lc2, hQ2, l2, y2, z2⟩, st2⟩ := X1.specialBack hx (y := (⟨"com/example/mersey/mersey/JobTypeSettings", "<init>", "()V"⟩ : MethodName)) rfl hown (mvT hZ (hw _ (List.mem_of_getElem? (i := 4) rfl))) (mvT hZ (hw _ (List.mem_of_getElem? (i := 5) rfl))) (mvT hZ (hw _ (List.mem_of_getElem? (i := 6) rfl))) (by decide) (backOf (W := 1) (own_b1_x l Z a0 hw [] b1 (.int (0 : Int32)) w_DEFAULT_BACKOFF .null .null h1 n0 (Nat.le_trans Z0 (own_ext K1).1) A1 F_maxAttempts_b1_1 g_b1 (S_DEFAULT_BACKOFF.ext (own_ext K1)) F_backoff_b1_1 F_longestRunTime_b1_1) hZ (hw _ (List.mem_of_getElem? (i := 6) rfl)) (hw _ (List.mem_of_getElem? (i := 3) rfl)) (by decide) (by decide)) (g := (mkF m 49 #[.val (.int p0_), .val (.int p1_), .val (.int p2_), .val (.int (0 : Int32)), .val (.int m_), .unset, .unset, .unset, .unset, .unset, .unset] [(.ref b1), (.ref b1)])) rfl (by rw [hml]; rfl) (Steps.refl _) (a := b1) (argsL := []) (rest := [(.ref b1)]) (lenOf own_pd0 rfl) rfl (by show 2 * 0 + _ ≤ _; exact Nat.le_of_eq rfl) (hb hby at_49) (fun _ _ => ⟨rfl, e1, (by decide : 1 + 0 ≤ _), (by decide : 3 + 0 ≤ _)⟩)
  dsimp only [Pt.U, Pt.locs, Pt.cells, Pt.slots] at X2 l2 y2 z2 st2 hQ2
  subst l2 y2 z2
  obtain ⟨rfl, N2q, Kq2, Eq2, Fq2_maxAttempts, Fq2_backoff, Fq2_longestRunTime⟩ := hQ2
  have N2 := Fr.app N0 N2q
  have K2 : Keep h0 T2.heap [] := K1.trans Kq2 (fun x hx => by cases List.mem_singleton.mp hx; exact Or.inr sz_b1)
  obtain ⟨cq3, kq3, q3a, q3b, q3c⟩ := isOf hZ rfl Eq2
  obtain ⟨_, _, ⟨T3, L3, k3, n3⟩, -, X3, ⟨Lc3, hQ3, l3, y3, z3⟩, st3⟩ := X2.virtualBack hx (y := (⟨"com/example/mersey/mersey/JobTypeSettings", "withMaxAttempts", "(I)Lcom/example/mersey/mersey/JobTypeSettings;"⟩ : MethodName)) (z := (⟨"com/example/mersey/mersey/JobTypeSettings", "withMaxAttempts", "(I)Lcom/example/mersey/mersey/JobTypeSettings;"⟩ : MethodName)) hown (mvT hZ (hw _ (List.mem_of_getElem? (i := 16) rfl))) (mvT hZ (hw _ (List.mem_of_getElem? (i := 17) rfl))) (notFace_of_selects (args := #[]) (mvT hZ (hw _ (List.mem_of_getElem? (i := 19) rfl)))) (mvT hZ (hw _ (List.mem_of_getElem? (i := 19) rfl))) (mvT hZ (hw _ (List.mem_of_getElem? (i := 18) rfl))) (by decide) (backOf (W := 0) (own_b3_tN l Z a0 hw [] b1 m_ w_DEFAULT_BACKOFF (5 : Int32) w_DEFAULT_BACKOFF T2.heap n0 (Nat.le_trans Z0 (own_ext K2).1) (S_DEFAULT_BACKOFF.ext (own_ext K2)) Fq2_longestRunTime Fq2_maxAttempts Fq2_backoff hf3) hZ (hw _ (List.mem_of_getElem? (i := 20) rfl)) (hw _ (List.mem_of_getElem? (i := 3) rfl)) (by decide) (by decide)) q3a q3c (g := (mkF m 54 #[.val (.int p0_), .val (.int p1_), .val (.int p2_), .val (.int (0 : Int32)), .val (.int m_), .unset, .unset, .unset, .unset, .unset, .unset] [(.int m_), (.ref b1)])) rfl (by rw [hml]; rfl) (Steps.refl _) (argsL := [(.int m_)]) (rest := []) (lenOf own_pd3 rfl) rfl (by show 2 * 0 + _ ≤ _; exact Nat.le_of_eq rfl) (hb hby at_54) (fun _ _ => ⟨rfl, rfl, (by decide : 1 + 1 ≤ _), (by decide : 3 + 3 ≤ _)⟩)
  dsimp only [Pt.U, Pt.locs, Pt.cells, Pt.slots] at X3 l3 y3 z3 st3 hQ3
  subst l3 y3 z3
  obtain ⟨r3, rfl, N3q, Kq3, lo_r3, Eq3, Fq3_maxAttempts, Fq3_backoff, Fq3_longestRunTime⟩ := hQ3
  have N3 := Fr.app N2 N3q
  have ne_b1_r3 : b1 ≠ r3 := Nat.ne_of_lt (Nat.lt_of_lt_of_le Eq2.lt lo_r3)
  have sz_r3 : h0.size ≤ r3 := Nat.le_trans K2.1 lo_r3
  have g_r3 : n0 ≤ r3 := Nat.le_trans Z0 sz_r3
  have E_b1_3 := Eq2.ext (own_ext Kq3)
  have F_maxAttempts_b1_3 := Fq2_maxAttempts.ext (own_ext Kq3)
  have F_backoff_b1_3 := Fq2_backoff.ext (own_ext Kq3)
  have F_longestRunTime_b1_3 := Fq2_longestRunTime.ext (own_ext Kq3)
  have K3 : Keep h0 T3.heap [] := K2.trans Kq3 (fun x hx => by cases hx)
  obtain ⟨cq4, kq4, q4a, q4b, q4c⟩ := isOf hZ rfl Eq3
  obtain ⟨_, _, ⟨T4, L4, k4, n4⟩, -, X4, ⟨Lc4, hQ4, l4, y4, z4⟩, st4⟩ := X3.virtualBack hx (y := (⟨"com/example/mersey/mersey/JobTypeSettings", "isLastAttempt", "(I)Z"⟩ : MethodName)) (z := (⟨"com/example/mersey/mersey/JobTypeSettings", "isLastAttempt", "(I)Z"⟩ : MethodName)) hown (mvT hZ (hw _ (List.mem_of_getElem? (i := 27) rfl))) (mvT hZ (hw _ (List.mem_of_getElem? (i := 28) rfl))) (notFace_of_selects (args := #[]) (mvT hZ (hw _ (List.mem_of_getElem? (i := 30) rfl)))) (mvT hZ (hw _ (List.mem_of_getElem? (i := 30) rfl))) (mvT hZ (hw _ (List.mem_of_getElem? (i := 29) rfl))) (by decide) (backOf (W := 0) (own_b5_t l Z a0 hw [] r3 p2_ m_ T3.heap n0 (Nat.le_trans Z0 (own_ext K3).1) Fq3_maxAttempts hf4) hZ (hw _ (List.mem_of_getElem? (i := 31) rfl)) (hw _ (List.mem_of_getElem? (i := 3) rfl)) (by decide) (by decide)) q4a q4c (g := (mkF m 62 #[.val (.int p0_), .val (.int p1_), .val (.int p2_), .val (.int (0 : Int32)), .val (.int m_), .val (.ref r3), .unset, .unset, .unset, .unset, .unset] [(.int p2_), (.ref r3)])) rfl (by rw [hml]; rfl) (Steps.refl _) (argsL := [(.int p2_)]) (rest := []) (lenOf own_pd1 rfl) rfl (by show 2 * 0 + _ ≤ _; exact Nat.le_of_eq rfl) (hb hby at_62) (fun _ _ => ⟨rfl, rfl, (by decide : 2 + 0 ≤ _), (by decide : 6 + 0 ≤ _)⟩)
  dsimp only [Pt.U, Pt.locs, Pt.cells, Pt.slots] at X4 l4 y4 z4 st4 hQ4
  subst l4 y4 z4
  obtain ⟨rfl, N4q, e4⟩ := hQ4
  have N4 := Fr.app N3 N4q
  obtain ⟨cq5, kq5, q5a, q5b, q5c⟩ := isOf hZ e4 Eq3
  obtain ⟨_, _, ⟨T5, L5, k5, n5⟩, -, X5, ⟨Lc5, hQ5, l5, y5, z5⟩, st5⟩ := X4.virtualBack hx (y := (⟨"com/example/mersey/mersey/JobTypeSettings", "isLastAttempt", "(I)Z"⟩ : MethodName)) (z := (⟨"com/example/mersey/mersey/JobTypeSettings", "isLastAttempt", "(I)Z"⟩ : MethodName)) hown (mvT hZ (hw _ (List.mem_of_getElem? (i := 27) rfl))) (mvT hZ (hw _ (List.mem_of_getElem? (i := 28) rfl))) (notFace_of_selects (args := #[]) (mvT hZ (hw _ (List.mem_of_getElem? (i := 30) rfl)))) (mvT hZ (hw _ (List.mem_of_getElem? (i := 30) rfl))) (mvT hZ (hw _ (List.mem_of_getElem? (i := 29) rfl))) (by decide) (backOf (W := 0) (own_b5_f l Z a0 hw [] r3 m_ m_ T3.heap n0 (Nat.le_trans Z0 (own_ext K3).1) Fq3_maxAttempts hf5) hZ (hw _ (List.mem_of_getElem? (i := 31) rfl)) (hw _ (List.mem_of_getElem? (i := 3) rfl)) (by decide) (by decide)) q5a q5c (g := (mkF m 93 #[.val (.int p0_), .val (.int p1_), .val (.int p2_), .val (.int (0 : Int32)), .val (.int m_), .val (.ref r3), .val (.int (0 : Int32)), .val (.int (0 : Int32)), .unset, .unset, .unset] [(.int m_), (.ref r3)])) rfl (by rw [hml]; rfl) (Steps.refl _) (argsL := [(.int m_)]) (rest := []) (lenOf own_pd1 rfl) rfl (by show 2 * 0 + _ ≤ _; exact Nat.le_of_eq rfl) (hb hby at_93) (fun _ _ => ⟨rfl, e4, (by decide : 2 + 0 ≤ _), (by decide : 6 + 0 ≤ _)⟩)
  dsimp only [Pt.U, Pt.locs, Pt.cells, Pt.slots] at X5 l5 y5 z5 st5 hQ5
  subst l5 y5 z5
  obtain ⟨rfl, N5q, e5⟩ := hQ5
  have N5 := Fr.app N4 N5q
  obtain ⟨cq6, kq6, q6a, q6b, q6c⟩ := isOf hZ e5 Eq3
  obtain ⟨_, _, ⟨T6, L6, k6, n6⟩, -, X6, ⟨Lc6, hQ6, l6, y6, z6⟩, st6⟩ := X5.virtualBack hx (y := (⟨"com/example/mersey/mersey/JobTypeSettings", "isLastAttempt", "(I)Z"⟩ : MethodName)) (z := (⟨"com/example/mersey/mersey/JobTypeSettings", "isLastAttempt", "(I)Z"⟩ : MethodName)) hown (mvT hZ (hw _ (List.mem_of_getElem? (i := 27) rfl))) (mvT hZ (hw _ (List.mem_of_getElem? (i := 28) rfl))) (notFace_of_selects (args := #[]) (mvT hZ (hw _ (List.mem_of_getElem? (i := 30) rfl)))) (mvT hZ (hw _ (List.mem_of_getElem? (i := 30) rfl))) (mvT hZ (hw _ (List.mem_of_getElem? (i := 29) rfl))) (by decide) (backOf (W := 0) (own_b5_t l Z a0 hw [] r3 (m_ - (1 : Int32)) m_ T3.heap n0 (Nat.le_trans Z0 (own_ext K3).1) Fq3_maxAttempts hf7) hZ (hw _ (List.mem_of_getElem? (i := 31) rfl)) (hw _ (List.mem_of_getElem? (i := 3) rfl)) (by decide) (by decide)) q6a q6c (g := (mkF m 113 #[.val (.int p0_), .val (.int p1_), .val (.int p2_), .val (.int (0 : Int32)), .val (.int m_), .val (.ref r3), .val (.int (0 : Int32)), .val (.int (0 : Int32)), .unset, .unset, .unset] [(.int (m_ - (1 : Int32))), (.ref r3)])) rfl (by rw [hml]; rfl) (Steps.refl _) (argsL := [(.int (m_ - (1 : Int32)))]) (rest := []) (lenOf own_pd1 rfl) rfl (by show 2 * 0 + _ ≤ _; exact Nat.le_of_eq rfl) (hb hby at_113) (fun _ _ => ⟨rfl, e5, (by decide : 2 + 0 ≤ _), (by decide : 6 + 0 ≤ _)⟩)
  dsimp only [Pt.U, Pt.locs, Pt.cells, Pt.slots] at X6 l6 y6 z6 st6 hQ6
  subst l6 y6 z6
  obtain ⟨rfl, N6q, e6⟩ := hQ6
  have N6 := Fr.app N5 N6q
  obtain ⟨fs, hr, hrun, hended, hW, hsame⟩ := X6.leave (v := some (.int (1 : Int32))) (fun h => by rw [Bd.returns] at h; cases h)
  refine ⟨_, _, pre0 _ ?_, hrun, hended, _, _, rfl, ?_, ⟨_, rfl⟩, hW, hsame.mono (by decide) (by decide)⟩
  · show Steps p.tables e below (s₁.setTop (mkF m 0 #[.val (.int p0_), .val (.int p1_), .val (.int p2_), .unset, .unset, .unset, .unset, .unset, .unset, .unset, .unset] [])) _
    refine XS.iloadN X0.here hx rfl (hb hby at_0) rfl ?_
    refine XS.iconst X0.here hx rfl (hb hby at_1) ?_
    refine XS.iand X0.here hx rfl (hb hby at_2) rfl ?_
    show Steps p.tables e below (s₁.setTop (mkF m 3 #[.val (.int p0_), .val (.int p1_), .val (.int p2_), .unset, .unset, .unset, .unset, .unset, .unset, .unset, .unset] [(.int (p0_ &&& (1 : Int32)))])) _
    rw [hf0]
    refine XS.ifYes X0.here hx rfl (pc0 := 3) (pc' := 10) rfl (hb hby at_3) rfl ((if0 _ _).trans (teq (rfl : (0 : Int32) = (0 : Int32))).1) (by decide) (by decide) ?_
    refine XS.iconst X0.here hx rfl (hb hby at_10) ?_
    refine XS.istoreN X0.here hx rfl (hb hby at_11) rfl (l' := #[.val (.int p0_), .val (.int p1_), .val (.int p2_), .val (.int (0 : Int32)), .unset, .unset, .unset, .unset, .unset, .unset, .unset]) rfl ?_
    show Steps p.tables e below (s₁.setTop (mkF m 12 #[.val (.int p0_), .val (.int p1_), .val (.int p2_), .val (.int (0 : Int32)), .unset, .unset, .unset, .unset, .unset, .unset, .unset] [])) _
    refine XS.iloadN X0.here hx rfl (hb hby at_12) rfl ?_
    show Steps p.tables e below (s₁.setTop (mkF m 13 #[.val (.int p0_), .val (.int p1_), .val (.int p2_), .val (.int (0 : Int32)), .unset, .unset, .unset, .unset, .unset, .unset, .unset] [(.int p1_)])) _
    refine X0.ldcInt hx hown (mvT hZ (hw _ (List.mem_of_getElem? (i := 0) rfl))) (g := (mkF m 13 #[.val (.int p0_), .val (.int p1_), .val (.int p2_), .val (.int (0 : Int32)), .unset, .unset, .unset, .unset, .unset, .unset, .unset] [(.int p1_)])) rfl (hb hby at_13) _ ?_
    refine XS.iand X0.here hx rfl (hb hby at_15) rfl ?_
    show Steps p.tables e below (s₁.setTop (mkF m 16 #[.val (.int p0_), .val (.int p1_), .val (.int p2_), .val (.int (0 : Int32)), .unset, .unset, .unset, .unset, .unset, .unset, .unset] [(.int (p1_ &&& (2147483647 : Int32)))])) _
    rw [hf1]
    refine XS.istore X0.here hx rfl (hb hby at_16) rfl (l' := #[.val (.int p0_), .val (.int p1_), .val (.int p2_), .val (.int (0 : Int32)), .val (.int m_), .unset, .unset, .unset, .unset, .unset, .unset]) rfl ?_
    refine XS.iload X0.here hx rfl (hb hby at_18) rfl ?_
    refine XS.ifYes X0.here hx rfl (pc0 := 20) (pc' := 26) rfl (hb hby at_20) rfl ((if0 _ _).trans (feq hf2).2) (by decide) (by decide) ?_
    show Steps p.tables e below (s₁.setTop (mkF m 26 #[.val (.int p0_), .val (.int p1_), .val (.int p2_), .val (.int (0 : Int32)), .val (.int m_), .unset, .unset, .unset, .unset, .unset, .unset] [])) _
    refine XS.iloadN X0.here hx rfl (hb hby at_26) rfl ?_
    refine XS.ifYes X0.here hx rfl (pc0 := 27) (pc' := 45) rfl (hb hby at_27) rfl ((if0 _ _).trans (teq (rfl : (0 : Int32) = (0 : Int32))).1) (by decide) (by decide) ?_
    show Steps p.tables e below (s₁.setTop (mkF m 45 #[.val (.int p0_), .val (.int p1_), .val (.int p2_), .val (.int (0 : Int32)), .val (.int m_), .unset, .unset, .unset, .unset, .unset, .unset] [])) _
    refine st1 _ ?_
    refine XS.dup X1.here hx rfl (hb hby at_48) rfl rfl ?_
    show Steps p.tables e below (T1.setTop (mkF m 49 #[.val (.int p0_), .val (.int p1_), .val (.int p2_), .val (.int (0 : Int32)), .val (.int m_), .unset, .unset, .unset, .unset, .unset, .unset] [(.ref b1), (.ref b1)])) _
    refine st2.trans ?_
    refine XS.iload X2.here hx rfl (hb hby at_52) rfl ?_
    show Steps p.tables e below (T2.setTop (mkF m 54 #[.val (.int p0_), .val (.int p1_), .val (.int p2_), .val (.int (0 : Int32)), .val (.int m_), .unset, .unset, .unset, .unset, .unset, .unset] [(.int m_), (.ref b1)])) _
    refine st3.trans ?_
    refine XS.astore X3.here hx rfl (hb hby at_57) rfl rfl (l' := #[.val (.int p0_), .val (.int p1_), .val (.int p2_), .val (.int (0 : Int32)), .val (.int m_), .val (.ref r3), .unset, .unset, .unset, .unset, .unset]) rfl ?_
    refine XS.aload X3.here hx rfl (hb hby at_59) rfl rfl ?_
    refine XS.iloadN X3.here hx rfl (hb hby at_61) rfl ?_
    show Steps p.tables e below (T3.setTop (mkF m 62 #[.val (.int p0_), .val (.int p1_), .val (.int p2_), .val (.int (0 : Int32)), .val (.int m_), .val (.ref r3), .unset, .unset, .unset, .unset, .unset] [(.int p2_), (.ref r3)])) _
    refine st4.trans ?_
    refine XS.istore X4.here hx rfl (hb hby at_65) rfl (l' := #[.val (.int p0_), .val (.int p1_), .val (.int p2_), .val (.int (0 : Int32)), .val (.int m_), .val (.ref r3), .val (.int (0 : Int32)), .unset, .unset, .unset, .unset]) rfl ?_
    refine XS.iloadN X4.here hx rfl (hb hby at_67) rfl ?_
    refine XS.iload X4.here hx rfl (hb hby at_68) rfl ?_
    show Steps p.tables e below (T4.setTop (mkF m 70 #[.val (.int p0_), .val (.int p1_), .val (.int p2_), .val (.int (0 : Int32)), .val (.int m_), .val (.ref r3), .val (.int (0 : Int32)), .unset, .unset, .unset, .unset] [(.int m_), (.int p2_)])) _
    refine XS.icmpYes X4.here hx rfl (pc0 := 70) (pc' := 77) rfl (hb hby at_70) rfl (tlt hf4).1 (by decide) (by decide) ?_
    refine XS.iconst X4.here hx rfl (hb hby at_77) ?_
    refine XS.istore X4.here hx rfl (hb hby at_78) rfl (l' := #[.val (.int p0_), .val (.int p1_), .val (.int p2_), .val (.int (0 : Int32)), .val (.int m_), .val (.ref r3), .val (.int (0 : Int32)), .val (.int (0 : Int32)), .unset, .unset, .unset]) rfl ?_
    refine XS.iload X4.here hx rfl (hb hby at_80) rfl ?_
    show Steps p.tables e below (T4.setTop (mkF m 82 #[.val (.int p0_), .val (.int p1_), .val (.int p2_), .val (.int (0 : Int32)), .val (.int m_), .val (.ref r3), .val (.int (0 : Int32)), .val (.int (0 : Int32)), .unset, .unset, .unset] [(.int (0 : Int32))])) _
    refine XS.iload X4.here hx rfl (hb hby at_82) rfl ?_
    refine XS.icmpYes X4.here hx rfl (pc0 := 84) (pc' := 89) rfl (hb hby at_84) rfl (teq (rfl : (0 : Int32) = (0 : Int32))).1 (by decide) (by decide) ?_
    refine XS.aload X4.here hx rfl (hb hby at_89) rfl rfl ?_
    refine XS.iload X4.here hx rfl (hb hby at_91) rfl ?_
    show Steps p.tables e below (T4.setTop (mkF m 93 #[.val (.int p0_), .val (.int p1_), .val (.int p2_), .val (.int (0 : Int32)), .val (.int m_), .val (.ref r3), .val (.int (0 : Int32)), .val (.int (0 : Int32)), .unset, .unset, .unset] [(.int m_), (.ref r3)])) _
    refine st5.trans ?_
    refine XS.ifYes X5.here hx rfl (pc0 := 96) (pc' := 101) rfl (hb hby at_96) rfl ((if0 _ _).trans (feq (by decide : ¬ ((1 : Int32) = (0 : Int32)))).2) (by decide) (by decide) ?_
    refine XS.iload X5.here hx rfl (hb hby at_101) rfl ?_
    refine XS.iconst X5.here hx rfl (hb hby at_103) ?_
    show Steps p.tables e below (T5.setTop (mkF m 104 #[.val (.int p0_), .val (.int p1_), .val (.int p2_), .val (.int (0 : Int32)), .val (.int m_), .val (.ref r3), .val (.int (0 : Int32)), .val (.int (0 : Int32)), .unset, .unset, .unset] [(.int (1 : Int32)), (.int m_)])) _
    refine XS.icmpNo X5.here hx rfl (hb hby at_104) rfl (tlt hf6).2.2.2 ?_
    refine XS.aload X5.here hx rfl (hb hby at_107) rfl rfl ?_
    refine XS.iload X5.here hx rfl (hb hby at_109) rfl ?_
    refine XS.iconst X5.here hx rfl (hb hby at_111) ?_
    show Steps p.tables e below (T5.setTop (mkF m 112 #[.val (.int p0_), .val (.int p1_), .val (.int p2_), .val (.int (0 : Int32)), .val (.int m_), .val (.ref r3), .val (.int (0 : Int32)), .val (.int (0 : Int32)), .unset, .unset, .unset] [(.int (1 : Int32)), (.int m_), (.ref r3)])) _
    refine XS.isub X5.here hx rfl (hb hby at_112) rfl ?_
    show Steps p.tables e below (T5.setTop (mkF m 113 #[.val (.int p0_), .val (.int p1_), .val (.int p2_), .val (.int (0 : Int32)), .val (.int m_), .val (.ref r3), .val (.int (0 : Int32)), .val (.int (0 : Int32)), .unset, .unset, .unset] [(.int (m_ - (1 : Int32))), (.ref r3)])) _
    refine st6.trans ?_
    refine XS.ifYes X6.here hx rfl (pc0 := 116) (pc' := 121) rfl (hb hby at_116) rfl ((if0 _ _).trans (teq (rfl : (0 : Int32) = (0 : Int32))).1) (by decide) (by decide) ?_
    refine XS.iloadN X6.here hx rfl (hb hby at_121) rfl ?_
    refine XS.iconst X6.here hx rfl (hb hby at_122) ?_
    show Steps p.tables e below (T6.setTop (mkF m 123 #[.val (.int p0_), .val (.int p1_), .val (.int p2_), .val (.int (0 : Int32)), .val (.int m_), .val (.ref r3), .val (.int (0 : Int32)), .val (.int (0 : Int32)), .unset, .unset, .unset] [(.int (1 : Int32)), (.int p0_)])) _
    refine XS.iushr X6.here hx rfl (hb hby at_123) rfl ?_
    refine XS.iconst X6.here hx rfl (hb hby at_124) ?_
    show Steps p.tables e below (T6.setTop (mkF m 125 #[.val (.int p0_), .val (.int p1_), .val (.int p2_), .val (.int (0 : Int32)), .val (.int m_), .val (.ref r3), .val (.int (0 : Int32)), .val (.int (0 : Int32)), .unset, .unset, .unset] [(.int (5 : Int32)), (.int ((p0_.toUInt32 >>> ((1 : Int32) &&& 31).toUInt32).toInt32))])) _
    refine iremM X6 hx rfl (hb hby at_125) rfl (by decide) ?_
    show Steps p.tables e below (T6.setTop (mkF m 126 #[.val (.int p0_), .val (.int p1_), .val (.int p2_), .val (.int (0 : Int32)), .val (.int m_), .val (.ref r3), .val (.int (0 : Int32)), .val (.int (0 : Int32)), .unset, .unset, .unset] [(.int (((p0_.toUInt32 >>> ((1 : Int32) &&& 31).toUInt32).toInt32) % (5 : Int32)))])) _
    rw [hf8]
    refine XS.iconst X6.here hx rfl (hb hby at_126) ?_
    refine XS.isub X6.here hx rfl (hb hby at_127) rfl ?_
    show Steps p.tables e below (T6.setTop (mkF m 128 #[.val (.int p0_), .val (.int p1_), .val (.int p2_), .val (.int (0 : Int32)), .val (.int m_), .val (.ref r3), .val (.int (0 : Int32)), .val (.int (0 : Int32)), .unset, .unset, .unset] [(.int (o_ - (2 : Int32)))])) _
    rw [hf9]
    refine XS.istore X6.here hx rfl (hb hby at_128) rfl (l' := #[.val (.int p0_), .val (.int p1_), .val (.int p2_), .val (.int (0 : Int32)), .val (.int m_), .val (.ref r3), .val (.int (0 : Int32)), .val (.int (0 : Int32)), .val (.int f_), .unset, .unset]) rfl ?_
    refine XS.iload X6.here hx rfl (hb hby at_130) rfl ?_
    refine XS.i2l X6.here hx rfl (hb hby at_132) rfl ?_
    show Steps p.tables e below (T6.setTop (mkF m 133 #[.val (.int p0_), .val (.int p1_), .val (.int p2_), .val (.int (0 : Int32)), .val (.int m_), .val (.ref r3), .val (.int (0 : Int32)), .val (.int (0 : Int32)), .val (.int f_), .unset, .unset] [(.long (m_.toInt64))])) _
    refine XS.iload X6.here hx rfl (hb hby at_133) rfl ?_
    refine XS.i2l X6.here hx rfl (hb hby at_135) rfl ?_
    refine XS.ladd X6.here hx rfl (hb hby at_136) rfl ?_
    show Steps p.tables e below (T6.setTop (mkF m 137 #[.val (.int p0_), .val (.int p1_), .val (.int p2_), .val (.int (0 : Int32)), .val (.int m_), .val (.ref r3), .val (.int (0 : Int32)), .val (.int (0 : Int32)), .val (.int f_), .unset, .unset] [(.long ((m_.toInt64) + (f_.toInt64)))])) _
    rw [hf10]
    refine XS.lstore X6.here hx rfl (hb hby at_137) rfl (l' := #[.val (.int p0_), .val (.int p1_), .val (.int p2_), .val (.int (0 : Int32)), .val (.int m_), .val (.ref r3), .val (.int (0 : Int32)), .val (.int (0 : Int32)), .val (.int f_), .val (.long l_), .second]) rfl ?_
    refine XS.lload X6.here hx rfl (hb hby at_139) rfl ?_
    show Steps p.tables e below (T6.setTop (mkF m 141 #[.val (.int p0_), .val (.int p1_), .val (.int p2_), .val (.int (0 : Int32)), .val (.int m_), .val (.ref r3), .val (.int (0 : Int32)), .val (.int (0 : Int32)), .val (.int f_), .val (.long l_), .second] [(.long l_)])) _
    refine X6.ldc2Long hx hown (mvT hZ (hw _ (List.mem_of_getElem? (i := 32) rfl))) (g := (mkF m 141 #[.val (.int p0_), .val (.int p1_), .val (.int p2_), .val (.int (0 : Int32)), .val (.int m_), .val (.ref r3), .val (.int (0 : Int32)), .val (.int (0 : Int32)), .val (.int f_), .val (.long l_), .second] [(.long l_)])) rfl (hb hby at_141) _ ?_
    refine XS.lcmp X6.here hx rfl (hb hby at_144) rfl ?_
    refine XS.ifYes X6.here hx rfl (pc0 := 145) (pc' := 171) rfl (hb hby at_145) rfl ((if0 _ _).trans (tlt hf11).2.2.1) (by decide) (by decide) ?_
    refine XS.iconst X6.here hx rfl (hb hby at_171) ?_
    show Steps p.tables e below (T6.setTop (mkF m 172 #[.val (.int p0_), .val (.int p1_), .val (.int p2_), .val (.int (0 : Int32)), .val (.int m_), .val (.ref r3), .val (.int (0 : Int32)), .val (.int (0 : Int32)), .val (.int f_), .val (.long l_), .second] [(.int (1 : Int32))])) _
    exact retN X6 hx (t := .boolean) Bd.returns (by simp) (hb hby at_172) hr
  · show own_QL n0 _ T6.heap _
    exact ⟨rfl, N6⟩
set_option maxRecDepth 65536 in
set_option maxHeartbeats 40000000 in
theorem own_law_V1gl (l : Launch) (Z : State) (a0 : Array Value) (hw : ∀ d ∈ tables_1, d.before a0 Z = true) (ws : List Jvm.Cond) (p0_ : Int32) (p1_ : Int32) (p2_ : Int32) (m_ : Int32) (w_DEFAULT_BACKOFF : Addr) (o_ : Int32) (f_ : Int32) (l_ : Int64) (h0 : Heap) (n0 : Nat) (Z0 : n0 ≤ h0.size) (S_DEFAULT_BACKOFF : Sta Z h0 "com/example/mersey/mersey/JobTypeSettings" "DEFAULT_BACKOFF" "Lcom/example/mersey/mersey/Backoff;" (.ref w_DEFAULT_BACKOFF)) (hf0 : (p0_ &&& (1 : Int32)) = (0 : Int32)) (hf1 : (p1_ &&& (2147483647 : Int32)) = m_) (hf2 : ¬ (m_ = (0 : Int32))) (hf3 : ¬ (m_ < (1 : Int32))) (hf4 : ¬ (p2_ < m_)) (hf5 : ¬ (m_ < m_)) (hf6 : ¬ ((1 : Int32) < m_)) (hf7 : (((p0_.toUInt32 >>> ((1 : Int32) &&& 31).toUInt32).toInt32) % (5 : Int32)) = o_) (hf8 : (o_ - (2 : Int32)) = f_) (hf9 : ((m_.toInt64) + (f_.toInt64)) = l_) (hf10 : ¬ ((0 : Int32) < (lcmpW l_ (2147483647 : Int64)))) (hf11 : (l_.toInt32) < m_) (hf12 : f_ < (0 : Int32)) :
    MetFree l x (head1 (Jvm.Cond.code x code maxLocals ret :: ws) room_1) (fun a U => a = #[(.int p0_), (.int p1_), (.int p2_)] ∧ Z.Warmed39 U.vm ∧ U.heap = h0) (fun _ _ _ _ _ => True) (fun _ U o U' => ∃ v L, o = .returned v ∧ own_QL n0 v U'.heap L ∧ FrameEnd U o U' L room_1.cells room_1.slots) := by
  refine MetFree.of_bodySF (plainFor_of_name own_pn1) hisR ?_
  intro p e s m args below meth c s₁ Bd hml0 hP hK
  obtain ⟨rfl, hZ, hh⟩ := hP
  have hx := Bd.exec
  have hby := Bd.bytes
  have hml : c.maxLocals = 11 := hml0
  have hown : s.vm.findClass "com/example/mersey/mersey/JobTypeSettingsIsLastAttemptPinLaw" = some m.cls := findClass_of_methodNamed Bd.named
  have hnm := (name_of_methodNamed Bd.named Bd.method).1
  have X0 : Stand p l e room_1 s m #[(.int p0_), (.int p1_), (.int p2_)] below meth c s₁ [] 0 0 := Stand.of_body Bd
  have e0 : s₁.heap = h0 := by rw [← hh, Bd.state]; rfl
  have N0 := Fr.nil n0
  have pre0 : ∀ t, Steps p.tables e below (s₁.setTop (mkF m 0 #[.val (.int p0_), .val (.int p1_), .val (.int p2_), .unset, .unset, .unset, .unset, .unset, .unset, .unset, .unset] [])) t → Steps p.tables e below (s₁.setTop (entryFrame m #[(.int p0_), (.int p1_), (.int p2_)] maxLocals)) t := fun t k => castTop (own_ef2 m p0_ p1_ p2_) k
  obtain ⟨T1, h1, X1, e1, E1, A1, D1, -, st1⟩ := newO X0 hx hZ hown (hw _ (List.mem_of_getElem? (i := 1) rfl)) (hw _ (List.mem_of_getElem? (i := 2) rfl)) (hw _ (List.mem_of_getElem? (i := 3) rfl)) e0 (g := (mkF m 45 #[.val (.int p0_), .val (.int p1_), .val (.int p2_), .val (.int (0 : Int32)), .val (.int m_), .unset, .unset, .unset, .unset, .unset, .unset] [])) rfl (hb hby at_45) (by decide) (by decide)
  obtain ⟨b1, g1⟩ : ∃ z, z = h0.size := ⟨_, rfl⟩
  rw [← g1] at A1 D1 st1
  have lo_b1 : h0.size ≤ b1 := Nat.le_of_eq g1.symm
  have sz_b1 : h0.size ≤ b1 := Nat.le_trans (Keep.refl h0 []).1 lo_b1
  have g_b1 : n0 ≤ b1 := Nat.le_trans Z0 sz_b1
  have K1 : Keep h0 h1 [] := (Keep.refl h0 []).ext E1
  have F_maxAttempts_b1_1 : Fld Z h1 b1 "com/example/mersey/mersey/JobTypeSettings" "maxAttempts" "I" (.int (0 : Int32)) := D1 (Or.inl (hw _ (List.mem_of_getElem? (i := 11) rfl))) (ty := .int) (by decide)
  have F_backoff_b1_1 : Fld Z h1 b1 "com/example/mersey/mersey/JobTypeSettings" "backoff" "Lcom/example/mersey/mersey/Backoff;" .null := D1 (Or.inl (hw _ (List.mem_of_getElem? (i := 15) rfl))) (ty := (.object "com/example/mersey/mersey/Backoff")) (by decide)
  have F_longestRunTime_b1_1 : Fld Z h1 b1 "com/example/mersey/mersey/JobTypeSettings" "longestRunTime" "Ljava/time/Duration;" .null := D1 (Or.inl (hw _ (List.mem_of_getElem? (i := 26) rfl))) (ty := (.object "java/time/Duration")) (by decide)
  obtain ⟨_, _, ⟨T2, L2, k2, n2⟩, -, X2, ⟨Lc2, hQ2, l2, y2, z2⟩, st2⟩ := X1.specialBack hx (y := (⟨"com/example/mersey/mersey/JobTypeSettings", "<init>", "()V"⟩ : MethodName)) rfl hown (mvT hZ (hw _ (List.mem_of_getElem? (i := 4) rfl))) (mvT hZ (hw _ (List.mem_of_getElem? (i := 5) rfl))) (mvT hZ (hw _ (List.mem_of_getElem? (i := 6) rfl))) (by decide) (backOf (W := 1) (own_b1_x l Z a0 hw [] b1 (.int (0 : Int32)) w_DEFAULT_BACKOFF .null .null h1 n0 (Nat.le_trans Z0 (own_ext K1).1) A1 F_maxAttempts_b1_1 g_b1 (S_DEFAULT_BACKOFF.ext (own_ext K1)) F_backoff_b1_1 F_longestRunTime_b1_1) hZ (hw _ (List.mem_of_getElem? (i := 6) rfl)) (hw _ (List.mem_of_getElem? (i := 3) rfl)) (by decide) (by decide)) (g := (mkF m 49 #[.val (.int p0_), .val (.int p1_), .val (.int p2_), .val (.int (0 : Int32)), .val (.int m_), .unset, .unset, .unset, .unset, .unset, .unset] [(.ref b1), (.ref b1)])) rfl (by rw [hml]; rfl) (Steps.refl _) (a := b1) (argsL := []) (rest := [(.ref b1)]) (lenOf own_pd0 rfl) rfl (by show 2 * 0 + _ ≤ _; exact Nat.le_of_eq rfl) (hb hby at_49) (fun _ _ => ⟨rfl, e1, (by decide : 1 + 0 ≤ _), (by decide : 3 + 0 ≤ _)⟩)
  dsimp only [Pt.U, Pt.locs, Pt.cells, Pt.slots] at X2 l2 y2 z2 st2 hQ2
  subst l2 y2 z2
  obtain ⟨rfl, N2q, Kq2, Eq2, Fq2_maxAttempts, Fq2_backoff, Fq2_longestRunTime⟩ := hQ2
  have N2 := Fr.app N0 N2q
  have K2 : Keep h0 T2.heap [] := K1.trans Kq2 (fun x hx => by cases List.mem_singleton.mp hx; exact Or.inr sz_b1)
  obtain ⟨cq3, kq3, q3a, q3b, q3c⟩ := isOf hZ rfl Eq2
  obtain ⟨_, _, ⟨T3, L3, k3, n3⟩, -, X3, ⟨Lc3, hQ3, l3, y3, z3⟩, st3⟩ := X2.virtualBack hx (y := (⟨"com/example/mersey/mersey/JobTypeSettings", "withMaxAttempts", "(I)Lcom/example/mersey/mersey/JobTypeSettings;"⟩ : MethodName)) (z := (⟨"com/example/mersey/mersey/JobTypeSettings", "withMaxAttempts", "(I)Lcom/example/mersey/mersey/JobTypeSettings;"⟩ : MethodName)) hown (mvT hZ (hw _ (List.mem_of_getElem? (i := 16) rfl))) (mvT hZ (hw _ (List.mem_of_getElem? (i := 17) rfl))) (notFace_of_selects (args := #[]) (mvT hZ (hw _ (List.mem_of_getElem? (i := 19) rfl)))) (mvT hZ (hw _ (List.mem_of_getElem? (i := 19) rfl))) (mvT hZ (hw _ (List.mem_of_getElem? (i := 18) rfl))) (by decide) (backOf (W := 0) (own_b3_tN l Z a0 hw [] b1 m_ w_DEFAULT_BACKOFF (5 : Int32) w_DEFAULT_BACKOFF T2.heap n0 (Nat.le_trans Z0 (own_ext K2).1) (S_DEFAULT_BACKOFF.ext (own_ext K2)) Fq2_longestRunTime Fq2_maxAttempts Fq2_backoff hf3) hZ (hw _ (List.mem_of_getElem? (i := 20) rfl)) (hw _ (List.mem_of_getElem? (i := 3) rfl)) (by decide) (by decide)) q3a q3c (g := (mkF m 54 #[.val (.int p0_), .val (.int p1_), .val (.int p2_), .val (.int (0 : Int32)), .val (.int m_), .unset, .unset, .unset, .unset, .unset, .unset] [(.int m_), (.ref b1)])) rfl (by rw [hml]; rfl) (Steps.refl _) (argsL := [(.int m_)]) (rest := []) (lenOf own_pd3 rfl) rfl (by show 2 * 0 + _ ≤ _; exact Nat.le_of_eq rfl) (hb hby at_54) (fun _ _ => ⟨rfl, rfl, (by decide : 1 + 1 ≤ _), (by decide : 3 + 3 ≤ _)⟩)
  dsimp only [Pt.U, Pt.locs, Pt.cells, Pt.slots] at X3 l3 y3 z3 st3 hQ3
  subst l3 y3 z3
  obtain ⟨r3, rfl, N3q, Kq3, lo_r3, Eq3, Fq3_maxAttempts, Fq3_backoff, Fq3_longestRunTime⟩ := hQ3
  have N3 := Fr.app N2 N3q
  have ne_b1_r3 : b1 ≠ r3 := Nat.ne_of_lt (Nat.lt_of_lt_of_le Eq2.lt lo_r3)
  have sz_r3 : h0.size ≤ r3 := Nat.le_trans K2.1 lo_r3
  have g_r3 : n0 ≤ r3 := Nat.le_trans Z0 sz_r3
  have E_b1_3 := Eq2.ext (own_ext Kq3)
  have F_maxAttempts_b1_3 := Fq2_maxAttempts.ext (own_ext Kq3)
  have F_backoff_b1_3 := Fq2_backoff.ext (own_ext Kq3)
  have F_longestRunTime_b1_3 := Fq2_longestRunTime.ext (own_ext Kq3)
  have K3 : Keep h0 T3.heap [] := K2.trans Kq3 (fun x hx => by cases hx)
  obtain ⟨cq4, kq4, q4a, q4b, q4c⟩ := isOf hZ rfl Eq3
  obtain ⟨_, _, ⟨T4, L4, k4, n4⟩, -, X4, ⟨Lc4, hQ4, l4, y4, z4⟩, st4⟩ := X3.virtualBack hx (y := (⟨"com/example/mersey/mersey/JobTypeSettings", "isLastAttempt", "(I)Z"⟩ : MethodName)) (z := (⟨"com/example/mersey/mersey/JobTypeSettings", "isLastAttempt", "(I)Z"⟩ : MethodName)) hown (mvT hZ (hw _ (List.mem_of_getElem? (i := 27) rfl))) (mvT hZ (hw _ (List.mem_of_getElem? (i := 28) rfl))) (notFace_of_selects (args := #[]) (mvT hZ (hw _ (List.mem_of_getElem? (i := 30) rfl)))) (mvT hZ (hw _ (List.mem_of_getElem? (i := 30) rfl))) (mvT hZ (hw _ (List.mem_of_getElem? (i := 29) rfl))) (by decide) (backOf (W := 0) (own_b5_f l Z a0 hw [] r3 p2_ m_ T3.heap n0 (Nat.le_trans Z0 (own_ext K3).1) Fq3_maxAttempts hf4) hZ (hw _ (List.mem_of_getElem? (i := 31) rfl)) (hw _ (List.mem_of_getElem? (i := 3) rfl)) (by decide) (by decide)) q4a q4c (g := (mkF m 62 #[.val (.int p0_), .val (.int p1_), .val (.int p2_), .val (.int (0 : Int32)), .val (.int m_), .val (.ref r3), .unset, .unset, .unset, .unset, .unset] [(.int p2_), (.ref r3)])) rfl (by rw [hml]; rfl) (Steps.refl _) (argsL := [(.int p2_)]) (rest := []) (lenOf own_pd1 rfl) rfl (by show 2 * 0 + _ ≤ _; exact Nat.le_of_eq rfl) (hb hby at_62) (fun _ _ => ⟨rfl, rfl, (by decide : 2 + 0 ≤ _), (by decide : 6 + 0 ≤ _)⟩)
  dsimp only [Pt.U, Pt.locs, Pt.cells, Pt.slots] at X4 l4 y4 z4 st4 hQ4
  subst l4 y4 z4
  obtain ⟨rfl, N4q, e4⟩ := hQ4
  have N4 := Fr.app N3 N4q
  obtain ⟨cq5, kq5, q5a, q5b, q5c⟩ := isOf hZ e4 Eq3
  obtain ⟨_, _, ⟨T5, L5, k5, n5⟩, -, X5, ⟨Lc5, hQ5, l5, y5, z5⟩, st5⟩ := X4.virtualBack hx (y := (⟨"com/example/mersey/mersey/JobTypeSettings", "isLastAttempt", "(I)Z"⟩ : MethodName)) (z := (⟨"com/example/mersey/mersey/JobTypeSettings", "isLastAttempt", "(I)Z"⟩ : MethodName)) hown (mvT hZ (hw _ (List.mem_of_getElem? (i := 27) rfl))) (mvT hZ (hw _ (List.mem_of_getElem? (i := 28) rfl))) (notFace_of_selects (args := #[]) (mvT hZ (hw _ (List.mem_of_getElem? (i := 30) rfl)))) (mvT hZ (hw _ (List.mem_of_getElem? (i := 30) rfl))) (mvT hZ (hw _ (List.mem_of_getElem? (i := 29) rfl))) (by decide) (backOf (W := 0) (own_b5_f l Z a0 hw [] r3 m_ m_ T3.heap n0 (Nat.le_trans Z0 (own_ext K3).1) Fq3_maxAttempts hf5) hZ (hw _ (List.mem_of_getElem? (i := 31) rfl)) (hw _ (List.mem_of_getElem? (i := 3) rfl)) (by decide) (by decide)) q5a q5c (g := (mkF m 93 #[.val (.int p0_), .val (.int p1_), .val (.int p2_), .val (.int (0 : Int32)), .val (.int m_), .val (.ref r3), .val (.int (1 : Int32)), .val (.int (1 : Int32)), .unset, .unset, .unset] [(.int m_), (.ref r3)])) rfl (by rw [hml]; rfl) (Steps.refl _) (argsL := [(.int m_)]) (rest := []) (lenOf own_pd1 rfl) rfl (by show 2 * 0 + _ ≤ _; exact Nat.le_of_eq rfl) (hb hby at_93) (fun _ _ => ⟨rfl, e4, (by decide : 2 + 0 ≤ _), (by decide : 6 + 0 ≤ _)⟩)
  dsimp only [Pt.U, Pt.locs, Pt.cells, Pt.slots] at X5 l5 y5 z5 st5 hQ5
  subst l5 y5 z5
  obtain ⟨rfl, N5q, e5⟩ := hQ5
  have N5 := Fr.app N4 N5q
  obtain ⟨cq6, kq6, q6a, q6b, q6c⟩ := isOf hZ e5 Eq3
  obtain ⟨_, _, ⟨T6, L6, k6, n6⟩, -, X6, ⟨Lc6, hQ6, l6, y6, z6⟩, st6⟩ := X5.virtualBack hx (y := (⟨"com/example/mersey/mersey/JobTypeSettings", "isLastAttempt", "(I)Z"⟩ : MethodName)) (z := (⟨"com/example/mersey/mersey/JobTypeSettings", "isLastAttempt", "(I)Z"⟩ : MethodName)) hown (mvT hZ (hw _ (List.mem_of_getElem? (i := 27) rfl))) (mvT hZ (hw _ (List.mem_of_getElem? (i := 28) rfl))) (notFace_of_selects (args := #[]) (mvT hZ (hw _ (List.mem_of_getElem? (i := 30) rfl)))) (mvT hZ (hw _ (List.mem_of_getElem? (i := 30) rfl))) (mvT hZ (hw _ (List.mem_of_getElem? (i := 29) rfl))) (by decide) (backOf (W := 0) (own_b5_t l Z a0 hw [] r3 (l_.toInt32) m_ T3.heap n0 (Nat.le_trans Z0 (own_ext K3).1) Fq3_maxAttempts hf11) hZ (hw _ (List.mem_of_getElem? (i := 31) rfl)) (hw _ (List.mem_of_getElem? (i := 3) rfl)) (by decide) (by decide)) q6a q6c (g := (mkF m 153 #[.val (.int p0_), .val (.int p1_), .val (.int p2_), .val (.int (0 : Int32)), .val (.int m_), .val (.ref r3), .val (.int (1 : Int32)), .val (.int (1 : Int32)), .val (.int f_), .val (.long l_), .second] [(.int (l_.toInt32)), (.ref r3)])) rfl (by rw [hml]; rfl) (Steps.refl _) (argsL := [(.int (l_.toInt32))]) (rest := []) (lenOf own_pd1 rfl) rfl (by show 2 * 0 + _ ≤ _; exact Nat.le_of_eq rfl) (hb hby at_153) (fun _ _ => ⟨rfl, e5, (by decide : 2 + 0 ≤ _), (by decide : 6 + 0 ≤ _)⟩)
  dsimp only [Pt.U, Pt.locs, Pt.cells, Pt.slots] at X6 l6 y6 z6 st6 hQ6
  subst l6 y6 z6
  obtain ⟨rfl, N6q, e6⟩ := hQ6
  have N6 := Fr.app N5 N6q
  obtain ⟨fs, hr, hrun, hended, hW, hsame⟩ := X6.leave (v := some (.int (1 : Int32))) (fun h => by rw [Bd.returns] at h; cases h)
  refine ⟨_, _, pre0 _ ?_, hrun, hended, _, _, rfl, ?_, ⟨_, rfl⟩, hW, hsame.mono (by decide) (by decide)⟩
  · show Steps p.tables e below (s₁.setTop (mkF m 0 #[.val (.int p0_), .val (.int p1_), .val (.int p2_), .unset, .unset, .unset, .unset, .unset, .unset, .unset, .unset] [])) _
    refine XS.iloadN X0.here hx rfl (hb hby at_0) rfl ?_
    refine XS.iconst X0.here hx rfl (hb hby at_1) ?_
    refine XS.iand X0.here hx rfl (hb hby at_2) rfl ?_
    show Steps p.tables e below (s₁.setTop (mkF m 3 #[.val (.int p0_), .val (.int p1_), .val (.int p2_), .unset, .unset, .unset, .unset, .unset, .unset, .unset, .unset] [(.int (p0_ &&& (1 : Int32)))])) _
    rw [hf0]
    refine XS.ifYes X0.here hx rfl (pc0 := 3) (pc' := 10) rfl (hb hby at_3) rfl ((if0 _ _).trans (teq (rfl : (0 : Int32) = (0 : Int32))).1) (by decide) (by decide) ?_
    refine XS.iconst X0.here hx rfl (hb hby at_10) ?_
    refine XS.istoreN X0.here hx rfl (hb hby at_11) rfl (l' := #[.val (.int p0_), .val (.int p1_), .val (.int p2_), .val (.int (0 : Int32)), .unset, .unset, .unset, .unset, .unset, .unset, .unset]) rfl ?_
    show Steps p.tables e below (s₁.setTop (mkF m 12 #[.val (.int p0_), .val (.int p1_), .val (.int p2_), .val (.int (0 : Int32)), .unset, .unset, .unset, .unset, .unset, .unset, .unset] [])) _
    refine XS.iloadN X0.here hx rfl (hb hby at_12) rfl ?_
    show Steps p.tables e below (s₁.setTop (mkF m 13 #[.val (.int p0_), .val (.int p1_), .val (.int p2_), .val (.int (0 : Int32)), .unset, .unset, .unset, .unset, .unset, .unset, .unset] [(.int p1_)])) _
    refine X0.ldcInt hx hown (mvT hZ (hw _ (List.mem_of_getElem? (i := 0) rfl))) (g := (mkF m 13 #[.val (.int p0_), .val (.int p1_), .val (.int p2_), .val (.int (0 : Int32)), .unset, .unset, .unset, .unset, .unset, .unset, .unset] [(.int p1_)])) rfl (hb hby at_13) _ ?_
    refine XS.iand X0.here hx rfl (hb hby at_15) rfl ?_
    show Steps p.tables e below (s₁.setTop (mkF m 16 #[.val (.int p0_), .val (.int p1_), .val (.int p2_), .val (.int (0 : Int32)), .unset, .unset, .unset, .unset, .unset, .unset, .unset] [(.int (p1_ &&& (2147483647 : Int32)))])) _
    rw [hf1]
    refine XS.istore X0.here hx rfl (hb hby at_16) rfl (l' := #[.val (.int p0_), .val (.int p1_), .val (.int p2_), .val (.int (0 : Int32)), .val (.int m_), .unset, .unset, .unset, .unset, .unset, .unset]) rfl ?_
    refine XS.iload X0.here hx rfl (hb hby at_18) rfl ?_
    refine XS.ifYes X0.here hx rfl (pc0 := 20) (pc' := 26) rfl (hb hby at_20) rfl ((if0 _ _).trans (feq hf2).2) (by decide) (by decide) ?_
    show Steps p.tables e below (s₁.setTop (mkF m 26 #[.val (.int p0_), .val (.int p1_), .val (.int p2_), .val (.int (0 : Int32)), .val (.int m_), .unset, .unset, .unset, .unset, .unset, .unset] [])) _
    refine XS.iloadN X0.here hx rfl (hb hby at_26) rfl ?_
    refine XS.ifYes X0.here hx rfl (pc0 := 27) (pc' := 45) rfl (hb hby at_27) rfl ((if0 _ _).trans (teq (rfl : (0 : Int32) = (0 : Int32))).1) (by decide) (by decide) ?_
    show Steps p.tables e below (s₁.setTop (mkF m 45 #[.val (.int p0_), .val (.int p1_), .val (.int p2_), .val (.int (0 : Int32)), .val (.int m_), .unset, .unset, .unset, .unset, .unset, .unset] [])) _
    refine st1 _ ?_
    refine XS.dup X1.here hx rfl (hb hby at_48) rfl rfl ?_
    show Steps p.tables e below (T1.setTop (mkF m 49 #[.val (.int p0_), .val (.int p1_), .val (.int p2_), .val (.int (0 : Int32)), .val (.int m_), .unset, .unset, .unset, .unset, .unset, .unset] [(.ref b1), (.ref b1)])) _
    refine st2.trans ?_
    refine XS.iload X2.here hx rfl (hb hby at_52) rfl ?_
    show Steps p.tables e below (T2.setTop (mkF m 54 #[.val (.int p0_), .val (.int p1_), .val (.int p2_), .val (.int (0 : Int32)), .val (.int m_), .unset, .unset, .unset, .unset, .unset, .unset] [(.int m_), (.ref b1)])) _
    refine st3.trans ?_
    refine XS.astore X3.here hx rfl (hb hby at_57) rfl rfl (l' := #[.val (.int p0_), .val (.int p1_), .val (.int p2_), .val (.int (0 : Int32)), .val (.int m_), .val (.ref r3), .unset, .unset, .unset, .unset, .unset]) rfl ?_
    refine XS.aload X3.here hx rfl (hb hby at_59) rfl rfl ?_
    refine XS.iloadN X3.here hx rfl (hb hby at_61) rfl ?_
    show Steps p.tables e below (T3.setTop (mkF m 62 #[.val (.int p0_), .val (.int p1_), .val (.int p2_), .val (.int (0 : Int32)), .val (.int m_), .val (.ref r3), .unset, .unset, .unset, .unset, .unset] [(.int p2_), (.ref r3)])) _
    refine st4.trans ?_
    refine XS.istore X4.here hx rfl (hb hby at_65) rfl (l' := #[.val (.int p0_), .val (.int p1_), .val (.int p2_), .val (.int (0 : Int32)), .val (.int m_), .val (.ref r3), .val (.int (1 : Int32)), .unset, .unset, .unset, .unset]) rfl ?_
    refine XS.iloadN X4.here hx rfl (hb hby at_67) rfl ?_
    refine XS.iload X4.here hx rfl (hb hby at_68) rfl ?_
    show Steps p.tables e below (T4.setTop (mkF m 70 #[.val (.int p0_), .val (.int p1_), .val (.int p2_), .val (.int (0 : Int32)), .val (.int m_), .val (.ref r3), .val (.int (1 : Int32)), .unset, .unset, .unset, .unset] [(.int m_), (.int p2_)])) _
    refine XS.icmpNo X4.here hx rfl (hb hby at_70) rfl (flt hf4).1 ?_
    refine XS.iconst X4.here hx rfl (hb hby at_73) ?_
    refine XS.goto X4.here hx rfl (pc0 := 74) (pc' := 78) rfl (hb hby at_74) (by decide) (by decide) ?_
    refine XS.istore X4.here hx rfl (hb hby at_78) rfl (l' := #[.val (.int p0_), .val (.int p1_), .val (.int p2_), .val (.int (0 : Int32)), .val (.int m_), .val (.ref r3), .val (.int (1 : Int32)), .val (.int (1 : Int32)), .unset, .unset, .unset]) rfl ?_
    show Steps p.tables e below (T4.setTop (mkF m 80 #[.val (.int p0_), .val (.int p1_), .val (.int p2_), .val (.int (0 : Int32)), .val (.int m_), .val (.ref r3), .val (.int (1 : Int32)), .val (.int (1 : Int32)), .unset, .unset, .unset] [])) _
    refine XS.iload X4.here hx rfl (hb hby at_80) rfl ?_
    refine XS.iload X4.here hx rfl (hb hby at_82) rfl ?_
    refine XS.icmpYes X4.here hx rfl (pc0 := 84) (pc' := 89) rfl (hb hby at_84) rfl (teq (rfl : (1 : Int32) = (1 : Int32))).1 (by decide) (by decide) ?_
    refine XS.aload X4.here hx rfl (hb hby at_89) rfl rfl ?_
    show Steps p.tables e below (T4.setTop (mkF m 91 #[.val (.int p0_), .val (.int p1_), .val (.int p2_), .val (.int (0 : Int32)), .val (.int m_), .val (.ref r3), .val (.int (1 : Int32)), .val (.int (1 : Int32)), .unset, .unset, .unset] [(.ref r3)])) _
    refine XS.iload X4.here hx rfl (hb hby at_91) rfl ?_
    show Steps p.tables e below (T4.setTop (mkF m 93 #[.val (.int p0_), .val (.int p1_), .val (.int p2_), .val (.int (0 : Int32)), .val (.int m_), .val (.ref r3), .val (.int (1 : Int32)), .val (.int (1 : Int32)), .unset, .unset, .unset] [(.int m_), (.ref r3)])) _
    refine st5.trans ?_
    refine XS.ifYes X5.here hx rfl (pc0 := 96) (pc' := 101) rfl (hb hby at_96) rfl ((if0 _ _).trans (feq (by decide : ¬ ((1 : Int32) = (0 : Int32)))).2) (by decide) (by decide) ?_
    refine XS.iload X5.here hx rfl (hb hby at_101) rfl ?_
    refine XS.iconst X5.here hx rfl (hb hby at_103) ?_
    show Steps p.tables e below (T5.setTop (mkF m 104 #[.val (.int p0_), .val (.int p1_), .val (.int p2_), .val (.int (0 : Int32)), .val (.int m_), .val (.ref r3), .val (.int (1 : Int32)), .val (.int (1 : Int32)), .unset, .unset, .unset] [(.int (1 : Int32)), (.int m_)])) _
    refine XS.icmpYes X5.here hx rfl (pc0 := 104) (pc' := 121) rfl (hb hby at_104) rfl (flt hf6).2.2.2 (by decide) (by decide) ?_
    refine XS.iloadN X5.here hx rfl (hb hby at_121) rfl ?_
    refine XS.iconst X5.here hx rfl (hb hby at_122) ?_
    refine XS.iushr X5.here hx rfl (hb hby at_123) rfl ?_
    show Steps p.tables e below (T5.setTop (mkF m 124 #[.val (.int p0_), .val (.int p1_), .val (.int p2_), .val (.int (0 : Int32)), .val (.int m_), .val (.ref r3), .val (.int (1 : Int32)), .val (.int (1 : Int32)), .unset, .unset, .unset] [(.int ((p0_.toUInt32 >>> ((1 : Int32) &&& 31).toUInt32).toInt32))])) _
    refine XS.iconst X5.here hx rfl (hb hby at_124) ?_
    show Steps p.tables e below (T5.setTop (mkF m 125 #[.val (.int p0_), .val (.int p1_), .val (.int p2_), .val (.int (0 : Int32)), .val (.int m_), .val (.ref r3), .val (.int (1 : Int32)), .val (.int (1 : Int32)), .unset, .unset, .unset] [(.int (5 : Int32)), (.int ((p0_.toUInt32 >>> ((1 : Int32) &&& 31).toUInt32).toInt32))])) _
    refine iremM X5 hx rfl (hb hby at_125) rfl (by decide) ?_
    show Steps p.tables e below (T5.setTop (mkF m 126 #[.val (.int p0_), .val (.int p1_), .val (.int p2_), .val (.int (0 : Int32)), .val (.int m_), .val (.ref r3), .val (.int (1 : Int32)), .val (.int (1 : Int32)), .unset, .unset, .unset] [(.int (((p0_.toUInt32 >>> ((1 : Int32) &&& 31).toUInt32).toInt32) % (5 : Int32)))])) _
    rw [hf7]
    refine XS.iconst X5.here hx rfl (hb hby at_126) ?_
    refine XS.isub X5.here hx rfl (hb hby at_127) rfl ?_
    show Steps p.tables e below (T5.setTop (mkF m 128 #[.val (.int p0_), .val (.int p1_), .val (.int p2_), .val (.int (0 : Int32)), .val (.int m_), .val (.ref r3), .val (.int (1 : Int32)), .val (.int (1 : Int32)), .unset, .unset, .unset] [(.int (o_ - (2 : Int32)))])) _
    rw [hf8]
    refine XS.istore X5.here hx rfl (hb hby at_128) rfl (l' := #[.val (.int p0_), .val (.int p1_), .val (.int p2_), .val (.int (0 : Int32)), .val (.int m_), .val (.ref r3), .val (.int (1 : Int32)), .val (.int (1 : Int32)), .val (.int f_), .unset, .unset]) rfl ?_
    refine XS.iload X5.here hx rfl (hb hby at_130) rfl ?_
    refine XS.i2l X5.here hx rfl (hb hby at_132) rfl ?_
    show Steps p.tables e below (T5.setTop (mkF m 133 #[.val (.int p0_), .val (.int p1_), .val (.int p2_), .val (.int (0 : Int32)), .val (.int m_), .val (.ref r3), .val (.int (1 : Int32)), .val (.int (1 : Int32)), .val (.int f_), .unset, .unset] [(.long (m_.toInt64))])) _
    refine XS.iload X5.here hx rfl (hb hby at_133) rfl ?_
    refine XS.i2l X5.here hx rfl (hb hby at_135) rfl ?_
    refine XS.ladd X5.here hx rfl (hb hby at_136) rfl ?_
    show Steps p.tables e below (T5.setTop (mkF m 137 #[.val (.int p0_), .val (.int p1_), .val (.int p2_), .val (.int (0 : Int32)), .val (.int m_), .val (.ref r3), .val (.int (1 : Int32)), .val (.int (1 : Int32)), .val (.int f_), .unset, .unset] [(.long ((m_.toInt64) + (f_.toInt64)))])) _
    rw [hf9]
    refine XS.lstore X5.here hx rfl (hb hby at_137) rfl (l' := #[.val (.int p0_), .val (.int p1_), .val (.int p2_), .val (.int (0 : Int32)), .val (.int m_), .val (.ref r3), .val (.int (1 : Int32)), .val (.int (1 : Int32)), .val (.int f_), .val (.long l_), .second]) rfl ?_
    refine XS.lload X5.here hx rfl (hb hby at_139) rfl ?_
    show Steps p.tables e below (T5.setTop (mkF m 141 #[.val (.int p0_), .val (.int p1_), .val (.int p2_), .val (.int (0 : Int32)), .val (.int m_), .val (.ref r3), .val (.int (1 : Int32)), .val (.int (1 : Int32)), .val (.int f_), .val (.long l_), .second] [(.long l_)])) _
    refine X5.ldc2Long hx hown (mvT hZ (hw _ (List.mem_of_getElem? (i := 32) rfl))) (g := (mkF m 141 #[.val (.int p0_), .val (.int p1_), .val (.int p2_), .val (.int (0 : Int32)), .val (.int m_), .val (.ref r3), .val (.int (1 : Int32)), .val (.int (1 : Int32)), .val (.int f_), .val (.long l_), .second] [(.long l_)])) rfl (hb hby at_141) _ ?_
    refine XS.lcmp X5.here hx rfl (hb hby at_144) rfl ?_
    refine XS.ifNo X5.here hx rfl (hb hby at_145) rfl ((if0 _ _).trans (flt hf10).2.2.1) ?_
    refine XS.aload X5.here hx rfl (hb hby at_148) rfl rfl ?_
    show Steps p.tables e below (T5.setTop (mkF m 150 #[.val (.int p0_), .val (.int p1_), .val (.int p2_), .val (.int (0 : Int32)), .val (.int m_), .val (.ref r3), .val (.int (1 : Int32)), .val (.int (1 : Int32)), .val (.int f_), .val (.long l_), .second] [(.ref r3)])) _
    refine XS.lload X5.here hx rfl (hb hby at_150) rfl ?_
    refine XS.l2i X5.here hx rfl (hb hby at_152) rfl ?_
    show Steps p.tables e below (T5.setTop (mkF m 153 #[.val (.int p0_), .val (.int p1_), .val (.int p2_), .val (.int (0 : Int32)), .val (.int m_), .val (.ref r3), .val (.int (1 : Int32)), .val (.int (1 : Int32)), .val (.int f_), .val (.long l_), .second] [(.int (l_.toInt32)), (.ref r3)])) _
    refine st6.trans ?_
    refine XS.iload X6.here hx rfl (hb hby at_156) rfl ?_
    refine XS.ifYes X6.here hx rfl (pc0 := 158) (pc' := 165) rfl (hb hby at_158) rfl ((if0 _ _).trans (tlt hf12).1) (by decide) (by decide) ?_
    refine XS.iconst X6.here hx rfl (hb hby at_165) ?_
    show Steps p.tables e below (T6.setTop (mkF m 166 #[.val (.int p0_), .val (.int p1_), .val (.int p2_), .val (.int (0 : Int32)), .val (.int m_), .val (.ref r3), .val (.int (1 : Int32)), .val (.int (1 : Int32)), .val (.int f_), .val (.long l_), .second] [(.int (0 : Int32)), (.int (0 : Int32))])) _
    refine XS.icmpYes X6.here hx rfl (pc0 := 166) (pc' := 171) rfl (hb hby at_166) rfl (teq (rfl : (0 : Int32) = (0 : Int32))).1 (by decide) (by decide) ?_
    refine XS.iconst X6.here hx rfl (hb hby at_171) ?_
    show Steps p.tables e below (T6.setTop (mkF m 172 #[.val (.int p0_), .val (.int p1_), .val (.int p2_), .val (.int (0 : Int32)), .val (.int m_), .val (.ref r3), .val (.int (1 : Int32)), .val (.int (1 : Int32)), .val (.int f_), .val (.long l_), .second] [(.int (1 : Int32))])) _
    exact retN X6 hx (t := .boolean) Bd.returns (by simp) (hb hby at_172) hr
  · show own_QL n0 _ T6.heap _
    exact ⟨rfl, N6⟩
set_option maxRecDepth 65536 in
set_option maxHeartbeats 40000000 in
theorem own_law_V1gg (l : Launch) (Z : State) (a0 : Array Value) (hw : ∀ d ∈ tables_1, d.before a0 Z = true) (ws : List Jvm.Cond) (p0_ : Int32) (p1_ : Int32) (p2_ : Int32) (m_ : Int32) (w_DEFAULT_BACKOFF : Addr) (o_ : Int32) (f_ : Int32) (l_ : Int64) (h0 : Heap) (n0 : Nat) (Z0 : n0 ≤ h0.size) (S_DEFAULT_BACKOFF : Sta Z h0 "com/example/mersey/mersey/JobTypeSettings" "DEFAULT_BACKOFF" "Lcom/example/mersey/mersey/Backoff;" (.ref w_DEFAULT_BACKOFF)) (hf0 : (p0_ &&& (1 : Int32)) = (0 : Int32)) (hf1 : (p1_ &&& (2147483647 : Int32)) = m_) (hf2 : ¬ (m_ = (0 : Int32))) (hf3 : ¬ (m_ < (1 : Int32))) (hf4 : ¬ (p2_ < m_)) (hf5 : ¬ (m_ < m_)) (hf6 : ¬ ((1 : Int32) < m_)) (hf7 : (((p0_.toUInt32 >>> ((1 : Int32) &&& 31).toUInt32).toInt32) % (5 : Int32)) = o_) (hf8 : (o_ - (2 : Int32)) = f_) (hf9 : ((m_.toInt64) + (f_.toInt64)) = l_) (hf10 : ¬ ((0 : Int32) < (lcmpW l_ (2147483647 : Int64)))) (hf11 : ¬ ((l_.toInt32) < m_)) (hf12 : ¬ (f_ < (0 : Int32))) :
    MetFree l x (head1 (Jvm.Cond.code x code maxLocals ret :: ws) room_1) (fun a U => a = #[(.int p0_), (.int p1_), (.int p2_)] ∧ Z.Warmed39 U.vm ∧ U.heap = h0) (fun _ _ _ _ _ => True) (fun _ U o U' => ∃ v L, o = .returned v ∧ own_QL n0 v U'.heap L ∧ FrameEnd U o U' L room_1.cells room_1.slots) := by
  refine MetFree.of_bodySF (plainFor_of_name own_pn1) hisR ?_
  intro p e s m args below meth c s₁ Bd hml0 hP hK
  obtain ⟨rfl, hZ, hh⟩ := hP
  have hx := Bd.exec
  have hby := Bd.bytes
  have hml : c.maxLocals = 11 := hml0
  have hown : s.vm.findClass "com/example/mersey/mersey/JobTypeSettingsIsLastAttemptPinLaw" = some m.cls := findClass_of_methodNamed Bd.named
  have hnm := (name_of_methodNamed Bd.named Bd.method).1
  have X0 : Stand p l e room_1 s m #[(.int p0_), (.int p1_), (.int p2_)] below meth c s₁ [] 0 0 := Stand.of_body Bd
  have e0 : s₁.heap = h0 := by rw [← hh, Bd.state]; rfl
  have N0 := Fr.nil n0
  have pre0 : ∀ t, Steps p.tables e below (s₁.setTop (mkF m 0 #[.val (.int p0_), .val (.int p1_), .val (.int p2_), .unset, .unset, .unset, .unset, .unset, .unset, .unset, .unset] [])) t → Steps p.tables e below (s₁.setTop (entryFrame m #[(.int p0_), (.int p1_), (.int p2_)] maxLocals)) t := fun t k => castTop (own_ef2 m p0_ p1_ p2_) k
  obtain ⟨T1, h1, X1, e1, E1, A1, D1, -, st1⟩ := newO X0 hx hZ hown (hw _ (List.mem_of_getElem? (i := 1) rfl)) (hw _ (List.mem_of_getElem? (i := 2) rfl)) (hw _ (List.mem_of_getElem? (i := 3) rfl)) e0 (g := (mkF m 45 #[.val (.int p0_), .val (.int p1_), .val (.int p2_), .val (.int (0 : Int32)), .val (.int m_), .unset, .unset, .unset, .unset, .unset, .unset] [])) rfl (hb hby at_45) (by decide) (by decide)
  obtain ⟨b1, g1⟩ : ∃ z, z = h0.size := ⟨_, rfl⟩
  rw [← g1] at A1 D1 st1
  have lo_b1 : h0.size ≤ b1 := Nat.le_of_eq g1.symm
  have sz_b1 : h0.size ≤ b1 := Nat.le_trans (Keep.refl h0 []).1 lo_b1
  have g_b1 : n0 ≤ b1 := Nat.le_trans Z0 sz_b1
  have K1 : Keep h0 h1 [] := (Keep.refl h0 []).ext E1
  have F_maxAttempts_b1_1 : Fld Z h1 b1 "com/example/mersey/mersey/JobTypeSettings" "maxAttempts" "I" (.int (0 : Int32)) := D1 (Or.inl (hw _ (List.mem_of_getElem? (i := 11) rfl))) (ty := .int) (by decide)
  have F_backoff_b1_1 : Fld Z h1 b1 "com/example/mersey/mersey/JobTypeSettings" "backoff" "Lcom/example/mersey/mersey/Backoff;" .null := D1 (Or.inl (hw _ (List.mem_of_getElem? (i := 15) rfl))) (ty := (.object "com/example/mersey/mersey/Backoff")) (by decide)
  have F_longestRunTime_b1_1 : Fld Z h1 b1 "com/example/mersey/mersey/JobTypeSettings" "longestRunTime" "Ljava/time/Duration;" .null := D1 (Or.inl (hw _ (List.mem_of_getElem? (i := 26) rfl))) (ty := (.object "java/time/Duration")) (by decide)
  obtain ⟨_, _, ⟨T2, L2, k2, n2⟩, -, X2, ⟨Lc2, hQ2, l2, y2, z2⟩, st2⟩ := X1.specialBack hx (y := (⟨"com/example/mersey/mersey/JobTypeSettings", "<init>", "()V"⟩ : MethodName)) rfl hown (mvT hZ (hw _ (List.mem_of_getElem? (i := 4) rfl))) (mvT hZ (hw _ (List.mem_of_getElem? (i := 5) rfl))) (mvT hZ (hw _ (List.mem_of_getElem? (i := 6) rfl))) (by decide) (backOf (W := 1) (own_b1_x l Z a0 hw [] b1 (.int (0 : Int32)) w_DEFAULT_BACKOFF .null .null h1 n0 (Nat.le_trans Z0 (own_ext K1).1) A1 F_maxAttempts_b1_1 g_b1 (S_DEFAULT_BACKOFF.ext (own_ext K1)) F_backoff_b1_1 F_longestRunTime_b1_1) hZ (hw _ (List.mem_of_getElem? (i := 6) rfl)) (hw _ (List.mem_of_getElem? (i := 3) rfl)) (by decide) (by decide)) (g := (mkF m 49 #[.val (.int p0_), .val (.int p1_), .val (.int p2_), .val (.int (0 : Int32)), .val (.int m_), .unset, .unset, .unset, .unset, .unset, .unset] [(.ref b1), (.ref b1)])) rfl (by rw [hml]; rfl) (Steps.refl _) (a := b1) (argsL := []) (rest := [(.ref b1)]) (lenOf own_pd0 rfl) rfl (by show 2 * 0 + _ ≤ _; exact Nat.le_of_eq rfl) (hb hby at_49) (fun _ _ => ⟨rfl, e1, (by decide : 1 + 0 ≤ _), (by decide : 3 + 0 ≤ _)⟩)
  dsimp only [Pt.U, Pt.locs, Pt.cells, Pt.slots] at X2 l2 y2 z2 st2 hQ2
  subst l2 y2 z2
  obtain ⟨rfl, N2q, Kq2, Eq2, Fq2_maxAttempts, Fq2_backoff, Fq2_longestRunTime⟩ := hQ2
  have N2 := Fr.app N0 N2q
  have K2 : Keep h0 T2.heap [] := K1.trans Kq2 (fun x hx => by cases List.mem_singleton.mp hx; exact Or.inr sz_b1)
  obtain ⟨cq3, kq3, q3a, q3b, q3c⟩ := isOf hZ rfl Eq2
  obtain ⟨_, _, ⟨T3, L3, k3, n3⟩, -, X3, ⟨Lc3, hQ3, l3, y3, z3⟩, st3⟩ := X2.virtualBack hx (y := (⟨"com/example/mersey/mersey/JobTypeSettings", "withMaxAttempts", "(I)Lcom/example/mersey/mersey/JobTypeSettings;"⟩ : MethodName)) (z := (⟨"com/example/mersey/mersey/JobTypeSettings", "withMaxAttempts", "(I)Lcom/example/mersey/mersey/JobTypeSettings;"⟩ : MethodName)) hown (mvT hZ (hw _ (List.mem_of_getElem? (i := 16) rfl))) (mvT hZ (hw _ (List.mem_of_getElem? (i := 17) rfl))) (notFace_of_selects (args := #[]) (mvT hZ (hw _ (List.mem_of_getElem? (i := 19) rfl)))) (mvT hZ (hw _ (List.mem_of_getElem? (i := 19) rfl))) (mvT hZ (hw _ (List.mem_of_getElem? (i := 18) rfl))) (by decide) (backOf (W := 0) (own_b3_tN l Z a0 hw [] b1 m_ w_DEFAULT_BACKOFF (5 : Int32) w_DEFAULT_BACKOFF T2.heap n0 (Nat.le_trans Z0 (own_ext K2).1) (S_DEFAULT_BACKOFF.ext (own_ext K2)) Fq2_longestRunTime Fq2_maxAttempts Fq2_backoff hf3) hZ (hw _ (List.mem_of_getElem? (i := 20) rfl)) (hw _ (List.mem_of_getElem? (i := 3) rfl)) (by decide) (by decide)) q3a q3c (g := (mkF m 54 #[.val (.int p0_), .val (.int p1_), .val (.int p2_), .val (.int (0 : Int32)), .val (.int m_), .unset, .unset, .unset, .unset, .unset, .unset] [(.int m_), (.ref b1)])) rfl (by rw [hml]; rfl) (Steps.refl _) (argsL := [(.int m_)]) (rest := []) (lenOf own_pd3 rfl) rfl (by show 2 * 0 + _ ≤ _; exact Nat.le_of_eq rfl) (hb hby at_54) (fun _ _ => ⟨rfl, rfl, (by decide : 1 + 1 ≤ _), (by decide : 3 + 3 ≤ _)⟩)
  dsimp only [Pt.U, Pt.locs, Pt.cells, Pt.slots] at X3 l3 y3 z3 st3 hQ3
  subst l3 y3 z3
  obtain ⟨r3, rfl, N3q, Kq3, lo_r3, Eq3, Fq3_maxAttempts, Fq3_backoff, Fq3_longestRunTime⟩ := hQ3
  have N3 := Fr.app N2 N3q
  have ne_b1_r3 : b1 ≠ r3 := Nat.ne_of_lt (Nat.lt_of_lt_of_le Eq2.lt lo_r3)
  have sz_r3 : h0.size ≤ r3 := Nat.le_trans K2.1 lo_r3
  have g_r3 : n0 ≤ r3 := Nat.le_trans Z0 sz_r3
  have E_b1_3 := Eq2.ext (own_ext Kq3)
  have F_maxAttempts_b1_3 := Fq2_maxAttempts.ext (own_ext Kq3)
  have F_backoff_b1_3 := Fq2_backoff.ext (own_ext Kq3)
  have F_longestRunTime_b1_3 := Fq2_longestRunTime.ext (own_ext Kq3)
  have K3 : Keep h0 T3.heap [] := K2.trans Kq3 (fun x hx => by cases hx)
  obtain ⟨cq4, kq4, q4a, q4b, q4c⟩ := isOf hZ rfl Eq3
  obtain ⟨_, _, ⟨T4, L4, k4, n4⟩, -, X4, ⟨Lc4, hQ4, l4, y4, z4⟩, st4⟩ := X3.virtualBack hx (y := (⟨"com/example/mersey/mersey/JobTypeSettings", "isLastAttempt", "(I)Z"⟩ : MethodName)) (z := (⟨"com/example/mersey/mersey/JobTypeSettings", "isLastAttempt", "(I)Z"⟩ : MethodName)) hown (mvT hZ (hw _ (List.mem_of_getElem? (i := 27) rfl))) (mvT hZ (hw _ (List.mem_of_getElem? (i := 28) rfl))) (notFace_of_selects (args := #[]) (mvT hZ (hw _ (List.mem_of_getElem? (i := 30) rfl)))) (mvT hZ (hw _ (List.mem_of_getElem? (i := 30) rfl))) (mvT hZ (hw _ (List.mem_of_getElem? (i := 29) rfl))) (by decide) (backOf (W := 0) (own_b5_f l Z a0 hw [] r3 p2_ m_ T3.heap n0 (Nat.le_trans Z0 (own_ext K3).1) Fq3_maxAttempts hf4) hZ (hw _ (List.mem_of_getElem? (i := 31) rfl)) (hw _ (List.mem_of_getElem? (i := 3) rfl)) (by decide) (by decide)) q4a q4c (g := (mkF m 62 #[.val (.int p0_), .val (.int p1_), .val (.int p2_), .val (.int (0 : Int32)), .val (.int m_), .val (.ref r3), .unset, .unset, .unset, .unset, .unset] [(.int p2_), (.ref r3)])) rfl (by rw [hml]; rfl) (Steps.refl _) (argsL := [(.int p2_)]) (rest := []) (lenOf own_pd1 rfl) rfl (by show 2 * 0 + _ ≤ _; exact Nat.le_of_eq rfl) (hb hby at_62) (fun _ _ => ⟨rfl, rfl, (by decide : 2 + 0 ≤ _), (by decide : 6 + 0 ≤ _)⟩)
  dsimp only [Pt.U, Pt.locs, Pt.cells, Pt.slots] at X4 l4 y4 z4 st4 hQ4
  subst l4 y4 z4
  obtain ⟨rfl, N4q, e4⟩ := hQ4
  have N4 := Fr.app N3 N4q
  obtain ⟨cq5, kq5, q5a, q5b, q5c⟩ := isOf hZ e4 Eq3
  obtain ⟨_, _, ⟨T5, L5, k5, n5⟩, -, X5, ⟨Lc5, hQ5, l5, y5, z5⟩, st5⟩ := X4.virtualBack hx (y := (⟨"com/example/mersey/mersey/JobTypeSettings", "isLastAttempt", "(I)Z"⟩ : MethodName)) (z := (⟨"com/example/mersey/mersey/JobTypeSettings", "isLastAttempt", "(I)Z"⟩ : MethodName)) hown (mvT hZ (hw _ (List.mem_of_getElem? (i := 27) rfl))) (mvT hZ (hw _ (List.mem_of_getElem? (i := 28) rfl))) (notFace_of_selects (args := #[]) (mvT hZ (hw _ (List.mem_of_getElem? (i := 30) rfl)))) (mvT hZ (hw _ (List.mem_of_getElem? (i := 30) rfl))) (mvT hZ (hw _ (List.mem_of_getElem? (i := 29) rfl))) (by decide) (backOf (W := 0) (own_b5_f l Z a0 hw [] r3 m_ m_ T3.heap n0 (Nat.le_trans Z0 (own_ext K3).1) Fq3_maxAttempts hf5) hZ (hw _ (List.mem_of_getElem? (i := 31) rfl)) (hw _ (List.mem_of_getElem? (i := 3) rfl)) (by decide) (by decide)) q5a q5c (g := (mkF m 93 #[.val (.int p0_), .val (.int p1_), .val (.int p2_), .val (.int (0 : Int32)), .val (.int m_), .val (.ref r3), .val (.int (1 : Int32)), .val (.int (1 : Int32)), .unset, .unset, .unset] [(.int m_), (.ref r3)])) rfl (by rw [hml]; rfl) (Steps.refl _) (argsL := [(.int m_)]) (rest := []) (lenOf own_pd1 rfl) rfl (by show 2 * 0 + _ ≤ _; exact Nat.le_of_eq rfl) (hb hby at_93) (fun _ _ => ⟨rfl, e4, (by decide : 2 + 0 ≤ _), (by decide : 6 + 0 ≤ _)⟩)
  dsimp only [Pt.U, Pt.locs, Pt.cells, Pt.slots] at X5 l5 y5 z5 st5 hQ5
  subst l5 y5 z5
  obtain ⟨rfl, N5q, e5⟩ := hQ5
  have N5 := Fr.app N4 N5q
  obtain ⟨cq6, kq6, q6a, q6b, q6c⟩ := isOf hZ e5 Eq3
  obtain ⟨_, _, ⟨T6, L6, k6, n6⟩, -, X6, ⟨Lc6, hQ6, l6, y6, z6⟩, st6⟩ := X5.virtualBack hx (y := (⟨"com/example/mersey/mersey/JobTypeSettings", "isLastAttempt", "(I)Z"⟩ : MethodName)) (z := (⟨"com/example/mersey/mersey/JobTypeSettings", "isLastAttempt", "(I)Z"⟩ : MethodName)) hown (mvT hZ (hw _ (List.mem_of_getElem? (i := 27) rfl))) (mvT hZ (hw _ (List.mem_of_getElem? (i := 28) rfl))) (notFace_of_selects (args := #[]) (mvT hZ (hw _ (List.mem_of_getElem? (i := 30) rfl)))) (mvT hZ (hw _ (List.mem_of_getElem? (i := 30) rfl))) (mvT hZ (hw _ (List.mem_of_getElem? (i := 29) rfl))) (by decide) (backOf (W := 0) (own_b5_f l Z a0 hw [] r3 (l_.toInt32) m_ T3.heap n0 (Nat.le_trans Z0 (own_ext K3).1) Fq3_maxAttempts hf11) hZ (hw _ (List.mem_of_getElem? (i := 31) rfl)) (hw _ (List.mem_of_getElem? (i := 3) rfl)) (by decide) (by decide)) q6a q6c (g := (mkF m 153 #[.val (.int p0_), .val (.int p1_), .val (.int p2_), .val (.int (0 : Int32)), .val (.int m_), .val (.ref r3), .val (.int (1 : Int32)), .val (.int (1 : Int32)), .val (.int f_), .val (.long l_), .second] [(.int (l_.toInt32)), (.ref r3)])) rfl (by rw [hml]; rfl) (Steps.refl _) (argsL := [(.int (l_.toInt32))]) (rest := []) (lenOf own_pd1 rfl) rfl (by show 2 * 0 + _ ≤ _; exact Nat.le_of_eq rfl) (hb hby at_153) (fun _ _ => ⟨rfl, e5, (by decide : 2 + 0 ≤ _), (by decide : 6 + 0 ≤ _)⟩)
  dsimp only [Pt.U, Pt.locs, Pt.cells, Pt.slots] at X6 l6 y6 z6 st6 hQ6
  subst l6 y6 z6
  obtain ⟨rfl, N6q, e6⟩ := hQ6
  have N6 := Fr.app N5 N6q
  obtain ⟨fs, hr, hrun, hended, hW, hsame⟩ := X6.leave (v := some (.int (1 : Int32))) (fun h => by rw [Bd.returns] at h; cases h)
  refine ⟨_, _, pre0 _ ?_, hrun, hended, _, _, rfl, ?_, ⟨_, rfl⟩, hW, hsame.mono (by decide) (by decide)⟩
  · show Steps p.tables e below (s₁.setTop (mkF m 0 #[.val (.int p0_), .val (.int p1_), .val (.int p2_), .unset, .unset, .unset, .unset, .unset, .unset, .unset, .unset] [])) _
    refine XS.iloadN X0.here hx rfl (hb hby at_0) rfl ?_
    refine XS.iconst X0.here hx rfl (hb hby at_1) ?_
    refine XS.iand X0.here hx rfl (hb hby at_2) rfl ?_
    show Steps p.tables e below (s₁.setTop (mkF m 3 #[.val (.int p0_), .val (.int p1_), .val (.int p2_), .unset, .unset, .unset, .unset, .unset, .unset, .unset, .unset] [(.int (p0_ &&& (1 : Int32)))])) _
    rw [hf0]
    refine XS.ifYes X0.here hx rfl (pc0 := 3) (pc' := 10) rfl (hb hby at_3) rfl ((if0 _ _).trans (teq (rfl : (0 : Int32) = (0 : Int32))).1) (by decide) (by decide) ?_
    refine XS.iconst X0.here hx rfl (hb hby at_10) ?_
    refine XS.istoreN X0.here hx rfl (hb hby at_11) rfl (l' := #[.val (.int p0_), .val (.int p1_), .val (.int p2_), .val (.int (0 : Int32)), .unset, .unset, .unset, .unset, .unset, .unset, .unset]) rfl ?_
    show Steps p.tables e below (s₁.setTop (mkF m 12 #[.val (.int p0_), .val (.int p1_), .val (.int p2_), .val (.int (0 : Int32)), .unset, .unset, .unset, .unset, .unset, .unset, .unset] [])) _
    refine XS.iloadN X0.here hx rfl (hb hby at_12) rfl ?_
    show Steps p.tables e below (s₁.setTop (mkF m 13 #[.val (.int p0_), .val (.int p1_), .val (.int p2_), .val (.int (0 : Int32)), .unset, .unset, .unset, .unset, .unset, .unset, .unset] [(.int p1_)])) _
    refine X0.ldcInt hx hown (mvT hZ (hw _ (List.mem_of_getElem? (i := 0) rfl))) (g := (mkF m 13 #[.val (.int p0_), .val (.int p1_), .val (.int p2_), .val (.int (0 : Int32)), .unset, .unset, .unset, .unset, .unset, .unset, .unset] [(.int p1_)])) rfl (hb hby at_13) _ ?_
    refine XS.iand X0.here hx rfl (hb hby at_15) rfl ?_
    show Steps p.tables e below (s₁.setTop (mkF m 16 #[.val (.int p0_), .val (.int p1_), .val (.int p2_), .val (.int (0 : Int32)), .unset, .unset, .unset, .unset, .unset, .unset, .unset] [(.int (p1_ &&& (2147483647 : Int32)))])) _
    rw [hf1]
    refine XS.istore X0.here hx rfl (hb hby at_16) rfl (l' := #[.val (.int p0_), .val (.int p1_), .val (.int p2_), .val (.int (0 : Int32)), .val (.int m_), .unset, .unset, .unset, .unset, .unset, .unset]) rfl ?_
    refine XS.iload X0.here hx rfl (hb hby at_18) rfl ?_
    refine XS.ifYes X0.here hx rfl (pc0 := 20) (pc' := 26) rfl (hb hby at_20) rfl ((if0 _ _).trans (feq hf2).2) (by decide) (by decide) ?_
    show Steps p.tables e below (s₁.setTop (mkF m 26 #[.val (.int p0_), .val (.int p1_), .val (.int p2_), .val (.int (0 : Int32)), .val (.int m_), .unset, .unset, .unset, .unset, .unset, .unset] [])) _
    refine XS.iloadN X0.here hx rfl (hb hby at_26) rfl ?_
    refine XS.ifYes X0.here hx rfl (pc0 := 27) (pc' := 45) rfl (hb hby at_27) rfl ((if0 _ _).trans (teq (rfl : (0 : Int32) = (0 : Int32))).1) (by decide) (by decide) ?_
    show Steps p.tables e below (s₁.setTop (mkF m 45 #[.val (.int p0_), .val (.int p1_), .val (.int p2_), .val (.int (0 : Int32)), .val (.int m_), .unset, .unset, .unset, .unset, .unset, .unset] [])) _
    refine st1 _ ?_
    refine XS.dup X1.here hx rfl (hb hby at_48) rfl rfl ?_
    show Steps p.tables e below (T1.setTop (mkF m 49 #[.val (.int p0_), .val (.int p1_), .val (.int p2_), .val (.int (0 : Int32)), .val (.int m_), .unset, .unset, .unset, .unset, .unset, .unset] [(.ref b1), (.ref b1)])) _
    refine st2.trans ?_
    refine XS.iload X2.here hx rfl (hb hby at_52) rfl ?_
    show Steps p.tables e below (T2.setTop (mkF m 54 #[.val (.int p0_), .val (.int p1_), .val (.int p2_), .val (.int (0 : Int32)), .val (.int m_), .unset, .unset, .unset, .unset, .unset, .unset] [(.int m_), (.ref b1)])) _
    refine st3.trans ?_
    refine XS.astore X3.here hx rfl (hb hby at_57) rfl rfl (l' := #[.val (.int p0_), .val (.int p1_), .val (.int p2_), .val (.int (0 : Int32)), .val (.int m_), .val (.ref r3), .unset, .unset, .unset, .unset, .unset]) rfl ?_
    refine XS.aload X3.here hx rfl (hb hby at_59) rfl rfl ?_
    refine XS.iloadN X3.here hx rfl (hb hby at_61) rfl ?_
    show Steps p.tables e below (T3.setTop (mkF m 62 #[.val (.int p0_), .val (.int p1_), .val (.int p2_), .val (.int (0 : Int32)), .val (.int m_), .val (.ref r3), .unset, .unset, .unset, .unset, .unset] [(.int p2_), (.ref r3)])) _
    refine st4.trans ?_
    refine XS.istore X4.here hx rfl (hb hby at_65) rfl (l' := #[.val (.int p0_), .val (.int p1_), .val (.int p2_), .val (.int (0 : Int32)), .val (.int m_), .val (.ref r3), .val (.int (1 : Int32)), .unset, .unset, .unset, .unset]) rfl ?_
    refine XS.iloadN X4.here hx rfl (hb hby at_67) rfl ?_
    refine XS.iload X4.here hx rfl (hb hby at_68) rfl ?_
    show Steps p.tables e below (T4.setTop (mkF m 70 #[.val (.int p0_), .val (.int p1_), .val (.int p2_), .val (.int (0 : Int32)), .val (.int m_), .val (.ref r3), .val (.int (1 : Int32)), .unset, .unset, .unset, .unset] [(.int m_), (.int p2_)])) _
    refine XS.icmpNo X4.here hx rfl (hb hby at_70) rfl (flt hf4).1 ?_
    refine XS.iconst X4.here hx rfl (hb hby at_73) ?_
    refine XS.goto X4.here hx rfl (pc0 := 74) (pc' := 78) rfl (hb hby at_74) (by decide) (by decide) ?_
    refine XS.istore X4.here hx rfl (hb hby at_78) rfl (l' := #[.val (.int p0_), .val (.int p1_), .val (.int p2_), .val (.int (0 : Int32)), .val (.int m_), .val (.ref r3), .val (.int (1 : Int32)), .val (.int (1 : Int32)), .unset, .unset, .unset]) rfl ?_
    show Steps p.tables e below (T4.setTop (mkF m 80 #[.val (.int p0_), .val (.int p1_), .val (.int p2_), .val (.int (0 : Int32)), .val (.int m_), .val (.ref r3), .val (.int (1 : Int32)), .val (.int (1 : Int32)), .unset, .unset, .unset] [])) _
    refine XS.iload X4.here hx rfl (hb hby at_80) rfl ?_
    refine XS.iload X4.here hx rfl (hb hby at_82) rfl ?_
    refine XS.icmpYes X4.here hx rfl (pc0 := 84) (pc' := 89) rfl (hb hby at_84) rfl (teq (rfl : (1 : Int32) = (1 : Int32))).1 (by decide) (by decide) ?_
    refine XS.aload X4.here hx rfl (hb hby at_89) rfl rfl ?_
    show Steps p.tables e below (T4.setTop (mkF m 91 #[.val (.int p0_), .val (.int p1_), .val (.int p2_), .val (.int (0 : Int32)), .val (.int m_), .val (.ref r3), .val (.int (1 : Int32)), .val (.int (1 : Int32)), .unset, .unset, .unset] [(.ref r3)])) _
    refine XS.iload X4.here hx rfl (hb hby at_91) rfl ?_
    show Steps p.tables e below (T4.setTop (mkF m 93 #[.val (.int p0_), .val (.int p1_), .val (.int p2_), .val (.int (0 : Int32)), .val (.int m_), .val (.ref r3), .val (.int (1 : Int32)), .val (.int (1 : Int32)), .unset, .unset, .unset] [(.int m_), (.ref r3)])) _
    refine st5.trans ?_
    refine XS.ifYes X5.here hx rfl (pc0 := 96) (pc' := 101) rfl (hb hby at_96) rfl ((if0 _ _).trans (feq (by decide : ¬ ((1 : Int32) = (0 : Int32)))).2) (by decide) (by decide) ?_
    refine XS.iload X5.here hx rfl (hb hby at_101) rfl ?_
    refine XS.iconst X5.here hx rfl (hb hby at_103) ?_
    show Steps p.tables e below (T5.setTop (mkF m 104 #[.val (.int p0_), .val (.int p1_), .val (.int p2_), .val (.int (0 : Int32)), .val (.int m_), .val (.ref r3), .val (.int (1 : Int32)), .val (.int (1 : Int32)), .unset, .unset, .unset] [(.int (1 : Int32)), (.int m_)])) _
    refine XS.icmpYes X5.here hx rfl (pc0 := 104) (pc' := 121) rfl (hb hby at_104) rfl (flt hf6).2.2.2 (by decide) (by decide) ?_
    refine XS.iloadN X5.here hx rfl (hb hby at_121) rfl ?_
    refine XS.iconst X5.here hx rfl (hb hby at_122) ?_
    refine XS.iushr X5.here hx rfl (hb hby at_123) rfl ?_
    show Steps p.tables e below (T5.setTop (mkF m 124 #[.val (.int p0_), .val (.int p1_), .val (.int p2_), .val (.int (0 : Int32)), .val (.int m_), .val (.ref r3), .val (.int (1 : Int32)), .val (.int (1 : Int32)), .unset, .unset, .unset] [(.int ((p0_.toUInt32 >>> ((1 : Int32) &&& 31).toUInt32).toInt32))])) _
    refine XS.iconst X5.here hx rfl (hb hby at_124) ?_
    show Steps p.tables e below (T5.setTop (mkF m 125 #[.val (.int p0_), .val (.int p1_), .val (.int p2_), .val (.int (0 : Int32)), .val (.int m_), .val (.ref r3), .val (.int (1 : Int32)), .val (.int (1 : Int32)), .unset, .unset, .unset] [(.int (5 : Int32)), (.int ((p0_.toUInt32 >>> ((1 : Int32) &&& 31).toUInt32).toInt32))])) _
    refine iremM X5 hx rfl (hb hby at_125) rfl (by decide) ?_
    show Steps p.tables e below (T5.setTop (mkF m 126 #[.val (.int p0_), .val (.int p1_), .val (.int p2_), .val (.int (0 : Int32)), .val (.int m_), .val (.ref r3), .val (.int (1 : Int32)), .val (.int (1 : Int32)), .unset, .unset, .unset] [(.int (((p0_.toUInt32 >>> ((1 : Int32) &&& 31).toUInt32).toInt32) % (5 : Int32)))])) _
    rw [hf7]
    refine XS.iconst X5.here hx rfl (hb hby at_126) ?_
    refine XS.isub X5.here hx rfl (hb hby at_127) rfl ?_
    show Steps p.tables e below (T5.setTop (mkF m 128 #[.val (.int p0_), .val (.int p1_), .val (.int p2_), .val (.int (0 : Int32)), .val (.int m_), .val (.ref r3), .val (.int (1 : Int32)), .val (.int (1 : Int32)), .unset, .unset, .unset] [(.int (o_ - (2 : Int32)))])) _
    rw [hf8]
    refine XS.istore X5.here hx rfl (hb hby at_128) rfl (l' := #[.val (.int p0_), .val (.int p1_), .val (.int p2_), .val (.int (0 : Int32)), .val (.int m_), .val (.ref r3), .val (.int (1 : Int32)), .val (.int (1 : Int32)), .val (.int f_), .unset, .unset]) rfl ?_
    refine XS.iload X5.here hx rfl (hb hby at_130) rfl ?_
    refine XS.i2l X5.here hx rfl (hb hby at_132) rfl ?_
    show Steps p.tables e below (T5.setTop (mkF m 133 #[.val (.int p0_), .val (.int p1_), .val (.int p2_), .val (.int (0 : Int32)), .val (.int m_), .val (.ref r3), .val (.int (1 : Int32)), .val (.int (1 : Int32)), .val (.int f_), .unset, .unset] [(.long (m_.toInt64))])) _
    refine XS.iload X5.here hx rfl (hb hby at_133) rfl ?_
    refine XS.i2l X5.here hx rfl (hb hby at_135) rfl ?_
    refine XS.ladd X5.here hx rfl (hb hby at_136) rfl ?_
    show Steps p.tables e below (T5.setTop (mkF m 137 #[.val (.int p0_), .val (.int p1_), .val (.int p2_), .val (.int (0 : Int32)), .val (.int m_), .val (.ref r3), .val (.int (1 : Int32)), .val (.int (1 : Int32)), .val (.int f_), .unset, .unset] [(.long ((m_.toInt64) + (f_.toInt64)))])) _
    rw [hf9]
    refine XS.lstore X5.here hx rfl (hb hby at_137) rfl (l' := #[.val (.int p0_), .val (.int p1_), .val (.int p2_), .val (.int (0 : Int32)), .val (.int m_), .val (.ref r3), .val (.int (1 : Int32)), .val (.int (1 : Int32)), .val (.int f_), .val (.long l_), .second]) rfl ?_
    refine XS.lload X5.here hx rfl (hb hby at_139) rfl ?_
    show Steps p.tables e below (T5.setTop (mkF m 141 #[.val (.int p0_), .val (.int p1_), .val (.int p2_), .val (.int (0 : Int32)), .val (.int m_), .val (.ref r3), .val (.int (1 : Int32)), .val (.int (1 : Int32)), .val (.int f_), .val (.long l_), .second] [(.long l_)])) _
    refine X5.ldc2Long hx hown (mvT hZ (hw _ (List.mem_of_getElem? (i := 32) rfl))) (g := (mkF m 141 #[.val (.int p0_), .val (.int p1_), .val (.int p2_), .val (.int (0 : Int32)), .val (.int m_), .val (.ref r3), .val (.int (1 : Int32)), .val (.int (1 : Int32)), .val (.int f_), .val (.long l_), .second] [(.long l_)])) rfl (hb hby at_141) _ ?_
    refine XS.lcmp X5.here hx rfl (hb hby at_144) rfl ?_
    refine XS.ifNo X5.here hx rfl (hb hby at_145) rfl ((if0 _ _).trans (flt hf10).2.2.1) ?_
    refine XS.aload X5.here hx rfl (hb hby at_148) rfl rfl ?_
    show Steps p.tables e below (T5.setTop (mkF m 150 #[.val (.int p0_), .val (.int p1_), .val (.int p2_), .val (.int (0 : Int32)), .val (.int m_), .val (.ref r3), .val (.int (1 : Int32)), .val (.int (1 : Int32)), .val (.int f_), .val (.long l_), .second] [(.ref r3)])) _
    refine XS.lload X5.here hx rfl (hb hby at_150) rfl ?_
    refine XS.l2i X5.here hx rfl (hb hby at_152) rfl ?_
    show Steps p.tables e below (T5.setTop (mkF m 153 #[.val (.int p0_), .val (.int p1_), .val (.int p2_), .val (.int (0 : Int32)), .val (.int m_), .val (.ref r3), .val (.int (1 : Int32)), .val (.int (1 : Int32)), .val (.int f_), .val (.long l_), .second] [(.int (l_.toInt32)), (.ref r3)])) _
    refine st6.trans ?_
    refine XS.iload X6.here hx rfl (hb hby at_156) rfl ?_
    refine XS.ifNo X6.here hx rfl (hb hby at_158) rfl ((if0 _ _).trans (flt hf12).1) ?_
    refine XS.iconst X6.here hx rfl (hb hby at_161) ?_
    show Steps p.tables e below (T6.setTop (mkF m 162 #[.val (.int p0_), .val (.int p1_), .val (.int p2_), .val (.int (0 : Int32)), .val (.int m_), .val (.ref r3), .val (.int (1 : Int32)), .val (.int (1 : Int32)), .val (.int f_), .val (.long l_), .second] [(.int (1 : Int32)), (.int (1 : Int32))])) _
    refine XS.goto X6.here hx rfl (pc0 := 162) (pc' := 166) rfl (hb hby at_162) (by decide) (by decide) ?_
    refine XS.icmpYes X6.here hx rfl (pc0 := 166) (pc' := 171) rfl (hb hby at_166) rfl (teq (rfl : (1 : Int32) = (1 : Int32))).1 (by decide) (by decide) ?_
    refine XS.iconst X6.here hx rfl (hb hby at_171) ?_
    show Steps p.tables e below (T6.setTop (mkF m 172 #[.val (.int p0_), .val (.int p1_), .val (.int p2_), .val (.int (0 : Int32)), .val (.int m_), .val (.ref r3), .val (.int (1 : Int32)), .val (.int (1 : Int32)), .val (.int f_), .val (.long l_), .second] [(.int (1 : Int32))])) _
    exact retN X6 hx (t := .boolean) Bd.returns (by simp) (hb hby at_172) hr
  · show own_QL n0 _ T6.heap _
    exact ⟨rfl, N6⟩
set_option maxRecDepth 65536 in
set_option maxHeartbeats 40000000 in
theorem own_law_V2gl (l : Launch) (Z : State) (a0 : Array Value) (hw : ∀ d ∈ tables_1, d.before a0 Z = true) (ws : List Jvm.Cond) (p0_ : Int32) (p1_ : Int32) (p2_ : Int32) (m_ : Int32) (w_DEFAULT_BACKOFF : Addr) (o_ : Int32) (f_ : Int32) (l_ : Int64) (h0 : Heap) (n0 : Nat) (Z0 : n0 ≤ h0.size) (S_DEFAULT_BACKOFF : Sta Z h0 "com/example/mersey/mersey/JobTypeSettings" "DEFAULT_BACKOFF" "Lcom/example/mersey/mersey/Backoff;" (.ref w_DEFAULT_BACKOFF)) (hf0 : (p0_ &&& (1 : Int32)) = (0 : Int32)) (hf1 : (p1_ &&& (2147483647 : Int32)) = m_) (hf2 : ¬ (m_ = (0 : Int32))) (hf3 : ¬ (m_ < (1 : Int32))) (hf4 : ¬ (p2_ < m_)) (hf5 : ¬ (m_ < m_)) (hf6 : (1 : Int32) < m_) (hf7 : (m_ - (1 : Int32)) < m_) (hf8 : (((p0_.toUInt32 >>> ((1 : Int32) &&& 31).toUInt32).toInt32) % (5 : Int32)) = o_) (hf9 : (o_ - (2 : Int32)) = f_) (hf10 : ((m_.toInt64) + (f_.toInt64)) = l_) (hf11 : ¬ ((0 : Int32) < (lcmpW l_ (2147483647 : Int64)))) (hf12 : (l_.toInt32) < m_) (hf13 : f_ < (0 : Int32)) :
    MetFree l x (head1 (Jvm.Cond.code x code maxLocals ret :: ws) room_1) (fun a U => a = #[(.int p0_), (.int p1_), (.int p2_)] ∧ Z.Warmed39 U.vm ∧ U.heap = h0) (fun _ _ _ _ _ => True) (fun _ U o U' => ∃ v L, o = .returned v ∧ own_QL n0 v U'.heap L ∧ FrameEnd U o U' L room_1.cells room_1.slots) := by
  refine MetFree.of_bodySF (plainFor_of_name own_pn1) hisR ?_
  intro p e s m args below meth c s₁ Bd hml0 hP hK
  obtain ⟨rfl, hZ, hh⟩ := hP
  have hx := Bd.exec
  have hby := Bd.bytes
  have hml : c.maxLocals = 11 := hml0
  have hown : s.vm.findClass "com/example/mersey/mersey/JobTypeSettingsIsLastAttemptPinLaw" = some m.cls := findClass_of_methodNamed Bd.named
  have hnm := (name_of_methodNamed Bd.named Bd.method).1
  have X0 : Stand p l e room_1 s m #[(.int p0_), (.int p1_), (.int p2_)] below meth c s₁ [] 0 0 := Stand.of_body Bd
  have e0 : s₁.heap = h0 := by rw [← hh, Bd.state]; rfl
  have N0 := Fr.nil n0
  have pre0 : ∀ t, Steps p.tables e below (s₁.setTop (mkF m 0 #[.val (.int p0_), .val (.int p1_), .val (.int p2_), .unset, .unset, .unset, .unset, .unset, .unset, .unset, .unset] [])) t → Steps p.tables e below (s₁.setTop (entryFrame m #[(.int p0_), (.int p1_), (.int p2_)] maxLocals)) t := fun t k => castTop (own_ef2 m p0_ p1_ p2_) k
  obtain ⟨T1, h1, X1, e1, E1, A1, D1, -, st1⟩ := newO X0 hx hZ hown (hw _ (List.mem_of_getElem? (i := 1) rfl)) (hw _ (List.mem_of_getElem? (i := 2) rfl)) (hw _ (List.mem_of_getElem? (i := 3) rfl)) e0 (g := (mkF m 45 #[.val (.int p0_), .val (.int p1_), .val (.int p2_), .val (.int (0 : Int32)), .val (.int m_), .unset, .unset, .unset, .unset, .unset, .unset] [])) rfl (hb hby at_45) (by decide) (by decide)
  obtain ⟨b1, g1⟩ : ∃ z, z = h0.size := ⟨_, rfl⟩
  rw [← g1] at A1 D1 st1
  have lo_b1 : h0.size ≤ b1 := Nat.le_of_eq g1.symm
  have sz_b1 : h0.size ≤ b1 := Nat.le_trans (Keep.refl h0 []).1 lo_b1
  have g_b1 : n0 ≤ b1 := Nat.le_trans Z0 sz_b1
  have K1 : Keep h0 h1 [] := (Keep.refl h0 []).ext E1
  have F_maxAttempts_b1_1 : Fld Z h1 b1 "com/example/mersey/mersey/JobTypeSettings" "maxAttempts" "I" (.int (0 : Int32)) := D1 (Or.inl (hw _ (List.mem_of_getElem? (i := 11) rfl))) (ty := .int) (by decide)
  have F_backoff_b1_1 : Fld Z h1 b1 "com/example/mersey/mersey/JobTypeSettings" "backoff" "Lcom/example/mersey/mersey/Backoff;" .null := D1 (Or.inl (hw _ (List.mem_of_getElem? (i := 15) rfl))) (ty := (.object "com/example/mersey/mersey/Backoff")) (by decide)
  have F_longestRunTime_b1_1 : Fld Z h1 b1 "com/example/mersey/mersey/JobTypeSettings" "longestRunTime" "Ljava/time/Duration;" .null := D1 (Or.inl (hw _ (List.mem_of_getElem? (i := 26) rfl))) (ty := (.object "java/time/Duration")) (by decide)
  obtain ⟨_, _, ⟨T2, L2, k2, n2⟩, -, X2, ⟨Lc2, hQ2, l2, y2, z2⟩, st2⟩ := X1.specialBack hx (y := (⟨"com/example/mersey/mersey/JobTypeSettings", "<init>", "()V"⟩ : MethodName)) rfl hown (mvT hZ (hw _ (List.mem_of_getElem? (i := 4) rfl))) (mvT hZ (hw _ (List.mem_of_getElem? (i := 5) rfl))) (mvT hZ (hw _ (List.mem_of_getElem? (i := 6) rfl))) (by decide) (backOf (W := 1) (own_b1_x l Z a0 hw [] b1 (.int (0 : Int32)) w_DEFAULT_BACKOFF .null .null h1 n0 (Nat.le_trans Z0 (own_ext K1).1) A1 F_maxAttempts_b1_1 g_b1 (S_DEFAULT_BACKOFF.ext (own_ext K1)) F_backoff_b1_1 F_longestRunTime_b1_1) hZ (hw _ (List.mem_of_getElem? (i := 6) rfl)) (hw _ (List.mem_of_getElem? (i := 3) rfl)) (by decide) (by decide)) (g := (mkF m 49 #[.val (.int p0_), .val (.int p1_), .val (.int p2_), .val (.int (0 : Int32)), .val (.int m_), .unset, .unset, .unset, .unset, .unset, .unset] [(.ref b1), (.ref b1)])) rfl (by rw [hml]; rfl) (Steps.refl _) (a := b1) (argsL := []) (rest := [(.ref b1)]) (lenOf own_pd0 rfl) rfl (by show 2 * 0 + _ ≤ _; exact Nat.le_of_eq rfl) (hb hby at_49) (fun _ _ => ⟨rfl, e1, (by decide : 1 + 0 ≤ _), (by decide : 3 + 0 ≤ _)⟩)
  dsimp only [Pt.U, Pt.locs, Pt.cells, Pt.slots] at X2 l2 y2 z2 st2 hQ2
  subst l2 y2 z2
  obtain ⟨rfl, N2q, Kq2, Eq2, Fq2_maxAttempts, Fq2_backoff, Fq2_longestRunTime⟩ := hQ2
  have N2 := Fr.app N0 N2q
  have K2 : Keep h0 T2.heap [] := K1.trans Kq2 (fun x hx => by cases List.mem_singleton.mp hx; exact Or.inr sz_b1)
  obtain ⟨cq3, kq3, q3a, q3b, q3c⟩ := isOf hZ rfl Eq2
  obtain ⟨_, _, ⟨T3, L3, k3, n3⟩, -, X3, ⟨Lc3, hQ3, l3, y3, z3⟩, st3⟩ := X2.virtualBack hx (y := (⟨"com/example/mersey/mersey/JobTypeSettings", "withMaxAttempts", "(I)Lcom/example/mersey/mersey/JobTypeSettings;"⟩ : MethodName)) (z := (⟨"com/example/mersey/mersey/JobTypeSettings", "withMaxAttempts", "(I)Lcom/example/mersey/mersey/JobTypeSettings;"⟩ : MethodName)) hown (mvT hZ (hw _ (List.mem_of_getElem? (i := 16) rfl))) (mvT hZ (hw _ (List.mem_of_getElem? (i := 17) rfl))) (notFace_of_selects (args := #[]) (mvT hZ (hw _ (List.mem_of_getElem? (i := 19) rfl)))) (mvT hZ (hw _ (List.mem_of_getElem? (i := 19) rfl))) (mvT hZ (hw _ (List.mem_of_getElem? (i := 18) rfl))) (by decide) (backOf (W := 0) (own_b3_tN l Z a0 hw [] b1 m_ w_DEFAULT_BACKOFF (5 : Int32) w_DEFAULT_BACKOFF T2.heap n0 (Nat.le_trans Z0 (own_ext K2).1) (S_DEFAULT_BACKOFF.ext (own_ext K2)) Fq2_longestRunTime Fq2_maxAttempts Fq2_backoff hf3) hZ (hw _ (List.mem_of_getElem? (i := 20) rfl)) (hw _ (List.mem_of_getElem? (i := 3) rfl)) (by decide) (by decide)) q3a q3c (g := (mkF m 54 #[.val (.int p0_), .val (.int p1_), .val (.int p2_), .val (.int (0 : Int32)), .val (.int m_), .unset, .unset, .unset, .unset, .unset, .unset] [(.int m_), (.ref b1)])) rfl (by rw [hml]; rfl) (Steps.refl _) (argsL := [(.int m_)]) (rest := []) (lenOf own_pd3 rfl) rfl (by show 2 * 0 + _ ≤ _; exact Nat.le_of_eq rfl) (hb hby at_54) (fun _ _ => ⟨rfl, rfl, (by decide : 1 + 1 ≤ _), (by decide : 3 + 3 ≤ _)⟩)
  dsimp only [Pt.U, Pt.locs, Pt.cells, Pt.slots] at X3 l3 y3 z3 st3 hQ3
  subst l3 y3 z3
  obtain ⟨r3, rfl, N3q, Kq3, lo_r3, Eq3, Fq3_maxAttempts, Fq3_backoff, Fq3_longestRunTime⟩ := hQ3
  have N3 := Fr.app N2 N3q
  have ne_b1_r3 : b1 ≠ r3 := Nat.ne_of_lt (Nat.lt_of_lt_of_le Eq2.lt lo_r3)
  have sz_r3 : h0.size ≤ r3 := Nat.le_trans K2.1 lo_r3
  have g_r3 : n0 ≤ r3 := Nat.le_trans Z0 sz_r3
  have E_b1_3 := Eq2.ext (own_ext Kq3)
  have F_maxAttempts_b1_3 := Fq2_maxAttempts.ext (own_ext Kq3)
  have F_backoff_b1_3 := Fq2_backoff.ext (own_ext Kq3)
  have F_longestRunTime_b1_3 := Fq2_longestRunTime.ext (own_ext Kq3)
  have K3 : Keep h0 T3.heap [] := K2.trans Kq3 (fun x hx => by cases hx)
  obtain ⟨cq4, kq4, q4a, q4b, q4c⟩ := isOf hZ rfl Eq3
  obtain ⟨_, _, ⟨T4, L4, k4, n4⟩, -, X4, ⟨Lc4, hQ4, l4, y4, z4⟩, st4⟩ := X3.virtualBack hx (y := (⟨"com/example/mersey/mersey/JobTypeSettings", "isLastAttempt", "(I)Z"⟩ : MethodName)) (z := (⟨"com/example/mersey/mersey/JobTypeSettings", "isLastAttempt", "(I)Z"⟩ : MethodName)) hown (mvT hZ (hw _ (List.mem_of_getElem? (i := 27) rfl))) (mvT hZ (hw _ (List.mem_of_getElem? (i := 28) rfl))) (notFace_of_selects (args := #[]) (mvT hZ (hw _ (List.mem_of_getElem? (i := 30) rfl)))) (mvT hZ (hw _ (List.mem_of_getElem? (i := 30) rfl))) (mvT hZ (hw _ (List.mem_of_getElem? (i := 29) rfl))) (by decide) (backOf (W := 0) (own_b5_f l Z a0 hw [] r3 p2_ m_ T3.heap n0 (Nat.le_trans Z0 (own_ext K3).1) Fq3_maxAttempts hf4) hZ (hw _ (List.mem_of_getElem? (i := 31) rfl)) (hw _ (List.mem_of_getElem? (i := 3) rfl)) (by decide) (by decide)) q4a q4c (g := (mkF m 62 #[.val (.int p0_), .val (.int p1_), .val (.int p2_), .val (.int (0 : Int32)), .val (.int m_), .val (.ref r3), .unset, .unset, .unset, .unset, .unset] [(.int p2_), (.ref r3)])) rfl (by rw [hml]; rfl) (Steps.refl _) (argsL := [(.int p2_)]) (rest := []) (lenOf own_pd1 rfl) rfl (by show 2 * 0 + _ ≤ _; exact Nat.le_of_eq rfl) (hb hby at_62) (fun _ _ => ⟨rfl, rfl, (by decide : 2 + 0 ≤ _), (by decide : 6 + 0 ≤ _)⟩)
  dsimp only [Pt.U, Pt.locs, Pt.cells, Pt.slots] at X4 l4 y4 z4 st4 hQ4
  subst l4 y4 z4
  obtain ⟨rfl, N4q, e4⟩ := hQ4
  have N4 := Fr.app N3 N4q
  obtain ⟨cq5, kq5, q5a, q5b, q5c⟩ := isOf hZ e4 Eq3
  obtain ⟨_, _, ⟨T5, L5, k5, n5⟩, -, X5, ⟨Lc5, hQ5, l5, y5, z5⟩, st5⟩ := X4.virtualBack hx (y := (⟨"com/example/mersey/mersey/JobTypeSettings", "isLastAttempt", "(I)Z"⟩ : MethodName)) (z := (⟨"com/example/mersey/mersey/JobTypeSettings", "isLastAttempt", "(I)Z"⟩ : MethodName)) hown (mvT hZ (hw _ (List.mem_of_getElem? (i := 27) rfl))) (mvT hZ (hw _ (List.mem_of_getElem? (i := 28) rfl))) (notFace_of_selects (args := #[]) (mvT hZ (hw _ (List.mem_of_getElem? (i := 30) rfl)))) (mvT hZ (hw _ (List.mem_of_getElem? (i := 30) rfl))) (mvT hZ (hw _ (List.mem_of_getElem? (i := 29) rfl))) (by decide) (backOf (W := 0) (own_b5_f l Z a0 hw [] r3 m_ m_ T3.heap n0 (Nat.le_trans Z0 (own_ext K3).1) Fq3_maxAttempts hf5) hZ (hw _ (List.mem_of_getElem? (i := 31) rfl)) (hw _ (List.mem_of_getElem? (i := 3) rfl)) (by decide) (by decide)) q5a q5c (g := (mkF m 93 #[.val (.int p0_), .val (.int p1_), .val (.int p2_), .val (.int (0 : Int32)), .val (.int m_), .val (.ref r3), .val (.int (1 : Int32)), .val (.int (1 : Int32)), .unset, .unset, .unset] [(.int m_), (.ref r3)])) rfl (by rw [hml]; rfl) (Steps.refl _) (argsL := [(.int m_)]) (rest := []) (lenOf own_pd1 rfl) rfl (by show 2 * 0 + _ ≤ _; exact Nat.le_of_eq rfl) (hb hby at_93) (fun _ _ => ⟨rfl, e4, (by decide : 2 + 0 ≤ _), (by decide : 6 + 0 ≤ _)⟩)
  dsimp only [Pt.U, Pt.locs, Pt.cells, Pt.slots] at X5 l5 y5 z5 st5 hQ5
  subst l5 y5 z5
  obtain ⟨rfl, N5q, e5⟩ := hQ5
  have N5 := Fr.app N4 N5q
  obtain ⟨cq6, kq6, q6a, q6b, q6c⟩ := isOf hZ e5 Eq3
  obtain ⟨_, _, ⟨T6, L6, k6, n6⟩, -, X6, ⟨Lc6, hQ6, l6, y6, z6⟩, st6⟩ := X5.virtualBack hx (y := (⟨"com/example/mersey/mersey/JobTypeSettings", "isLastAttempt", "(I)Z"⟩ : MethodName)) (z := (⟨"com/example/mersey/mersey/JobTypeSettings", "isLastAttempt", "(I)Z"⟩ : MethodName)) hown (mvT hZ (hw _ (List.mem_of_getElem? (i := 27) rfl))) (mvT hZ (hw _ (List.mem_of_getElem? (i := 28) rfl))) (notFace_of_selects (args := #[]) (mvT hZ (hw _ (List.mem_of_getElem? (i := 30) rfl)))) (mvT hZ (hw _ (List.mem_of_getElem? (i := 30) rfl))) (mvT hZ (hw _ (List.mem_of_getElem? (i := 29) rfl))) (by decide) (backOf (W := 0) (own_b5_t l Z a0 hw [] r3 (m_ - (1 : Int32)) m_ T3.heap n0 (Nat.le_trans Z0 (own_ext K3).1) Fq3_maxAttempts hf7) hZ (hw _ (List.mem_of_getElem? (i := 31) rfl)) (hw _ (List.mem_of_getElem? (i := 3) rfl)) (by decide) (by decide)) q6a q6c (g := (mkF m 113 #[.val (.int p0_), .val (.int p1_), .val (.int p2_), .val (.int (0 : Int32)), .val (.int m_), .val (.ref r3), .val (.int (1 : Int32)), .val (.int (1 : Int32)), .unset, .unset, .unset] [(.int (m_ - (1 : Int32))), (.ref r3)])) rfl (by rw [hml]; rfl) (Steps.refl _) (argsL := [(.int (m_ - (1 : Int32)))]) (rest := []) (lenOf own_pd1 rfl) rfl (by show 2 * 0 + _ ≤ _; exact Nat.le_of_eq rfl) (hb hby at_113) (fun _ _ => ⟨rfl, e5, (by decide : 2 + 0 ≤ _), (by decide : 6 + 0 ≤ _)⟩)
  dsimp only [Pt.U, Pt.locs, Pt.cells, Pt.slots] at X6 l6 y6 z6 st6 hQ6
  subst l6 y6 z6
  obtain ⟨rfl, N6q, e6⟩ := hQ6
  have N6 := Fr.app N5 N6q
  obtain ⟨cq7, kq7, q7a, q7b, q7c⟩ := isOf hZ e6 Eq3
  obtain ⟨_, _, ⟨T7, L7, k7, n7⟩, -, X7, ⟨Lc7, hQ7, l7, y7, z7⟩, st7⟩ := X6.virtualBack hx (y := (⟨"com/example/mersey/mersey/JobTypeSettings", "isLastAttempt", "(I)Z"⟩ : MethodName)) (z := (⟨"com/example/mersey/mersey/JobTypeSettings", "isLastAttempt", "(I)Z"⟩ : MethodName)) hown (mvT hZ (hw _ (List.mem_of_getElem? (i := 27) rfl))) (mvT hZ (hw _ (List.mem_of_getElem? (i := 28) rfl))) (notFace_of_selects (args := #[]) (mvT hZ (hw _ (List.mem_of_getElem? (i := 30) rfl)))) (mvT hZ (hw _ (List.mem_of_getElem? (i := 30) rfl))) (mvT hZ (hw _ (List.mem_of_getElem? (i := 29) rfl))) (by decide) (backOf (W := 0) (own_b5_t l Z a0 hw [] r3 (l_.toInt32) m_ T3.heap n0 (Nat.le_trans Z0 (own_ext K3).1) Fq3_maxAttempts hf12) hZ (hw _ (List.mem_of_getElem? (i := 31) rfl)) (hw _ (List.mem_of_getElem? (i := 3) rfl)) (by decide) (by decide)) q7a q7c (g := (mkF m 153 #[.val (.int p0_), .val (.int p1_), .val (.int p2_), .val (.int (0 : Int32)), .val (.int m_), .val (.ref r3), .val (.int (1 : Int32)), .val (.int (1 : Int32)), .val (.int f_), .val (.long l_), .second] [(.int (l_.toInt32)), (.ref r3)])) rfl (by rw [hml]; rfl) (Steps.refl _) (argsL := [(.int (l_.toInt32))]) (rest := []) (lenOf own_pd1 rfl) rfl (by show 2 * 0 + _ ≤ _; exact Nat.le_of_eq rfl) (hb hby at_153) (fun _ _ => ⟨rfl, e6, (by decide : 2 + 0 ≤ _), (by decide : 6 + 0 ≤ _)⟩)
  dsimp only [Pt.U, Pt.locs, Pt.cells, Pt.slots] at X7 l7 y7 z7 st7 hQ7
  subst l7 y7 z7
  obtain ⟨rfl, N7q, e7⟩ := hQ7
  have N7 := Fr.app N6 N7q
  obtain ⟨fs, hr, hrun, hended, hW, hsame⟩ := X7.leave (v := some (.int (1 : Int32))) (fun h => by rw [Bd.returns] at h; cases h)
  refine ⟨_, _, pre0 _ ?_, hrun, hended, _, _, rfl, ?_, ⟨_, rfl⟩, hW, hsame.mono (by decide) (by decide)⟩
  · show Steps p.tables e below (s₁.setTop (mkF m 0 #[.val (.int p0_), .val (.int p1_), .val (.int p2_), .unset, .unset, .unset, .unset, .unset, .unset, .unset, .unset] [])) _
    refine XS.iloadN X0.here hx rfl (hb hby at_0) rfl ?_
    refine XS.iconst X0.here hx rfl (hb hby at_1) ?_
    refine XS.iand X0.here hx rfl (hb hby at_2) rfl ?_
    show Steps p.tables e below (s₁.setTop (mkF m 3 #[.val (.int p0_), .val (.int p1_), .val (.int p2_), .unset, .unset, .unset, .unset, .unset, .unset, .unset, .unset] [(.int (p0_ &&& (1 : Int32)))])) _
    rw [hf0]
    refine XS.ifYes X0.here hx rfl (pc0 := 3) (pc' := 10) rfl (hb hby at_3) rfl ((if0 _ _).trans (teq (rfl : (0 : Int32) = (0 : Int32))).1) (by decide) (by decide) ?_
    refine XS.iconst X0.here hx rfl (hb hby at_10) ?_
    refine XS.istoreN X0.here hx rfl (hb hby at_11) rfl (l' := #[.val (.int p0_), .val (.int p1_), .val (.int p2_), .val (.int (0 : Int32)), .unset, .unset, .unset, .unset, .unset, .unset, .unset]) rfl ?_
    show Steps p.tables e below (s₁.setTop (mkF m 12 #[.val (.int p0_), .val (.int p1_), .val (.int p2_), .val (.int (0 : Int32)), .unset, .unset, .unset, .unset, .unset, .unset, .unset] [])) _
    refine XS.iloadN X0.here hx rfl (hb hby at_12) rfl ?_
    show Steps p.tables e below (s₁.setTop (mkF m 13 #[.val (.int p0_), .val (.int p1_), .val (.int p2_), .val (.int (0 : Int32)), .unset, .unset, .unset, .unset, .unset, .unset, .unset] [(.int p1_)])) _
    refine X0.ldcInt hx hown (mvT hZ (hw _ (List.mem_of_getElem? (i := 0) rfl))) (g := (mkF m 13 #[.val (.int p0_), .val (.int p1_), .val (.int p2_), .val (.int (0 : Int32)), .unset, .unset, .unset, .unset, .unset, .unset, .unset] [(.int p1_)])) rfl (hb hby at_13) _ ?_
    refine XS.iand X0.here hx rfl (hb hby at_15) rfl ?_
    show Steps p.tables e below (s₁.setTop (mkF m 16 #[.val (.int p0_), .val (.int p1_), .val (.int p2_), .val (.int (0 : Int32)), .unset, .unset, .unset, .unset, .unset, .unset, .unset] [(.int (p1_ &&& (2147483647 : Int32)))])) _
    rw [hf1]
    refine XS.istore X0.here hx rfl (hb hby at_16) rfl (l' := #[.val (.int p0_), .val (.int p1_), .val (.int p2_), .val (.int (0 : Int32)), .val (.int m_), .unset, .unset, .unset, .unset, .unset, .unset]) rfl ?_
    refine XS.iload X0.here hx rfl (hb hby at_18) rfl ?_
    refine XS.ifYes X0.here hx rfl (pc0 := 20) (pc' := 26) rfl (hb hby at_20) rfl ((if0 _ _).trans (feq hf2).2) (by decide) (by decide) ?_
    show Steps p.tables e below (s₁.setTop (mkF m 26 #[.val (.int p0_), .val (.int p1_), .val (.int p2_), .val (.int (0 : Int32)), .val (.int m_), .unset, .unset, .unset, .unset, .unset, .unset] [])) _
    refine XS.iloadN X0.here hx rfl (hb hby at_26) rfl ?_
    refine XS.ifYes X0.here hx rfl (pc0 := 27) (pc' := 45) rfl (hb hby at_27) rfl ((if0 _ _).trans (teq (rfl : (0 : Int32) = (0 : Int32))).1) (by decide) (by decide) ?_
    show Steps p.tables e below (s₁.setTop (mkF m 45 #[.val (.int p0_), .val (.int p1_), .val (.int p2_), .val (.int (0 : Int32)), .val (.int m_), .unset, .unset, .unset, .unset, .unset, .unset] [])) _
    refine st1 _ ?_
    refine XS.dup X1.here hx rfl (hb hby at_48) rfl rfl ?_
    show Steps p.tables e below (T1.setTop (mkF m 49 #[.val (.int p0_), .val (.int p1_), .val (.int p2_), .val (.int (0 : Int32)), .val (.int m_), .unset, .unset, .unset, .unset, .unset, .unset] [(.ref b1), (.ref b1)])) _
    refine st2.trans ?_
    refine XS.iload X2.here hx rfl (hb hby at_52) rfl ?_
    show Steps p.tables e below (T2.setTop (mkF m 54 #[.val (.int p0_), .val (.int p1_), .val (.int p2_), .val (.int (0 : Int32)), .val (.int m_), .unset, .unset, .unset, .unset, .unset, .unset] [(.int m_), (.ref b1)])) _
    refine st3.trans ?_
    refine XS.astore X3.here hx rfl (hb hby at_57) rfl rfl (l' := #[.val (.int p0_), .val (.int p1_), .val (.int p2_), .val (.int (0 : Int32)), .val (.int m_), .val (.ref r3), .unset, .unset, .unset, .unset, .unset]) rfl ?_
    refine XS.aload X3.here hx rfl (hb hby at_59) rfl rfl ?_
    refine XS.iloadN X3.here hx rfl (hb hby at_61) rfl ?_
    show Steps p.tables e below (T3.setTop (mkF m 62 #[.val (.int p0_), .val (.int p1_), .val (.int p2_), .val (.int (0 : Int32)), .val (.int m_), .val (.ref r3), .unset, .unset, .unset, .unset, .unset] [(.int p2_), (.ref r3)])) _
    refine st4.trans ?_
    refine XS.istore X4.here hx rfl (hb hby at_65) rfl (l' := #[.val (.int p0_), .val (.int p1_), .val (.int p2_), .val (.int (0 : Int32)), .val (.int m_), .val (.ref r3), .val (.int (1 : Int32)), .unset, .unset, .unset, .unset]) rfl ?_
    refine XS.iloadN X4.here hx rfl (hb hby at_67) rfl ?_
    refine XS.iload X4.here hx rfl (hb hby at_68) rfl ?_
    show Steps p.tables e below (T4.setTop (mkF m 70 #[.val (.int p0_), .val (.int p1_), .val (.int p2_), .val (.int (0 : Int32)), .val (.int m_), .val (.ref r3), .val (.int (1 : Int32)), .unset, .unset, .unset, .unset] [(.int m_), (.int p2_)])) _
    refine XS.icmpNo X4.here hx rfl (hb hby at_70) rfl (flt hf4).1 ?_
    refine XS.iconst X4.here hx rfl (hb hby at_73) ?_
    refine XS.goto X4.here hx rfl (pc0 := 74) (pc' := 78) rfl (hb hby at_74) (by decide) (by decide) ?_
    refine XS.istore X4.here hx rfl (hb hby at_78) rfl (l' := #[.val (.int p0_), .val (.int p1_), .val (.int p2_), .val (.int (0 : Int32)), .val (.int m_), .val (.ref r3), .val (.int (1 : Int32)), .val (.int (1 : Int32)), .unset, .unset, .unset]) rfl ?_
    show Steps p.tables e below (T4.setTop (mkF m 80 #[.val (.int p0_), .val (.int p1_), .val (.int p2_), .val (.int (0 : Int32)), .val (.int m_), .val (.ref r3), .val (.int (1 : Int32)), .val (.int (1 : Int32)), .unset, .unset, .unset] [])) _
    refine XS.iload X4.here hx rfl (hb hby at_80) rfl ?_
    refine XS.iload X4.here hx rfl (hb hby at_82) rfl ?_
    refine XS.icmpYes X4.here hx rfl (pc0 := 84) (pc' := 89) rfl (hb hby at_84) rfl (teq (rfl : (1 : Int32) = (1 : Int32))).1 (by decide) (by decide) ?_
    refine XS.aload X4.here hx rfl (hb hby at_89) rfl rfl ?_
    show Steps p.tables e below (T4.setTop (mkF m 91 #[.val (.int p0_), .val (.int p1_), .val (.int p2_), .val (.int (0 : Int32)), .val (.int m_), .val (.ref r3), .val (.int (1 : Int32)), .val (.int (1 : Int32)), .unset, .unset, .unset] [(.ref r3)])) _
    refine XS.iload X4.here hx rfl (hb hby at_91) rfl ?_
    show Steps p.tables e below (T4.setTop (mkF m 93 #[.val (.int p0_), .val (.int p1_), .val (.int p2_), .val (.int (0 : Int32)), .val (.int m_), .val (.ref r3), .val (.int (1 : Int32)), .val (.int (1 : Int32)), .unset, .unset, .unset] [(.int m_), (.ref r3)])) _
    refine st5.trans ?_
    refine XS.ifYes X5.here hx rfl (pc0 := 96) (pc' := 101) rfl (hb hby at_96) rfl ((if0 _ _).trans (feq (by decide : ¬ ((1 : Int32) = (0 : Int32)))).2) (by decide) (by decide) ?_
    refine XS.iload X5.here hx rfl (hb hby at_101) rfl ?_
    refine XS.iconst X5.here hx rfl (hb hby at_103) ?_
    show Steps p.tables e below (T5.setTop (mkF m 104 #[.val (.int p0_), .val (.int p1_), .val (.int p2_), .val (.int (0 : Int32)), .val (.int m_), .val (.ref r3), .val (.int (1 : Int32)), .val (.int (1 : Int32)), .unset, .unset, .unset] [(.int (1 : Int32)), (.int m_)])) _
    refine XS.icmpNo X5.here hx rfl (hb hby at_104) rfl (tlt hf6).2.2.2 ?_
    refine XS.aload X5.here hx rfl (hb hby at_107) rfl rfl ?_
    refine XS.iload X5.here hx rfl (hb hby at_109) rfl ?_
    refine XS.iconst X5.here hx rfl (hb hby at_111) ?_
    show Steps p.tables e below (T5.setTop (mkF m 112 #[.val (.int p0_), .val (.int p1_), .val (.int p2_), .val (.int (0 : Int32)), .val (.int m_), .val (.ref r3), .val (.int (1 : Int32)), .val (.int (1 : Int32)), .unset, .unset, .unset] [(.int (1 : Int32)), (.int m_), (.ref r3)])) _
    refine XS.isub X5.here hx rfl (hb hby at_112) rfl ?_
    show Steps p.tables e below (T5.setTop (mkF m 113 #[.val (.int p0_), .val (.int p1_), .val (.int p2_), .val (.int (0 : Int32)), .val (.int m_), .val (.ref r3), .val (.int (1 : Int32)), .val (.int (1 : Int32)), .unset, .unset, .unset] [(.int (m_ - (1 : Int32))), (.ref r3)])) _
    refine st6.trans ?_
    refine XS.ifYes X6.here hx rfl (pc0 := 116) (pc' := 121) rfl (hb hby at_116) rfl ((if0 _ _).trans (teq (rfl : (0 : Int32) = (0 : Int32))).1) (by decide) (by decide) ?_
    refine XS.iloadN X6.here hx rfl (hb hby at_121) rfl ?_
    refine XS.iconst X6.here hx rfl (hb hby at_122) ?_
    show Steps p.tables e below (T6.setTop (mkF m 123 #[.val (.int p0_), .val (.int p1_), .val (.int p2_), .val (.int (0 : Int32)), .val (.int m_), .val (.ref r3), .val (.int (1 : Int32)), .val (.int (1 : Int32)), .unset, .unset, .unset] [(.int (1 : Int32)), (.int p0_)])) _
    refine XS.iushr X6.here hx rfl (hb hby at_123) rfl ?_
    refine XS.iconst X6.here hx rfl (hb hby at_124) ?_
    show Steps p.tables e below (T6.setTop (mkF m 125 #[.val (.int p0_), .val (.int p1_), .val (.int p2_), .val (.int (0 : Int32)), .val (.int m_), .val (.ref r3), .val (.int (1 : Int32)), .val (.int (1 : Int32)), .unset, .unset, .unset] [(.int (5 : Int32)), (.int ((p0_.toUInt32 >>> ((1 : Int32) &&& 31).toUInt32).toInt32))])) _
    refine iremM X6 hx rfl (hb hby at_125) rfl (by decide) ?_
    show Steps p.tables e below (T6.setTop (mkF m 126 #[.val (.int p0_), .val (.int p1_), .val (.int p2_), .val (.int (0 : Int32)), .val (.int m_), .val (.ref r3), .val (.int (1 : Int32)), .val (.int (1 : Int32)), .unset, .unset, .unset] [(.int (((p0_.toUInt32 >>> ((1 : Int32) &&& 31).toUInt32).toInt32) % (5 : Int32)))])) _
    rw [hf8]
    refine XS.iconst X6.here hx rfl (hb hby at_126) ?_
    refine XS.isub X6.here hx rfl (hb hby at_127) rfl ?_
    show Steps p.tables e below (T6.setTop (mkF m 128 #[.val (.int p0_), .val (.int p1_), .val (.int p2_), .val (.int (0 : Int32)), .val (.int m_), .val (.ref r3), .val (.int (1 : Int32)), .val (.int (1 : Int32)), .unset, .unset, .unset] [(.int (o_ - (2 : Int32)))])) _
    rw [hf9]
    refine XS.istore X6.here hx rfl (hb hby at_128) rfl (l' := #[.val (.int p0_), .val (.int p1_), .val (.int p2_), .val (.int (0 : Int32)), .val (.int m_), .val (.ref r3), .val (.int (1 : Int32)), .val (.int (1 : Int32)), .val (.int f_), .unset, .unset]) rfl ?_
    refine XS.iload X6.here hx rfl (hb hby at_130) rfl ?_
    refine XS.i2l X6.here hx rfl (hb hby at_132) rfl ?_
    show Steps p.tables e below (T6.setTop (mkF m 133 #[.val (.int p0_), .val (.int p1_), .val (.int p2_), .val (.int (0 : Int32)), .val (.int m_), .val (.ref r3), .val (.int (1 : Int32)), .val (.int (1 : Int32)), .val (.int f_), .unset, .unset] [(.long (m_.toInt64))])) _
    refine XS.iload X6.here hx rfl (hb hby at_133) rfl ?_
    refine XS.i2l X6.here hx rfl (hb hby at_135) rfl ?_
    refine XS.ladd X6.here hx rfl (hb hby at_136) rfl ?_
    show Steps p.tables e below (T6.setTop (mkF m 137 #[.val (.int p0_), .val (.int p1_), .val (.int p2_), .val (.int (0 : Int32)), .val (.int m_), .val (.ref r3), .val (.int (1 : Int32)), .val (.int (1 : Int32)), .val (.int f_), .unset, .unset] [(.long ((m_.toInt64) + (f_.toInt64)))])) _
    rw [hf10]
    refine XS.lstore X6.here hx rfl (hb hby at_137) rfl (l' := #[.val (.int p0_), .val (.int p1_), .val (.int p2_), .val (.int (0 : Int32)), .val (.int m_), .val (.ref r3), .val (.int (1 : Int32)), .val (.int (1 : Int32)), .val (.int f_), .val (.long l_), .second]) rfl ?_
    refine XS.lload X6.here hx rfl (hb hby at_139) rfl ?_
    show Steps p.tables e below (T6.setTop (mkF m 141 #[.val (.int p0_), .val (.int p1_), .val (.int p2_), .val (.int (0 : Int32)), .val (.int m_), .val (.ref r3), .val (.int (1 : Int32)), .val (.int (1 : Int32)), .val (.int f_), .val (.long l_), .second] [(.long l_)])) _
    refine X6.ldc2Long hx hown (mvT hZ (hw _ (List.mem_of_getElem? (i := 32) rfl))) (g := (mkF m 141 #[.val (.int p0_), .val (.int p1_), .val (.int p2_), .val (.int (0 : Int32)), .val (.int m_), .val (.ref r3), .val (.int (1 : Int32)), .val (.int (1 : Int32)), .val (.int f_), .val (.long l_), .second] [(.long l_)])) rfl (hb hby at_141) _ ?_
    refine XS.lcmp X6.here hx rfl (hb hby at_144) rfl ?_
    refine XS.ifNo X6.here hx rfl (hb hby at_145) rfl ((if0 _ _).trans (flt hf11).2.2.1) ?_
    refine XS.aload X6.here hx rfl (hb hby at_148) rfl rfl ?_
    show Steps p.tables e below (T6.setTop (mkF m 150 #[.val (.int p0_), .val (.int p1_), .val (.int p2_), .val (.int (0 : Int32)), .val (.int m_), .val (.ref r3), .val (.int (1 : Int32)), .val (.int (1 : Int32)), .val (.int f_), .val (.long l_), .second] [(.ref r3)])) _
    refine XS.lload X6.here hx rfl (hb hby at_150) rfl ?_
    refine XS.l2i X6.here hx rfl (hb hby at_152) rfl ?_
    show Steps p.tables e below (T6.setTop (mkF m 153 #[.val (.int p0_), .val (.int p1_), .val (.int p2_), .val (.int (0 : Int32)), .val (.int m_), .val (.ref r3), .val (.int (1 : Int32)), .val (.int (1 : Int32)), .val (.int f_), .val (.long l_), .second] [(.int (l_.toInt32)), (.ref r3)])) _
    refine st7.trans ?_
    refine XS.iload X7.here hx rfl (hb hby at_156) rfl ?_
    refine XS.ifYes X7.here hx rfl (pc0 := 158) (pc' := 165) rfl (hb hby at_158) rfl ((if0 _ _).trans (tlt hf13).1) (by decide) (by decide) ?_
    refine XS.iconst X7.here hx rfl (hb hby at_165) ?_
    show Steps p.tables e below (T7.setTop (mkF m 166 #[.val (.int p0_), .val (.int p1_), .val (.int p2_), .val (.int (0 : Int32)), .val (.int m_), .val (.ref r3), .val (.int (1 : Int32)), .val (.int (1 : Int32)), .val (.int f_), .val (.long l_), .second] [(.int (0 : Int32)), (.int (0 : Int32))])) _
    refine XS.icmpYes X7.here hx rfl (pc0 := 166) (pc' := 171) rfl (hb hby at_166) rfl (teq (rfl : (0 : Int32) = (0 : Int32))).1 (by decide) (by decide) ?_
    refine XS.iconst X7.here hx rfl (hb hby at_171) ?_
    show Steps p.tables e below (T7.setTop (mkF m 172 #[.val (.int p0_), .val (.int p1_), .val (.int p2_), .val (.int (0 : Int32)), .val (.int m_), .val (.ref r3), .val (.int (1 : Int32)), .val (.int (1 : Int32)), .val (.int f_), .val (.long l_), .second] [(.int (1 : Int32))])) _
    exact retN X7 hx (t := .boolean) Bd.returns (by simp) (hb hby at_172) hr
  · show own_QL n0 _ T7.heap _
    exact ⟨rfl, N7⟩
set_option maxRecDepth 65536 in
set_option maxHeartbeats 40000000 in
theorem own_law_V2gg (l : Launch) (Z : State) (a0 : Array Value) (hw : ∀ d ∈ tables_1, d.before a0 Z = true) (ws : List Jvm.Cond) (p0_ : Int32) (p1_ : Int32) (p2_ : Int32) (m_ : Int32) (w_DEFAULT_BACKOFF : Addr) (o_ : Int32) (f_ : Int32) (l_ : Int64) (h0 : Heap) (n0 : Nat) (Z0 : n0 ≤ h0.size) (S_DEFAULT_BACKOFF : Sta Z h0 "com/example/mersey/mersey/JobTypeSettings" "DEFAULT_BACKOFF" "Lcom/example/mersey/mersey/Backoff;" (.ref w_DEFAULT_BACKOFF)) (hf0 : (p0_ &&& (1 : Int32)) = (0 : Int32)) (hf1 : (p1_ &&& (2147483647 : Int32)) = m_) (hf2 : ¬ (m_ = (0 : Int32))) (hf3 : ¬ (m_ < (1 : Int32))) (hf4 : ¬ (p2_ < m_)) (hf5 : ¬ (m_ < m_)) (hf6 : (1 : Int32) < m_) (hf7 : (m_ - (1 : Int32)) < m_) (hf8 : (((p0_.toUInt32 >>> ((1 : Int32) &&& 31).toUInt32).toInt32) % (5 : Int32)) = o_) (hf9 : (o_ - (2 : Int32)) = f_) (hf10 : ((m_.toInt64) + (f_.toInt64)) = l_) (hf11 : ¬ ((0 : Int32) < (lcmpW l_ (2147483647 : Int64)))) (hf12 : ¬ ((l_.toInt32) < m_)) (hf13 : ¬ (f_ < (0 : Int32))) :
    MetFree l x (head1 (Jvm.Cond.code x code maxLocals ret :: ws) room_1) (fun a U => a = #[(.int p0_), (.int p1_), (.int p2_)] ∧ Z.Warmed39 U.vm ∧ U.heap = h0) (fun _ _ _ _ _ => True) (fun _ U o U' => ∃ v L, o = .returned v ∧ own_QL n0 v U'.heap L ∧ FrameEnd U o U' L room_1.cells room_1.slots) := by
  refine MetFree.of_bodySF (plainFor_of_name own_pn1) hisR ?_
  intro p e s m args below meth c s₁ Bd hml0 hP hK
  obtain ⟨rfl, hZ, hh⟩ := hP
  have hx := Bd.exec
  have hby := Bd.bytes
  have hml : c.maxLocals = 11 := hml0
  have hown : s.vm.findClass "com/example/mersey/mersey/JobTypeSettingsIsLastAttemptPinLaw" = some m.cls := findClass_of_methodNamed Bd.named
  have hnm := (name_of_methodNamed Bd.named Bd.method).1
  have X0 : Stand p l e room_1 s m #[(.int p0_), (.int p1_), (.int p2_)] below meth c s₁ [] 0 0 := Stand.of_body Bd
  have e0 : s₁.heap = h0 := by rw [← hh, Bd.state]; rfl
  have N0 := Fr.nil n0
  have pre0 : ∀ t, Steps p.tables e below (s₁.setTop (mkF m 0 #[.val (.int p0_), .val (.int p1_), .val (.int p2_), .unset, .unset, .unset, .unset, .unset, .unset, .unset, .unset] [])) t → Steps p.tables e below (s₁.setTop (entryFrame m #[(.int p0_), (.int p1_), (.int p2_)] maxLocals)) t := fun t k => castTop (own_ef2 m p0_ p1_ p2_) k
  obtain ⟨T1, h1, X1, e1, E1, A1, D1, -, st1⟩ := newO X0 hx hZ hown (hw _ (List.mem_of_getElem? (i := 1) rfl)) (hw _ (List.mem_of_getElem? (i := 2) rfl)) (hw _ (List.mem_of_getElem? (i := 3) rfl)) e0 (g := (mkF m 45 #[.val (.int p0_), .val (.int p1_), .val (.int p2_), .val (.int (0 : Int32)), .val (.int m_), .unset, .unset, .unset, .unset, .unset, .unset] [])) rfl (hb hby at_45) (by decide) (by decide)
  obtain ⟨b1, g1⟩ : ∃ z, z = h0.size := ⟨_, rfl⟩
  rw [← g1] at A1 D1 st1
  have lo_b1 : h0.size ≤ b1 := Nat.le_of_eq g1.symm
  have sz_b1 : h0.size ≤ b1 := Nat.le_trans (Keep.refl h0 []).1 lo_b1
  have g_b1 : n0 ≤ b1 := Nat.le_trans Z0 sz_b1
  have K1 : Keep h0 h1 [] := (Keep.refl h0 []).ext E1
  have F_maxAttempts_b1_1 : Fld Z h1 b1 "com/example/mersey/mersey/JobTypeSettings" "maxAttempts" "I" (.int (0 : Int32)) := D1 (Or.inl (hw _ (List.mem_of_getElem? (i := 11) rfl))) (ty := .int) (by decide)
  have F_backoff_b1_1 : Fld Z h1 b1 "com/example/mersey/mersey/JobTypeSettings" "backoff" "Lcom/example/mersey/mersey/Backoff;" .null := D1 (Or.inl (hw _ (List.mem_of_getElem? (i := 15) rfl))) (ty := (.object "com/example/mersey/mersey/Backoff")) (by decide)
  have F_longestRunTime_b1_1 : Fld Z h1 b1 "com/example/mersey/mersey/JobTypeSettings" "longestRunTime" "Ljava/time/Duration;" .null := D1 (Or.inl (hw _ (List.mem_of_getElem? (i := 26) rfl))) (ty := (.object "java/time/Duration")) (by decide)
  obtain ⟨_, _, ⟨T2, L2, k2, n2⟩, -, X2, ⟨Lc2, hQ2, l2, y2, z2⟩, st2⟩ := X1.specialBack hx (y := (⟨"com/example/mersey/mersey/JobTypeSettings", "<init>", "()V"⟩ : MethodName)) rfl hown (mvT hZ (hw _ (List.mem_of_getElem? (i := 4) rfl))) (mvT hZ (hw _ (List.mem_of_getElem? (i := 5) rfl))) (mvT hZ (hw _ (List.mem_of_getElem? (i := 6) rfl))) (by decide) (backOf (W := 1) (own_b1_x l Z a0 hw [] b1 (.int (0 : Int32)) w_DEFAULT_BACKOFF .null .null h1 n0 (Nat.le_trans Z0 (own_ext K1).1) A1 F_maxAttempts_b1_1 g_b1 (S_DEFAULT_BACKOFF.ext (own_ext K1)) F_backoff_b1_1 F_longestRunTime_b1_1) hZ (hw _ (List.mem_of_getElem? (i := 6) rfl)) (hw _ (List.mem_of_getElem? (i := 3) rfl)) (by decide) (by decide)) (g := (mkF m 49 #[.val (.int p0_), .val (.int p1_), .val (.int p2_), .val (.int (0 : Int32)), .val (.int m_), .unset, .unset, .unset, .unset, .unset, .unset] [(.ref b1), (.ref b1)])) rfl (by rw [hml]; rfl) (Steps.refl _) (a := b1) (argsL := []) (rest := [(.ref b1)]) (lenOf own_pd0 rfl) rfl (by show 2 * 0 + _ ≤ _; exact Nat.le_of_eq rfl) (hb hby at_49) (fun _ _ => ⟨rfl, e1, (by decide : 1 + 0 ≤ _), (by decide : 3 + 0 ≤ _)⟩)
  dsimp only [Pt.U, Pt.locs, Pt.cells, Pt.slots] at X2 l2 y2 z2 st2 hQ2
  subst l2 y2 z2
  obtain ⟨rfl, N2q, Kq2, Eq2, Fq2_maxAttempts, Fq2_backoff, Fq2_longestRunTime⟩ := hQ2
  have N2 := Fr.app N0 N2q
  have K2 : Keep h0 T2.heap [] := K1.trans Kq2 (fun x hx => by cases List.mem_singleton.mp hx; exact Or.inr sz_b1)
  obtain ⟨cq3, kq3, q3a, q3b, q3c⟩ := isOf hZ rfl Eq2
  obtain ⟨_, _, ⟨T3, L3, k3, n3⟩, -, X3, ⟨Lc3, hQ3, l3, y3, z3⟩, st3⟩ := X2.virtualBack hx (y := (⟨"com/example/mersey/mersey/JobTypeSettings", "withMaxAttempts", "(I)Lcom/example/mersey/mersey/JobTypeSettings;"⟩ : MethodName)) (z := (⟨"com/example/mersey/mersey/JobTypeSettings", "withMaxAttempts", "(I)Lcom/example/mersey/mersey/JobTypeSettings;"⟩ : MethodName)) hown (mvT hZ (hw _ (List.mem_of_getElem? (i := 16) rfl))) (mvT hZ (hw _ (List.mem_of_getElem? (i := 17) rfl))) (notFace_of_selects (args := #[]) (mvT hZ (hw _ (List.mem_of_getElem? (i := 19) rfl)))) (mvT hZ (hw _ (List.mem_of_getElem? (i := 19) rfl))) (mvT hZ (hw _ (List.mem_of_getElem? (i := 18) rfl))) (by decide) (backOf (W := 0) (own_b3_tN l Z a0 hw [] b1 m_ w_DEFAULT_BACKOFF (5 : Int32) w_DEFAULT_BACKOFF T2.heap n0 (Nat.le_trans Z0 (own_ext K2).1) (S_DEFAULT_BACKOFF.ext (own_ext K2)) Fq2_longestRunTime Fq2_maxAttempts Fq2_backoff hf3) hZ (hw _ (List.mem_of_getElem? (i := 20) rfl)) (hw _ (List.mem_of_getElem? (i := 3) rfl)) (by decide) (by decide)) q3a q3c (g := (mkF m 54 #[.val (.int p0_), .val (.int p1_), .val (.int p2_), .val (.int (0 : Int32)), .val (.int m_), .unset, .unset, .unset, .unset, .unset, .unset] [(.int m_), (.ref b1)])) rfl (by rw [hml]; rfl) (Steps.refl _) (argsL := [(.int m_)]) (rest := []) (lenOf own_pd3 rfl) rfl (by show 2 * 0 + _ ≤ _; exact Nat.le_of_eq rfl) (hb hby at_54) (fun _ _ => ⟨rfl, rfl, (by decide : 1 + 1 ≤ _), (by decide : 3 + 3 ≤ _)⟩)
  dsimp only [Pt.U, Pt.locs, Pt.cells, Pt.slots] at X3 l3 y3 z3 st3 hQ3
  subst l3 y3 z3
  obtain ⟨r3, rfl, N3q, Kq3, lo_r3, Eq3, Fq3_maxAttempts, Fq3_backoff, Fq3_longestRunTime⟩ := hQ3
  have N3 := Fr.app N2 N3q
  have ne_b1_r3 : b1 ≠ r3 := Nat.ne_of_lt (Nat.lt_of_lt_of_le Eq2.lt lo_r3)
  have sz_r3 : h0.size ≤ r3 := Nat.le_trans K2.1 lo_r3
  have g_r3 : n0 ≤ r3 := Nat.le_trans Z0 sz_r3
  have E_b1_3 := Eq2.ext (own_ext Kq3)
  have F_maxAttempts_b1_3 := Fq2_maxAttempts.ext (own_ext Kq3)
  have F_backoff_b1_3 := Fq2_backoff.ext (own_ext Kq3)
  have F_longestRunTime_b1_3 := Fq2_longestRunTime.ext (own_ext Kq3)
  have K3 : Keep h0 T3.heap [] := K2.trans Kq3 (fun x hx => by cases hx)
  obtain ⟨cq4, kq4, q4a, q4b, q4c⟩ := isOf hZ rfl Eq3
  obtain ⟨_, _, ⟨T4, L4, k4, n4⟩, -, X4, ⟨Lc4, hQ4, l4, y4, z4⟩, st4⟩ := X3.virtualBack hx (y := (⟨"com/example/mersey/mersey/JobTypeSettings", "isLastAttempt", "(I)Z"⟩ : MethodName)) (z := (⟨"com/example/mersey/mersey/JobTypeSettings", "isLastAttempt", "(I)Z"⟩ : MethodName)) hown (mvT hZ (hw _ (List.mem_of_getElem? (i := 27) rfl))) (mvT hZ (hw _ (List.mem_of_getElem? (i := 28) rfl))) (notFace_of_selects (args := #[]) (mvT hZ (hw _ (List.mem_of_getElem? (i := 30) rfl)))) (mvT hZ (hw _ (List.mem_of_getElem? (i := 30) rfl))) (mvT hZ (hw _ (List.mem_of_getElem? (i := 29) rfl))) (by decide) (backOf (W := 0) (own_b5_f l Z a0 hw [] r3 p2_ m_ T3.heap n0 (Nat.le_trans Z0 (own_ext K3).1) Fq3_maxAttempts hf4) hZ (hw _ (List.mem_of_getElem? (i := 31) rfl)) (hw _ (List.mem_of_getElem? (i := 3) rfl)) (by decide) (by decide)) q4a q4c (g := (mkF m 62 #[.val (.int p0_), .val (.int p1_), .val (.int p2_), .val (.int (0 : Int32)), .val (.int m_), .val (.ref r3), .unset, .unset, .unset, .unset, .unset] [(.int p2_), (.ref r3)])) rfl (by rw [hml]; rfl) (Steps.refl _) (argsL := [(.int p2_)]) (rest := []) (lenOf own_pd1 rfl) rfl (by show 2 * 0 + _ ≤ _; exact Nat.le_of_eq rfl) (hb hby at_62) (fun _ _ => ⟨rfl, rfl, (by decide : 2 + 0 ≤ _), (by decide : 6 + 0 ≤ _)⟩)
  dsimp only [Pt.U, Pt.locs, Pt.cells, Pt.slots] at X4 l4 y4 z4 st4 hQ4
  subst l4 y4 z4
  obtain ⟨rfl, N4q, e4⟩ := hQ4
  have N4 := Fr.app N3 N4q
  obtain ⟨cq5, kq5, q5a, q5b, q5c⟩ := isOf hZ e4 Eq3
  obtain ⟨_, _, ⟨T5, L5, k5, n5⟩, -, X5, ⟨Lc5, hQ5, l5, y5, z5⟩, st5⟩ := X4.virtualBack hx (y := (⟨"com/example/mersey/mersey/JobTypeSettings", "isLastAttempt", "(I)Z"⟩ : MethodName)) (z := (⟨"com/example/mersey/mersey/JobTypeSettings", "isLastAttempt", "(I)Z"⟩ : MethodName)) hown (mvT hZ (hw _ (List.mem_of_getElem? (i := 27) rfl))) (mvT hZ (hw _ (List.mem_of_getElem? (i := 28) rfl))) (notFace_of_selects (args := #[]) (mvT hZ (hw _ (List.mem_of_getElem? (i := 30) rfl)))) (mvT hZ (hw _ (List.mem_of_getElem? (i := 30) rfl))) (mvT hZ (hw _ (List.mem_of_getElem? (i := 29) rfl))) (by decide) (backOf (W := 0) (own_b5_f l Z a0 hw [] r3 m_ m_ T3.heap n0 (Nat.le_trans Z0 (own_ext K3).1) Fq3_maxAttempts hf5) hZ (hw _ (List.mem_of_getElem? (i := 31) rfl)) (hw _ (List.mem_of_getElem? (i := 3) rfl)) (by decide) (by decide)) q5a q5c (g := (mkF m 93 #[.val (.int p0_), .val (.int p1_), .val (.int p2_), .val (.int (0 : Int32)), .val (.int m_), .val (.ref r3), .val (.int (1 : Int32)), .val (.int (1 : Int32)), .unset, .unset, .unset] [(.int m_), (.ref r3)])) rfl (by rw [hml]; rfl) (Steps.refl _) (argsL := [(.int m_)]) (rest := []) (lenOf own_pd1 rfl) rfl (by show 2 * 0 + _ ≤ _; exact Nat.le_of_eq rfl) (hb hby at_93) (fun _ _ => ⟨rfl, e4, (by decide : 2 + 0 ≤ _), (by decide : 6 + 0 ≤ _)⟩)
  dsimp only [Pt.U, Pt.locs, Pt.cells, Pt.slots] at X5 l5 y5 z5 st5 hQ5
  subst l5 y5 z5
  obtain ⟨rfl, N5q, e5⟩ := hQ5
  have N5 := Fr.app N4 N5q
  obtain ⟨cq6, kq6, q6a, q6b, q6c⟩ := isOf hZ e5 Eq3
  obtain ⟨_, _, ⟨T6, L6, k6, n6⟩, -, X6, ⟨Lc6, hQ6, l6, y6, z6⟩, st6⟩ := X5.virtualBack hx (y := (⟨"com/example/mersey/mersey/JobTypeSettings", "isLastAttempt", "(I)Z"⟩ : MethodName)) (z := (⟨"com/example/mersey/mersey/JobTypeSettings", "isLastAttempt", "(I)Z"⟩ : MethodName)) hown (mvT hZ (hw _ (List.mem_of_getElem? (i := 27) rfl))) (mvT hZ (hw _ (List.mem_of_getElem? (i := 28) rfl))) (notFace_of_selects (args := #[]) (mvT hZ (hw _ (List.mem_of_getElem? (i := 30) rfl)))) (mvT hZ (hw _ (List.mem_of_getElem? (i := 30) rfl))) (mvT hZ (hw _ (List.mem_of_getElem? (i := 29) rfl))) (by decide) (backOf (W := 0) (own_b5_t l Z a0 hw [] r3 (m_ - (1 : Int32)) m_ T3.heap n0 (Nat.le_trans Z0 (own_ext K3).1) Fq3_maxAttempts hf7) hZ (hw _ (List.mem_of_getElem? (i := 31) rfl)) (hw _ (List.mem_of_getElem? (i := 3) rfl)) (by decide) (by decide)) q6a q6c (g := (mkF m 113 #[.val (.int p0_), .val (.int p1_), .val (.int p2_), .val (.int (0 : Int32)), .val (.int m_), .val (.ref r3), .val (.int (1 : Int32)), .val (.int (1 : Int32)), .unset, .unset, .unset] [(.int (m_ - (1 : Int32))), (.ref r3)])) rfl (by rw [hml]; rfl) (Steps.refl _) (argsL := [(.int (m_ - (1 : Int32)))]) (rest := []) (lenOf own_pd1 rfl) rfl (by show 2 * 0 + _ ≤ _; exact Nat.le_of_eq rfl) (hb hby at_113) (fun _ _ => ⟨rfl, e5, (by decide : 2 + 0 ≤ _), (by decide : 6 + 0 ≤ _)⟩)
  dsimp only [Pt.U, Pt.locs, Pt.cells, Pt.slots] at X6 l6 y6 z6 st6 hQ6
  subst l6 y6 z6
  obtain ⟨rfl, N6q, e6⟩ := hQ6
  have N6 := Fr.app N5 N6q
  obtain ⟨cq7, kq7, q7a, q7b, q7c⟩ := isOf hZ e6 Eq3
  obtain ⟨_, _, ⟨T7, L7, k7, n7⟩, -, X7, ⟨Lc7, hQ7, l7, y7, z7⟩, st7⟩ := X6.virtualBack hx (y := (⟨"com/example/mersey/mersey/JobTypeSettings", "isLastAttempt", "(I)Z"⟩ : MethodName)) (z := (⟨"com/example/mersey/mersey/JobTypeSettings", "isLastAttempt", "(I)Z"⟩ : MethodName)) hown (mvT hZ (hw _ (List.mem_of_getElem? (i := 27) rfl))) (mvT hZ (hw _ (List.mem_of_getElem? (i := 28) rfl))) (notFace_of_selects (args := #[]) (mvT hZ (hw _ (List.mem_of_getElem? (i := 30) rfl)))) (mvT hZ (hw _ (List.mem_of_getElem? (i := 30) rfl))) (mvT hZ (hw _ (List.mem_of_getElem? (i := 29) rfl))) (by decide) (backOf (W := 0) (own_b5_f l Z a0 hw [] r3 (l_.toInt32) m_ T3.heap n0 (Nat.le_trans Z0 (own_ext K3).1) Fq3_maxAttempts hf12) hZ (hw _ (List.mem_of_getElem? (i := 31) rfl)) (hw _ (List.mem_of_getElem? (i := 3) rfl)) (by decide) (by decide)) q7a q7c (g := (mkF m 153 #[.val (.int p0_), .val (.int p1_), .val (.int p2_), .val (.int (0 : Int32)), .val (.int m_), .val (.ref r3), .val (.int (1 : Int32)), .val (.int (1 : Int32)), .val (.int f_), .val (.long l_), .second] [(.int (l_.toInt32)), (.ref r3)])) rfl (by rw [hml]; rfl) (Steps.refl _) (argsL := [(.int (l_.toInt32))]) (rest := []) (lenOf own_pd1 rfl) rfl (by show 2 * 0 + _ ≤ _; exact Nat.le_of_eq rfl) (hb hby at_153) (fun _ _ => ⟨rfl, e6, (by decide : 2 + 0 ≤ _), (by decide : 6 + 0 ≤ _)⟩)
  dsimp only [Pt.U, Pt.locs, Pt.cells, Pt.slots] at X7 l7 y7 z7 st7 hQ7
  subst l7 y7 z7
  obtain ⟨rfl, N7q, e7⟩ := hQ7
  have N7 := Fr.app N6 N7q
  obtain ⟨fs, hr, hrun, hended, hW, hsame⟩ := X7.leave (v := some (.int (1 : Int32))) (fun h => by rw [Bd.returns] at h; cases h)
  refine ⟨_, _, pre0 _ ?_, hrun, hended, _, _, rfl, ?_, ⟨_, rfl⟩, hW, hsame.mono (by decide) (by decide)⟩
  · show Steps p.tables e below (s₁.setTop (mkF m 0 #[.val (.int p0_), .val (.int p1_), .val (.int p2_), .unset, .unset, .unset, .unset, .unset, .unset, .unset, .unset] [])) _
    refine XS.iloadN X0.here hx rfl (hb hby at_0) rfl ?_
    refine XS.iconst X0.here hx rfl (hb hby at_1) ?_
    refine XS.iand X0.here hx rfl (hb hby at_2) rfl ?_
    show Steps p.tables e below (s₁.setTop (mkF m 3 #[.val (.int p0_), .val (.int p1_), .val (.int p2_), .unset, .unset, .unset, .unset, .unset, .unset, .unset, .unset] [(.int (p0_ &&& (1 : Int32)))])) _
    rw [hf0]
    refine XS.ifYes X0.here hx rfl (pc0 := 3) (pc' := 10) rfl (hb hby at_3) rfl ((if0 _ _).trans (teq (rfl : (0 : Int32) = (0 : Int32))).1) (by decide) (by decide) ?_
    refine XS.iconst X0.here hx rfl (hb hby at_10) ?_
    refine XS.istoreN X0.here hx rfl (hb hby at_11) rfl (l' := #[.val (.int p0_), .val (.int p1_), .val (.int p2_), .val (.int (0 : Int32)), .unset, .unset, .unset, .unset, .unset, .unset, .unset]) rfl ?_
    show Steps p.tables e below (s₁.setTop (mkF m 12 #[.val (.int p0_), .val (.int p1_), .val (.int p2_), .val (.int (0 : Int32)), .unset, .unset, .unset, .unset, .unset, .unset, .unset] [])) _
    refine XS.iloadN X0.here hx rfl (hb hby at_12) rfl ?_
    show Steps p.tables e below (s₁.setTop (mkF m 13 #[.val (.int p0_), .val (.int p1_), .val (.int p2_), .val (.int (0 : Int32)), .unset, .unset, .unset, .unset, .unset, .unset, .unset] [(.int p1_)])) _
    refine X0.ldcInt hx hown (mvT hZ (hw _ (List.mem_of_getElem? (i := 0) rfl))) (g := (mkF m 13 #[.val (.int p0_), .val (.int p1_), .val (.int p2_), .val (.int (0 : Int32)), .unset, .unset, .unset, .unset, .unset, .unset, .unset] [(.int p1_)])) rfl (hb hby at_13) _ ?_
    refine XS.iand X0.here hx rfl (hb hby at_15) rfl ?_
    show Steps p.tables e below (s₁.setTop (mkF m 16 #[.val (.int p0_), .val (.int p1_), .val (.int p2_), .val (.int (0 : Int32)), .unset, .unset, .unset, .unset, .unset, .unset, .unset] [(.int (p1_ &&& (2147483647 : Int32)))])) _
    rw [hf1]
    refine XS.istore X0.here hx rfl (hb hby at_16) rfl (l' := #[.val (.int p0_), .val (.int p1_), .val (.int p2_), .val (.int (0 : Int32)), .val (.int m_), .unset, .unset, .unset, .unset, .unset, .unset]) rfl ?_
    refine XS.iload X0.here hx rfl (hb hby at_18) rfl ?_
    refine XS.ifYes X0.here hx rfl (pc0 := 20) (pc' := 26) rfl (hb hby at_20) rfl ((if0 _ _).trans (feq hf2).2) (by decide) (by decide) ?_
    show Steps p.tables e below (s₁.setTop (mkF m 26 #[.val (.int p0_), .val (.int p1_), .val (.int p2_), .val (.int (0 : Int32)), .val (.int m_), .unset, .unset, .unset, .unset, .unset, .unset] [])) _
    refine XS.iloadN X0.here hx rfl (hb hby at_26) rfl ?_
    refine XS.ifYes X0.here hx rfl (pc0 := 27) (pc' := 45) rfl (hb hby at_27) rfl ((if0 _ _).trans (teq (rfl : (0 : Int32) = (0 : Int32))).1) (by decide) (by decide) ?_
    show Steps p.tables e below (s₁.setTop (mkF m 45 #[.val (.int p0_), .val (.int p1_), .val (.int p2_), .val (.int (0 : Int32)), .val (.int m_), .unset, .unset, .unset, .unset, .unset, .unset] [])) _
    refine st1 _ ?_
    refine XS.dup X1.here hx rfl (hb hby at_48) rfl rfl ?_
    show Steps p.tables e below (T1.setTop (mkF m 49 #[.val (.int p0_), .val (.int p1_), .val (.int p2_), .val (.int (0 : Int32)), .val (.int m_), .unset, .unset, .unset, .unset, .unset, .unset] [(.ref b1), (.ref b1)])) _
    refine st2.trans ?_
    refine XS.iload X2.here hx rfl (hb hby at_52) rfl ?_
    show Steps p.tables e below (T2.setTop (mkF m 54 #[.val (.int p0_), .val (.int p1_), .val (.int p2_), .val (.int (0 : Int32)), .val (.int m_), .unset, .unset, .unset, .unset, .unset, .unset] [(.int m_), (.ref b1)])) _
    refine st3.trans ?_
    refine XS.astore X3.here hx rfl (hb hby at_57) rfl rfl (l' := #[.val (.int p0_), .val (.int p1_), .val (.int p2_), .val (.int (0 : Int32)), .val (.int m_), .val (.ref r3), .unset, .unset, .unset, .unset, .unset]) rfl ?_
    refine XS.aload X3.here hx rfl (hb hby at_59) rfl rfl ?_
    refine XS.iloadN X3.here hx rfl (hb hby at_61) rfl ?_
    show Steps p.tables e below (T3.setTop (mkF m 62 #[.val (.int p0_), .val (.int p1_), .val (.int p2_), .val (.int (0 : Int32)), .val (.int m_), .val (.ref r3), .unset, .unset, .unset, .unset, .unset] [(.int p2_), (.ref r3)])) _
    refine st4.trans ?_
    refine XS.istore X4.here hx rfl (hb hby at_65) rfl (l' := #[.val (.int p0_), .val (.int p1_), .val (.int p2_), .val (.int (0 : Int32)), .val (.int m_), .val (.ref r3), .val (.int (1 : Int32)), .unset, .unset, .unset, .unset]) rfl ?_
    refine XS.iloadN X4.here hx rfl (hb hby at_67) rfl ?_
    refine XS.iload X4.here hx rfl (hb hby at_68) rfl ?_
    show Steps p.tables e below (T4.setTop (mkF m 70 #[.val (.int p0_), .val (.int p1_), .val (.int p2_), .val (.int (0 : Int32)), .val (.int m_), .val (.ref r3), .val (.int (1 : Int32)), .unset, .unset, .unset, .unset] [(.int m_), (.int p2_)])) _
    refine XS.icmpNo X4.here hx rfl (hb hby at_70) rfl (flt hf4).1 ?_
    refine XS.iconst X4.here hx rfl (hb hby at_73) ?_
    refine XS.goto X4.here hx rfl (pc0 := 74) (pc' := 78) rfl (hb hby at_74) (by decide) (by decide) ?_
    refine XS.istore X4.here hx rfl (hb hby at_78) rfl (l' := #[.val (.int p0_), .val (.int p1_), .val (.int p2_), .val (.int (0 : Int32)), .val (.int m_), .val (.ref r3), .val (.int (1 : Int32)), .val (.int (1 : Int32)), .unset, .unset, .unset]) rfl ?_
    show Steps p.tables e below (T4.setTop (mkF m 80 #[.val (.int p0_), .val (.int p1_), .val (.int p2_), .val (.int (0 : Int32)), .val (.int m_), .val (.ref r3), .val (.int (1 : Int32)), .val (.int (1 : Int32)), .unset, .unset, .unset] [])) _
    refine XS.iload X4.here hx rfl (hb hby at_80) rfl ?_
    refine XS.iload X4.here hx rfl (hb hby at_82) rfl ?_
    refine XS.icmpYes X4.here hx rfl (pc0 := 84) (pc' := 89) rfl (hb hby at_84) rfl (teq (rfl : (1 : Int32) = (1 : Int32))).1 (by decide) (by decide) ?_
    refine XS.aload X4.here hx rfl (hb hby at_89) rfl rfl ?_
    show Steps p.tables e below (T4.setTop (mkF m 91 #[.val (.int p0_), .val (.int p1_), .val (.int p2_), .val (.int (0 : Int32)), .val (.int m_), .val (.ref r3), .val (.int (1 : Int32)), .val (.int (1 : Int32)), .unset, .unset, .unset] [(.ref r3)])) _
    refine XS.iload X4.here hx rfl (hb hby at_91) rfl ?_
    show Steps p.tables e below (T4.setTop (mkF m 93 #[.val (.int p0_), .val (.int p1_), .val (.int p2_), .val (.int (0 : Int32)), .val (.int m_), .val (.ref r3), .val (.int (1 : Int32)), .val (.int (1 : Int32)), .unset, .unset, .unset] [(.int m_), (.ref r3)])) _
    refine st5.trans ?_
    refine XS.ifYes X5.here hx rfl (pc0 := 96) (pc' := 101) rfl (hb hby at_96) rfl ((if0 _ _).trans (feq (by decide : ¬ ((1 : Int32) = (0 : Int32)))).2) (by decide) (by decide) ?_
    refine XS.iload X5.here hx rfl (hb hby at_101) rfl ?_
    refine XS.iconst X5.here hx rfl (hb hby at_103) ?_
    show Steps p.tables e below (T5.setTop (mkF m 104 #[.val (.int p0_), .val (.int p1_), .val (.int p2_), .val (.int (0 : Int32)), .val (.int m_), .val (.ref r3), .val (.int (1 : Int32)), .val (.int (1 : Int32)), .unset, .unset, .unset] [(.int (1 : Int32)), (.int m_)])) _
    refine XS.icmpNo X5.here hx rfl (hb hby at_104) rfl (tlt hf6).2.2.2 ?_
    refine XS.aload X5.here hx rfl (hb hby at_107) rfl rfl ?_
    refine XS.iload X5.here hx rfl (hb hby at_109) rfl ?_
    refine XS.iconst X5.here hx rfl (hb hby at_111) ?_
    show Steps p.tables e below (T5.setTop (mkF m 112 #[.val (.int p0_), .val (.int p1_), .val (.int p2_), .val (.int (0 : Int32)), .val (.int m_), .val (.ref r3), .val (.int (1 : Int32)), .val (.int (1 : Int32)), .unset, .unset, .unset] [(.int (1 : Int32)), (.int m_), (.ref r3)])) _
    refine XS.isub X5.here hx rfl (hb hby at_112) rfl ?_
    show Steps p.tables e below (T5.setTop (mkF m 113 #[.val (.int p0_), .val (.int p1_), .val (.int p2_), .val (.int (0 : Int32)), .val (.int m_), .val (.ref r3), .val (.int (1 : Int32)), .val (.int (1 : Int32)), .unset, .unset, .unset] [(.int (m_ - (1 : Int32))), (.ref r3)])) _
    refine st6.trans ?_
    refine XS.ifYes X6.here hx rfl (pc0 := 116) (pc' := 121) rfl (hb hby at_116) rfl ((if0 _ _).trans (teq (rfl : (0 : Int32) = (0 : Int32))).1) (by decide) (by decide) ?_
    refine XS.iloadN X6.here hx rfl (hb hby at_121) rfl ?_
    refine XS.iconst X6.here hx rfl (hb hby at_122) ?_
    show Steps p.tables e below (T6.setTop (mkF m 123 #[.val (.int p0_), .val (.int p1_), .val (.int p2_), .val (.int (0 : Int32)), .val (.int m_), .val (.ref r3), .val (.int (1 : Int32)), .val (.int (1 : Int32)), .unset, .unset, .unset] [(.int (1 : Int32)), (.int p0_)])) _
    refine XS.iushr X6.here hx rfl (hb hby at_123) rfl ?_
    refine XS.iconst X6.here hx rfl (hb hby at_124) ?_
    show Steps p.tables e below (T6.setTop (mkF m 125 #[.val (.int p0_), .val (.int p1_), .val (.int p2_), .val (.int (0 : Int32)), .val (.int m_), .val (.ref r3), .val (.int (1 : Int32)), .val (.int (1 : Int32)), .unset, .unset, .unset] [(.int (5 : Int32)), (.int ((p0_.toUInt32 >>> ((1 : Int32) &&& 31).toUInt32).toInt32))])) _
    refine iremM X6 hx rfl (hb hby at_125) rfl (by decide) ?_
    show Steps p.tables e below (T6.setTop (mkF m 126 #[.val (.int p0_), .val (.int p1_), .val (.int p2_), .val (.int (0 : Int32)), .val (.int m_), .val (.ref r3), .val (.int (1 : Int32)), .val (.int (1 : Int32)), .unset, .unset, .unset] [(.int (((p0_.toUInt32 >>> ((1 : Int32) &&& 31).toUInt32).toInt32) % (5 : Int32)))])) _
    rw [hf8]
    refine XS.iconst X6.here hx rfl (hb hby at_126) ?_
    refine XS.isub X6.here hx rfl (hb hby at_127) rfl ?_
    show Steps p.tables e below (T6.setTop (mkF m 128 #[.val (.int p0_), .val (.int p1_), .val (.int p2_), .val (.int (0 : Int32)), .val (.int m_), .val (.ref r3), .val (.int (1 : Int32)), .val (.int (1 : Int32)), .unset, .unset, .unset] [(.int (o_ - (2 : Int32)))])) _
    rw [hf9]
    refine XS.istore X6.here hx rfl (hb hby at_128) rfl (l' := #[.val (.int p0_), .val (.int p1_), .val (.int p2_), .val (.int (0 : Int32)), .val (.int m_), .val (.ref r3), .val (.int (1 : Int32)), .val (.int (1 : Int32)), .val (.int f_), .unset, .unset]) rfl ?_
    refine XS.iload X6.here hx rfl (hb hby at_130) rfl ?_
    refine XS.i2l X6.here hx rfl (hb hby at_132) rfl ?_
    show Steps p.tables e below (T6.setTop (mkF m 133 #[.val (.int p0_), .val (.int p1_), .val (.int p2_), .val (.int (0 : Int32)), .val (.int m_), .val (.ref r3), .val (.int (1 : Int32)), .val (.int (1 : Int32)), .val (.int f_), .unset, .unset] [(.long (m_.toInt64))])) _
    refine XS.iload X6.here hx rfl (hb hby at_133) rfl ?_
    refine XS.i2l X6.here hx rfl (hb hby at_135) rfl ?_
    refine XS.ladd X6.here hx rfl (hb hby at_136) rfl ?_
    show Steps p.tables e below (T6.setTop (mkF m 137 #[.val (.int p0_), .val (.int p1_), .val (.int p2_), .val (.int (0 : Int32)), .val (.int m_), .val (.ref r3), .val (.int (1 : Int32)), .val (.int (1 : Int32)), .val (.int f_), .unset, .unset] [(.long ((m_.toInt64) + (f_.toInt64)))])) _
    rw [hf10]
    refine XS.lstore X6.here hx rfl (hb hby at_137) rfl (l' := #[.val (.int p0_), .val (.int p1_), .val (.int p2_), .val (.int (0 : Int32)), .val (.int m_), .val (.ref r3), .val (.int (1 : Int32)), .val (.int (1 : Int32)), .val (.int f_), .val (.long l_), .second]) rfl ?_
    refine XS.lload X6.here hx rfl (hb hby at_139) rfl ?_
    show Steps p.tables e below (T6.setTop (mkF m 141 #[.val (.int p0_), .val (.int p1_), .val (.int p2_), .val (.int (0 : Int32)), .val (.int m_), .val (.ref r3), .val (.int (1 : Int32)), .val (.int (1 : Int32)), .val (.int f_), .val (.long l_), .second] [(.long l_)])) _
    refine X6.ldc2Long hx hown (mvT hZ (hw _ (List.mem_of_getElem? (i := 32) rfl))) (g := (mkF m 141 #[.val (.int p0_), .val (.int p1_), .val (.int p2_), .val (.int (0 : Int32)), .val (.int m_), .val (.ref r3), .val (.int (1 : Int32)), .val (.int (1 : Int32)), .val (.int f_), .val (.long l_), .second] [(.long l_)])) rfl (hb hby at_141) _ ?_
    refine XS.lcmp X6.here hx rfl (hb hby at_144) rfl ?_
    refine XS.ifNo X6.here hx rfl (hb hby at_145) rfl ((if0 _ _).trans (flt hf11).2.2.1) ?_
    refine XS.aload X6.here hx rfl (hb hby at_148) rfl rfl ?_
    show Steps p.tables e below (T6.setTop (mkF m 150 #[.val (.int p0_), .val (.int p1_), .val (.int p2_), .val (.int (0 : Int32)), .val (.int m_), .val (.ref r3), .val (.int (1 : Int32)), .val (.int (1 : Int32)), .val (.int f_), .val (.long l_), .second] [(.ref r3)])) _
    refine XS.lload X6.here hx rfl (hb hby at_150) rfl ?_
    refine XS.l2i X6.here hx rfl (hb hby at_152) rfl ?_
    show Steps p.tables e below (T6.setTop (mkF m 153 #[.val (.int p0_), .val (.int p1_), .val (.int p2_), .val (.int (0 : Int32)), .val (.int m_), .val (.ref r3), .val (.int (1 : Int32)), .val (.int (1 : Int32)), .val (.int f_), .val (.long l_), .second] [(.int (l_.toInt32)), (.ref r3)])) _
    refine st7.trans ?_
    refine XS.iload X7.here hx rfl (hb hby at_156) rfl ?_
    refine XS.ifNo X7.here hx rfl (hb hby at_158) rfl ((if0 _ _).trans (flt hf13).1) ?_
    refine XS.iconst X7.here hx rfl (hb hby at_161) ?_
    show Steps p.tables e below (T7.setTop (mkF m 162 #[.val (.int p0_), .val (.int p1_), .val (.int p2_), .val (.int (0 : Int32)), .val (.int m_), .val (.ref r3), .val (.int (1 : Int32)), .val (.int (1 : Int32)), .val (.int f_), .val (.long l_), .second] [(.int (1 : Int32)), (.int (1 : Int32))])) _
    refine XS.goto X7.here hx rfl (pc0 := 162) (pc' := 166) rfl (hb hby at_162) (by decide) (by decide) ?_
    refine XS.icmpYes X7.here hx rfl (pc0 := 166) (pc' := 171) rfl (hb hby at_166) rfl (teq (rfl : (1 : Int32) = (1 : Int32))).1 (by decide) (by decide) ?_
    refine XS.iconst X7.here hx rfl (hb hby at_171) ?_
    show Steps p.tables e below (T7.setTop (mkF m 172 #[.val (.int p0_), .val (.int p1_), .val (.int p2_), .val (.int (0 : Int32)), .val (.int m_), .val (.ref r3), .val (.int (1 : Int32)), .val (.int (1 : Int32)), .val (.int f_), .val (.long l_), .second] [(.int (1 : Int32))])) _
    exact retN X7 hx (t := .boolean) Bd.returns (by simp) (hb hby at_172) hr
  · show own_QL n0 _ T7.heap _
    exact ⟨rfl, N7⟩
set_option maxRecDepth 65536 in
set_option maxHeartbeats 40000000 in
theorem own_law_V2gx (l : Launch) (Z : State) (a0 : Array Value) (hw : ∀ d ∈ tables_1, d.before a0 Z = true) (ws : List Jvm.Cond) (p0_ : Int32) (p1_ : Int32) (p2_ : Int32) (m_ : Int32) (w_DEFAULT_BACKOFF : Addr) (o_ : Int32) (f_ : Int32) (l_ : Int64) (h0 : Heap) (n0 : Nat) (Z0 : n0 ≤ h0.size) (S_DEFAULT_BACKOFF : Sta Z h0 "com/example/mersey/mersey/JobTypeSettings" "DEFAULT_BACKOFF" "Lcom/example/mersey/mersey/Backoff;" (.ref w_DEFAULT_BACKOFF)) (hf0 : (p0_ &&& (1 : Int32)) = (0 : Int32)) (hf1 : (p1_ &&& (2147483647 : Int32)) = m_) (hf2 : ¬ (m_ = (0 : Int32))) (hf3 : ¬ (m_ < (1 : Int32))) (hf4 : ¬ (p2_ < m_)) (hf5 : ¬ (m_ < m_)) (hf6 : (1 : Int32) < m_) (hf7 : (m_ - (1 : Int32)) < m_) (hf8 : (((p0_.toUInt32 >>> ((1 : Int32) &&& 31).toUInt32).toInt32) % (5 : Int32)) = o_) (hf9 : (o_ - (2 : Int32)) = f_) (hf10 : ((m_.toInt64) + (f_.toInt64)) = l_) (hf11 : (0 : Int32) < (lcmpW l_ (2147483647 : Int64))) :
    MetFree l x (head1 (Jvm.Cond.code x code maxLocals ret :: ws) room_1) (fun a U => a = #[(.int p0_), (.int p1_), (.int p2_)] ∧ Z.Warmed39 U.vm ∧ U.heap = h0) (fun _ _ _ _ _ => True) (fun _ U o U' => ∃ v L, o = .returned v ∧ own_QL n0 v U'.heap L ∧ FrameEnd U o U' L room_1.cells room_1.slots) := by
  refine MetFree.of_bodySF (plainFor_of_name own_pn1) hisR ?_
  intro p e s m args below meth c s₁ Bd hml0 hP hK
  obtain ⟨rfl, hZ, hh⟩ := hP
  have hx := Bd.exec
  have hby := Bd.bytes
  have hml : c.maxLocals = 11 := hml0
  have hown : s.vm.findClass "com/example/mersey/mersey/JobTypeSettingsIsLastAttemptPinLaw" = some m.cls := findClass_of_methodNamed Bd.named
  have hnm := (name_of_methodNamed Bd.named Bd.method).1
  have X0 : Stand p l e room_1 s m #[(.int p0_), (.int p1_), (.int p2_)] below meth c s₁ [] 0 0 := Stand.of_body Bd
  have e0 : s₁.heap = h0 := by rw [← hh, Bd.state]; rfl
  have N0 := Fr.nil n0
  have pre0 : ∀ t, Steps p.tables e below (s₁.setTop (mkF m 0 #[.val (.int p0_), .val (.int p1_), .val (.int p2_), .unset, .unset, .unset, .unset, .unset, .unset, .unset, .unset] [])) t → Steps p.tables e below (s₁.setTop (entryFrame m #[(.int p0_), (.int p1_), (.int p2_)] maxLocals)) t := fun t k => castTop (own_ef2 m p0_ p1_ p2_) k
  obtain ⟨T1, h1, X1, e1, E1, A1, D1, -, st1⟩ := newO X0 hx hZ hown (hw _ (List.mem_of_getElem? (i := 1) rfl)) (hw _ (List.mem_of_getElem? (i := 2) rfl)) (hw _ (List.mem_of_getElem? (i := 3) rfl)) e0 (g := (mkF m 45 #[.val (.int p0_), .val (.int p1_), .val (.int p2_), .val (.int (0 : Int32)), .val (.int m_), .unset, .unset, .unset, .unset, .unset, .unset] [])) rfl (hb hby at_45) (by decide) (by decide)
  obtain ⟨b1, g1⟩ : ∃ z, z = h0.size := ⟨_, rfl⟩
  rw [← g1] at A1 D1 st1
  have lo_b1 : h0.size ≤ b1 := Nat.le_of_eq g1.symm
  have sz_b1 : h0.size ≤ b1 := Nat.le_trans (Keep.refl h0 []).1 lo_b1
  have g_b1 : n0 ≤ b1 := Nat.le_trans Z0 sz_b1
  have K1 : Keep h0 h1 [] := (Keep.refl h0 []).ext E1
  have F_maxAttempts_b1_1 : Fld Z h1 b1 "com/example/mersey/mersey/JobTypeSettings" "maxAttempts" "I" (.int (0 : Int32)) := D1 (Or.inl (hw _ (List.mem_of_getElem? (i := 11) rfl))) (ty := .int) (by decide)
  have F_backoff_b1_1 : Fld Z h1 b1 "com/example/mersey/mersey/JobTypeSettings" "backoff" "Lcom/example/mersey/mersey/Backoff;" .null := D1 (Or.inl (hw _ (List.mem_of_getElem? (i := 15) rfl))) (ty := (.object "com/example/mersey/mersey/Backoff")) (by decide)
  have F_longestRunTime_b1_1 : Fld Z h1 b1 "com/example/mersey/mersey/JobTypeSettings" "longestRunTime" "Ljava/time/Duration;" .null := D1 (Or.inl (hw _ (List.mem_of_getElem? (i := 26) rfl))) (ty := (.object "java/time/Duration")) (by decide)
  obtain ⟨_, _, ⟨T2, L2, k2, n2⟩, -, X2, ⟨Lc2, hQ2, l2, y2, z2⟩, st2⟩ := X1.specialBack hx (y := (⟨"com/example/mersey/mersey/JobTypeSettings", "<init>", "()V"⟩ : MethodName)) rfl hown (mvT hZ (hw _ (List.mem_of_getElem? (i := 4) rfl))) (mvT hZ (hw _ (List.mem_of_getElem? (i := 5) rfl))) (mvT hZ (hw _ (List.mem_of_getElem? (i := 6) rfl))) (by decide) (backOf (W := 1) (own_b1_x l Z a0 hw [] b1 (.int (0 : Int32)) w_DEFAULT_BACKOFF .null .null h1 n0 (Nat.le_trans Z0 (own_ext K1).1) A1 F_maxAttempts_b1_1 g_b1 (S_DEFAULT_BACKOFF.ext (own_ext K1)) F_backoff_b1_1 F_longestRunTime_b1_1) hZ (hw _ (List.mem_of_getElem? (i := 6) rfl)) (hw _ (List.mem_of_getElem? (i := 3) rfl)) (by decide) (by decide)) (g := (mkF m 49 #[.val (.int p0_), .val (.int p1_), .val (.int p2_), .val (.int (0 : Int32)), .val (.int m_), .unset, .unset, .unset, .unset, .unset, .unset] [(.ref b1), (.ref b1)])) rfl (by rw [hml]; rfl) (Steps.refl _) (a := b1) (argsL := []) (rest := [(.ref b1)]) (lenOf own_pd0 rfl) rfl (by show 2 * 0 + _ ≤ _; exact Nat.le_of_eq rfl) (hb hby at_49) (fun _ _ => ⟨rfl, e1, (by decide : 1 + 0 ≤ _), (by decide : 3 + 0 ≤ _)⟩)
  dsimp only [Pt.U, Pt.locs, Pt.cells, Pt.slots] at X2 l2 y2 z2 st2 hQ2
  subst l2 y2 z2
  obtain ⟨rfl, N2q, Kq2, Eq2, Fq2_maxAttempts, Fq2_backoff, Fq2_longestRunTime⟩ := hQ2
  have N2 := Fr.app N0 N2q
  have K2 : Keep h0 T2.heap [] := K1.trans Kq2 (fun x hx => by cases List.mem_singleton.mp hx; exact Or.inr sz_b1)
  obtain ⟨cq3, kq3, q3a, q3b, q3c⟩ := isOf hZ rfl Eq2
  obtain ⟨_, _, ⟨T3, L3, k3, n3⟩, -, X3, ⟨Lc3, hQ3, l3, y3, z3⟩, st3⟩ := X2.virtualBack hx (y := (⟨"com/example/mersey/mersey/JobTypeSettings", "withMaxAttempts", "(I)Lcom/example/mersey/mersey/JobTypeSettings;"⟩ : MethodName)) (z := (⟨"com/example/mersey/mersey/JobTypeSettings", "withMaxAttempts", "(I)Lcom/example/mersey/mersey/JobTypeSettings;"⟩ : MethodName)) hown (mvT hZ (hw _ (List.mem_of_getElem? (i := 16) rfl))) (mvT hZ (hw _ (List.mem_of_getElem? (i := 17) rfl))) (notFace_of_selects (args := #[]) (mvT hZ (hw _ (List.mem_of_getElem? (i := 19) rfl)))) (mvT hZ (hw _ (List.mem_of_getElem? (i := 19) rfl))) (mvT hZ (hw _ (List.mem_of_getElem? (i := 18) rfl))) (by decide) (backOf (W := 0) (own_b3_tN l Z a0 hw [] b1 m_ w_DEFAULT_BACKOFF (5 : Int32) w_DEFAULT_BACKOFF T2.heap n0 (Nat.le_trans Z0 (own_ext K2).1) (S_DEFAULT_BACKOFF.ext (own_ext K2)) Fq2_longestRunTime Fq2_maxAttempts Fq2_backoff hf3) hZ (hw _ (List.mem_of_getElem? (i := 20) rfl)) (hw _ (List.mem_of_getElem? (i := 3) rfl)) (by decide) (by decide)) q3a q3c (g := (mkF m 54 #[.val (.int p0_), .val (.int p1_), .val (.int p2_), .val (.int (0 : Int32)), .val (.int m_), .unset, .unset, .unset, .unset, .unset, .unset] [(.int m_), (.ref b1)])) rfl (by rw [hml]; rfl) (Steps.refl _) (argsL := [(.int m_)]) (rest := []) (lenOf own_pd3 rfl) rfl (by show 2 * 0 + _ ≤ _; exact Nat.le_of_eq rfl) (hb hby at_54) (fun _ _ => ⟨rfl, rfl, (by decide : 1 + 1 ≤ _), (by decide : 3 + 3 ≤ _)⟩)
  dsimp only [Pt.U, Pt.locs, Pt.cells, Pt.slots] at X3 l3 y3 z3 st3 hQ3
  subst l3 y3 z3
  obtain ⟨r3, rfl, N3q, Kq3, lo_r3, Eq3, Fq3_maxAttempts, Fq3_backoff, Fq3_longestRunTime⟩ := hQ3
  have N3 := Fr.app N2 N3q
  have ne_b1_r3 : b1 ≠ r3 := Nat.ne_of_lt (Nat.lt_of_lt_of_le Eq2.lt lo_r3)
  have sz_r3 : h0.size ≤ r3 := Nat.le_trans K2.1 lo_r3
  have g_r3 : n0 ≤ r3 := Nat.le_trans Z0 sz_r3
  have E_b1_3 := Eq2.ext (own_ext Kq3)
  have F_maxAttempts_b1_3 := Fq2_maxAttempts.ext (own_ext Kq3)
  have F_backoff_b1_3 := Fq2_backoff.ext (own_ext Kq3)
  have F_longestRunTime_b1_3 := Fq2_longestRunTime.ext (own_ext Kq3)
  have K3 : Keep h0 T3.heap [] := K2.trans Kq3 (fun x hx => by cases hx)
  obtain ⟨cq4, kq4, q4a, q4b, q4c⟩ := isOf hZ rfl Eq3
  obtain ⟨_, _, ⟨T4, L4, k4, n4⟩, -, X4, ⟨Lc4, hQ4, l4, y4, z4⟩, st4⟩ := X3.virtualBack hx (y := (⟨"com/example/mersey/mersey/JobTypeSettings", "isLastAttempt", "(I)Z"⟩ : MethodName)) (z := (⟨"com/example/mersey/mersey/JobTypeSettings", "isLastAttempt", "(I)Z"⟩ : MethodName)) hown (mvT hZ (hw _ (List.mem_of_getElem? (i := 27) rfl))) (mvT hZ (hw _ (List.mem_of_getElem? (i := 28) rfl))) (notFace_of_selects (args := #[]) (mvT hZ (hw _ (List.mem_of_getElem? (i := 30) rfl)))) (mvT hZ (hw _ (List.mem_of_getElem? (i := 30) rfl))) (mvT hZ (hw _ (List.mem_of_getElem? (i := 29) rfl))) (by decide) (backOf (W := 0) (own_b5_f l Z a0 hw [] r3 p2_ m_ T3.heap n0 (Nat.le_trans Z0 (own_ext K3).1) Fq3_maxAttempts hf4) hZ (hw _ (List.mem_of_getElem? (i := 31) rfl)) (hw _ (List.mem_of_getElem? (i := 3) rfl)) (by decide) (by decide)) q4a q4c (g := (mkF m 62 #[.val (.int p0_), .val (.int p1_), .val (.int p2_), .val (.int (0 : Int32)), .val (.int m_), .val (.ref r3), .unset, .unset, .unset, .unset, .unset] [(.int p2_), (.ref r3)])) rfl (by rw [hml]; rfl) (Steps.refl _) (argsL := [(.int p2_)]) (rest := []) (lenOf own_pd1 rfl) rfl (by show 2 * 0 + _ ≤ _; exact Nat.le_of_eq rfl) (hb hby at_62) (fun _ _ => ⟨rfl, rfl, (by decide : 2 + 0 ≤ _), (by decide : 6 + 0 ≤ _)⟩)
  dsimp only [Pt.U, Pt.locs, Pt.cells, Pt.slots] at X4 l4 y4 z4 st4 hQ4
  subst l4 y4 z4
  obtain ⟨rfl, N4q, e4⟩ := hQ4
  have N4 := Fr.app N3 N4q
  obtain ⟨cq5, kq5, q5a, q5b, q5c⟩ := isOf hZ e4 Eq3
  obtain ⟨_, _, ⟨T5, L5, k5, n5⟩, -, X5, ⟨Lc5, hQ5, l5, y5, z5⟩, st5⟩ := X4.virtualBack hx (y := (⟨"com/example/mersey/mersey/JobTypeSettings", "isLastAttempt", "(I)Z"⟩ : MethodName)) (z := (⟨"com/example/mersey/mersey/JobTypeSettings", "isLastAttempt", "(I)Z"⟩ : MethodName)) hown (mvT hZ (hw _ (List.mem_of_getElem? (i := 27) rfl))) (mvT hZ (hw _ (List.mem_of_getElem? (i := 28) rfl))) (notFace_of_selects (args := #[]) (mvT hZ (hw _ (List.mem_of_getElem? (i := 30) rfl)))) (mvT hZ (hw _ (List.mem_of_getElem? (i := 30) rfl))) (mvT hZ (hw _ (List.mem_of_getElem? (i := 29) rfl))) (by decide) (backOf (W := 0) (own_b5_f l Z a0 hw [] r3 m_ m_ T3.heap n0 (Nat.le_trans Z0 (own_ext K3).1) Fq3_maxAttempts hf5) hZ (hw _ (List.mem_of_getElem? (i := 31) rfl)) (hw _ (List.mem_of_getElem? (i := 3) rfl)) (by decide) (by decide)) q5a q5c (g := (mkF m 93 #[.val (.int p0_), .val (.int p1_), .val (.int p2_), .val (.int (0 : Int32)), .val (.int m_), .val (.ref r3), .val (.int (1 : Int32)), .val (.int (1 : Int32)), .unset, .unset, .unset] [(.int m_), (.ref r3)])) rfl (by rw [hml]; rfl) (Steps.refl _) (argsL := [(.int m_)]) (rest := []) (lenOf own_pd1 rfl) rfl (by show 2 * 0 + _ ≤ _; exact Nat.le_of_eq rfl) (hb hby at_93) (fun _ _ => ⟨rfl, e4, (by decide : 2 + 0 ≤ _), (by decide : 6 + 0 ≤ _)⟩)
  dsimp only [Pt.U, Pt.locs, Pt.cells, Pt.slots] at X5 l5 y5 z5 st5 hQ5
  subst l5 y5 z5
  obtain ⟨rfl, N5q, e5⟩ := hQ5
  have N5 := Fr.app N4 N5q
  obtain ⟨cq6, kq6, q6a, q6b, q6c⟩ := isOf hZ e5 Eq3
  obtain ⟨_, _, ⟨T6, L6, k6, n6⟩, -, X6, ⟨Lc6, hQ6, l6, y6, z6⟩, st6⟩ := X5.virtualBack hx (y := (⟨"com/example/mersey/mersey/JobTypeSettings", "isLastAttempt", "(I)Z"⟩ : MethodName)) (z := (⟨"com/example/mersey/mersey/JobTypeSettings", "isLastAttempt", "(I)Z"⟩ : MethodName)) hown (mvT hZ (hw _ (List.mem_of_getElem? (i := 27) rfl))) (mvT hZ (hw _ (List.mem_of_getElem? (i := 28) rfl))) (notFace_of_selects (args := #[]) (mvT hZ (hw _ (List.mem_of_getElem? (i := 30) rfl)))) (mvT hZ (hw _ (List.mem_of_getElem? (i := 30) rfl))) (mvT hZ (hw _ (List.mem_of_getElem? (i := 29) rfl))) (by decide) (backOf (W := 0) (own_b5_t l Z a0 hw [] r3 (m_ - (1 : Int32)) m_ T3.heap n0 (Nat.le_trans Z0 (own_ext K3).1) Fq3_maxAttempts hf7) hZ (hw _ (List.mem_of_getElem? (i := 31) rfl)) (hw _ (List.mem_of_getElem? (i := 3) rfl)) (by decide) (by decide)) q6a q6c (g := (mkF m 113 #[.val (.int p0_), .val (.int p1_), .val (.int p2_), .val (.int (0 : Int32)), .val (.int m_), .val (.ref r3), .val (.int (1 : Int32)), .val (.int (1 : Int32)), .unset, .unset, .unset] [(.int (m_ - (1 : Int32))), (.ref r3)])) rfl (by rw [hml]; rfl) (Steps.refl _) (argsL := [(.int (m_ - (1 : Int32)))]) (rest := []) (lenOf own_pd1 rfl) rfl (by show 2 * 0 + _ ≤ _; exact Nat.le_of_eq rfl) (hb hby at_113) (fun _ _ => ⟨rfl, e5, (by decide : 2 + 0 ≤ _), (by decide : 6 + 0 ≤ _)⟩)
  dsimp only [Pt.U, Pt.locs, Pt.cells, Pt.slots] at X6 l6 y6 z6 st6 hQ6
  subst l6 y6 z6
  obtain ⟨rfl, N6q, e6⟩ := hQ6
  have N6 := Fr.app N5 N6q
  obtain ⟨fs, hr, hrun, hended, hW, hsame⟩ := X6.leave (v := some (.int (1 : Int32))) (fun h => by rw [Bd.returns] at h; cases h)
  refine ⟨_, _, pre0 _ ?_, hrun, hended, _, _, rfl, ?_, ⟨_, rfl⟩, hW, hsame.mono (by decide) (by decide)⟩
  · show Steps p.tables e below (s₁.setTop (mkF m 0 #[.val (.int p0_), .val (.int p1_), .val (.int p2_), .unset, .unset, .unset, .unset, .unset, .unset, .unset, .unset] [])) _
    refine XS.iloadN X0.here hx rfl (hb hby at_0) rfl ?_
    refine XS.iconst X0.here hx rfl (hb hby at_1) ?_
    refine XS.iand X0.here hx rfl (hb hby at_2) rfl ?_
    show Steps p.tables e below (s₁.setTop (mkF m 3 #[.val (.int p0_), .val (.int p1_), .val (.int p2_), .unset, .unset, .unset, .unset, .unset, .unset, .unset, .unset] [(.int (p0_ &&& (1 : Int32)))])) _
    rw [hf0]
    refine XS.ifYes X0.here hx rfl (pc0 := 3) (pc' := 10) rfl (hb hby at_3) rfl ((if0 _ _).trans (teq (rfl : (0 : Int32) = (0 : Int32))).1) (by decide) (by decide) ?_
    refine XS.iconst X0.here hx rfl (hb hby at_10) ?_
    refine XS.istoreN X0.here hx rfl (hb hby at_11) rfl (l' := #[.val (.int p0_), .val (.int p1_), .val (.int p2_), .val (.int (0 : Int32)), .unset, .unset, .unset, .unset, .unset, .unset, .unset]) rfl ?_
    show Steps p.tables e below (s₁.setTop (mkF m 12 #[.val (.int p0_), .val (.int p1_), .val (.int p2_), .val (.int (0 : Int32)), .unset, .unset, .unset, .unset, .unset, .unset, .unset] [])) _
    refine XS.iloadN X0.here hx rfl (hb hby at_12) rfl ?_
    show Steps p.tables e below (s₁.setTop (mkF m 13 #[.val (.int p0_), .val (.int p1_), .val (.int p2_), .val (.int (0 : Int32)), .unset, .unset, .unset, .unset, .unset, .unset, .unset] [(.int p1_)])) _
    refine X0.ldcInt hx hown (mvT hZ (hw _ (List.mem_of_getElem? (i := 0) rfl))) (g := (mkF m 13 #[.val (.int p0_), .val (.int p1_), .val (.int p2_), .val (.int (0 : Int32)), .unset, .unset, .unset, .unset, .unset, .unset, .unset] [(.int p1_)])) rfl (hb hby at_13) _ ?_
    refine XS.iand X0.here hx rfl (hb hby at_15) rfl ?_
    show Steps p.tables e below (s₁.setTop (mkF m 16 #[.val (.int p0_), .val (.int p1_), .val (.int p2_), .val (.int (0 : Int32)), .unset, .unset, .unset, .unset, .unset, .unset, .unset] [(.int (p1_ &&& (2147483647 : Int32)))])) _
    rw [hf1]
    refine XS.istore X0.here hx rfl (hb hby at_16) rfl (l' := #[.val (.int p0_), .val (.int p1_), .val (.int p2_), .val (.int (0 : Int32)), .val (.int m_), .unset, .unset, .unset, .unset, .unset, .unset]) rfl ?_
    refine XS.iload X0.here hx rfl (hb hby at_18) rfl ?_
    refine XS.ifYes X0.here hx rfl (pc0 := 20) (pc' := 26) rfl (hb hby at_20) rfl ((if0 _ _).trans (feq hf2).2) (by decide) (by decide) ?_
    show Steps p.tables e below (s₁.setTop (mkF m 26 #[.val (.int p0_), .val (.int p1_), .val (.int p2_), .val (.int (0 : Int32)), .val (.int m_), .unset, .unset, .unset, .unset, .unset, .unset] [])) _
    refine XS.iloadN X0.here hx rfl (hb hby at_26) rfl ?_
    refine XS.ifYes X0.here hx rfl (pc0 := 27) (pc' := 45) rfl (hb hby at_27) rfl ((if0 _ _).trans (teq (rfl : (0 : Int32) = (0 : Int32))).1) (by decide) (by decide) ?_
    show Steps p.tables e below (s₁.setTop (mkF m 45 #[.val (.int p0_), .val (.int p1_), .val (.int p2_), .val (.int (0 : Int32)), .val (.int m_), .unset, .unset, .unset, .unset, .unset, .unset] [])) _
    refine st1 _ ?_
    refine XS.dup X1.here hx rfl (hb hby at_48) rfl rfl ?_
    show Steps p.tables e below (T1.setTop (mkF m 49 #[.val (.int p0_), .val (.int p1_), .val (.int p2_), .val (.int (0 : Int32)), .val (.int m_), .unset, .unset, .unset, .unset, .unset, .unset] [(.ref b1), (.ref b1)])) _
    refine st2.trans ?_
    refine XS.iload X2.here hx rfl (hb hby at_52) rfl ?_
    show Steps p.tables e below (T2.setTop (mkF m 54 #[.val (.int p0_), .val (.int p1_), .val (.int p2_), .val (.int (0 : Int32)), .val (.int m_), .unset, .unset, .unset, .unset, .unset, .unset] [(.int m_), (.ref b1)])) _
    refine st3.trans ?_
    refine XS.astore X3.here hx rfl (hb hby at_57) rfl rfl (l' := #[.val (.int p0_), .val (.int p1_), .val (.int p2_), .val (.int (0 : Int32)), .val (.int m_), .val (.ref r3), .unset, .unset, .unset, .unset, .unset]) rfl ?_
    refine XS.aload X3.here hx rfl (hb hby at_59) rfl rfl ?_
    refine XS.iloadN X3.here hx rfl (hb hby at_61) rfl ?_
    show Steps p.tables e below (T3.setTop (mkF m 62 #[.val (.int p0_), .val (.int p1_), .val (.int p2_), .val (.int (0 : Int32)), .val (.int m_), .val (.ref r3), .unset, .unset, .unset, .unset, .unset] [(.int p2_), (.ref r3)])) _
    refine st4.trans ?_
    refine XS.istore X4.here hx rfl (hb hby at_65) rfl (l' := #[.val (.int p0_), .val (.int p1_), .val (.int p2_), .val (.int (0 : Int32)), .val (.int m_), .val (.ref r3), .val (.int (1 : Int32)), .unset, .unset, .unset, .unset]) rfl ?_
    refine XS.iloadN X4.here hx rfl (hb hby at_67) rfl ?_
    refine XS.iload X4.here hx rfl (hb hby at_68) rfl ?_
    show Steps p.tables e below (T4.setTop (mkF m 70 #[.val (.int p0_), .val (.int p1_), .val (.int p2_), .val (.int (0 : Int32)), .val (.int m_), .val (.ref r3), .val (.int (1 : Int32)), .unset, .unset, .unset, .unset] [(.int m_), (.int p2_)])) _
    refine XS.icmpNo X4.here hx rfl (hb hby at_70) rfl (flt hf4).1 ?_
    refine XS.iconst X4.here hx rfl (hb hby at_73) ?_
    refine XS.goto X4.here hx rfl (pc0 := 74) (pc' := 78) rfl (hb hby at_74) (by decide) (by decide) ?_
    refine XS.istore X4.here hx rfl (hb hby at_78) rfl (l' := #[.val (.int p0_), .val (.int p1_), .val (.int p2_), .val (.int (0 : Int32)), .val (.int m_), .val (.ref r3), .val (.int (1 : Int32)), .val (.int (1 : Int32)), .unset, .unset, .unset]) rfl ?_
    show Steps p.tables e below (T4.setTop (mkF m 80 #[.val (.int p0_), .val (.int p1_), .val (.int p2_), .val (.int (0 : Int32)), .val (.int m_), .val (.ref r3), .val (.int (1 : Int32)), .val (.int (1 : Int32)), .unset, .unset, .unset] [])) _
    refine XS.iload X4.here hx rfl (hb hby at_80) rfl ?_
    refine XS.iload X4.here hx rfl (hb hby at_82) rfl ?_
    refine XS.icmpYes X4.here hx rfl (pc0 := 84) (pc' := 89) rfl (hb hby at_84) rfl (teq (rfl : (1 : Int32) = (1 : Int32))).1 (by decide) (by decide) ?_
    refine XS.aload X4.here hx rfl (hb hby at_89) rfl rfl ?_
    show Steps p.tables e below (T4.setTop (mkF m 91 #[.val (.int p0_), .val (.int p1_), .val (.int p2_), .val (.int (0 : Int32)), .val (.int m_), .val (.ref r3), .val (.int (1 : Int32)), .val (.int (1 : Int32)), .unset, .unset, .unset] [(.ref r3)])) _
    refine XS.iload X4.here hx rfl (hb hby at_91) rfl ?_
    show Steps p.tables e below (T4.setTop (mkF m 93 #[.val (.int p0_), .val (.int p1_), .val (.int p2_), .val (.int (0 : Int32)), .val (.int m_), .val (.ref r3), .val (.int (1 : Int32)), .val (.int (1 : Int32)), .unset, .unset, .unset] [(.int m_), (.ref r3)])) _
    refine st5.trans ?_
    refine XS.ifYes X5.here hx rfl (pc0 := 96) (pc' := 101) rfl (hb hby at_96) rfl ((if0 _ _).trans (feq (by decide : ¬ ((1 : Int32) = (0 : Int32)))).2) (by decide) (by decide) ?_
    refine XS.iload X5.here hx rfl (hb hby at_101) rfl ?_
    refine XS.iconst X5.here hx rfl (hb hby at_103) ?_
    show Steps p.tables e below (T5.setTop (mkF m 104 #[.val (.int p0_), .val (.int p1_), .val (.int p2_), .val (.int (0 : Int32)), .val (.int m_), .val (.ref r3), .val (.int (1 : Int32)), .val (.int (1 : Int32)), .unset, .unset, .unset] [(.int (1 : Int32)), (.int m_)])) _
    refine XS.icmpNo X5.here hx rfl (hb hby at_104) rfl (tlt hf6).2.2.2 ?_
    refine XS.aload X5.here hx rfl (hb hby at_107) rfl rfl ?_
    refine XS.iload X5.here hx rfl (hb hby at_109) rfl ?_
    refine XS.iconst X5.here hx rfl (hb hby at_111) ?_
    show Steps p.tables e below (T5.setTop (mkF m 112 #[.val (.int p0_), .val (.int p1_), .val (.int p2_), .val (.int (0 : Int32)), .val (.int m_), .val (.ref r3), .val (.int (1 : Int32)), .val (.int (1 : Int32)), .unset, .unset, .unset] [(.int (1 : Int32)), (.int m_), (.ref r3)])) _
    refine XS.isub X5.here hx rfl (hb hby at_112) rfl ?_
    show Steps p.tables e below (T5.setTop (mkF m 113 #[.val (.int p0_), .val (.int p1_), .val (.int p2_), .val (.int (0 : Int32)), .val (.int m_), .val (.ref r3), .val (.int (1 : Int32)), .val (.int (1 : Int32)), .unset, .unset, .unset] [(.int (m_ - (1 : Int32))), (.ref r3)])) _
    refine st6.trans ?_
    refine XS.ifYes X6.here hx rfl (pc0 := 116) (pc' := 121) rfl (hb hby at_116) rfl ((if0 _ _).trans (teq (rfl : (0 : Int32) = (0 : Int32))).1) (by decide) (by decide) ?_
    refine XS.iloadN X6.here hx rfl (hb hby at_121) rfl ?_
    refine XS.iconst X6.here hx rfl (hb hby at_122) ?_
    show Steps p.tables e below (T6.setTop (mkF m 123 #[.val (.int p0_), .val (.int p1_), .val (.int p2_), .val (.int (0 : Int32)), .val (.int m_), .val (.ref r3), .val (.int (1 : Int32)), .val (.int (1 : Int32)), .unset, .unset, .unset] [(.int (1 : Int32)), (.int p0_)])) _
    refine XS.iushr X6.here hx rfl (hb hby at_123) rfl ?_
    refine XS.iconst X6.here hx rfl (hb hby at_124) ?_
    show Steps p.tables e below (T6.setTop (mkF m 125 #[.val (.int p0_), .val (.int p1_), .val (.int p2_), .val (.int (0 : Int32)), .val (.int m_), .val (.ref r3), .val (.int (1 : Int32)), .val (.int (1 : Int32)), .unset, .unset, .unset] [(.int (5 : Int32)), (.int ((p0_.toUInt32 >>> ((1 : Int32) &&& 31).toUInt32).toInt32))])) _
    refine iremM X6 hx rfl (hb hby at_125) rfl (by decide) ?_
    show Steps p.tables e below (T6.setTop (mkF m 126 #[.val (.int p0_), .val (.int p1_), .val (.int p2_), .val (.int (0 : Int32)), .val (.int m_), .val (.ref r3), .val (.int (1 : Int32)), .val (.int (1 : Int32)), .unset, .unset, .unset] [(.int (((p0_.toUInt32 >>> ((1 : Int32) &&& 31).toUInt32).toInt32) % (5 : Int32)))])) _
    rw [hf8]
    refine XS.iconst X6.here hx rfl (hb hby at_126) ?_
    refine XS.isub X6.here hx rfl (hb hby at_127) rfl ?_
    show Steps p.tables e below (T6.setTop (mkF m 128 #[.val (.int p0_), .val (.int p1_), .val (.int p2_), .val (.int (0 : Int32)), .val (.int m_), .val (.ref r3), .val (.int (1 : Int32)), .val (.int (1 : Int32)), .unset, .unset, .unset] [(.int (o_ - (2 : Int32)))])) _
    rw [hf9]
    refine XS.istore X6.here hx rfl (hb hby at_128) rfl (l' := #[.val (.int p0_), .val (.int p1_), .val (.int p2_), .val (.int (0 : Int32)), .val (.int m_), .val (.ref r3), .val (.int (1 : Int32)), .val (.int (1 : Int32)), .val (.int f_), .unset, .unset]) rfl ?_
    refine XS.iload X6.here hx rfl (hb hby at_130) rfl ?_
    refine XS.i2l X6.here hx rfl (hb hby at_132) rfl ?_
    show Steps p.tables e below (T6.setTop (mkF m 133 #[.val (.int p0_), .val (.int p1_), .val (.int p2_), .val (.int (0 : Int32)), .val (.int m_), .val (.ref r3), .val (.int (1 : Int32)), .val (.int (1 : Int32)), .val (.int f_), .unset, .unset] [(.long (m_.toInt64))])) _
    refine XS.iload X6.here hx rfl (hb hby at_133) rfl ?_
    refine XS.i2l X6.here hx rfl (hb hby at_135) rfl ?_
    refine XS.ladd X6.here hx rfl (hb hby at_136) rfl ?_
    show Steps p.tables e below (T6.setTop (mkF m 137 #[.val (.int p0_), .val (.int p1_), .val (.int p2_), .val (.int (0 : Int32)), .val (.int m_), .val (.ref r3), .val (.int (1 : Int32)), .val (.int (1 : Int32)), .val (.int f_), .unset, .unset] [(.long ((m_.toInt64) + (f_.toInt64)))])) _
    rw [hf10]
    refine XS.lstore X6.here hx rfl (hb hby at_137) rfl (l' := #[.val (.int p0_), .val (.int p1_), .val (.int p2_), .val (.int (0 : Int32)), .val (.int m_), .val (.ref r3), .val (.int (1 : Int32)), .val (.int (1 : Int32)), .val (.int f_), .val (.long l_), .second]) rfl ?_
    refine XS.lload X6.here hx rfl (hb hby at_139) rfl ?_
    show Steps p.tables e below (T6.setTop (mkF m 141 #[.val (.int p0_), .val (.int p1_), .val (.int p2_), .val (.int (0 : Int32)), .val (.int m_), .val (.ref r3), .val (.int (1 : Int32)), .val (.int (1 : Int32)), .val (.int f_), .val (.long l_), .second] [(.long l_)])) _
    refine X6.ldc2Long hx hown (mvT hZ (hw _ (List.mem_of_getElem? (i := 32) rfl))) (g := (mkF m 141 #[.val (.int p0_), .val (.int p1_), .val (.int p2_), .val (.int (0 : Int32)), .val (.int m_), .val (.ref r3), .val (.int (1 : Int32)), .val (.int (1 : Int32)), .val (.int f_), .val (.long l_), .second] [(.long l_)])) rfl (hb hby at_141) _ ?_
    refine XS.lcmp X6.here hx rfl (hb hby at_144) rfl ?_
    refine XS.ifYes X6.here hx rfl (pc0 := 145) (pc' := 171) rfl (hb hby at_145) rfl ((if0 _ _).trans (tlt hf11).2.2.1) (by decide) (by decide) ?_
    refine XS.iconst X6.here hx rfl (hb hby at_171) ?_
    show Steps p.tables e below (T6.setTop (mkF m 172 #[.val (.int p0_), .val (.int p1_), .val (.int p2_), .val (.int (0 : Int32)), .val (.int m_), .val (.ref r3), .val (.int (1 : Int32)), .val (.int (1 : Int32)), .val (.int f_), .val (.long l_), .second] [(.int (1 : Int32))])) _
    exact retN X6 hx (t := .boolean) Bd.returns (by simp) (hb hby at_172) hr
  · show own_QL n0 _ T6.heap _
    exact ⟨rfl, N6⟩
set_option maxRecDepth 65536 in
set_option maxHeartbeats 40000000 in
theorem comes_1 {Post : Tables → Env → Array Value → State → Outcome → State → Prop} (hpost : ∀ tb e args s v u, (limb_1_1.after args s (.returned v) u = true ∧ limb_1_2.after args s (.returned v) u = true ∧ True) → FrameEnd s (.returned v) u (Jvm.fieldLocs frame_1_writes args s ++ Jvm.arrayLocs frame_1_arrays args s ++ Jvm.staticLocs frame_1_statics s) 16 128 → Post tb e args s (.returned v) u) :
    ArmFor flags0 classFile x code maxLocals ret World_1 tables_1 room_1 Calls_1 rest_1 Pre_1 Post := by
  intro l hfl _ _ p e ha hc hk s m args below hf hA hF happ hP
  obtain ⟨hcalls, hrest, hpre⟩ := hP
  obtain ⟨-, -, -, hnamed, -, -, -, hat⟩ := (Spec.applies_iff hf).mp happ
  obtain ⟨hg, hn⟩ := and_e (Cond.before_iff.mp (show (Jvm.Cond.and given_1 narrow_1).before args s = true from hpre))
  obtain ⟨hg0, hgr⟩ := and_e hg
  obtain ⟨ga0, gr0⟩ := and_e hgr
  obtain ⟨ga1, gr1⟩ := and_e gr0
  have ga2 := gr1
  obtain ⟨w0_, w1_, w2_, rfl⟩ : ∃ w0_ w1_ w2_ : Value, args = #[w0_, w1_, w2_] := by
    have hs : args.size = 3 := by simpa [Cond.value, given_1] using hg0
    obtain ⟨L⟩ := args
    match L, hs with
    | [w0_, w1_, w2_], _ => exact ⟨w0_, w1_, w2_, rfl⟩
  have hw := fun d (hd : d ∈ tables_1) => atoms_spec (ws := Jvm.Cond.code x code maxLocals ret :: tables_1) hat d (List.mem_cons_of_mem _ hd)
  obtain ⟨p0_, ei0⟩ := is_v ga0
  obtain rfl : w0_ = (.int p0_) := Option.some.inj ei0
  obtain ⟨p1_, ei1⟩ := is_v ga1
  obtain rfl : w1_ = (.int p1_) := Option.some.inj ei1
  obtain ⟨p2_, ei2⟩ := is_v ga2
  obtain rfl : w2_ = (.int p2_) := Option.some.inj ei2
  have c0 := hn
  obtain ⟨w_DEFAULT_BACKOFF, ev_DEFAULT_BACKOFF⟩ := exa_v c0
  have S_DEFAULT_BACKOFF := Sta.start ev_DEFAULT_BACKOFF (Or.inr ⟨(hw _ (List.mem_of_getElem? (i := 3) rfl)), (hw _ (List.mem_of_getElem? (i := 13) rfl))⟩)
  have E_w_DEFAULT_BACKOFF := Exa.start ev_DEFAULT_BACKOFF c0
  have key : MetFree l x (head1 (Jvm.Cond.code x code maxLocals ret :: tables_1) room_1) (fun a U => a = #[(.int p0_), (.int p1_), (.int p2_)] ∧ s.Warmed39 U.vm ∧ U.heap = s.heap) (fun _ _ _ _ _ => True) (fun _ U o U' => ∃ v L, o = .returned v ∧ own_QL s.heap.size v U'.heap L ∧ FrameEnd U o U' L room_1.cells room_1.slots) := by
    have ho := own_o p0_
    have hm0 := own_m p1_
    rcases own_and1 p0_ with hB | hB
    · by_cases hM : (p1_ &&& (2147483647 : Int32)) = (0 : Int32)
      · have h1 : 1 ≤ (1 : Int32).toInt := by decide
        have hL := own_B (m := (1 : Int32)) h1 (by decide) ho
        by_cases hC : p2_ < (1 : Int32)
        · by_cases hO : ((((p0_.toUInt32 >>> ((1 : Int32) &&& 31).toUInt32).toInt32) % (5 : Int32)) - (2 : Int32)) < (0 : Int32)
          · exact own_law_Sll l s _ hw tables_1 p0_ p1_ p2_ ((p1_ &&& (2147483647 : Int32))) w_DEFAULT_BACKOFF ((((p0_.toUInt32 >>> ((1 : Int32) &&& 31).toUInt32).toInt32) % (5 : Int32))) (((((p0_.toUInt32 >>> ((1 : Int32) &&& 31).toUInt32).toInt32) % (5 : Int32)) - (2 : Int32))) ((((1 : Int32).toInt64) + (((((p0_.toUInt32 >>> ((1 : Int32) &&& 31).toUInt32).toInt32) % (5 : Int32)) - (2 : Int32)).toInt64))) s.heap s.heap.size (Nat.le_refl _) S_DEFAULT_BACKOFF (by assumption) rfl (by assumption) (by assumption) rfl rfl rfl (by assumption) ((own_A h1 ho hL).mpr hO) (by assumption)
          · exact own_law_Slg l s _ hw tables_1 p0_ p1_ p2_ ((p1_ &&& (2147483647 : Int32))) w_DEFAULT_BACKOFF ((((p0_.toUInt32 >>> ((1 : Int32) &&& 31).toUInt32).toInt32) % (5 : Int32))) (((((p0_.toUInt32 >>> ((1 : Int32) &&& 31).toUInt32).toInt32) % (5 : Int32)) - (2 : Int32))) ((((1 : Int32).toInt64) + (((((p0_.toUInt32 >>> ((1 : Int32) &&& 31).toUInt32).toInt32) % (5 : Int32)) - (2 : Int32)).toInt64))) s.heap s.heap.size (Nat.le_refl _) S_DEFAULT_BACKOFF (by assumption) rfl (by assumption) (by assumption) rfl rfl rfl (by assumption) (fun q => hO ((own_A h1 ho hL).mp q)) (by assumption)
        · by_cases hO : ((((p0_.toUInt32 >>> ((1 : Int32) &&& 31).toUInt32).toInt32) % (5 : Int32)) - (2 : Int32)) < (0 : Int32)
          · exact own_law_Sgl l s _ hw tables_1 p0_ p1_ p2_ ((p1_ &&& (2147483647 : Int32))) w_DEFAULT_BACKOFF ((((p0_.toUInt32 >>> ((1 : Int32) &&& 31).toUInt32).toInt32) % (5 : Int32))) (((((p0_.toUInt32 >>> ((1 : Int32) &&& 31).toUInt32).toInt32) % (5 : Int32)) - (2 : Int32))) ((((1 : Int32).toInt64) + (((((p0_.toUInt32 >>> ((1 : Int32) &&& 31).toUInt32).toInt32) % (5 : Int32)) - (2 : Int32)).toInt64))) s.heap s.heap.size (Nat.le_refl _) S_DEFAULT_BACKOFF (by assumption) rfl (by assumption) (by assumption) rfl rfl rfl (by assumption) ((own_A h1 ho hL).mpr hO) (by assumption)
          · exact own_law_Sgg l s _ hw tables_1 p0_ p1_ p2_ ((p1_ &&& (2147483647 : Int32))) w_DEFAULT_BACKOFF ((((p0_.toUInt32 >>> ((1 : Int32) &&& 31).toUInt32).toInt32) % (5 : Int32))) (((((p0_.toUInt32 >>> ((1 : Int32) &&& 31).toUInt32).toInt32) % (5 : Int32)) - (2 : Int32))) ((((1 : Int32).toInt64) + (((((p0_.toUInt32 >>> ((1 : Int32) &&& 31).toUInt32).toInt32) % (5 : Int32)) - (2 : Int32)).toInt64))) s.heap s.heap.size (Nat.le_refl _) S_DEFAULT_BACKOFF (by assumption) rfl (by assumption) (by assumption) rfl rfl rfl (by assumption) (fun q => hO ((own_A h1 ho hL).mp q)) (by assumption)
      · have h1 := own_ge1 hm0 hM
        by_cases hC : p2_ < (p1_ &&& (2147483647 : Int32))
        · by_cases hG : (1 : Int32) < (p1_ &&& (2147483647 : Int32))
          · by_cases hL : (0 : Int32) < (lcmpW (((p1_ &&& (2147483647 : Int32)).toInt64) + (((((p0_.toUInt32 >>> ((1 : Int32) &&& 31).toUInt32).toInt32) % (5 : Int32)) - (2 : Int32)).toInt64)) (2147483647 : Int64))
            · exact own_law_V2lx l s _ hw tables_1 p0_ p1_ p2_ ((p1_ &&& (2147483647 : Int32))) w_DEFAULT_BACKOFF ((((p0_.toUInt32 >>> ((1 : Int32) &&& 31).toUInt32).toInt32) % (5 : Int32))) (((((p0_.toUInt32 >>> ((1 : Int32) &&& 31).toUInt32).toInt32) % (5 : Int32)) - (2 : Int32))) ((((p1_ &&& (2147483647 : Int32)).toInt64) + (((((p0_.toUInt32 >>> ((1 : Int32) &&& 31).toUInt32).toInt32) % (5 : Int32)) - (2 : Int32)).toInt64))) s.heap s.heap.size (Nat.le_refl _) S_DEFAULT_BACKOFF (by assumption) rfl (by assumption) (own_nlt1 h1) (by assumption) (own_irr _) (by assumption) (own_pred h1) rfl rfl rfl (by assumption)
            · by_cases hO : ((((p0_.toUInt32 >>> ((1 : Int32) &&& 31).toUInt32).toInt32) % (5 : Int32)) - (2 : Int32)) < (0 : Int32)
              · exact own_law_V2ll l s _ hw tables_1 p0_ p1_ p2_ ((p1_ &&& (2147483647 : Int32))) w_DEFAULT_BACKOFF ((((p0_.toUInt32 >>> ((1 : Int32) &&& 31).toUInt32).toInt32) % (5 : Int32))) (((((p0_.toUInt32 >>> ((1 : Int32) &&& 31).toUInt32).toInt32) % (5 : Int32)) - (2 : Int32))) ((((p1_ &&& (2147483647 : Int32)).toInt64) + (((((p0_.toUInt32 >>> ((1 : Int32) &&& 31).toUInt32).toInt32) % (5 : Int32)) - (2 : Int32)).toInt64))) s.heap s.heap.size (Nat.le_refl _) S_DEFAULT_BACKOFF (by assumption) rfl (by assumption) (own_nlt1 h1) (by assumption) (own_irr _) (by assumption) (own_pred h1) rfl rfl rfl (by assumption) ((own_A h1 ho hL).mpr hO) (by assumption)
              · exact own_law_V2lg l s _ hw tables_1 p0_ p1_ p2_ ((p1_ &&& (2147483647 : Int32))) w_DEFAULT_BACKOFF ((((p0_.toUInt32 >>> ((1 : Int32) &&& 31).toUInt32).toInt32) % (5 : Int32))) (((((p0_.toUInt32 >>> ((1 : Int32) &&& 31).toUInt32).toInt32) % (5 : Int32)) - (2 : Int32))) ((((p1_ &&& (2147483647 : Int32)).toInt64) + (((((p0_.toUInt32 >>> ((1 : Int32) &&& 31).toUInt32).toInt32) % (5 : Int32)) - (2 : Int32)).toInt64))) s.heap s.heap.size (Nat.le_refl _) S_DEFAULT_BACKOFF (by assumption) rfl (by assumption) (own_nlt1 h1) (by assumption) (own_irr _) (by assumption) (own_pred h1) rfl rfl rfl (by assumption) (fun q => hO ((own_A h1 ho hL).mp q)) (by assumption)
          · have hL := own_B (m := (p1_ &&& (2147483647 : Int32))) h1 (own_eq1 h1 hG) ho
            by_cases hO : ((((p0_.toUInt32 >>> ((1 : Int32) &&& 31).toUInt32).toInt32) % (5 : Int32)) - (2 : Int32)) < (0 : Int32)
            · exact own_law_V1ll l s _ hw tables_1 p0_ p1_ p2_ ((p1_ &&& (2147483647 : Int32))) w_DEFAULT_BACKOFF ((((p0_.toUInt32 >>> ((1 : Int32) &&& 31).toUInt32).toInt32) % (5 : Int32))) (((((p0_.toUInt32 >>> ((1 : Int32) &&& 31).toUInt32).toInt32) % (5 : Int32)) - (2 : Int32))) ((((p1_ &&& (2147483647 : Int32)).toInt64) + (((((p0_.toUInt32 >>> ((1 : Int32) &&& 31).toUInt32).toInt32) % (5 : Int32)) - (2 : Int32)).toInt64))) s.heap s.heap.size (Nat.le_refl _) S_DEFAULT_BACKOFF (by assumption) rfl (by assumption) (own_nlt1 h1) (by assumption) (own_irr _) (by assumption) rfl rfl rfl (by assumption) ((own_A h1 ho hL).mpr hO) (by assumption)
            · exact own_law_V1lg l s _ hw tables_1 p0_ p1_ p2_ ((p1_ &&& (2147483647 : Int32))) w_DEFAULT_BACKOFF ((((p0_.toUInt32 >>> ((1 : Int32) &&& 31).toUInt32).toInt32) % (5 : Int32))) (((((p0_.toUInt32 >>> ((1 : Int32) &&& 31).toUInt32).toInt32) % (5 : Int32)) - (2 : Int32))) ((((p1_ &&& (2147483647 : Int32)).toInt64) + (((((p0_.toUInt32 >>> ((1 : Int32) &&& 31).toUInt32).toInt32) % (5 : Int32)) - (2 : Int32)).toInt64))) s.heap s.heap.size (Nat.le_refl _) S_DEFAULT_BACKOFF (by assumption) rfl (by assumption) (own_nlt1 h1) (by assumption) (own_irr _) (by assumption) rfl rfl rfl (by assumption) (fun q => hO ((own_A h1 ho hL).mp q)) (by assumption)
        · by_cases hG : (1 : Int32) < (p1_ &&& (2147483647 : Int32))
          · by_cases hL : (0 : Int32) < (lcmpW (((p1_ &&& (2147483647 : Int32)).toInt64) + (((((p0_.toUInt32 >>> ((1 : Int32) &&& 31).toUInt32).toInt32) % (5 : Int32)) - (2 : Int32)).toInt64)) (2147483647 : Int64))
            · exact own_law_V2gx l s _ hw tables_1 p0_ p1_ p2_ ((p1_ &&& (2147483647 : Int32))) w_DEFAULT_BACKOFF ((((p0_.toUInt32 >>> ((1 : Int32) &&& 31).toUInt32).toInt32) % (5 : Int32))) (((((p0_.toUInt32 >>> ((1 : Int32) &&& 31).toUInt32).toInt32) % (5 : Int32)) - (2 : Int32))) ((((p1_ &&& (2147483647 : Int32)).toInt64) + (((((p0_.toUInt32 >>> ((1 : Int32) &&& 31).toUInt32).toInt32) % (5 : Int32)) - (2 : Int32)).toInt64))) s.heap s.heap.size (Nat.le_refl _) S_DEFAULT_BACKOFF (by assumption) rfl (by assumption) (own_nlt1 h1) (by assumption) (own_irr _) (by assumption) (own_pred h1) rfl rfl rfl (by assumption)
            · by_cases hO : ((((p0_.toUInt32 >>> ((1 : Int32) &&& 31).toUInt32).toInt32) % (5 : Int32)) - (2 : Int32)) < (0 : Int32)
              · exact own_law_V2gl l s _ hw tables_1 p0_ p1_ p2_ ((p1_ &&& (2147483647 : Int32))) w_DEFAULT_BACKOFF ((((p0_.toUInt32 >>> ((1 : Int32) &&& 31).toUInt32).toInt32) % (5 : Int32))) (((((p0_.toUInt32 >>> ((1 : Int32) &&& 31).toUInt32).toInt32) % (5 : Int32)) - (2 : Int32))) ((((p1_ &&& (2147483647 : Int32)).toInt64) + (((((p0_.toUInt32 >>> ((1 : Int32) &&& 31).toUInt32).toInt32) % (5 : Int32)) - (2 : Int32)).toInt64))) s.heap s.heap.size (Nat.le_refl _) S_DEFAULT_BACKOFF (by assumption) rfl (by assumption) (own_nlt1 h1) (by assumption) (own_irr _) (by assumption) (own_pred h1) rfl rfl rfl (by assumption) ((own_A h1 ho hL).mpr hO) (by assumption)
              · exact own_law_V2gg l s _ hw tables_1 p0_ p1_ p2_ ((p1_ &&& (2147483647 : Int32))) w_DEFAULT_BACKOFF ((((p0_.toUInt32 >>> ((1 : Int32) &&& 31).toUInt32).toInt32) % (5 : Int32))) (((((p0_.toUInt32 >>> ((1 : Int32) &&& 31).toUInt32).toInt32) % (5 : Int32)) - (2 : Int32))) ((((p1_ &&& (2147483647 : Int32)).toInt64) + (((((p0_.toUInt32 >>> ((1 : Int32) &&& 31).toUInt32).toInt32) % (5 : Int32)) - (2 : Int32)).toInt64))) s.heap s.heap.size (Nat.le_refl _) S_DEFAULT_BACKOFF (by assumption) rfl (by assumption) (own_nlt1 h1) (by assumption) (own_irr _) (by assumption) (own_pred h1) rfl rfl rfl (by assumption) (fun q => hO ((own_A h1 ho hL).mp q)) (by assumption)
          · have hL := own_B (m := (p1_ &&& (2147483647 : Int32))) h1 (own_eq1 h1 hG) ho
            by_cases hO : ((((p0_.toUInt32 >>> ((1 : Int32) &&& 31).toUInt32).toInt32) % (5 : Int32)) - (2 : Int32)) < (0 : Int32)
            · exact own_law_V1gl l s _ hw tables_1 p0_ p1_ p2_ ((p1_ &&& (2147483647 : Int32))) w_DEFAULT_BACKOFF ((((p0_.toUInt32 >>> ((1 : Int32) &&& 31).toUInt32).toInt32) % (5 : Int32))) (((((p0_.toUInt32 >>> ((1 : Int32) &&& 31).toUInt32).toInt32) % (5 : Int32)) - (2 : Int32))) ((((p1_ &&& (2147483647 : Int32)).toInt64) + (((((p0_.toUInt32 >>> ((1 : Int32) &&& 31).toUInt32).toInt32) % (5 : Int32)) - (2 : Int32)).toInt64))) s.heap s.heap.size (Nat.le_refl _) S_DEFAULT_BACKOFF (by assumption) rfl (by assumption) (own_nlt1 h1) (by assumption) (own_irr _) (by assumption) rfl rfl rfl (by assumption) ((own_A h1 ho hL).mpr hO) (by assumption)
            · exact own_law_V1gg l s _ hw tables_1 p0_ p1_ p2_ ((p1_ &&& (2147483647 : Int32))) w_DEFAULT_BACKOFF ((((p0_.toUInt32 >>> ((1 : Int32) &&& 31).toUInt32).toInt32) % (5 : Int32))) (((((p0_.toUInt32 >>> ((1 : Int32) &&& 31).toUInt32).toInt32) % (5 : Int32)) - (2 : Int32))) ((((p1_ &&& (2147483647 : Int32)).toInt64) + (((((p0_.toUInt32 >>> ((1 : Int32) &&& 31).toUInt32).toInt32) % (5 : Int32)) - (2 : Int32)).toInt64))) s.heap s.heap.size (Nat.le_refl _) S_DEFAULT_BACKOFF (by assumption) rfl (by assumption) (own_nlt1 h1) (by assumption) (own_irr _) (by assumption) rfl rfl rfl (by assumption) (fun q => hO ((own_A h1 ho hL).mp q)) (by assumption)
    · have h1 : 1 ≤ (5 : Int32).toInt := by decide
      have hL := own_B (m := (5 : Int32)) h1 (by decide) ho
      by_cases hM : (p1_ &&& (2147483647 : Int32)) = (0 : Int32)
      · by_cases hC : p2_ < (5 : Int32)
        · by_cases hO : ((((p0_.toUInt32 >>> ((1 : Int32) &&& 31).toUInt32).toInt32) % (5 : Int32)) - (2 : Int32)) < (0 : Int32)
          · exact own_law_Dzll l s _ hw tables_1 p0_ p1_ p2_ ((p1_ &&& (2147483647 : Int32))) w_DEFAULT_BACKOFF ((((p0_.toUInt32 >>> ((1 : Int32) &&& 31).toUInt32).toInt32) % (5 : Int32))) (((((p0_.toUInt32 >>> ((1 : Int32) &&& 31).toUInt32).toInt32) % (5 : Int32)) - (2 : Int32))) ((((5 : Int32).toInt64) + (((((p0_.toUInt32 >>> ((1 : Int32) &&& 31).toUInt32).toInt32) % (5 : Int32)) - (2 : Int32)).toInt64))) s.heap s.heap.size (Nat.le_refl _) S_DEFAULT_BACKOFF (by assumption) rfl (by assumption) (by assumption) rfl rfl rfl (by assumption) ((own_A h1 ho hL).mpr hO) (by assumption)
          · exact own_law_Dzlg l s _ hw tables_1 p0_ p1_ p2_ ((p1_ &&& (2147483647 : Int32))) w_DEFAULT_BACKOFF ((((p0_.toUInt32 >>> ((1 : Int32) &&& 31).toUInt32).toInt32) % (5 : Int32))) (((((p0_.toUInt32 >>> ((1 : Int32) &&& 31).toUInt32).toInt32) % (5 : Int32)) - (2 : Int32))) ((((5 : Int32).toInt64) + (((((p0_.toUInt32 >>> ((1 : Int32) &&& 31).toUInt32).toInt32) % (5 : Int32)) - (2 : Int32)).toInt64))) s.heap s.heap.size (Nat.le_refl _) S_DEFAULT_BACKOFF (by assumption) rfl (by assumption) (by assumption) rfl rfl rfl (by assumption) (fun q => hO ((own_A h1 ho hL).mp q)) (by assumption)
        · by_cases hO : ((((p0_.toUInt32 >>> ((1 : Int32) &&& 31).toUInt32).toInt32) % (5 : Int32)) - (2 : Int32)) < (0 : Int32)
          · exact own_law_Dzgl l s _ hw tables_1 p0_ p1_ p2_ ((p1_ &&& (2147483647 : Int32))) w_DEFAULT_BACKOFF ((((p0_.toUInt32 >>> ((1 : Int32) &&& 31).toUInt32).toInt32) % (5 : Int32))) (((((p0_.toUInt32 >>> ((1 : Int32) &&& 31).toUInt32).toInt32) % (5 : Int32)) - (2 : Int32))) ((((5 : Int32).toInt64) + (((((p0_.toUInt32 >>> ((1 : Int32) &&& 31).toUInt32).toInt32) % (5 : Int32)) - (2 : Int32)).toInt64))) s.heap s.heap.size (Nat.le_refl _) S_DEFAULT_BACKOFF (by assumption) rfl (by assumption) (by assumption) rfl rfl rfl (by assumption) ((own_A h1 ho hL).mpr hO) (by assumption)
          · exact own_law_Dzgg l s _ hw tables_1 p0_ p1_ p2_ ((p1_ &&& (2147483647 : Int32))) w_DEFAULT_BACKOFF ((((p0_.toUInt32 >>> ((1 : Int32) &&& 31).toUInt32).toInt32) % (5 : Int32))) (((((p0_.toUInt32 >>> ((1 : Int32) &&& 31).toUInt32).toInt32) % (5 : Int32)) - (2 : Int32))) ((((5 : Int32).toInt64) + (((((p0_.toUInt32 >>> ((1 : Int32) &&& 31).toUInt32).toInt32) % (5 : Int32)) - (2 : Int32)).toInt64))) s.heap s.heap.size (Nat.le_refl _) S_DEFAULT_BACKOFF (by assumption) rfl (by assumption) (by assumption) rfl rfl rfl (by assumption) (fun q => hO ((own_A h1 ho hL).mp q)) (by assumption)
      · by_cases hC : p2_ < (5 : Int32)
        · by_cases hO : ((((p0_.toUInt32 >>> ((1 : Int32) &&& 31).toUInt32).toInt32) % (5 : Int32)) - (2 : Int32)) < (0 : Int32)
          · exact own_law_Dnll l s _ hw tables_1 p0_ p1_ p2_ ((p1_ &&& (2147483647 : Int32))) w_DEFAULT_BACKOFF ((((p0_.toUInt32 >>> ((1 : Int32) &&& 31).toUInt32).toInt32) % (5 : Int32))) (((((p0_.toUInt32 >>> ((1 : Int32) &&& 31).toUInt32).toInt32) % (5 : Int32)) - (2 : Int32))) ((((5 : Int32).toInt64) + (((((p0_.toUInt32 >>> ((1 : Int32) &&& 31).toUInt32).toInt32) % (5 : Int32)) - (2 : Int32)).toInt64))) s.heap s.heap.size (Nat.le_refl _) S_DEFAULT_BACKOFF (by assumption) rfl (by assumption) (by assumption) rfl rfl rfl (by assumption) ((own_A h1 ho hL).mpr hO) (by assumption)
          · exact own_law_Dnlg l s _ hw tables_1 p0_ p1_ p2_ ((p1_ &&& (2147483647 : Int32))) w_DEFAULT_BACKOFF ((((p0_.toUInt32 >>> ((1 : Int32) &&& 31).toUInt32).toInt32) % (5 : Int32))) (((((p0_.toUInt32 >>> ((1 : Int32) &&& 31).toUInt32).toInt32) % (5 : Int32)) - (2 : Int32))) ((((5 : Int32).toInt64) + (((((p0_.toUInt32 >>> ((1 : Int32) &&& 31).toUInt32).toInt32) % (5 : Int32)) - (2 : Int32)).toInt64))) s.heap s.heap.size (Nat.le_refl _) S_DEFAULT_BACKOFF (by assumption) rfl (by assumption) (by assumption) rfl rfl rfl (by assumption) (fun q => hO ((own_A h1 ho hL).mp q)) (by assumption)
        · by_cases hO : ((((p0_.toUInt32 >>> ((1 : Int32) &&& 31).toUInt32).toInt32) % (5 : Int32)) - (2 : Int32)) < (0 : Int32)
          · exact own_law_Dngl l s _ hw tables_1 p0_ p1_ p2_ ((p1_ &&& (2147483647 : Int32))) w_DEFAULT_BACKOFF ((((p0_.toUInt32 >>> ((1 : Int32) &&& 31).toUInt32).toInt32) % (5 : Int32))) (((((p0_.toUInt32 >>> ((1 : Int32) &&& 31).toUInt32).toInt32) % (5 : Int32)) - (2 : Int32))) ((((5 : Int32).toInt64) + (((((p0_.toUInt32 >>> ((1 : Int32) &&& 31).toUInt32).toInt32) % (5 : Int32)) - (2 : Int32)).toInt64))) s.heap s.heap.size (Nat.le_refl _) S_DEFAULT_BACKOFF (by assumption) rfl (by assumption) (by assumption) rfl rfl rfl (by assumption) ((own_A h1 ho hL).mpr hO) (by assumption)
          · exact own_law_Dngg l s _ hw tables_1 p0_ p1_ p2_ ((p1_ &&& (2147483647 : Int32))) w_DEFAULT_BACKOFF ((((p0_.toUInt32 >>> ((1 : Int32) &&& 31).toUInt32).toInt32) % (5 : Int32))) (((((p0_.toUInt32 >>> ((1 : Int32) &&& 31).toUInt32).toInt32) % (5 : Int32)) - (2 : Int32))) ((((5 : Int32).toInt64) + (((((p0_.toUInt32 >>> ((1 : Int32) &&& 31).toUInt32).toInt32) % (5 : Int32)) - (2 : Int32)).toInt64))) s.heap s.heap.size (Nat.le_refl _) S_DEFAULT_BACKOFF (by assumption) rfl (by assumption) (by assumption) rfl rfl rfl (by assumption) (fun q => hO ((own_A h1 ho hL).mp q)) (by assumption)
  obtain ⟨n, o, h1, h2, h3, _, L, rfl, ⟨rfl, N⟩, hq⟩ := key p e ha hc hk s m _ below hf ((Spec.applies_iff_loose hf).mp happ).1 ⟨rfl, State.Warmed39.refl s, rfl⟩ trivial
  refine ⟨n, _, h1, h2, h3, hpost _ _ _ _ _ _ ⟨Cond.after_iff.mpr rfl, Cond.after_iff.mpr (eq_i res_at (Term.int_eval (1)) rfl), trivial⟩ ⟨hq.1, hq.2.1, (hq.2.2.sift fun y hy => Or.inr (N y hy)).mono (by decide) (by decide)⟩⟩
theorem main_1_1 : Claimed_1_1 := comes_1 fun _ _ _ _ _ _ h hF => ⟨h.1, hF⟩
theorem main_1_2 : Claimed_1_2 := comes_1 fun _ _ _ _ _ _ h hF => ⟨h.2.1, hF⟩
end Jvm.Pilot.@@N@@
namespace Jvm.Pilot.@@N@@
open Jvm Jvm.ClassFile Sem Op Lib Jvm.Free Jvm.Stand Jvm.Pilot.@@N@@.Jvm.D
/-! MADE BY PROGRAM (witnessworld.py) out of the Statement's table words and the real class files: 11 classes; the members and pool entries that the words name. The judged class is class 1, her method 1. -/
namespace start1
open Jvm.ClassFile
def u (s : String) : CpInfo := .utf8 (stringToUtf16 s)
/-- a pool by its gaps: so many unusable entries, then the entry; so many at the end -/
def gap : Nat → List CpInfo → List CpInfo
  | 0, r => r
  | n + 1, r => .unusable :: gap n r
def poolList (es : List (Nat × CpInfo)) (last : Nat) : List CpInfo := es.foldr (fun e r => gap e.1 (e.2 :: r)) (gap last [])
def pool (es : List (Nat × CpInfo)) (last : Nat) : Array CpInfo := ⟨poolList es last⟩
def fileOf (pool : Array CpInfo) (this : Nat) (attrs : Array Attribute := #[]) (ms : Array MethodInfo := #[]) (fl : Nat := 33) (sup : Nat := 0) (ifs : Array Nat := #[]) (fds : Array FieldInfo := #[]) : ClassFile where
  minorVersion := 0
  majorVersion := 65
  constantPool := pool
  accessFlags := fl
  thisClass := this
  superClass := sup
  interfaces := ifs
  fields := fds
  methods := ms
  attributes := attrs
def plain (name : String) (sup : Option ClassId) : Class where
  name := name
  kind := .ordinary
  loader := none
  accessFlags := 33
  super := sup
  interfaces := #[]
  cf := none
  fields := #[]
  methods := #[]
  instanceTypes := #[]
  staticTypes := #[]
  resolved := #[]
  callSites := []
  init := .initialized
  statics := none
  mirror := none

def pool0 : Array CpInfo := pool [(5, u "<init>"), (0, u "()V"), (1, .class_ 10), (1, u "java/lang/Object")] 113

def k0c0 : Code := { maxStack := 0, maxLocals := 1, code := object_method_1_code, exceptionTable := #[], attributes := #[] }
def k0m0 : Method := { name := "<init>", desc := "()V", sig := { parameters := [], returnType := none }, accessFlags := 1, code := some k0c0 }
/-- java/lang/Object -/
def k0 : Class := { plain "java/lang/Object" none with
  accessFlags := 33
  interfaces := #[]
  cf := some (fileOf pool0 8 #[] #[{ accessFlags := 1, nameIndex := 5, descriptorIndex := 6, attributes := #[] }] 33 0 #[] #[])
  fields := #[]
  methods := #[k0m0]
  instanceTypes := #[]
  staticTypes := #[]
  resolved := Array.replicate 124 none
  statics := none }

def pool1 : Array CpInfo := pool [(2, .class_ 4), (0, .nameAndType 5 6), (0, u "java/lang/Object"), (0, u "<init>"), (0, u "()V"), (0, .integer 2147483647), (0, .class_ 9), (0, u "com/example/mersey/mersey/JobTypeSettings"), (0, .methodref 8 3), (0, .methodref 8 12), (0, .nameAndType 13 14), (0, u "withMaxAttempts"), (0, u "(I)Lcom/example/mersey/mersey/JobTypeSettings;"), (0, .methodref 8 16), (0, .nameAndType 17 18), (0, u "isLastAttempt"), (0, u "(I)Z"), (2, .long 2147483647), (1, .class_ 24), (0, u "com/example/mersey/mersey/JobTypeSettingsIsLastAttemptPinLaw"), (2, u "law"), (0, u "(III)Z")] 3

def k1m0 : Method := { name := "<init>", desc := "()V", sig := { parameters := [], returnType := none }, accessFlags := 1, code := none }
def k1c1 : Code := { maxStack := 4, maxLocals := 11, code := code, exceptionTable := #[], attributes := #[] }
def k1m1 : Method := { name := "law", desc := "(III)Z", sig := { parameters := [.int, .int, .int], returnType := some .boolean }, accessFlags := 9, code := some k1c1 }
/-- com/example/mersey/mersey/JobTypeSettingsIsLastAttemptPinLaw -/
def k1 : Class := { plain "com/example/mersey/mersey/JobTypeSettingsIsLastAttemptPinLaw" (some 0) with
  accessFlags := 49
  interfaces := #[]
  cf := some (fileOf pool1 23 #[] #[{ accessFlags := 1, nameIndex := 5, descriptorIndex := 6, attributes := #[] }, { accessFlags := 9, nameIndex := 27, descriptorIndex := 28, attributes := #[] }] 49 2 #[] #[])
  fields := #[]
  methods := #[k1m0, k1m1]
  instanceTypes := #[]
  staticTypes := #[]
  resolved := Array.replicate 32 none
  statics := none }

def pool2 : Array CpInfo := pool [(1, .methodref 2 3), (0, .class_ 4), (0, .nameAndType 5 6), (0, u "java/lang/Object"), (0, u "<init>"), (0, u "()V"), (0, .class_ 8), (0, u "com/example/mersey/mersey/JobTypeSettings"), (0, .fieldref 7 10), (0, .nameAndType 11 12), (0, u "maxAttempts"), (0, u "I"), (0, .fieldref 7 14), (0, .nameAndType 15 16), (0, u "DEFAULT_BACKOFF"), (0, u "Lcom/example/mersey/mersey/Backoff;"), (0, .fieldref 7 18), (0, .nameAndType 19 16), (0, u "backoff"), (0, .fieldref 7 21), (0, .nameAndType 22 23), (0, u "longestRunTime"), (0, u "Ljava/time/Duration;"), (6, .methodref 7 31), (0, .nameAndType 5 32), (0, u "(Lcom/example/mersey/mersey/JobTypeSettings;)V"), (34, u "isLastAttempt"), (0, u "(I)Z"), (39, u "DEFAULT_MAX_ATTEMPTS"), (9, u "withMaxAttempts"), (0, u "(I)Lcom/example/mersey/mersey/JobTypeSettings;")] 31

def k2c0 : Code := { maxStack := 2, maxLocals := 1, code := prog_12_method_1_code, exceptionTable := #[], attributes := #[] }
def k2m0 : Method := { name := "<init>", desc := "()V", sig := { parameters := [], returnType := none }, accessFlags := 1, code := some k2c0 }
def k2c1 : Code := { maxStack := 2, maxLocals := 2, code := prog_12_method_2_code, exceptionTable := #[], attributes := #[] }
def k2m1 : Method := { name := "<init>", desc := "(Lcom/example/mersey/mersey/JobTypeSettings;)V", sig := { parameters := [(.object "com/example/mersey/mersey/JobTypeSettings")], returnType := none }, accessFlags := 2, code := some k2c1 }
def k2c2 : Code := { maxStack := 3, maxLocals := 3, code := prog_12_method_6_code, exceptionTable := #[], attributes := #[] }
def k2m2 : Method := { name := "withMaxAttempts", desc := "(I)Lcom/example/mersey/mersey/JobTypeSettings;", sig := { parameters := [.int], returnType := some (.object "com/example/mersey/mersey/JobTypeSettings") }, accessFlags := 1, code := some k2c2 }
def k2c3 : Code := { maxStack := 2, maxLocals := 2, code := prog_12_method_9_code, exceptionTable := #[], attributes := #[] }
def k2m3 : Method := { name := "isLastAttempt", desc := "(I)Z", sig := { parameters := [.int], returnType := some .boolean }, accessFlags := 0, code := some k2c3 }
/-- com/example/mersey/mersey/JobTypeSettings -/
def k2 : Class := { plain "com/example/mersey/mersey/JobTypeSettings" (some 0) with
  accessFlags := 49
  interfaces := #[]
  cf := some (fileOf pool2 7 #[] #[{ accessFlags := 1, nameIndex := 5, descriptorIndex := 6, attributes := #[] }, { accessFlags := 2, nameIndex := 5, descriptorIndex := 32, attributes := #[] }, { accessFlags := 1, nameIndex := 118, descriptorIndex := 119, attributes := #[] }, { accessFlags := 0, nameIndex := 67, descriptorIndex := 68, attributes := #[] }] 49 2 #[] #[{ accessFlags := 25, nameIndex := 108, descriptorIndex := 12, attributes := #[] }, { accessFlags := 25, nameIndex := 15, descriptorIndex := 16, attributes := #[] }, { accessFlags := 2, nameIndex := 22, descriptorIndex := 23, attributes := #[] }, { accessFlags := 2, nameIndex := 11, descriptorIndex := 12, attributes := #[] }, { accessFlags := 2, nameIndex := 19, descriptorIndex := 16, attributes := #[] }])
  fields := #[{ name := "DEFAULT_MAX_ATTEMPTS", type := .int, accessFlags := 25, slot := 0, constantValue := 0 }, { name := "DEFAULT_BACKOFF", type := (.object "com/example/mersey/mersey/Backoff"), accessFlags := 25, slot := 1, constantValue := 0 }, { name := "longestRunTime", type := (.object "java/time/Duration"), accessFlags := 2, slot := 0, constantValue := 0 }, { name := "maxAttempts", type := .int, accessFlags := 2, slot := 1, constantValue := 0 }, { name := "backoff", type := (.object "com/example/mersey/mersey/Backoff"), accessFlags := 2, slot := 2, constantValue := 0 }]
  methods := #[k2m0, k2m1, k2m2, k2m3]
  instanceTypes := #[(.object "java/time/Duration"), .int, (.object "com/example/mersey/mersey/Backoff")]
  staticTypes := #[.int, (.object "com/example/mersey/mersey/Backoff")]
  resolved := Array.replicate 151 none
  statics := some 0 }

def pool3 : Array CpInfo := pool [(2, .class_ 4), (1, u "java/lang/Object"), (0, u "<init>"), (0, u "()V"), (0, .class_ 8), (0, u "java/lang/Record")] 13

def k3m0 : Method := { name := "<init>", desc := "()V", sig := { parameters := [], returnType := none }, accessFlags := 4, code := none }
/-- java/lang/Record -/
def k3 : Class := { plain "java/lang/Record" (some 0) with
  accessFlags := 1057
  interfaces := #[]
  cf := some (fileOf pool3 7 #[] #[{ accessFlags := 4, nameIndex := 5, descriptorIndex := 6, attributes := #[] }] 1057 2 #[] #[])
  fields := #[]
  methods := #[k3m0]
  instanceTypes := #[]
  staticTypes := #[]
  resolved := Array.replicate 22 none
  statics := none }

def pool4 : Array CpInfo := pool [(2, .class_ 4), (1, u "java/lang/Record"), (3, u "first"), (9, u "cap"), (24, .class_ 45), (1, u "com/example/mersey/mersey/Backoff"), (0, u "Ljava/time/Duration;")] 65

/-- com/example/mersey/mersey/Backoff -/
def k4 : Class := { plain "com/example/mersey/mersey/Backoff" (some 3) with
  accessFlags := 49
  interfaces := #[]
  cf := some (fileOf pool4 43 #[] #[] 49 2 #[] #[{ accessFlags := 18, nameIndex := 8, descriptorIndex := 46, attributes := #[] }, { accessFlags := 18, nameIndex := 18, descriptorIndex := 46, attributes := #[] }])
  fields := #[{ name := "first", type := (.object "java/time/Duration"), accessFlags := 18, slot := 0, constantValue := 0 }, { name := "cap", type := (.object "java/time/Duration"), accessFlags := 18, slot := 1, constantValue := 0 }]
  methods := #[]
  instanceTypes := #[(.object "java/time/Duration"), (.object "java/time/Duration")]
  staticTypes := #[]
  resolved := Array.replicate 112 none
  statics := none }

def pool5 : Array CpInfo := pool [(1, u "java/lang/Cloneable"), (0, .class_ 1), (0, u "java/lang/Object"), (0, .class_ 3)] 3

/-- java/lang/Cloneable -/
def k5 : Class := { plain "java/lang/Cloneable" (some 0) with
  accessFlags := 1537
  interfaces := #[]
  cf := some (fileOf pool5 2 #[] #[] 1537 4 #[] #[])
  fields := #[]
  methods := #[]
  instanceTypes := #[]
  staticTypes := #[]
  resolved := Array.replicate 8 none
  statics := none }

def pool6 : Array CpInfo := pool [(1, u "java/io/Serializable"), (0, .class_ 1), (0, u "java/lang/Object"), (0, .class_ 3)] 3

/-- java/io/Serializable -/
def k6 : Class := { plain "java/io/Serializable" (some 0) with
  accessFlags := 1537
  interfaces := #[]
  cf := some (fileOf pool6 2 #[] #[] 1537 4 #[] #[])
  fields := #[]
  methods := #[]
  instanceTypes := #[]
  staticTypes := #[]
  resolved := Array.replicate 8 none
  statics := none }

/-- the primitive byte -/
def k7 : Class := { plain "byte" none with kind := .primitive 'B', accessFlags := 0x411 }
/-- [B -/
def k8 : Class := { plain "[B" (some 0) with kind := .array 7 .byte, interfaces := #[5, 6], accessFlags := 1041 }

/-- the primitive int -/
def k9 : Class := { plain "int" none with kind := .primitive 'I', accessFlags := 0x411 }
/-- [I -/
def k10 : Class := { plain "[I" (some 0) with kind := .array 9 .int, interfaces := #[5, 6], accessFlags := 1041 }

def heap : Heap := #[{ cls := 2, slots := #[.int 0, .ref 1], vm := .statics 2 },
  { cls := 4, slots := #[.null, .null], vm := .none }]
def classes : Array Class := #[k0, k1, k2, k3, k4, k5, k6, k7, k8, k9, k10]
def interned : List (Array UInt16 × Addr) := []
def slotsUsed : Nat := 4
def theMethod : MethodId := ⟨1, 1⟩
def args0 : Array Value := #[.int 5, .int 5, .int 5]
def aboutOver (below : List Frame) : State where
  vm := { classes := classes, interned := interned.toArray }
  heap := heap
  slotsUsed := slotsUsed
  threads := #[{ frames := .invoking theMethod args0 :: below }]
def below0 : List Frame := [.native { method := ⟨0, 0⟩, args := #[] }]
def about1 : State := aboutOver below0
def p0 : Program := .bare "" "" ""
def e0 : Env := launch0.env 0 0 0
theorem w_frames : about1.frames = Frame.invoking theMethod args0 :: below0 := rfl
set_option maxRecDepth 65536 in
theorem w_args : argsFit about1.vm theMethod args0 = true := by decide +kernel
set_option maxRecDepth 65536 in
theorem w_heap : heapFits about1 = true := by decide +kernel
set_option maxRecDepth 65536 in
theorem w_runnable : about1.curStatus? = some .runnable := by decide +kernel
set_option maxRecDepth 65536 in
theorem w_alone : about1.alone = true := by decide +kernel
set_option maxRecDepth 65536 in
theorem w_named : about1.methodNamed? x = some theMethod := by decide +kernel
set_option maxRecDepth 65536 in
theorem w_hears : about1.hears theMethod below0 = true := by decide +kernel
set_option maxRecDepth 65536 in
theorem w_ripe : about1.ripe theMethod args0 below0 = true := by decide +kernel
theorem w_running : about1.status = .running := rfl
set_option maxRecDepth 65536 in
theorem w_room : about1.hasRoom e0.platform room_1 = true :=
  launch0.hasRoom_least _ room_1 (by decide +kernel) (by decide +kernel) (by decide +kernel) (by decide +kernel) (by decide +kernel) (by decide +kernel)
theorem allAtoms_all (ts : List Jvm.Cond) (a : Array Jvm.Value) (st : Jvm.State) : (allAtoms ts).before a st = ts.all (fun c => c.before a st) := by
  induction ts with
  | nil => rfl
  | cons c t ih =>
    show (Jvm.Cond.and c (allAtoms t)).before a st = _
    rw [Jvm.Cond.before_and, ih, List.all_cons]
def words1 : List Jvm.Cond := Jvm.Cond.code x code maxLocals ret :: tables_1
/-- a 'code' word, met by the world's own term for the bytes: nothing is compared byte by byte -/
theorem code_word {y : MethodName} {bytes : ByteArray} {mx : Nat} {rt : Option FieldType} {a : Array Value} {s : State} {m : MethodId} {meth : Method} {c : Code} (h1 : s.methodNamed? y = some m) (h2 : s.vm.method? m = some meth) (h3 : meth.code = some c) (h4 : c.code = bytes)
    (h5 : (c.maxLocals == mx && c.exceptionTable.isEmpty && decide (c.maxStack ≤ mostOperands) && decide (meth.sig.returnType = rt) && !meth.locks && decide (parseMethodDescriptor y.desc = some meth.sig)) = true) : (Jvm.Cond.code y bytes mx rt).before a s = true := by
  simp only [Bool.and_eq_true, beq_iff_eq, Bool.not_eq_true', decide_eq_true_eq] at h5
  obtain ⟨⟨⟨⟨⟨g1, g2⟩, g3⟩, g4⟩, g5⟩, g6⟩ := h5
  simp [Cond.before, Cond.holds, Cond.value, h1, h2, h3, h4, g1, g2, g3, g4, g5, g6]
def isCode : Jvm.Cond → Bool
  | .code _ _ _ _ => true
  | _ => false
theorem all_split {L : List Jvm.Cond} {P : Jvm.Cond → Bool} (h1 : L.all (fun c => isCode c || P c) = true) (h2 : ∀ c ∈ L.filter isCode, P c = true) : L.all P = true := by
  refine List.all_eq_true.mpr fun c hc => ?_
  have h := List.all_eq_true.mp h1 c hc
  rcases Bool.eq_false_or_eq_true (isCode c) with hi | hi
  · exact h2 c (List.mem_filter.mpr ⟨hc, hi⟩)
  · simpa [hi] using h
set_option maxRecDepth 65536 in
theorem w_c0 : (Jvm.Cond.code x code maxLocals ret).before args0 about1 = true := code_word (m := ⟨1, 1⟩) (meth := k1m1) (c := k1c1) (by decide +kernel) rfl rfl rfl (by decide +kernel)
set_option maxRecDepth 65536 in
theorem w_c1 : (Jvm.Cond.code ({ cls := "com/example/mersey/mersey/JobTypeSettings", name := "<init>", desc := "()V" } : Jvm.MethodName) prog_12_method_1_code (1 : Nat) (Option.none : Option Jvm.ClassFile.FieldType)).before args0 about1 = true := code_word (m := ⟨2, 0⟩) (meth := k2m0) (c := k2c0) (by decide +kernel) rfl rfl rfl (by decide +kernel)
set_option maxRecDepth 65536 in
theorem w_c2 : (Jvm.Cond.code ({ cls := "java/lang/Object", name := "<init>", desc := "()V" } : Jvm.MethodName) object_method_1_code (1 : Nat) (Option.none : Option Jvm.ClassFile.FieldType)).before args0 about1 = true := code_word (m := ⟨0, 0⟩) (meth := k0m0) (c := k0c0) (by decide +kernel) rfl rfl rfl (by decide +kernel)
set_option maxRecDepth 65536 in
theorem w_c3 : (Jvm.Cond.code ({ cls := "com/example/mersey/mersey/JobTypeSettings", name := "withMaxAttempts", desc := "(I)Lcom/example/mersey/mersey/JobTypeSettings;" } : Jvm.MethodName) prog_12_method_6_code (3 : Nat) (Option.some (Jvm.ClassFile.FieldType.object "com/example/mersey/mersey/JobTypeSettings"))).before args0 about1 = true := code_word (m := ⟨2, 2⟩) (meth := k2m2) (c := k2c2) (by decide +kernel) rfl rfl rfl (by decide +kernel)
set_option maxRecDepth 65536 in
theorem w_c4 : (Jvm.Cond.code ({ cls := "com/example/mersey/mersey/JobTypeSettings", name := "<init>", desc := "(Lcom/example/mersey/mersey/JobTypeSettings;)V" } : Jvm.MethodName) prog_12_method_2_code (2 : Nat) (Option.none : Option Jvm.ClassFile.FieldType)).before args0 about1 = true := code_word (m := ⟨2, 1⟩) (meth := k2m1) (c := k2c1) (by decide +kernel) rfl rfl rfl (by decide +kernel)
set_option maxRecDepth 65536 in
theorem w_c5 : (Jvm.Cond.code ({ cls := "com/example/mersey/mersey/JobTypeSettings", name := "isLastAttempt", desc := "(I)Z" } : Jvm.MethodName) prog_12_method_9_code (2 : Nat) (Option.some Jvm.ClassFile.FieldType.boolean)).before args0 about1 = true := code_word (m := ⟨2, 3⟩) (meth := k2m3) (c := k2c3) (by decide +kernel) rfl rfl rfl (by decide +kernel)
def codes1 : List Jvm.Cond := [Jvm.Cond.code x code maxLocals ret, Jvm.Cond.code ({ cls := "com/example/mersey/mersey/JobTypeSettings", name := "<init>", desc := "()V" } : Jvm.MethodName) prog_12_method_1_code (1 : Nat) (Option.none : Option Jvm.ClassFile.FieldType), Jvm.Cond.code ({ cls := "java/lang/Object", name := "<init>", desc := "()V" } : Jvm.MethodName) object_method_1_code (1 : Nat) (Option.none : Option Jvm.ClassFile.FieldType), Jvm.Cond.code ({ cls := "com/example/mersey/mersey/JobTypeSettings", name := "withMaxAttempts", desc := "(I)Lcom/example/mersey/mersey/JobTypeSettings;" } : Jvm.MethodName) prog_12_method_6_code (3 : Nat) (Option.some (Jvm.ClassFile.FieldType.object "com/example/mersey/mersey/JobTypeSettings")), Jvm.Cond.code ({ cls := "com/example/mersey/mersey/JobTypeSettings", name := "<init>", desc := "(Lcom/example/mersey/mersey/JobTypeSettings;)V" } : Jvm.MethodName) prog_12_method_2_code (2 : Nat) (Option.none : Option Jvm.ClassFile.FieldType), Jvm.Cond.code ({ cls := "com/example/mersey/mersey/JobTypeSettings", name := "isLastAttempt", desc := "(I)Z" } : Jvm.MethodName) prog_12_method_9_code (2 : Nat) (Option.some Jvm.ClassFile.FieldType.boolean)]
set_option maxRecDepth 65536 in
theorem codes_eq : words1.filter isCode = codes1 := rfl
theorem w_codes : ∀ c ∈ words1.filter isCode, c.before args0 about1 = true := by
  rw [codes_eq]
  intro c hc
  simp only [codes1, List.mem_cons, List.not_mem_nil, or_false] at hc
  rcases hc with rfl | rfl | rfl | rfl | rfl | rfl
  · exact w_c0
  · exact w_c1
  · exact w_c2
  · exact w_c3
  · exact w_c4
  · exact w_c5
set_option maxRecDepth 65536 in
theorem w_t1 : (words1.take 24).all (fun c => isCode c || c.before args0 about1) = true := by decide +kernel
set_option maxRecDepth 65536 in
theorem w_t2 : (words1.drop 24).all (fun c => isCode c || c.before args0 about1) = true := by decide +kernel
theorem w_tables : (allAtoms (Jvm.Cond.code x code maxLocals ret :: tables_1)).before args0 about1 = true := by
  rw [allAtoms_all]
  show words1.all (fun c => c.before args0 about1) = true
  refine all_split ?_ w_codes
  rw [← List.take_append_drop 24 words1, List.all_append, w_t1, w_t2]
  rfl
set_option maxRecDepth 65536 in
theorem w_case : (Jvm.Cond.and given_1 narrow_1).before args0 about1 = true := by decide +kernel
theorem w_applies : (headSpec (Jvm.Cond.code x code maxLocals ret :: tables_1) room_1).applies x e0.platform about1 = true :=
  (Spec.applies_iff w_frames).mpr ⟨w_running, w_runnable, w_alone, w_named, w_hears, w_ripe, w_room, w_tables⟩
theorem atStart : AtStart classFile x code maxLocals ret World_1 tables_1 room_1 Calls_1 rest_1 Pre_1 launch0 p0 e0 about1 theMethod args0 below0 :=
  ⟨lists_1, trivial, launch0.admits_env _ _ _, launch0.least_env, fairChoices_fair.cas, fairChoices_fair.clock, w_frames, w_args, w_heap, w_applies, trivial, trivial, w_case⟩
end start1
theorem witness_1 : WitnessClaimed_1 := ⟨start1.p0, start1.e0, start1.about1, start1.theMethod, start1.args0, start1.below0, start1.atStart⟩
end Jvm.Pilot.@@N@@
