import JvmDerived
import JvmDerived.Pilot.@@N@@Statement
import JvmDerived.Pilot.@@N@@Code
set_option linter.unusedVariables false
set_option linter.unusedSimpArgs false
namespace Jvm.Pilot.@@N@@
open Jvm Jvm.ClassFile Sem Op Lib Jvm.Free Jvm.Stand Jvm.LawKit Jvm.RoadKit Bundle Jvm.Pilot.@@N@@.Jvm.D
section Own
variable {p : Program} {l : Launch} {e : Env} {R : Room} {s : State} {m : MethodId} {args : Array Value} {below : List Frame} {meth : Method} {c : Code} {T T' : State} {locs : List Loc} {cells slots : Nat}
variable {F : Outcome → State → List Loc → Prop} {Q : Option Value → Heap → List Loc → Prop} {ck sk : Nat} {g g' : JFrame}
def own_F (s : State) (ck sk : Nat) (o : Outcome) (t : State) (L : List Loc) : Prop := FrameEnd s o t L ck sk
/-- from the state T with the frame g on top the method comes to its end, and Q holds of what it returns, of the heap and of the places written -/
def own_E (p : Program) (e : Env) (below : List Frame) (F : Outcome → State → List Loc → Prop) (Q : Option Value → Heap → List Loc → Prop) (T : State) (g : JFrame) : Prop :=
  ∃ s₂ o, Steps p.tables e below (T.setTop g) s₂ ∧ s₂.status = .running ∧ Ended s₂ below o ∧ ∃ v L, o = .returned v ∧ Q v s₂.heap L ∧ F o s₂ L
theorem own_step (st : ∀ t, Steps p.tables e below (T'.setTop g') t → Steps p.tables e below (T.setTop g) t) (k : own_E p e below F Q T' g') : own_E p e below F Q T g := by
  obtain ⟨s2, o, h, r⟩ := k
  exact ⟨s2, o, st _ h, r⟩
theorem own_cast (q : g = g') (k : own_E p e below F Q T g') : own_E p e below F Q T g := q ▸ k
theorem own_ret (X : Stand p l e R s m args below meth c T locs cells slots) (hx : p.tables.exec = Jvm.exec) (hlk : meth.locks = false) {pc : Nat} {Ls : Array Slot} {w : Value} {t : FieldType} {i : Instr} {rest : List Value} (hret : meth.sig.returnType = some t)
    (hi : (i = .ireturn ∧ (t = .int ∨ t = .boolean ∨ t = .byte ∨ t = .char ∨ t = .short) ∧ ∃ z, w = .int z) ∨ (i = .lreturn ∧ t = .long ∧ ∃ z, w = .long z) ∨ (i = .dreturn ∧ t = .double ∧ ∃ z, w = .double z) ∨ (i = .freturn ∧ t = .float ∧ ∃ z, w = .float z) ∨ (i = .areturn ∧ t.isReference = true ∧ w.isRef = true))
    (hd : decode c.code pc = .ok (i, 1)) (hn : narrow t w = w) (hc : cells ≤ ck) (hs : slots ≤ sk) (hQ : Q (some w) T.heap locs) : own_E p e below (own_F s ck sk) Q T (mkF m pc Ls (w :: rest)) := by
  obtain ⟨fs, hr, hrun, hended, hW, hsame⟩ := X.leave (v := some w) (fun h => by rw [hret] at h; cases h) hlk
  exact ⟨_, _, retOut X hx hret hn hi hd hr, hrun, hended, _, _, rfl, hQ, ⟨_, rfl⟩, hW, hsame.mono hc hs⟩
theorem own_retI (X : Stand p l e R s m args below meth c T locs cells slots) (hx : p.tables.exec = Jvm.exec) (hlk : meth.locks = false) {pc : Nat} {Ls : Array Slot} {z : Int32} {t : FieldType} {rest : List Value} (hret : meth.sig.returnType = some t)
    (ht : t = .int ∨ t = .boolean ∨ t = .byte ∨ t = .char ∨ t = .short) (hd : decode c.code pc = .ok (.ireturn, 1)) (hn : narrow t (.int z) = .int z) (hc : cells ≤ ck) (hs : slots ≤ sk) (hQ : Q (some (.int z)) T.heap locs) : own_E p e below (own_F s ck sk) Q T (mkF m pc Ls (.int z :: rest)) :=
  own_ret X hx hlk hret (Or.inl ⟨rfl, ht, z, rfl⟩) hd hn hc hs hQ
theorem own_retJ (X : Stand p l e R s m args below meth c T locs cells slots) (hx : p.tables.exec = Jvm.exec) (hlk : meth.locks = false) {pc : Nat} {Ls : Array Slot} {z : Int64} {rest : List Value} (hret : meth.sig.returnType = some .long)
    (hd : decode c.code pc = .ok (.lreturn, 1)) (hc : cells ≤ ck) (hs : slots ≤ sk) (hQ : Q (some (.long z)) T.heap locs) : own_E p e below (own_F s ck sk) Q T (mkF m pc Ls (.long z :: rest)) :=
  own_ret X hx hlk hret (Or.inr (Or.inl ⟨rfl, rfl, z, rfl⟩)) hd rfl hc hs hQ
theorem own_retA (X : Stand p l e R s m args below meth c T locs cells slots) (hx : p.tables.exec = Jvm.exec) (hlk : meth.locks = false) {pc : Nat} {Ls : Array Slot} {a : Addr} {C : String} {rest : List Value} (hret : meth.sig.returnType = some (.object C))
    (hd : decode c.code pc = .ok (.areturn, 1)) (hc : cells ≤ ck) (hs : slots ≤ sk) (hQ : Q (some (.ref a)) T.heap locs) : own_E p e below (own_F s ck sk) Q T (mkF m pc Ls (.ref a :: rest)) :=
  own_ret X hx hlk hret (Or.inr (Or.inr (Or.inr (Or.inr ⟨rfl, rfl, rfl⟩)))) hd rfl hc hs hQ
theorem own_retV (X : Stand p l e R s m args below meth c T locs cells slots) (hx : p.tables.exec = Jvm.exec) (hlk : meth.locks = false) {pc : Nat} {Ls : Array Slot} (hret : meth.sig.returnType = none)
    (hd : decode c.code pc = .ok (.return_, 1)) (hc : cells ≤ ck) (hs : slots ≤ sk) (hQ : Q none T.heap locs) : own_E p e below (own_F s ck sk) Q T (mkF m pc Ls []) := by
  obtain ⟨fs, hr, hrun, hended, hW, hsame⟩ := X.leave (v := none) (fun _ => rfl) hlk
  exact ⟨_, _, X.returnOut hx hret hd hr, hrun, hended, _, _, rfl, hQ, ⟨_, rfl⟩, hW, hsame.mono hc hs⟩
/-- forks: P first, its denial second -/
theorem own_ifY (X : Stand p l e R s m args below meth c T locs cells slots) (hx : p.tables.exec = Jvm.exec) {cd : ClassFile.Cond} {x : Int32} {rest : List Value} {o : Int} {pc0 pc1 : Nat} {Ls : Array Slot} {P : Prop} [Decidable P] (hd : decode c.code pc0 = .ok (.ifCond cd o, 3)) (hP : ifCond.holds cd x = decide P)
    (ho : 0 ≤ (pc0 : Int) + o) (hp : ((pc0 : Int) + o).toNat = pc1) (hy : P → own_E p e below F Q T (mkF m pc1 Ls rest)) (hn : ¬ P → own_E p e below F Q T (mkF m (pc0 + 3) Ls rest)) : own_E p e below F Q T (mkF m pc0 Ls (.int x :: rest)) := by
  by_cases h : P
  · exact own_step (fun t k => XS.ifYes X.here hx rfl (pc0 := pc0) (pc' := pc1) rfl hd rfl (by rw [hP]; exact decide_eq_true h) ho hp k) (hy h)
  · exact own_step (fun t k => XS.ifNo X.here hx rfl hd rfl (by rw [hP]; exact decide_eq_false h) k) (hn h)
theorem own_ifN (X : Stand p l e R s m args below meth c T locs cells slots) (hx : p.tables.exec = Jvm.exec) {cd : ClassFile.Cond} {x : Int32} {rest : List Value} {o : Int} {pc0 pc1 : Nat} {Ls : Array Slot} {P : Prop} [Decidable P] (hd : decode c.code pc0 = .ok (.ifCond cd o, 3)) (hP : ifCond.holds cd x = !decide P)
    (ho : 0 ≤ (pc0 : Int) + o) (hp : ((pc0 : Int) + o).toNat = pc1) (hy : P → own_E p e below F Q T (mkF m (pc0 + 3) Ls rest)) (hn : ¬ P → own_E p e below F Q T (mkF m pc1 Ls rest)) : own_E p e below F Q T (mkF m pc0 Ls (.int x :: rest)) :=
  own_ifY X hx (P := ¬ P) hd (by rw [hP, decide_not]) ho hp hn (fun h => hy (Decidable.of_not_not h))
theorem own_icY (X : Stand p l e R s m args below meth c T locs cells slots) (hx : p.tables.exec = Jvm.exec) {cd : ClassFile.Cond} {x y : Int32} {rest : List Value} {o : Int} {pc0 pc1 : Nat} {Ls : Array Slot} {P : Prop} [Decidable P] (hd : decode c.code pc0 = .ok (.if_icmp cd o, 3)) (hP : if_icmp.holds cd x y = decide P)
    (ho : 0 ≤ (pc0 : Int) + o) (hp : ((pc0 : Int) + o).toNat = pc1) (hy : P → own_E p e below F Q T (mkF m pc1 Ls rest)) (hn : ¬ P → own_E p e below F Q T (mkF m (pc0 + 3) Ls rest)) : own_E p e below F Q T (mkF m pc0 Ls (.int y :: .int x :: rest)) := by
  by_cases h : P
  · exact own_step (fun t k => XS.icmpYes X.here hx rfl (pc0 := pc0) (pc' := pc1) rfl hd rfl (by rw [hP]; exact decide_eq_true h) ho hp k) (hy h)
  · exact own_step (fun t k => XS.icmpNo X.here hx rfl hd rfl (by rw [hP]; exact decide_eq_false h) k) (hn h)
theorem own_icN (X : Stand p l e R s m args below meth c T locs cells slots) (hx : p.tables.exec = Jvm.exec) {cd : ClassFile.Cond} {x y : Int32} {rest : List Value} {o : Int} {pc0 pc1 : Nat} {Ls : Array Slot} {P : Prop} [Decidable P] (hd : decode c.code pc0 = .ok (.if_icmp cd o, 3)) (hP : if_icmp.holds cd x y = !decide P)
    (ho : 0 ≤ (pc0 : Int) + o) (hp : ((pc0 : Int) + o).toNat = pc1) (hy : P → own_E p e below F Q T (mkF m (pc0 + 3) Ls rest)) (hn : ¬ P → own_E p e below F Q T (mkF m pc1 Ls rest)) : own_E p e below F Q T (mkF m pc0 Ls (.int y :: .int x :: rest)) :=
  own_icY X hx (P := ¬ P) hd (by rw [hP, decide_not]) ho hp hn (fun h => hy (Decidable.of_not_not h))
theorem own_i_eq (x y : Int32) : if_icmp.holds .eq x y = decide (x = y) := by
  by_cases h : x = y
  · rw [(teq h).1, decide_eq_true h]
  · rw [(feq h).1, decide_eq_false h]
theorem own_i_ne (x y : Int32) : if_icmp.holds .ne x y = !decide (x = y) := by
  by_cases h : x = y
  · rw [(teq h).2, decide_eq_true h]; rfl
  · rw [(feq h).2, decide_eq_false h]; rfl
theorem own_i_lt (x y : Int32) : if_icmp.holds .lt x y = decide (x < y) := by
  by_cases h : x < y
  · rw [(tlt h).1, decide_eq_true h]
  · rw [(flt h).1, decide_eq_false h]
theorem own_i_ge (x y : Int32) : if_icmp.holds .ge x y = !decide (x < y) := by
  by_cases h : x < y
  · rw [(tlt h).2.1, decide_eq_true h]; rfl
  · rw [(flt h).2.1, decide_eq_false h]; rfl
theorem own_i_gt (x y : Int32) : if_icmp.holds .gt x y = decide (y < x) := by
  by_cases h : y < x
  · rw [(tlt h).2.2.1, decide_eq_true h]
  · rw [(flt h).2.2.1, decide_eq_false h]
theorem own_i_le (x y : Int32) : if_icmp.holds .le x y = !decide (y < x) := by
  by_cases h : y < x
  · rw [(tlt h).2.2.2, decide_eq_true h]; rfl
  · rw [(flt h).2.2.2, decide_eq_false h]; rfl
theorem own_z_eq (x : Int32) : ifCond.holds .eq x = decide (x = 0) := (if0 _ _).trans (own_i_eq x 0)
theorem own_z_ne (x : Int32) : ifCond.holds .ne x = !decide (x = 0) := (if0 _ _).trans (own_i_ne x 0)
theorem own_z_lt (x : Int32) : ifCond.holds .lt x = decide (x < 0) := (if0 _ _).trans (own_i_lt x 0)
theorem own_z_ge (x : Int32) : ifCond.holds .ge x = !decide (x < 0) := (if0 _ _).trans (own_i_ge x 0)
theorem own_z_gt (x : Int32) : ifCond.holds .gt x = decide (0 < x) := (if0 _ _).trans (own_i_gt x 0)
theorem own_z_le (x : Int32) : ifCond.holds .le x = !decide (0 < x) := (if0 _ _).trans (own_i_le x 0)
theorem own_l_eq (x y : Int64) : ifCond.holds .eq (lcmpW x y) = decide (x = y) := (own_z_eq _).trans (decide_eq_decide.mpr (lw_eq x y))
theorem own_l_ne (x y : Int64) : ifCond.holds .ne (lcmpW x y) = !decide (x = y) := (own_z_ne _).trans (congrArg not (decide_eq_decide.mpr (lw_eq x y)))
theorem own_l_lt (x y : Int64) : ifCond.holds .lt (lcmpW x y) = decide (x < y) := (own_z_lt _).trans (decide_eq_decide.mpr (lw_lt x y))
theorem own_l_ge (x y : Int64) : ifCond.holds .ge (lcmpW x y) = !decide (x < y) := (own_z_ge _).trans (congrArg not (decide_eq_decide.mpr (lw_lt x y)))
theorem own_l_gt (x y : Int64) : ifCond.holds .gt (lcmpW x y) = decide (y < x) := (own_z_gt _).trans (decide_eq_decide.mpr (lw_gt x y))
theorem own_l_le (x y : Int64) : ifCond.holds .le (lcmpW x y) = !decide (y < x) := (own_z_le _).trans (congrArg not (decide_eq_decide.mpr (lw_gt x y)))
/-- a condition as Java's int: 1 or 0 -/
def own_b (P : Prop) [Decidable P] : Int32 := if P then 1 else 0
theorem own_b1 {P : Prop} [Decidable P] (h : P) : own_b P = 1 := if_pos h
theorem own_b0 {P : Prop} [Decidable P] (h : ¬ P) : own_b P = 0 := if_neg h
theorem own_b_ne (P : Prop) [Decidable P] : ifCond.holds .ne (own_b P) = decide P := by
  by_cases h : P
  · rw [own_b1 h, decide_eq_true h]; rfl
  · rw [own_b0 h, decide_eq_false h]; rfl
theorem own_b_eq (P : Prop) [Decidable P] : ifCond.holds .eq (own_b P) = !decide P := by
  by_cases h : P
  · rw [own_b1 h, decide_eq_true h]; rfl
  · rw [own_b0 h, decide_eq_false h]; rfl
theorem own_bn (P : Prop) [Decidable P] : narrow .boolean (.int (own_b P)) = .int (own_b P) := by
  by_cases h : P
  · rw [own_b1 h]; rfl
  · rw [own_b0 h]; rfl
end Own
theorem own_arv_skip {Z : State} {h : Heap} {a : Addr} {k : ClassId} {ty : FieldType} {z : Int32} {vs : List Value} {dv : Value} (F : Arv Z h a k ty z vs dv) (j : Int32) (i : Nat) (hj : j.toNatClampNeg = i) (h0 : ¬ j < 0) (hn : ¬ j < z) (v : Value) : Arv Z h a k ty z (vs.set i v) dv := by
  obtain ⟨c, A, r1, r2, r3, H, G⟩ := F
  have hlt : ∀ x, x < c.slots.size → i ≠ x := by
    intro x hx
    rw [r2] at hx
    rw [Int32.lt_iff_toInt_lt] at hn h0
    have e0 : (0 : Int32).toInt = 0 := rfl
    simp only [Int32.toNatClampNeg] at hj hx
    omega
  have hg : ∀ x, x < c.slots.size → (vs.set i v).getD x dv = vs.getD x dv := fun x hx => by
    simp only [List.getD_eq_getElem?_getD]; rw [List.getElem?_set_ne (hlt x hx)]
  exact ⟨c, A, r1, r2, r3, fun x hx => by rw [hg x hx]; exact H x hx, fun x hx => by rw [hg x hx]; exact G x hx⟩
abbrev own_idx (n1 p1 : Int32) : Int32 := ((((n1.toInt64 * p1.toInt64) + (99 : Int64)) / (100 : Int64)).toInt32 - (1 : Int32))
abbrev own_vs (b : Int64) : List Value := [(.long (b ||| (0 : Int64))), (.long (b ||| (1 : Int64))), (.long (b ||| (2 : Int64))), (.long (b ||| (3 : Int64))), (.long (b ||| (4 : Int64))), (.long (b ||| (5 : Int64))), (.long (b ||| (6 : Int64))), (.long (b ||| (7 : Int64)))]
theorem own_n (x : Int32) : 0 ≤ ((x &&& (2147483647 : Int32)) % (9 : Int32)).toInt ∧ ((x &&& (2147483647 : Int32)) % (9 : Int32)).toInt < 9 := by
  have h := (c_andS x 2147483647).2.2 (by decide)
  have h2 := (c_irem (x &&& 2147483647) 9 9 (by decide)).1 h
  rw [h2]; omega
theorem own_p (x : Int32) : 1 ≤ ((1 : Int32) + (x &&& (2147483647 : Int32)) % (100 : Int32)).toInt ∧ ((1 : Int32) + (x &&& (2147483647 : Int32)) % (100 : Int32)).toInt ≤ 100 := by
  have h := (c_andS x 2147483647).2.2 (by decide)
  have h2 := (c_irem (x &&& 2147483647) 100 100 (by decide)).1 h
  have h3 := c_iadd 1 ((x &&& 2147483647) % 100)
  have h4 : (1 : Int32).toInt = 1 := rfl
  have h5 := ((1 : Int32) + (x &&& (2147483647 : Int32)) % (100 : Int32)).toInt_lt
  have h6 := ((1 : Int32) + (x &&& (2147483647 : Int32)) % (100 : Int32)).le_toInt
  omega
theorem own_prod (a b : Int) (hn : 1 ≤ a ∧ a < 9) (hp : 1 ≤ b ∧ b ≤ 100) : 1 ≤ a * b ∧ a * b ≤ 800 ∧ a * b ≤ a * 100 := by
  have h1 := Int.mul_le_mul hn.1 hp.1 (by omega) (by omega)
  have h2 := Int.mul_le_mul_of_nonneg_left hp.2 (show (0 : Int) ≤ a by omega)
  refine ⟨by omega, by omega, h2⟩
theorem own_ix (n p : Int32) (hn : 1 ≤ n.toInt ∧ n.toInt < 9) (hp : 1 ≤ p.toInt ∧ p.toInt ≤ 100) : (own_idx n p).toInt = (n.toInt * p.toInt + 99) / 100 - 1 := by
  obtain ⟨m1, m2, m3⟩ := own_prod _ _ hn hp
  have e1 := c_lmul n.toInt64 p.toInt64
  rw [c_i2l, c_i2l] at e1
  generalize n.toInt * p.toInt = q at *
  have k1 : (99 : Int64).toInt = 99 := by decide
  have k2 : (100 : Int64).toInt = 100 := by decide
  have k3 : (1 : Int32).toInt = 1 := by decide
  unfold own_idx
  have g1 := (n.toInt64 * p.toInt64).toInt_lt; have g2 := (n.toInt64 * p.toInt64).le_toInt
  generalize n.toInt64 * p.toInt64 = A at *
  have e2 := c_ladd A 99
  have g3 := (A + 99).toInt_lt; have g4 := (A + 99).le_toInt
  generalize A + 99 = B at *
  have e3 := (c_ldiv B 100 100 (by decide) (by decide)).1 (by omega)
  generalize B / 100 = D at *
  have e4 := c_l2i D
  have g5 := D.toInt32.toInt_lt; have g6 := D.toInt32.le_toInt
  generalize D.toInt32 = G at *
  have e5 := c_isub G 1
  have g7 := (G - 1).toInt_lt; have g8 := (G - 1).le_toInt
  generalize G - 1 = J at *
  omega
theorem own_cases (n p : Int32) (hn : 1 ≤ n.toInt ∧ n.toInt < 9) (hp : 1 ≤ p.toInt ∧ p.toInt ≤ 100) : own_idx n p = 0 ∨ own_idx n p = 1 ∨ own_idx n p = 2 ∨ own_idx n p = 3 ∨ own_idx n p = 4 ∨ own_idx n p = 5 ∨ own_idx n p = 6 ∨ own_idx n p = 7 := by
  have h := own_ix n p hn hp
  obtain ⟨m1, m2, m3⟩ := own_prod _ _ hn hp
  generalize own_idx n p = J at *
  generalize n.toInt * p.toInt = q at *
  simp only [← Int32.toInt_inj]
  have k0 : (0 : Int32).toInt = 0 := by decide
  have k1 : (1 : Int32).toInt = 1 := by decide
  have k2 : (2 : Int32).toInt = 2 := by decide
  have k3 : (3 : Int32).toInt = 3 := by decide
  have k4 : (4 : Int32).toInt = 4 := by decide
  have k5 : (5 : Int32).toInt = 5 := by decide
  have k6 : (6 : Int32).toInt = 6 := by decide
  have k7 : (7 : Int32).toInt = 7 := by decide
  omega
theorem own_fact (b : Int64) (n p : Int32) (hn : 1 ≤ n.toInt ∧ n.toInt < 9) (hp : 1 ≤ p.toInt ∧ p.toInt ≤ 100) : ¬ own_idx n p < 0 ∧ own_idx n p < n ∧ (own_vs b).getD (own_idx n p).toNatClampNeg (.long (0 : Int64)) = .long (b ||| (own_idx n p).toInt64) := by
  have h := own_ix n p hn hp
  have hc := own_cases n p hn hp
  obtain ⟨m1, m2, m3⟩ := own_prod _ _ hn hp
  have k0 : (0 : Int32).toInt = 0 := by decide
  generalize own_idx n p = J at *
  refine ⟨?_, ?_, ?_⟩
  · rw [Int32.lt_iff_toInt_lt, k0]; generalize n.toInt * p.toInt = q at *; omega
  · rw [Int32.lt_iff_toInt_lt]; generalize n.toInt * p.toInt = q at *; omega
  · rcases hc with rfl | rfl | rfl | rfl | rfl | rfl | rfl | rfl <;> rfl
theorem own_oa (X c m : BitVec 64) (h : c &&& m = 0#64) : ((X &&& m) ||| c) &&& m = X &&& m := by
  apply BitVec.eq_of_getLsbD_eq
  intro i hi
  have w := congrArg (fun z => BitVec.getLsbD z i) h
  simp only [BitVec.getLsbD_and, BitVec.getLsbD_zero] at w
  simp only [BitVec.getLsbD_and, BitVec.getLsbD_or]
  revert w
  cases X.getLsbD i <;> cases c.getLsbD i <;> cases m.getLsbD i <;> decide
theorem own_oa2 (X c m k : BitVec 64) (h : m &&& k = 0#64) (h2 : c &&& k = c) : ((X &&& m) ||| c) &&& k = c := by
  apply BitVec.eq_of_getLsbD_eq
  intro i hi
  have w := congrArg (fun z => BitVec.getLsbD z i) h
  have w2 := congrArg (fun z => BitVec.getLsbD z i) h2
  simp only [BitVec.getLsbD_and, BitVec.getLsbD_zero] at w w2
  simp only [BitVec.getLsbD_and, BitVec.getLsbD_or]
  revert w w2
  cases X.getLsbD i <;> cases c.getLsbD i <;> cases m.getLsbD i <;> cases k.getLsbD i <;> decide
theorem own_k1 (x : Int64) (n p : Int32) (hn : 1 ≤ n.toInt ∧ n.toInt < 9) (hp : 1 ≤ p.toInt ∧ p.toInt ≤ 100) : (((x &&& (-8 : Int64)) ||| (own_idx n p).toInt64) &&& (-8 : Int64)) = (x &&& (-8 : Int64)) := by
  have hc := own_cases n p hn hp
  generalize own_idx n p = J at *
  apply Int64.toBitVec_inj.mp
  simp only [Int64.toBitVec_and, Int64.toBitVec_or]
  refine own_oa _ _ _ ?_
  rcases hc with rfl | rfl | rfl | rfl | rfl | rfl | rfl | rfl <;> decide
theorem own_k2 (x : Int64) (n p : Int32) (hn : 1 ≤ n.toInt ∧ n.toInt < 9) (hp : 1 ≤ p.toInt ∧ p.toInt ≤ 100) : ((((x &&& (-8 : Int64)) ||| (own_idx n p).toInt64) &&& (7 : Int64)).toInt32) = own_idx n p := by
  have hc := own_cases n p hn hp
  generalize own_idx n p = J at *
  have e : ((x &&& (-8 : Int64)) ||| J.toInt64) &&& (7 : Int64) = J.toInt64 := by
    apply Int64.toBitVec_inj.mp
    simp only [Int64.toBitVec_and, Int64.toBitVec_or]
    refine own_oa2 _ _ _ _ (by decide) ?_
    rcases hc with rfl | rfl | rfl | rfl | rfl | rfl | rfl | rfl <;> decide
  rw [e]
  rcases hc with rfl | rfl | rfl | rfl | rfl | rfl | rfl | rfl <;> rfl
theorem own_k3 (n p : Int32) (hn : 1 ≤ n.toInt ∧ n.toInt < 9) (hp : 1 ≤ p.toInt ∧ p.toInt ≤ 100) : (own_idx n p * (100 : Int32)) < (n * p) ∧ ¬ (((own_idx n p + (1 : Int32)) * (100 : Int32)) < (n * p)) := by
  have h := own_ix n p hn hp
  obtain ⟨m1, m2, m3⟩ := own_prod _ _ hn hp
  have e1 := c_imul n p
  generalize own_idx n p = J at *
  generalize n.toInt * p.toInt = q at *
  have g1 := (n * p).toInt_lt; have g2 := (n * p).le_toInt
  generalize n * p = A at *
  have k1 : (1 : Int32).toInt = 1 := by decide
  have k2 : (100 : Int32).toInt = 100 := by decide
  have e2 := c_imul J 100
  have g3 := (J * 100).toInt_lt; have g4 := (J * 100).le_toInt
  have e3 := c_iadd J 1
  have g5 := (J + 1).toInt_lt; have g6 := (J + 1).le_toInt
  have e4 := c_imul (J + 1) 100
  have g7 := ((J + 1) * 100).toInt_lt; have g8 := ((J + 1) * 100).le_toInt
  rw [k2] at e2 e4
  rw [k1] at e3
  rw [Int32.lt_iff_toInt_lt, Int32.lt_iff_toInt_lt]
  generalize J * 100 = B at *
  generalize (J + 1) * 100 = D at *
  omega
theorem own_ef1 (m : MethodId) (x0 : Addr) (x1 : Int32) : entryFrame m #[(.ref x0), (.int x1)] 4 = mkF m 0 #[.val (.ref x0), .val (.int x1), .unset, .unset] [] := by first | (simp [entryFrame, mkF, argsToLocals, Value.category]; done) | rfl
def own_Q1 (Z : State) (a1 : Addr) (p1 : Int32) (k1 : ClassId) (n1 : Int32) (vs : List Value) (res : Int64) (h0 : Heap) (n0 : Nat) (v : Option Value) (h : Heap) (L : List Loc) : Prop := v = some (.long res) ∧ Fr n0 L ∧ h = h0
theorem own_pn_1 : plainName "com/example/millrace/millrace/AppendLoadCommand" = true := by first | (simp [plainName, overriddenIn]; done) | decide +kernel
theorem own_d1_0 : decode prog_1_method_10_code 0 = .ok (.aload_n 0, 1) := by decide +kernel
theorem own_d1_1 : decode prog_1_method_10_code 1 = .ok (.arraylength, 1) := by decide +kernel
theorem own_d1_2 : decode prog_1_method_10_code 2 = .ok (.ifCond .ne 5, 3) := by decide +kernel
theorem own_d1_5 : decode prog_1_method_10_code 5 = .ok (.lconst 0, 1) := by decide +kernel
theorem own_d1_6 : decode prog_1_method_10_code 6 = .ok (.lreturn, 1) := by decide +kernel
theorem own_d1_7 : decode prog_1_method_10_code 7 = .ok (.aload_n 0, 1) := by decide +kernel
theorem own_d1_8 : decode prog_1_method_10_code 8 = .ok (.arraylength, 1) := by decide +kernel
theorem own_d1_9 : decode prog_1_method_10_code 9 = .ok (.i2l, 1) := by decide +kernel
theorem own_d1_10 : decode prog_1_method_10_code 10 = .ok (.iload_n 1, 1) := by decide +kernel
theorem own_d1_11 : decode prog_1_method_10_code 11 = .ok (.i2l, 1) := by decide +kernel
theorem own_d1_12 : decode prog_1_method_10_code 12 = .ok (.lmul, 1) := by decide +kernel
theorem own_d1_13 : decode prog_1_method_10_code 13 = .ok (.ldc2_w 424, 3) := by decide +kernel
theorem own_d1_16 : decode prog_1_method_10_code 16 = .ok (.ladd, 1) := by decide +kernel
theorem own_d1_17 : decode prog_1_method_10_code 17 = .ok (.ldc2_w 426, 3) := by decide +kernel
theorem own_d1_20 : decode prog_1_method_10_code 20 = .ok (.ldiv, 1) := by decide +kernel
theorem own_d1_21 : decode prog_1_method_10_code 21 = .ok (.lstore_n 2, 1) := by decide +kernel
theorem own_d1_22 : decode prog_1_method_10_code 22 = .ok (.aload_n 0, 1) := by decide +kernel
theorem own_d1_23 : decode prog_1_method_10_code 23 = .ok (.lload_n 2, 1) := by decide +kernel
theorem own_d1_24 : decode prog_1_method_10_code 24 = .ok (.l2i, 1) := by decide +kernel
theorem own_d1_25 : decode prog_1_method_10_code 25 = .ok (.iconst 1, 1) := by decide +kernel
theorem own_d1_26 : decode prog_1_method_10_code 26 = .ok (.isub, 1) := by decide +kernel
theorem own_d1_27 : decode prog_1_method_10_code 27 = .ok (.laload, 1) := by decide +kernel
theorem own_d1_28 : decode prog_1_method_10_code 28 = .ok (.lreturn, 1) := by decide +kernel
set_option maxRecDepth 65536 in
set_option maxHeartbeats 40000000 in
theorem own_rm1 (l : Launch) (Z : State) (a0 : Array Value) (hw : ∀ d ∈ tables_1, d.before a0 Z = true) (ws : List Jvm.Cond) (a1 : Addr) (p1 : Int32) (k1 : ClassId) (n1 : Int32) (vs : List Value) (res : Int64) (h0 : Heap) (n0 : Nat) (Z0 : n0 ≤ h0.size) (V : Arv Z h0 a1 k1 .long n1 vs (.long (0 : Int64))) (hz : n1 = 0 → res = 0) (hr : ¬ n1 = 0 → ¬ ((((n1.toInt64 * p1.toInt64) + (99 : Int64)) / (100 : Int64)).toInt32 - (1 : Int32)) < 0 ∧ ((((n1.toInt64 * p1.toInt64) + (99 : Int64)) / (100 : Int64)).toInt32 - (1 : Int32)) < n1 ∧ vs.getD ((((n1.toInt64 * p1.toInt64) + (99 : Int64)) / (100 : Int64)).toInt32 - (1 : Int32)).toNatClampNeg (.long (0 : Int64)) = .long res) :
    MetFree l (⟨"com/example/millrace/millrace/AppendLoadCommand", "percentile", "([JI)J"⟩ : MethodName) (head1 (Jvm.Cond.code (⟨"com/example/millrace/millrace/AppendLoadCommand", "percentile", "([JI)J"⟩ : MethodName) prog_1_method_10_code 4 (some .long) :: ws) ({ frames := 0, cells := 0, slots := 0, locals := 0 } : Room)) (fun aU U => aU = #[(.ref a1), (.int p1)] ∧ Z.Warmed39 U.vm ∧ U.heap = h0) (fun _ _ _ _ _ => True) (fun _ U o U' => ∃ v L, o = .returned v ∧ own_Q1 Z a1 p1 k1 n1 vs res h0 n0 v U'.heap L ∧ FrameEnd U o U' L 0 0) := by
  refine MetFree.of_bodySF (plainFor_of_name own_pn_1) hisR ?_
  intro p e s m args below meth c s₁ Bd hml0 hP hK
  obtain ⟨rfl, hZ, hh⟩ := hP
  have hx := Bd.exec
  have hby := Bd.bytes
  have hml : c.maxLocals = 4 := hml0
  have hown : s.vm.findClass "com/example/millrace/millrace/AppendLoadCommand" = some m.cls := findClass_of_methodNamed Bd.named
  have hnm := (name_of_methodNamed Bd.named Bd.method).1
  have hlk : meth.locks = false := Bd.notSynchronized
  have hret := Bd.returns
  have X0 : Stand p l e ({ frames := 0, cells := 0, slots := 0, locals := 0 } : Room) s m #[(.ref a1), (.int p1)] below meth c s₁ [] 0 0 := Stand.of_body Bd
  have e0 : s₁.heap = h0 := by rw [← hh, Bd.state]; rfl
  have N0 := Fr.nil n0
  have K0 := Keep.refl h0 ([] : List Addr)
  show own_E p e below (own_F s 0 0) (own_Q1 Z a1 p1 k1 n1 vs res h0 n0) s₁ (entryFrame m #[(.ref a1), (.int p1)] 4)
  refine own_cast (own_ef1 m a1 p1) ?_
  refine own_step (g' := (mkF m 1 #[.val (.ref a1), .val (.int p1), .unset, .unset] [(.ref a1)])) (fun _ k => XS.aloadN X0.here hx rfl (hb hby own_d1_0) rfl rfl k) ?_
  obtain ⟨cl1, Ar1, -, S1, G1, -, -⟩ := id V
  have al1 := X0.arraylength hx (by rw [e0]; exact Ar1.1) (State.isArrayOf_alike hZ.alike Ar1.2.1) (g := (mkF m 1 #[.val (.ref a1), .val (.int p1), .unset, .unset] [(.ref a1)])) rfl rfl (hb hby own_d1_1)
  rw [len_of S1 G1] at al1
  refine own_step (g' := (mkF m 2 #[.val (.ref a1), .val (.int p1), .unset, .unset] [(.int n1)])) (fun _ k => al1 _ k) ?_
  refine own_ifN X0 hx (P := (n1 = 0)) (hb hby own_d1_2) (own_z_ne n1) (by decide) (pc1 := 7) (by decide) (fun hc2 => ?_) (fun hc2 => ?_)
  · show own_E p e below (own_F s 0 0) (own_Q1 Z a1 p1 k1 n1 vs res h0 n0) s₁ (mkF m 5 #[.val (.ref a1), .val (.int p1), .unset, .unset] [])
    refine own_step (g' := (mkF m 6 #[.val (.ref a1), .val (.int p1), .unset, .unset] [(.long (0 : Int64))])) (fun _ k => XS.lconst X0.here hx rfl (hb hby own_d1_5) k) ?_
    exact own_retJ X0 hx hlk hret (hb hby own_d1_6) (by decide) (by decide) (by show own_Q1 Z a1 p1 k1 n1 vs res h0 n0 (some (.long (0 : Int64))) s₁.heap _; rw [e0]; exact ⟨by rw [hz hc2], N0, rfl⟩)
  · show own_E p e below (own_F s 0 0) (own_Q1 Z a1 p1 k1 n1 vs res h0 n0) s₁ (mkF m 7 #[.val (.ref a1), .val (.int p1), .unset, .unset] [])
    refine own_step (g' := (mkF m 8 #[.val (.ref a1), .val (.int p1), .unset, .unset] [(.ref a1)])) (fun _ k => XS.aloadN X0.here hx rfl (hb hby own_d1_7) rfl rfl k) ?_
    obtain ⟨cl2, Ar2, -, S2, G2, -, -⟩ := id V
    have al2 := X0.arraylength hx (by rw [e0]; exact Ar2.1) (State.isArrayOf_alike hZ.alike Ar2.2.1) (g := (mkF m 8 #[.val (.ref a1), .val (.int p1), .unset, .unset] [(.ref a1)])) rfl rfl (hb hby own_d1_8)
    rw [len_of S2 G2] at al2
    refine own_step (g' := (mkF m 9 #[.val (.ref a1), .val (.int p1), .unset, .unset] [(.int n1)])) (fun _ k => al2 _ k) ?_
    refine own_step (g' := (mkF m 10 #[.val (.ref a1), .val (.int p1), .unset, .unset] [(.long (n1.toInt64))])) (fun _ k => XS.i2l X0.here hx rfl (hb hby own_d1_9) rfl k) ?_
    refine own_step (g' := (mkF m 11 #[.val (.ref a1), .val (.int p1), .unset, .unset] [(.int p1), (.long (n1.toInt64))])) (fun _ k => XS.iloadN X0.here hx rfl (hb hby own_d1_10) rfl k) ?_
    refine own_step (g' := (mkF m 12 #[.val (.ref a1), .val (.int p1), .unset, .unset] [(.long (p1.toInt64)), (.long (n1.toInt64))])) (fun _ k => XS.i2l X0.here hx rfl (hb hby own_d1_11) rfl k) ?_
    refine own_step (g' := (mkF m 13 #[.val (.ref a1), .val (.int p1), .unset, .unset] [(.long ((n1.toInt64) * (p1.toInt64)))])) (fun _ k => XS.lmul X0.here hx rfl (hb hby own_d1_12) rfl k) ?_
    refine own_step (g' := (mkF m 16 #[.val (.ref a1), .val (.int p1), .unset, .unset] [(.long (99 : Int64)), (.long ((n1.toInt64) * (p1.toInt64)))])) (fun _ k => X0.ldc2Long hx hown (mvT hZ (hw _ (List.mem_of_getElem? (i := 7) rfl))) (g := (mkF m 13 #[.val (.ref a1), .val (.int p1), .unset, .unset] [(.long ((n1.toInt64) * (p1.toInt64)))])) rfl (hb hby own_d1_13) _ k) ?_
    refine own_step (g' := (mkF m 17 #[.val (.ref a1), .val (.int p1), .unset, .unset] [(.long (((n1.toInt64) * (p1.toInt64)) + (99 : Int64)))])) (fun _ k => XS.ladd X0.here hx rfl (hb hby own_d1_16) rfl k) ?_
    refine own_step (g' := (mkF m 20 #[.val (.ref a1), .val (.int p1), .unset, .unset] [(.long (100 : Int64)), (.long (((n1.toInt64) * (p1.toInt64)) + (99 : Int64)))])) (fun _ k => X0.ldc2Long hx hown (mvT hZ (hw _ (List.mem_of_getElem? (i := 8) rfl))) (g := (mkF m 17 #[.val (.ref a1), .val (.int p1), .unset, .unset] [(.long (((n1.toInt64) * (p1.toInt64)) + (99 : Int64)))])) rfl (hb hby own_d1_17) _ k) ?_
    refine own_step (g' := (mkF m 21 #[.val (.ref a1), .val (.int p1), .unset, .unset] [(.long ((((n1.toInt64) * (p1.toInt64)) + (99 : Int64)) / (100 : Int64)))])) (fun _ k => XS.ldiv X0.here hx rfl (hb hby own_d1_20) rfl (by decide) k) ?_
    refine own_step (g' := (mkF m 22 #[.val (.ref a1), .val (.int p1), .val (.long ((((n1.toInt64) * (p1.toInt64)) + (99 : Int64)) / (100 : Int64))), .second] [])) (fun _ k => XS.lstoreN X0.here hx rfl (hb hby own_d1_21) rfl (l' := #[.val (.ref a1), .val (.int p1), .val (.long ((((n1.toInt64) * (p1.toInt64)) + (99 : Int64)) / (100 : Int64))), .second]) rfl k) ?_
    refine own_step (g' := (mkF m 23 #[.val (.ref a1), .val (.int p1), .val (.long ((((n1.toInt64) * (p1.toInt64)) + (99 : Int64)) / (100 : Int64))), .second] [(.ref a1)])) (fun _ k => XS.aloadN X0.here hx rfl (hb hby own_d1_22) rfl rfl k) ?_
    refine own_step (g' := (mkF m 24 #[.val (.ref a1), .val (.int p1), .val (.long ((((n1.toInt64) * (p1.toInt64)) + (99 : Int64)) / (100 : Int64))), .second] [(.long ((((n1.toInt64) * (p1.toInt64)) + (99 : Int64)) / (100 : Int64))), (.ref a1)])) (fun _ k => XS.lloadN X0.here hx rfl (hb hby own_d1_23) rfl k) ?_
    refine own_step (g' := (mkF m 25 #[.val (.ref a1), .val (.int p1), .val (.long ((((n1.toInt64) * (p1.toInt64)) + (99 : Int64)) / (100 : Int64))), .second] [(.int (((((n1.toInt64) * (p1.toInt64)) + (99 : Int64)) / (100 : Int64)).toInt32)), (.ref a1)])) (fun _ k => XS.l2i X0.here hx rfl (hb hby own_d1_24) rfl k) ?_
    refine own_step (g' := (mkF m 26 #[.val (.ref a1), .val (.int p1), .val (.long ((((n1.toInt64) * (p1.toInt64)) + (99 : Int64)) / (100 : Int64))), .second] [(.int (1 : Int32)), (.int (((((n1.toInt64) * (p1.toInt64)) + (99 : Int64)) / (100 : Int64)).toInt32)), (.ref a1)])) (fun _ k => XS.iconst X0.here hx rfl (hb hby own_d1_25) k) ?_
    refine own_step (g' := (mkF m 27 #[.val (.ref a1), .val (.int p1), .val (.long ((((n1.toInt64) * (p1.toInt64)) + (99 : Int64)) / (100 : Int64))), .second] [(.int ((((((n1.toInt64) * (p1.toInt64)) + (99 : Int64)) / (100 : Int64)).toInt32) - (1 : Int32))), (.ref a1)])) (fun _ k => XS.isub X0.here hx rfl (hb hby own_d1_26) rfl k) ?_
    obtain ⟨cl3, Ar3, -, S3, -, H3, -⟩ := id V
    have in3 := inb_of S3 ⟨(hr hc2).1, (hr hc2).2.1⟩
    refine own_step (g' := (mkF m 28 #[.val (.ref a1), .val (.int p1), .val (.long ((((n1.toInt64) * (p1.toInt64)) + (99 : Int64)) / (100 : Int64))), .second] [(.long res)])) (fun _ k => X0.laload hx (j := ((((((n1.toInt64) * (p1.toInt64)) + (99 : Int64)) / (100 : Int64)).toInt32) - (1 : Int32))) (v := (.long res)) (by rw [e0]; exact Ar3.1) (State.isArrayOf_alike hZ.alike Ar3.2.1) Ar3.2.2 in3 (Has.at H3 in3 (hr hc2).2.2) (g := (mkF m 27 #[.val (.ref a1), .val (.int p1), .val (.long ((((n1.toInt64) * (p1.toInt64)) + (99 : Int64)) / (100 : Int64))), .second] [(.int ((((((n1.toInt64) * (p1.toInt64)) + (99 : Int64)) / (100 : Int64)).toInt32) - (1 : Int32))), (.ref a1)])) rfl rfl (hb hby own_d1_27) _ k) ?_
    exact own_retJ X0 hx hlk hret (hb hby own_d1_28) (by decide) (by decide) (by show own_Q1 Z a1 p1 k1 n1 vs res h0 n0 (some (.long res)) s₁.heap _; rw [e0]; exact ⟨rfl, N0, rfl⟩)
theorem own_ef0 (m : MethodId) (x0 : Int64) (x1 : Int32) (x2 : Int32) : entryFrame m #[(.long x0), (.int x1), (.int x2)] maxLocals = mkF m 0 #[.val (.long x0), .second, .val (.int x1), .val (.int x2), .unset, .unset, .unset, .unset, .unset, .unset, .unset, .unset, .unset] [] := by first | (simp [entryFrame, mkF, argsToLocals, Value.category, maxLocals]; done) | rfl
def own_Q0 (Z : State) (x0 : Int64) (x1 : Int32) (x2 : Int32) (h0 : Heap) (n0 : Nat) (v : Option Value) (h : Heap) (L : List Loc) : Prop := v = some (.int 1) ∧ Fr n0 L
theorem own_pn_0 : plainName "com/example/millrace/millrace/AppendLoadCommandPercentilePinLaw" = true := by first | (simp [plainName, overriddenIn]; done) | decide +kernel
theorem own_pd__28_5bJI_29J : parseMethodDescriptor "([JI)J" = some ⟨[(.array .long), .int], some .long⟩ := by decide +kernel
set_option maxRecDepth 65536 in
set_option maxHeartbeats 40000000 in
theorem own_rm0 (l : Launch) (Z : State) (a0 : Array Value) (hw : ∀ d ∈ tables_1, d.before a0 Z = true) (ws : List Jvm.Cond) (x0 : Int64) (x1 : Int32) (x2 : Int32) (h0 : Heap) (n0 : Nat) (Z0 : n0 ≤ h0.size)  :
    MetFree l x (head1 (Jvm.Cond.code x code maxLocals ret :: ws) room_1) (fun aU U => aU = #[(.long x0), (.int x1), (.int x2)] ∧ Z.Warmed39 U.vm ∧ U.heap = h0) (fun _ _ _ _ _ => True) (fun _ U o U' => ∃ v L, o = .returned v ∧ own_Q0 Z x0 x1 x2 h0 n0 v U'.heap L ∧ FrameEnd U o U' L 16 128) := by
  refine MetFree.of_bodySF (plainFor_of_name own_pn_0) hisR ?_
  intro p e s m args below meth c s₁ Bd hml0 hP hK
  obtain ⟨rfl, hZ, hh⟩ := hP
  have hx := Bd.exec
  have hby := Bd.bytes
  have hml : c.maxLocals = 13 := hml0
  have hown : s.vm.findClass "com/example/millrace/millrace/AppendLoadCommandPercentilePinLaw" = some m.cls := findClass_of_methodNamed Bd.named
  have hnm := (name_of_methodNamed Bd.named Bd.method).1
  have hlk : meth.locks = false := Bd.notSynchronized
  have hret := Bd.returns
  have X0 : Stand p l e room_1 s m #[(.long x0), (.int x1), (.int x2)] below meth c s₁ [] 0 0 := Stand.of_body Bd
  have e0 : s₁.heap = h0 := by rw [← hh, Bd.state]; rfl
  have N0 := Fr.nil n0
  have K0 := Keep.refl h0 ([] : List Addr)
  show own_E p e below (own_F s 16 128) (own_Q0 Z x0 x1 x2 h0 n0) s₁ (entryFrame m #[(.long x0), (.int x1), (.int x2)] maxLocals)
  refine own_cast (own_ef0 m x0 x1 x2) ?_
  refine own_step (g' := (mkF m 1 #[.val (.long x0), .second, .val (.int x1), .val (.int x2), .unset, .unset, .unset, .unset, .unset, .unset, .unset, .unset, .unset] [(.int x1)])) (fun _ k => XS.iloadN X0.here hx rfl (hb hby at_0) rfl k) ?_
  refine own_step (g' := (mkF m 3 #[.val (.long x0), .second, .val (.int x1), .val (.int x2), .unset, .unset, .unset, .unset, .unset, .unset, .unset, .unset, .unset] [(.int (2147483647 : Int32)), (.int x1)])) (fun _ k => X0.ldcInt hx hown (mvT hZ (hw _ (List.mem_of_getElem? (i := 0) rfl))) (g := (mkF m 1 #[.val (.long x0), .second, .val (.int x1), .val (.int x2), .unset, .unset, .unset, .unset, .unset, .unset, .unset, .unset, .unset] [(.int x1)])) rfl (hb hby at_1) _ k) ?_
  refine own_step (g' := (mkF m 4 #[.val (.long x0), .second, .val (.int x1), .val (.int x2), .unset, .unset, .unset, .unset, .unset, .unset, .unset, .unset, .unset] [(.int (x1 &&& (2147483647 : Int32)))])) (fun _ k => XS.iand X0.here hx rfl (hb hby at_3) rfl k) ?_
  refine own_step (g' := (mkF m 6 #[.val (.long x0), .second, .val (.int x1), .val (.int x2), .unset, .unset, .unset, .unset, .unset, .unset, .unset, .unset, .unset] [(.int (9 : Int32)), (.int (x1 &&& (2147483647 : Int32)))])) (fun _ k => XS.bipush X0.here hx rfl (hb hby at_4) k) ?_
  refine own_step (g' := (mkF m 7 #[.val (.long x0), .second, .val (.int x1), .val (.int x2), .unset, .unset, .unset, .unset, .unset, .unset, .unset, .unset, .unset] [(.int ((x1 &&& (2147483647 : Int32)) % (9 : Int32)))])) (fun _ k => iremM X0 hx rfl (hb hby at_6) rfl (by decide) k) ?_
  refine own_step (g' := (mkF m 9 #[.val (.long x0), .second, .val (.int x1), .val (.int x2), .val (.int ((x1 &&& (2147483647 : Int32)) % (9 : Int32))), .unset, .unset, .unset, .unset, .unset, .unset, .unset, .unset] [])) (fun _ k => XS.istore X0.here hx rfl (hb hby at_7) rfl (l' := #[.val (.long x0), .second, .val (.int x1), .val (.int x2), .val (.int ((x1 &&& (2147483647 : Int32)) % (9 : Int32))), .unset, .unset, .unset, .unset, .unset, .unset, .unset, .unset]) rfl k) ?_
  have hnb := own_n x1
  generalize hn1 : ((x1 &&& (2147483647 : Int32)) % (9 : Int32)) = n1
  show own_E p e below (own_F s 16 128) (own_Q0 Z x0 x1 x2 h0 n0) s₁ (mkF m 9 #[.val (.long x0), .second, .val (.int x1), .val (.int x2), .val (.int n1), .unset, .unset, .unset, .unset, .unset, .unset, .unset, .unset] [])
  rw [hn1] at hnb
  refine own_step (g' := (mkF m 10 #[.val (.long x0), .second, .val (.int x1), .val (.int x2), .val (.int n1), .unset, .unset, .unset, .unset, .unset, .unset, .unset, .unset] [(.int (1 : Int32))])) (fun _ k => XS.iconst X0.here hx rfl (hb hby at_9) k) ?_
  refine own_step (g' := (mkF m 11 #[.val (.long x0), .second, .val (.int x1), .val (.int x2), .val (.int n1), .unset, .unset, .unset, .unset, .unset, .unset, .unset, .unset] [(.int x2), (.int (1 : Int32))])) (fun _ k => XS.iloadN X0.here hx rfl (hb hby at_10) rfl k) ?_
  refine own_step (g' := (mkF m 13 #[.val (.long x0), .second, .val (.int x1), .val (.int x2), .val (.int n1), .unset, .unset, .unset, .unset, .unset, .unset, .unset, .unset] [(.int (2147483647 : Int32)), (.int x2), (.int (1 : Int32))])) (fun _ k => X0.ldcInt hx hown (mvT hZ (hw _ (List.mem_of_getElem? (i := 0) rfl))) (g := (mkF m 11 #[.val (.long x0), .second, .val (.int x1), .val (.int x2), .val (.int n1), .unset, .unset, .unset, .unset, .unset, .unset, .unset, .unset] [(.int x2), (.int (1 : Int32))])) rfl (hb hby at_11) _ k) ?_
  refine own_step (g' := (mkF m 14 #[.val (.long x0), .second, .val (.int x1), .val (.int x2), .val (.int n1), .unset, .unset, .unset, .unset, .unset, .unset, .unset, .unset] [(.int (x2 &&& (2147483647 : Int32))), (.int (1 : Int32))])) (fun _ k => XS.iand X0.here hx rfl (hb hby at_13) rfl k) ?_
  refine own_step (g' := (mkF m 16 #[.val (.long x0), .second, .val (.int x1), .val (.int x2), .val (.int n1), .unset, .unset, .unset, .unset, .unset, .unset, .unset, .unset] [(.int (100 : Int32)), (.int (x2 &&& (2147483647 : Int32))), (.int (1 : Int32))])) (fun _ k => XS.bipush X0.here hx rfl (hb hby at_14) k) ?_
  refine own_step (g' := (mkF m 17 #[.val (.long x0), .second, .val (.int x1), .val (.int x2), .val (.int n1), .unset, .unset, .unset, .unset, .unset, .unset, .unset, .unset] [(.int ((x2 &&& (2147483647 : Int32)) % (100 : Int32))), (.int (1 : Int32))])) (fun _ k => iremM X0 hx rfl (hb hby at_16) rfl (by decide) k) ?_
  refine own_step (g' := (mkF m 18 #[.val (.long x0), .second, .val (.int x1), .val (.int x2), .val (.int n1), .unset, .unset, .unset, .unset, .unset, .unset, .unset, .unset] [(.int ((1 : Int32) + ((x2 &&& (2147483647 : Int32)) % (100 : Int32))))])) (fun _ k => XS.iadd X0.here hx rfl (hb hby at_17) rfl k) ?_
  refine own_step (g' := (mkF m 20 #[.val (.long x0), .second, .val (.int x1), .val (.int x2), .val (.int n1), .val (.int ((1 : Int32) + ((x2 &&& (2147483647 : Int32)) % (100 : Int32)))), .unset, .unset, .unset, .unset, .unset, .unset, .unset] [])) (fun _ k => XS.istore X0.here hx rfl (hb hby at_18) rfl (l' := #[.val (.long x0), .second, .val (.int x1), .val (.int x2), .val (.int n1), .val (.int ((1 : Int32) + ((x2 &&& (2147483647 : Int32)) % (100 : Int32)))), .unset, .unset, .unset, .unset, .unset, .unset, .unset]) rfl k) ?_
  have hpb := own_p x2
  generalize hp1 : ((1 : Int32) + ((x2 &&& (2147483647 : Int32)) % (100 : Int32))) = p1
  show own_E p e below (own_F s 16 128) (own_Q0 Z x0 x1 x2 h0 n0) s₁ (mkF m 20 #[.val (.long x0), .second, .val (.int x1), .val (.int x2), .val (.int n1), .val (.int p1), .unset, .unset, .unset, .unset, .unset, .unset, .unset] [])
  rw [hp1] at hpb
  have hn0 : ¬ n1 < 0 := by rw [Int32.lt_iff_toInt_lt]; have : (0 : Int32).toInt = 0 := rfl; omega
  have hn8 : n1.toNatClampNeg ≤ 8 := by simp only [Int32.toNatClampNeg]; omega
  refine own_step (g' := (mkF m 21 #[.val (.long x0), .second, .val (.int x1), .val (.int x2), .val (.int n1), .val (.int p1), .unset, .unset, .unset, .unset, .unset, .unset, .unset] [(.long x0)])) (fun _ k => XS.lloadN X0.here hx rfl (hb hby at_20) rfl k) ?_
  refine own_step (g' := (mkF m 24 #[.val (.long x0), .second, .val (.int x1), .val (.int x2), .val (.int n1), .val (.int p1), .unset, .unset, .unset, .unset, .unset, .unset, .unset] [(.long (-8 : Int64)), (.long x0)])) (fun _ k => X0.ldc2Long hx hown (mvT hZ (hw _ (List.mem_of_getElem? (i := 1) rfl))) (g := (mkF m 21 #[.val (.long x0), .second, .val (.int x1), .val (.int x2), .val (.int n1), .val (.int p1), .unset, .unset, .unset, .unset, .unset, .unset, .unset] [(.long x0)])) rfl (hb hby at_21) _ k) ?_
  refine own_step (g' := (mkF m 25 #[.val (.long x0), .second, .val (.int x1), .val (.int x2), .val (.int n1), .val (.int p1), .unset, .unset, .unset, .unset, .unset, .unset, .unset] [(.long (x0 &&& (-8 : Int64)))])) (fun _ k => XS.land X0.here hx rfl (hb hby at_24) rfl k) ?_
  refine own_step (g' := (mkF m 27 #[.val (.long x0), .second, .val (.int x1), .val (.int x2), .val (.int n1), .val (.int p1), .val (.long (x0 &&& (-8 : Int64))), .second, .unset, .unset, .unset, .unset, .unset] [])) (fun _ k => XS.lstore X0.here hx rfl (hb hby at_25) rfl (l' := #[.val (.long x0), .second, .val (.int x1), .val (.int x2), .val (.int n1), .val (.int p1), .val (.long (x0 &&& (-8 : Int64))), .second, .unset, .unset, .unset, .unset, .unset]) rfl k) ?_
  generalize hb0 : (x0 &&& (-8 : Int64)) = b0
  show own_E p e below (own_F s 16 128) (own_Q0 Z x0 x1 x2 h0 n0) s₁ (mkF m 27 #[.val (.long x0), .second, .val (.int x1), .val (.int x2), .val (.int n1), .val (.int p1), .val (.long b0), .second, .unset, .unset, .unset, .unset, .unset] [])
  refine own_step (g' := (mkF m 29 #[.val (.long x0), .second, .val (.int x1), .val (.int x2), .val (.int n1), .val (.int p1), .val (.long b0), .second, .unset, .unset, .unset, .unset, .unset] [(.int n1)])) (fun _ k => XS.iload X0.here hx rfl (hb hby at_27) rfl k) ?_
  obtain ⟨T1, h1, k1, X1, e1, E1, A1, st1⟩ := newP X0 hx hZ (hw _ (List.mem_of_getElem? (i := 2) rfl)) e0 (g := (mkF m 29 #[.val (.long x0), .second, .val (.int x1), .val (.int x2), .val (.int n1), .val (.int p1), .val (.long b0), .second, .unset, .unset, .unset, .unset, .unset] [(.int n1)])) rfl (hb hby at_29) rfl hn0 (cap := 8) hn8 (by decide) (by decide) (by decide)
  obtain ⟨b1, g1⟩ : ∃ z, z = h0.size := ⟨_, rfl⟩
  rw [← g1] at A1 st1
  have le_b1 : n0 ≤ b1 := Nat.le_trans Z0 (Nat.le_of_eq g1.symm)
  have sz_b1 : h0.size ≤ b1 := Nat.le_trans K0.1 (Nat.le_of_eq g1.symm)
  have V_b1 : Arv Z h1 b1 k1 .long n1 [(.long (0 : Int64)), (.long (0 : Int64)), (.long (0 : Int64)), (.long (0 : Int64)), (.long (0 : Int64)), (.long (0 : Int64)), (.long (0 : Int64)), (.long (0 : Int64))] (.long (0 : Int64)) := (Arv.new A1 hn0).pad (pad_rep [] (.long (0 : Int64)) 8)
  have K1 := K0.ext E1
  have Z1 := Nat.le_trans Z0 E1.1
  refine own_step (g' := (mkF m 31 #[.val (.long x0), .second, .val (.int x1), .val (.int x2), .val (.int n1), .val (.int p1), .val (.long b0), .second, .unset, .unset, .unset, .unset, .unset] [(.ref b1)])) st1 ?_
  refine own_step (g' := (mkF m 33 #[.val (.long x0), .second, .val (.int x1), .val (.int x2), .val (.int n1), .val (.int p1), .val (.long b0), .second, .val (.ref b1), .unset, .unset, .unset, .unset] [])) (fun _ k => XS.astore X1.here hx rfl (hb hby at_31) rfl rfl (l' := #[.val (.long x0), .second, .val (.int x1), .val (.int x2), .val (.int n1), .val (.int p1), .val (.long b0), .second, .val (.ref b1), .unset, .unset, .unset, .unset]) rfl k) ?_
  refine own_step (g' := (mkF m 35 #[.val (.long x0), .second, .val (.int x1), .val (.int x2), .val (.int n1), .val (.int p1), .val (.long b0), .second, .val (.ref b1), .unset, .unset, .unset, .unset] [(.int n1)])) (fun _ k => XS.iload X1.here hx rfl (hb hby at_33) rfl k) ?_
  have kj2 : (∀ (T' : State) (h' : Heap) (L' : List Loc), Stand p l e room_1 s m #[(.long x0), (.int x1), (.int x2)] below meth c T' L' 1 8 → T'.heap = h' → Fr n0 L' → n0 ≤ h'.size → Keep h0 h' [] → Arv Z h' b1 k1 .long n1 [(.long (b0 ||| (0 : Int64))), (.long (0 : Int64)), (.long (0 : Int64)), (.long (0 : Int64)), (.long (0 : Int64)), (.long (0 : Int64)), (.long (0 : Int64)), (.long (0 : Int64))] (.long (0 : Int64)) → own_E p e below (own_F s 16 128) (own_Q0 Z x0 x1 x2 h0 n0) T' (mkF m 46 #[.val (.long x0), .second, .val (.int x1), .val (.int x2), .val (.int n1), .val (.int p1), .val (.long b0), .second, .val (.ref b1), .unset, .unset, .unset, .unset] [])) → own_E p e below (own_F s 16 128) (own_Q0 Z x0 x1 x2 h0 n0) T1 (mkF m 35 #[.val (.long x0), .second, .val (.int x1), .val (.int x2), .val (.int n1), .val (.int p1), .val (.long b0), .second, .val (.ref b1), .unset, .unset, .unset, .unset] [(.int n1)]) := by
    intro kj
    refine own_ifN X1 hx (P := (0 < n1)) (hb hby at_35) (own_z_le n1) (by decide) (pc1 := 46) (by decide) (fun hc35 => ?_) (fun hc35 => ?_)
    · show own_E p e below (own_F s 16 128) (own_Q0 Z x0 x1 x2 h0 n0) T1 (mkF m 38 #[.val (.long x0), .second, .val (.int x1), .val (.int x2), .val (.int n1), .val (.int p1), .val (.long b0), .second, .val (.ref b1), .unset, .unset, .unset, .unset] [])
      refine own_step (g' := (mkF m 40 #[.val (.long x0), .second, .val (.int x1), .val (.int x2), .val (.int n1), .val (.int p1), .val (.long b0), .second, .val (.ref b1), .unset, .unset, .unset, .unset] [(.ref b1)])) (fun _ k => XS.aload X1.here hx rfl (hb hby at_38) rfl rfl k) ?_
      refine own_step (g' := (mkF m 41 #[.val (.long x0), .second, .val (.int x1), .val (.int x2), .val (.int n1), .val (.int p1), .val (.long b0), .second, .val (.ref b1), .unset, .unset, .unset, .unset] [(.int (0 : Int32)), (.ref b1)])) (fun _ k => XS.iconst X1.here hx rfl (hb hby at_40) k) ?_
      refine own_step (g' := (mkF m 43 #[.val (.long x0), .second, .val (.int x1), .val (.int x2), .val (.int n1), .val (.int p1), .val (.long b0), .second, .val (.ref b1), .unset, .unset, .unset, .unset] [(.long b0), (.int (0 : Int32)), (.ref b1)])) (fun _ k => XS.lload X1.here hx rfl (hb hby at_41) rfl k) ?_
      refine own_step (g' := (mkF m 44 #[.val (.long x0), .second, .val (.int x1), .val (.int x2), .val (.int n1), .val (.int p1), .val (.long b0), .second, .val (.ref b1), .unset, .unset, .unset, .unset] [(.long (0 : Int64)), (.long b0), (.int (0 : Int32)), (.ref b1)])) (fun _ k => XS.lconst X1.here hx rfl (hb hby at_43) k) ?_
      refine own_step (g' := (mkF m 45 #[.val (.long x0), .second, .val (.int x1), .val (.int x2), .val (.int n1), .val (.int p1), .val (.long b0), .second, .val (.ref b1), .unset, .unset, .unset, .unset] [(.long (b0 ||| (0 : Int64))), (.int (0 : Int32)), (.ref b1)])) (fun _ k => XS.lor X1.here hx rfl (hb hby at_44) rfl k) ?_
      obtain ⟨cl3, Ar3, q3, S3, G3, H3, F3⟩ := id V_b1
      have in3 := inb_of S3 ⟨by decide, hc35⟩
      obtain ⟨T3, h3, X3, e3, W3, st3⟩ := stJ X1 hx hZ e1 Ar3 (j := (0 : Int32)) in3 (g := (mkF m 45 #[.val (.long x0), .second, .val (.int x1), .val (.int x2), .val (.int n1), .val (.int p1), .val (.long b0), .second, .val (.ref b1), .unset, .unset, .unset, .unset] [(.long (b0 ||| (0 : Int64))), (.int (0 : Int32)), (.ref b1)])) rfl rfl (hb hby at_45)
      have V_b1_w3 : Arv Z h3 b1 k1 .long n1 [(.long (b0 ||| (0 : Int64))), (.long (0 : Int64)), (.long (0 : Int64)), (.long (0 : Int64)), (.long (0 : Int64)), (.long (0 : Int64)), (.long (0 : Int64)), (.long (0 : Int64))] (.long (0 : Int64)) := Arv.set Ar3 q3 S3 G3 H3 F3 rfl W3 0 rfl (Nat.le_of_ble_eq_true rfl)
      have K3 := K1.wr W3 (Or.inr sz_b1)
      have Z3 := Nat.le_trans Z1 (Keep.of_wr W3).1
      have N3 := Fr.snoc X3 N0 le_b1
      refine own_step (g' := (mkF m 46 #[.val (.long x0), .second, .val (.int x1), .val (.int x2), .val (.int n1), .val (.int p1), .val (.long b0), .second, .val (.ref b1), .unset, .unset, .unset, .unset] [])) st3 ?_
      exact kj _ _ _ X3 e3 N3 Z3 K3 V_b1_w3
    · show own_E p e below (own_F s 16 128) (own_Q0 Z x0 x1 x2 h0 n0) T1 (mkF m 46 #[.val (.long x0), .second, .val (.int x1), .val (.int x2), .val (.int n1), .val (.int p1), .val (.long b0), .second, .val (.ref b1), .unset, .unset, .unset, .unset] [])
      exact kj _ _ _ X1 e1 N0 Z1 K1 (own_arv_skip V_b1 0 0 rfl (by decide) hc35 _)
  refine kj2 fun T4 h4 L4 X4 e4 N4 Z4 K4 V4 => ?_
  show own_E p e below (own_F s 16 128) (own_Q0 Z x0 x1 x2 h0 n0) T4 (mkF m 46 #[.val (.long x0), .second, .val (.int x1), .val (.int x2), .val (.int n1), .val (.int p1), .val (.long b0), .second, .val (.ref b1), .unset, .unset, .unset, .unset] [])
  refine own_step (g' := (mkF m 48 #[.val (.long x0), .second, .val (.int x1), .val (.int x2), .val (.int n1), .val (.int p1), .val (.long b0), .second, .val (.ref b1), .unset, .unset, .unset, .unset] [(.int n1)])) (fun _ k => XS.iload X4.here hx rfl (hb hby at_46) rfl k) ?_
  refine own_step (g' := (mkF m 49 #[.val (.long x0), .second, .val (.int x1), .val (.int x2), .val (.int n1), .val (.int p1), .val (.long b0), .second, .val (.ref b1), .unset, .unset, .unset, .unset] [(.int (1 : Int32)), (.int n1)])) (fun _ k => XS.iconst X4.here hx rfl (hb hby at_48) k) ?_
  have kj5 : (∀ (T' : State) (h' : Heap) (L' : List Loc), Stand p l e room_1 s m #[(.long x0), (.int x1), (.int x2)] below meth c T' L' 1 8 → T'.heap = h' → Fr n0 L' → n0 ≤ h'.size → Keep h0 h' [] → Arv Z h' b1 k1 .long n1 [(.long (b0 ||| (0 : Int64))), (.long (b0 ||| (1 : Int64))), (.long (0 : Int64)), (.long (0 : Int64)), (.long (0 : Int64)), (.long (0 : Int64)), (.long (0 : Int64)), (.long (0 : Int64))] (.long (0 : Int64)) → own_E p e below (own_F s 16 128) (own_Q0 Z x0 x1 x2 h0 n0) T' (mkF m 60 #[.val (.long x0), .second, .val (.int x1), .val (.int x2), .val (.int n1), .val (.int p1), .val (.long b0), .second, .val (.ref b1), .unset, .unset, .unset, .unset] [])) → own_E p e below (own_F s 16 128) (own_Q0 Z x0 x1 x2 h0 n0) T4 (mkF m 49 #[.val (.long x0), .second, .val (.int x1), .val (.int x2), .val (.int n1), .val (.int p1), .val (.long b0), .second, .val (.ref b1), .unset, .unset, .unset, .unset] [(.int (1 : Int32)), (.int n1)]) := by
    intro kj
    refine own_icN X4 hx (P := ((1 : Int32) < n1)) (hb hby at_49) (own_i_le n1 (1 : Int32)) (by decide) (pc1 := 60) (by decide) (fun hc49 => ?_) (fun hc49 => ?_)
    · show own_E p e below (own_F s 16 128) (own_Q0 Z x0 x1 x2 h0 n0) T4 (mkF m 52 #[.val (.long x0), .second, .val (.int x1), .val (.int x2), .val (.int n1), .val (.int p1), .val (.long b0), .second, .val (.ref b1), .unset, .unset, .unset, .unset] [])
      refine own_step (g' := (mkF m 54 #[.val (.long x0), .second, .val (.int x1), .val (.int x2), .val (.int n1), .val (.int p1), .val (.long b0), .second, .val (.ref b1), .unset, .unset, .unset, .unset] [(.ref b1)])) (fun _ k => XS.aload X4.here hx rfl (hb hby at_52) rfl rfl k) ?_
      refine own_step (g' := (mkF m 55 #[.val (.long x0), .second, .val (.int x1), .val (.int x2), .val (.int n1), .val (.int p1), .val (.long b0), .second, .val (.ref b1), .unset, .unset, .unset, .unset] [(.int (1 : Int32)), (.ref b1)])) (fun _ k => XS.iconst X4.here hx rfl (hb hby at_54) k) ?_
      refine own_step (g' := (mkF m 57 #[.val (.long x0), .second, .val (.int x1), .val (.int x2), .val (.int n1), .val (.int p1), .val (.long b0), .second, .val (.ref b1), .unset, .unset, .unset, .unset] [(.long b0), (.int (1 : Int32)), (.ref b1)])) (fun _ k => XS.lload X4.here hx rfl (hb hby at_55) rfl k) ?_
      refine own_step (g' := (mkF m 58 #[.val (.long x0), .second, .val (.int x1), .val (.int x2), .val (.int n1), .val (.int p1), .val (.long b0), .second, .val (.ref b1), .unset, .unset, .unset, .unset] [(.long (1 : Int64)), (.long b0), (.int (1 : Int32)), (.ref b1)])) (fun _ k => XS.lconst X4.here hx rfl (hb hby at_57) k) ?_
      refine own_step (g' := (mkF m 59 #[.val (.long x0), .second, .val (.int x1), .val (.int x2), .val (.int n1), .val (.int p1), .val (.long b0), .second, .val (.ref b1), .unset, .unset, .unset, .unset] [(.long (b0 ||| (1 : Int64))), (.int (1 : Int32)), (.ref b1)])) (fun _ k => XS.lor X4.here hx rfl (hb hby at_58) rfl k) ?_
      obtain ⟨cl6, Ar6, q6, S6, G6, H6, F6⟩ := id V4
      have in6 := inb_of S6 ⟨by decide, hc49⟩
      obtain ⟨T6, h6, X6, e6, W6, st6⟩ := stJ X4 hx hZ e4 Ar6 (j := (1 : Int32)) in6 (g := (mkF m 59 #[.val (.long x0), .second, .val (.int x1), .val (.int x2), .val (.int n1), .val (.int p1), .val (.long b0), .second, .val (.ref b1), .unset, .unset, .unset, .unset] [(.long (b0 ||| (1 : Int64))), (.int (1 : Int32)), (.ref b1)])) rfl rfl (hb hby at_59)
      have V_b1_w6 : Arv Z h6 b1 k1 .long n1 [(.long (b0 ||| (0 : Int64))), (.long (b0 ||| (1 : Int64))), (.long (0 : Int64)), (.long (0 : Int64)), (.long (0 : Int64)), (.long (0 : Int64)), (.long (0 : Int64)), (.long (0 : Int64))] (.long (0 : Int64)) := Arv.set Ar6 q6 S6 G6 H6 F6 rfl W6 1 rfl (Nat.le_of_ble_eq_true rfl)
      have K6 := K4.wr W6 (Or.inr sz_b1)
      have Z6 := Nat.le_trans Z4 (Keep.of_wr W6).1
      have N6 := Fr.snoc X6 N4 le_b1
      refine own_step (g' := (mkF m 60 #[.val (.long x0), .second, .val (.int x1), .val (.int x2), .val (.int n1), .val (.int p1), .val (.long b0), .second, .val (.ref b1), .unset, .unset, .unset, .unset] [])) st6 ?_
      exact kj _ _ _ X6 e6 N6 Z6 K6 V_b1_w6
    · show own_E p e below (own_F s 16 128) (own_Q0 Z x0 x1 x2 h0 n0) T4 (mkF m 60 #[.val (.long x0), .second, .val (.int x1), .val (.int x2), .val (.int n1), .val (.int p1), .val (.long b0), .second, .val (.ref b1), .unset, .unset, .unset, .unset] [])
      exact kj _ _ _ X4 e4 N4 Z4 K4 (own_arv_skip V4 1 1 rfl (by decide) hc49 _)
  refine kj5 fun T7 h7 L7 X7 e7 N7 Z7 K7 V7 => ?_
  show own_E p e below (own_F s 16 128) (own_Q0 Z x0 x1 x2 h0 n0) T7 (mkF m 60 #[.val (.long x0), .second, .val (.int x1), .val (.int x2), .val (.int n1), .val (.int p1), .val (.long b0), .second, .val (.ref b1), .unset, .unset, .unset, .unset] [])
  refine own_step (g' := (mkF m 62 #[.val (.long x0), .second, .val (.int x1), .val (.int x2), .val (.int n1), .val (.int p1), .val (.long b0), .second, .val (.ref b1), .unset, .unset, .unset, .unset] [(.int n1)])) (fun _ k => XS.iload X7.here hx rfl (hb hby at_60) rfl k) ?_
  refine own_step (g' := (mkF m 63 #[.val (.long x0), .second, .val (.int x1), .val (.int x2), .val (.int n1), .val (.int p1), .val (.long b0), .second, .val (.ref b1), .unset, .unset, .unset, .unset] [(.int (2 : Int32)), (.int n1)])) (fun _ k => XS.iconst X7.here hx rfl (hb hby at_62) k) ?_
  have kj8 : (∀ (T' : State) (h' : Heap) (L' : List Loc), Stand p l e room_1 s m #[(.long x0), (.int x1), (.int x2)] below meth c T' L' 1 8 → T'.heap = h' → Fr n0 L' → n0 ≤ h'.size → Keep h0 h' [] → Arv Z h' b1 k1 .long n1 [(.long (b0 ||| (0 : Int64))), (.long (b0 ||| (1 : Int64))), (.long (b0 ||| (2 : Int64))), (.long (0 : Int64)), (.long (0 : Int64)), (.long (0 : Int64)), (.long (0 : Int64)), (.long (0 : Int64))] (.long (0 : Int64)) → own_E p e below (own_F s 16 128) (own_Q0 Z x0 x1 x2 h0 n0) T' (mkF m 76 #[.val (.long x0), .second, .val (.int x1), .val (.int x2), .val (.int n1), .val (.int p1), .val (.long b0), .second, .val (.ref b1), .unset, .unset, .unset, .unset] [])) → own_E p e below (own_F s 16 128) (own_Q0 Z x0 x1 x2 h0 n0) T7 (mkF m 63 #[.val (.long x0), .second, .val (.int x1), .val (.int x2), .val (.int n1), .val (.int p1), .val (.long b0), .second, .val (.ref b1), .unset, .unset, .unset, .unset] [(.int (2 : Int32)), (.int n1)]) := by
    intro kj
    refine own_icN X7 hx (P := ((2 : Int32) < n1)) (hb hby at_63) (own_i_le n1 (2 : Int32)) (by decide) (pc1 := 76) (by decide) (fun hc63 => ?_) (fun hc63 => ?_)
    · show own_E p e below (own_F s 16 128) (own_Q0 Z x0 x1 x2 h0 n0) T7 (mkF m 66 #[.val (.long x0), .second, .val (.int x1), .val (.int x2), .val (.int n1), .val (.int p1), .val (.long b0), .second, .val (.ref b1), .unset, .unset, .unset, .unset] [])
      refine own_step (g' := (mkF m 68 #[.val (.long x0), .second, .val (.int x1), .val (.int x2), .val (.int n1), .val (.int p1), .val (.long b0), .second, .val (.ref b1), .unset, .unset, .unset, .unset] [(.ref b1)])) (fun _ k => XS.aload X7.here hx rfl (hb hby at_66) rfl rfl k) ?_
      refine own_step (g' := (mkF m 69 #[.val (.long x0), .second, .val (.int x1), .val (.int x2), .val (.int n1), .val (.int p1), .val (.long b0), .second, .val (.ref b1), .unset, .unset, .unset, .unset] [(.int (2 : Int32)), (.ref b1)])) (fun _ k => XS.iconst X7.here hx rfl (hb hby at_68) k) ?_
      refine own_step (g' := (mkF m 71 #[.val (.long x0), .second, .val (.int x1), .val (.int x2), .val (.int n1), .val (.int p1), .val (.long b0), .second, .val (.ref b1), .unset, .unset, .unset, .unset] [(.long b0), (.int (2 : Int32)), (.ref b1)])) (fun _ k => XS.lload X7.here hx rfl (hb hby at_69) rfl k) ?_
      refine own_step (g' := (mkF m 74 #[.val (.long x0), .second, .val (.int x1), .val (.int x2), .val (.int n1), .val (.int p1), .val (.long b0), .second, .val (.ref b1), .unset, .unset, .unset, .unset] [(.long (2 : Int64)), (.long b0), (.int (2 : Int32)), (.ref b1)])) (fun _ k => X7.ldc2Long hx hown (mvT hZ (hw _ (List.mem_of_getElem? (i := 10) rfl))) (g := (mkF m 71 #[.val (.long x0), .second, .val (.int x1), .val (.int x2), .val (.int n1), .val (.int p1), .val (.long b0), .second, .val (.ref b1), .unset, .unset, .unset, .unset] [(.long b0), (.int (2 : Int32)), (.ref b1)])) rfl (hb hby at_71) _ k) ?_
      refine own_step (g' := (mkF m 75 #[.val (.long x0), .second, .val (.int x1), .val (.int x2), .val (.int n1), .val (.int p1), .val (.long b0), .second, .val (.ref b1), .unset, .unset, .unset, .unset] [(.long (b0 ||| (2 : Int64))), (.int (2 : Int32)), (.ref b1)])) (fun _ k => XS.lor X7.here hx rfl (hb hby at_74) rfl k) ?_
      obtain ⟨cl9, Ar9, q9, S9, G9, H9, F9⟩ := id V7
      have in9 := inb_of S9 ⟨by decide, hc63⟩
      obtain ⟨T9, h9, X9, e9, W9, st9⟩ := stJ X7 hx hZ e7 Ar9 (j := (2 : Int32)) in9 (g := (mkF m 75 #[.val (.long x0), .second, .val (.int x1), .val (.int x2), .val (.int n1), .val (.int p1), .val (.long b0), .second, .val (.ref b1), .unset, .unset, .unset, .unset] [(.long (b0 ||| (2 : Int64))), (.int (2 : Int32)), (.ref b1)])) rfl rfl (hb hby at_75)
      have V_b1_w9 : Arv Z h9 b1 k1 .long n1 [(.long (b0 ||| (0 : Int64))), (.long (b0 ||| (1 : Int64))), (.long (b0 ||| (2 : Int64))), (.long (0 : Int64)), (.long (0 : Int64)), (.long (0 : Int64)), (.long (0 : Int64)), (.long (0 : Int64))] (.long (0 : Int64)) := Arv.set Ar9 q9 S9 G9 H9 F9 rfl W9 2 rfl (Nat.le_of_ble_eq_true rfl)
      have K9 := K7.wr W9 (Or.inr sz_b1)
      have Z9 := Nat.le_trans Z7 (Keep.of_wr W9).1
      have N9 := Fr.snoc X9 N7 le_b1
      refine own_step (g' := (mkF m 76 #[.val (.long x0), .second, .val (.int x1), .val (.int x2), .val (.int n1), .val (.int p1), .val (.long b0), .second, .val (.ref b1), .unset, .unset, .unset, .unset] [])) st9 ?_
      exact kj _ _ _ X9 e9 N9 Z9 K9 V_b1_w9
    · show own_E p e below (own_F s 16 128) (own_Q0 Z x0 x1 x2 h0 n0) T7 (mkF m 76 #[.val (.long x0), .second, .val (.int x1), .val (.int x2), .val (.int n1), .val (.int p1), .val (.long b0), .second, .val (.ref b1), .unset, .unset, .unset, .unset] [])
      exact kj _ _ _ X7 e7 N7 Z7 K7 (own_arv_skip V7 2 2 rfl (by decide) hc63 _)
  refine kj8 fun T10 h10 L10 X10 e10 N10 Z10 K10 V10 => ?_
  show own_E p e below (own_F s 16 128) (own_Q0 Z x0 x1 x2 h0 n0) T10 (mkF m 76 #[.val (.long x0), .second, .val (.int x1), .val (.int x2), .val (.int n1), .val (.int p1), .val (.long b0), .second, .val (.ref b1), .unset, .unset, .unset, .unset] [])
  refine own_step (g' := (mkF m 78 #[.val (.long x0), .second, .val (.int x1), .val (.int x2), .val (.int n1), .val (.int p1), .val (.long b0), .second, .val (.ref b1), .unset, .unset, .unset, .unset] [(.int n1)])) (fun _ k => XS.iload X10.here hx rfl (hb hby at_76) rfl k) ?_
  refine own_step (g' := (mkF m 79 #[.val (.long x0), .second, .val (.int x1), .val (.int x2), .val (.int n1), .val (.int p1), .val (.long b0), .second, .val (.ref b1), .unset, .unset, .unset, .unset] [(.int (3 : Int32)), (.int n1)])) (fun _ k => XS.iconst X10.here hx rfl (hb hby at_78) k) ?_
  have kj11 : (∀ (T' : State) (h' : Heap) (L' : List Loc), Stand p l e room_1 s m #[(.long x0), (.int x1), (.int x2)] below meth c T' L' 1 8 → T'.heap = h' → Fr n0 L' → n0 ≤ h'.size → Keep h0 h' [] → Arv Z h' b1 k1 .long n1 [(.long (b0 ||| (0 : Int64))), (.long (b0 ||| (1 : Int64))), (.long (b0 ||| (2 : Int64))), (.long (b0 ||| (3 : Int64))), (.long (0 : Int64)), (.long (0 : Int64)), (.long (0 : Int64)), (.long (0 : Int64))] (.long (0 : Int64)) → own_E p e below (own_F s 16 128) (own_Q0 Z x0 x1 x2 h0 n0) T' (mkF m 92 #[.val (.long x0), .second, .val (.int x1), .val (.int x2), .val (.int n1), .val (.int p1), .val (.long b0), .second, .val (.ref b1), .unset, .unset, .unset, .unset] [])) → own_E p e below (own_F s 16 128) (own_Q0 Z x0 x1 x2 h0 n0) T10 (mkF m 79 #[.val (.long x0), .second, .val (.int x1), .val (.int x2), .val (.int n1), .val (.int p1), .val (.long b0), .second, .val (.ref b1), .unset, .unset, .unset, .unset] [(.int (3 : Int32)), (.int n1)]) := by
    intro kj
    refine own_icN X10 hx (P := ((3 : Int32) < n1)) (hb hby at_79) (own_i_le n1 (3 : Int32)) (by decide) (pc1 := 92) (by decide) (fun hc79 => ?_) (fun hc79 => ?_)
    · show own_E p e below (own_F s 16 128) (own_Q0 Z x0 x1 x2 h0 n0) T10 (mkF m 82 #[.val (.long x0), .second, .val (.int x1), .val (.int x2), .val (.int n1), .val (.int p1), .val (.long b0), .second, .val (.ref b1), .unset, .unset, .unset, .unset] [])
      refine own_step (g' := (mkF m 84 #[.val (.long x0), .second, .val (.int x1), .val (.int x2), .val (.int n1), .val (.int p1), .val (.long b0), .second, .val (.ref b1), .unset, .unset, .unset, .unset] [(.ref b1)])) (fun _ k => XS.aload X10.here hx rfl (hb hby at_82) rfl rfl k) ?_
      refine own_step (g' := (mkF m 85 #[.val (.long x0), .second, .val (.int x1), .val (.int x2), .val (.int n1), .val (.int p1), .val (.long b0), .second, .val (.ref b1), .unset, .unset, .unset, .unset] [(.int (3 : Int32)), (.ref b1)])) (fun _ k => XS.iconst X10.here hx rfl (hb hby at_84) k) ?_
      refine own_step (g' := (mkF m 87 #[.val (.long x0), .second, .val (.int x1), .val (.int x2), .val (.int n1), .val (.int p1), .val (.long b0), .second, .val (.ref b1), .unset, .unset, .unset, .unset] [(.long b0), (.int (3 : Int32)), (.ref b1)])) (fun _ k => XS.lload X10.here hx rfl (hb hby at_85) rfl k) ?_
      refine own_step (g' := (mkF m 90 #[.val (.long x0), .second, .val (.int x1), .val (.int x2), .val (.int n1), .val (.int p1), .val (.long b0), .second, .val (.ref b1), .unset, .unset, .unset, .unset] [(.long (3 : Int64)), (.long b0), (.int (3 : Int32)), (.ref b1)])) (fun _ k => X10.ldc2Long hx hown (mvT hZ (hw _ (List.mem_of_getElem? (i := 11) rfl))) (g := (mkF m 87 #[.val (.long x0), .second, .val (.int x1), .val (.int x2), .val (.int n1), .val (.int p1), .val (.long b0), .second, .val (.ref b1), .unset, .unset, .unset, .unset] [(.long b0), (.int (3 : Int32)), (.ref b1)])) rfl (hb hby at_87) _ k) ?_
      refine own_step (g' := (mkF m 91 #[.val (.long x0), .second, .val (.int x1), .val (.int x2), .val (.int n1), .val (.int p1), .val (.long b0), .second, .val (.ref b1), .unset, .unset, .unset, .unset] [(.long (b0 ||| (3 : Int64))), (.int (3 : Int32)), (.ref b1)])) (fun _ k => XS.lor X10.here hx rfl (hb hby at_90) rfl k) ?_
      obtain ⟨cl12, Ar12, q12, S12, G12, H12, F12⟩ := id V10
      have in12 := inb_of S12 ⟨by decide, hc79⟩
      obtain ⟨T12, h12, X12, e12, W12, st12⟩ := stJ X10 hx hZ e10 Ar12 (j := (3 : Int32)) in12 (g := (mkF m 91 #[.val (.long x0), .second, .val (.int x1), .val (.int x2), .val (.int n1), .val (.int p1), .val (.long b0), .second, .val (.ref b1), .unset, .unset, .unset, .unset] [(.long (b0 ||| (3 : Int64))), (.int (3 : Int32)), (.ref b1)])) rfl rfl (hb hby at_91)
      have V_b1_w12 : Arv Z h12 b1 k1 .long n1 [(.long (b0 ||| (0 : Int64))), (.long (b0 ||| (1 : Int64))), (.long (b0 ||| (2 : Int64))), (.long (b0 ||| (3 : Int64))), (.long (0 : Int64)), (.long (0 : Int64)), (.long (0 : Int64)), (.long (0 : Int64))] (.long (0 : Int64)) := Arv.set Ar12 q12 S12 G12 H12 F12 rfl W12 3 rfl (Nat.le_of_ble_eq_true rfl)
      have K12 := K10.wr W12 (Or.inr sz_b1)
      have Z12 := Nat.le_trans Z10 (Keep.of_wr W12).1
      have N12 := Fr.snoc X12 N10 le_b1
      refine own_step (g' := (mkF m 92 #[.val (.long x0), .second, .val (.int x1), .val (.int x2), .val (.int n1), .val (.int p1), .val (.long b0), .second, .val (.ref b1), .unset, .unset, .unset, .unset] [])) st12 ?_
      exact kj _ _ _ X12 e12 N12 Z12 K12 V_b1_w12
    · show own_E p e below (own_F s 16 128) (own_Q0 Z x0 x1 x2 h0 n0) T10 (mkF m 92 #[.val (.long x0), .second, .val (.int x1), .val (.int x2), .val (.int n1), .val (.int p1), .val (.long b0), .second, .val (.ref b1), .unset, .unset, .unset, .unset] [])
      exact kj _ _ _ X10 e10 N10 Z10 K10 (own_arv_skip V10 3 3 rfl (by decide) hc79 _)
  refine kj11 fun T13 h13 L13 X13 e13 N13 Z13 K13 V13 => ?_
  show own_E p e below (own_F s 16 128) (own_Q0 Z x0 x1 x2 h0 n0) T13 (mkF m 92 #[.val (.long x0), .second, .val (.int x1), .val (.int x2), .val (.int n1), .val (.int p1), .val (.long b0), .second, .val (.ref b1), .unset, .unset, .unset, .unset] [])
  refine own_step (g' := (mkF m 94 #[.val (.long x0), .second, .val (.int x1), .val (.int x2), .val (.int n1), .val (.int p1), .val (.long b0), .second, .val (.ref b1), .unset, .unset, .unset, .unset] [(.int n1)])) (fun _ k => XS.iload X13.here hx rfl (hb hby at_92) rfl k) ?_
  refine own_step (g' := (mkF m 95 #[.val (.long x0), .second, .val (.int x1), .val (.int x2), .val (.int n1), .val (.int p1), .val (.long b0), .second, .val (.ref b1), .unset, .unset, .unset, .unset] [(.int (4 : Int32)), (.int n1)])) (fun _ k => XS.iconst X13.here hx rfl (hb hby at_94) k) ?_
  have kj14 : (∀ (T' : State) (h' : Heap) (L' : List Loc), Stand p l e room_1 s m #[(.long x0), (.int x1), (.int x2)] below meth c T' L' 1 8 → T'.heap = h' → Fr n0 L' → n0 ≤ h'.size → Keep h0 h' [] → Arv Z h' b1 k1 .long n1 [(.long (b0 ||| (0 : Int64))), (.long (b0 ||| (1 : Int64))), (.long (b0 ||| (2 : Int64))), (.long (b0 ||| (3 : Int64))), (.long (b0 ||| (4 : Int64))), (.long (0 : Int64)), (.long (0 : Int64)), (.long (0 : Int64))] (.long (0 : Int64)) → own_E p e below (own_F s 16 128) (own_Q0 Z x0 x1 x2 h0 n0) T' (mkF m 108 #[.val (.long x0), .second, .val (.int x1), .val (.int x2), .val (.int n1), .val (.int p1), .val (.long b0), .second, .val (.ref b1), .unset, .unset, .unset, .unset] [])) → own_E p e below (own_F s 16 128) (own_Q0 Z x0 x1 x2 h0 n0) T13 (mkF m 95 #[.val (.long x0), .second, .val (.int x1), .val (.int x2), .val (.int n1), .val (.int p1), .val (.long b0), .second, .val (.ref b1), .unset, .unset, .unset, .unset] [(.int (4 : Int32)), (.int n1)]) := by
    intro kj
    refine own_icN X13 hx (P := ((4 : Int32) < n1)) (hb hby at_95) (own_i_le n1 (4 : Int32)) (by decide) (pc1 := 108) (by decide) (fun hc95 => ?_) (fun hc95 => ?_)
    · show own_E p e below (own_F s 16 128) (own_Q0 Z x0 x1 x2 h0 n0) T13 (mkF m 98 #[.val (.long x0), .second, .val (.int x1), .val (.int x2), .val (.int n1), .val (.int p1), .val (.long b0), .second, .val (.ref b1), .unset, .unset, .unset, .unset] [])
      refine own_step (g' := (mkF m 100 #[.val (.long x0), .second, .val (.int x1), .val (.int x2), .val (.int n1), .val (.int p1), .val (.long b0), .second, .val (.ref b1), .unset, .unset, .unset, .unset] [(.ref b1)])) (fun _ k => XS.aload X13.here hx rfl (hb hby at_98) rfl rfl k) ?_
      refine own_step (g' := (mkF m 101 #[.val (.long x0), .second, .val (.int x1), .val (.int x2), .val (.int n1), .val (.int p1), .val (.long b0), .second, .val (.ref b1), .unset, .unset, .unset, .unset] [(.int (4 : Int32)), (.ref b1)])) (fun _ k => XS.iconst X13.here hx rfl (hb hby at_100) k) ?_
      refine own_step (g' := (mkF m 103 #[.val (.long x0), .second, .val (.int x1), .val (.int x2), .val (.int n1), .val (.int p1), .val (.long b0), .second, .val (.ref b1), .unset, .unset, .unset, .unset] [(.long b0), (.int (4 : Int32)), (.ref b1)])) (fun _ k => XS.lload X13.here hx rfl (hb hby at_101) rfl k) ?_
      refine own_step (g' := (mkF m 106 #[.val (.long x0), .second, .val (.int x1), .val (.int x2), .val (.int n1), .val (.int p1), .val (.long b0), .second, .val (.ref b1), .unset, .unset, .unset, .unset] [(.long (4 : Int64)), (.long b0), (.int (4 : Int32)), (.ref b1)])) (fun _ k => X13.ldc2Long hx hown (mvT hZ (hw _ (List.mem_of_getElem? (i := 12) rfl))) (g := (mkF m 103 #[.val (.long x0), .second, .val (.int x1), .val (.int x2), .val (.int n1), .val (.int p1), .val (.long b0), .second, .val (.ref b1), .unset, .unset, .unset, .unset] [(.long b0), (.int (4 : Int32)), (.ref b1)])) rfl (hb hby at_103) _ k) ?_
      refine own_step (g' := (mkF m 107 #[.val (.long x0), .second, .val (.int x1), .val (.int x2), .val (.int n1), .val (.int p1), .val (.long b0), .second, .val (.ref b1), .unset, .unset, .unset, .unset] [(.long (b0 ||| (4 : Int64))), (.int (4 : Int32)), (.ref b1)])) (fun _ k => XS.lor X13.here hx rfl (hb hby at_106) rfl k) ?_
      obtain ⟨cl15, Ar15, q15, S15, G15, H15, F15⟩ := id V13
      have in15 := inb_of S15 ⟨by decide, hc95⟩
      obtain ⟨T15, h15, X15, e15, W15, st15⟩ := stJ X13 hx hZ e13 Ar15 (j := (4 : Int32)) in15 (g := (mkF m 107 #[.val (.long x0), .second, .val (.int x1), .val (.int x2), .val (.int n1), .val (.int p1), .val (.long b0), .second, .val (.ref b1), .unset, .unset, .unset, .unset] [(.long (b0 ||| (4 : Int64))), (.int (4 : Int32)), (.ref b1)])) rfl rfl (hb hby at_107)
      have V_b1_w15 : Arv Z h15 b1 k1 .long n1 [(.long (b0 ||| (0 : Int64))), (.long (b0 ||| (1 : Int64))), (.long (b0 ||| (2 : Int64))), (.long (b0 ||| (3 : Int64))), (.long (b0 ||| (4 : Int64))), (.long (0 : Int64)), (.long (0 : Int64)), (.long (0 : Int64))] (.long (0 : Int64)) := Arv.set Ar15 q15 S15 G15 H15 F15 rfl W15 4 rfl (Nat.le_of_ble_eq_true rfl)
      have K15 := K13.wr W15 (Or.inr sz_b1)
      have Z15 := Nat.le_trans Z13 (Keep.of_wr W15).1
      have N15 := Fr.snoc X15 N13 le_b1
      refine own_step (g' := (mkF m 108 #[.val (.long x0), .second, .val (.int x1), .val (.int x2), .val (.int n1), .val (.int p1), .val (.long b0), .second, .val (.ref b1), .unset, .unset, .unset, .unset] [])) st15 ?_
      exact kj _ _ _ X15 e15 N15 Z15 K15 V_b1_w15
    · show own_E p e below (own_F s 16 128) (own_Q0 Z x0 x1 x2 h0 n0) T13 (mkF m 108 #[.val (.long x0), .second, .val (.int x1), .val (.int x2), .val (.int n1), .val (.int p1), .val (.long b0), .second, .val (.ref b1), .unset, .unset, .unset, .unset] [])
      exact kj _ _ _ X13 e13 N13 Z13 K13 (own_arv_skip V13 4 4 rfl (by decide) hc95 _)
  refine kj14 fun T16 h16 L16 X16 e16 N16 Z16 K16 V16 => ?_
  show own_E p e below (own_F s 16 128) (own_Q0 Z x0 x1 x2 h0 n0) T16 (mkF m 108 #[.val (.long x0), .second, .val (.int x1), .val (.int x2), .val (.int n1), .val (.int p1), .val (.long b0), .second, .val (.ref b1), .unset, .unset, .unset, .unset] [])
  refine own_step (g' := (mkF m 110 #[.val (.long x0), .second, .val (.int x1), .val (.int x2), .val (.int n1), .val (.int p1), .val (.long b0), .second, .val (.ref b1), .unset, .unset, .unset, .unset] [(.int n1)])) (fun _ k => XS.iload X16.here hx rfl (hb hby at_108) rfl k) ?_
  refine own_step (g' := (mkF m 111 #[.val (.long x0), .second, .val (.int x1), .val (.int x2), .val (.int n1), .val (.int p1), .val (.long b0), .second, .val (.ref b1), .unset, .unset, .unset, .unset] [(.int (5 : Int32)), (.int n1)])) (fun _ k => XS.iconst X16.here hx rfl (hb hby at_110) k) ?_
  have kj17 : (∀ (T' : State) (h' : Heap) (L' : List Loc), Stand p l e room_1 s m #[(.long x0), (.int x1), (.int x2)] below meth c T' L' 1 8 → T'.heap = h' → Fr n0 L' → n0 ≤ h'.size → Keep h0 h' [] → Arv Z h' b1 k1 .long n1 [(.long (b0 ||| (0 : Int64))), (.long (b0 ||| (1 : Int64))), (.long (b0 ||| (2 : Int64))), (.long (b0 ||| (3 : Int64))), (.long (b0 ||| (4 : Int64))), (.long (b0 ||| (5 : Int64))), (.long (0 : Int64)), (.long (0 : Int64))] (.long (0 : Int64)) → own_E p e below (own_F s 16 128) (own_Q0 Z x0 x1 x2 h0 n0) T' (mkF m 124 #[.val (.long x0), .second, .val (.int x1), .val (.int x2), .val (.int n1), .val (.int p1), .val (.long b0), .second, .val (.ref b1), .unset, .unset, .unset, .unset] [])) → own_E p e below (own_F s 16 128) (own_Q0 Z x0 x1 x2 h0 n0) T16 (mkF m 111 #[.val (.long x0), .second, .val (.int x1), .val (.int x2), .val (.int n1), .val (.int p1), .val (.long b0), .second, .val (.ref b1), .unset, .unset, .unset, .unset] [(.int (5 : Int32)), (.int n1)]) := by
    intro kj
    refine own_icN X16 hx (P := ((5 : Int32) < n1)) (hb hby at_111) (own_i_le n1 (5 : Int32)) (by decide) (pc1 := 124) (by decide) (fun hc111 => ?_) (fun hc111 => ?_)
    · show own_E p e below (own_F s 16 128) (own_Q0 Z x0 x1 x2 h0 n0) T16 (mkF m 114 #[.val (.long x0), .second, .val (.int x1), .val (.int x2), .val (.int n1), .val (.int p1), .val (.long b0), .second, .val (.ref b1), .unset, .unset, .unset, .unset] [])
      refine own_step (g' := (mkF m 116 #[.val (.long x0), .second, .val (.int x1), .val (.int x2), .val (.int n1), .val (.int p1), .val (.long b0), .second, .val (.ref b1), .unset, .unset, .unset, .unset] [(.ref b1)])) (fun _ k => XS.aload X16.here hx rfl (hb hby at_114) rfl rfl k) ?_
      refine own_step (g' := (mkF m 117 #[.val (.long x0), .second, .val (.int x1), .val (.int x2), .val (.int n1), .val (.int p1), .val (.long b0), .second, .val (.ref b1), .unset, .unset, .unset, .unset] [(.int (5 : Int32)), (.ref b1)])) (fun _ k => XS.iconst X16.here hx rfl (hb hby at_116) k) ?_
      refine own_step (g' := (mkF m 119 #[.val (.long x0), .second, .val (.int x1), .val (.int x2), .val (.int n1), .val (.int p1), .val (.long b0), .second, .val (.ref b1), .unset, .unset, .unset, .unset] [(.long b0), (.int (5 : Int32)), (.ref b1)])) (fun _ k => XS.lload X16.here hx rfl (hb hby at_117) rfl k) ?_
      refine own_step (g' := (mkF m 122 #[.val (.long x0), .second, .val (.int x1), .val (.int x2), .val (.int n1), .val (.int p1), .val (.long b0), .second, .val (.ref b1), .unset, .unset, .unset, .unset] [(.long (5 : Int64)), (.long b0), (.int (5 : Int32)), (.ref b1)])) (fun _ k => X16.ldc2Long hx hown (mvT hZ (hw _ (List.mem_of_getElem? (i := 13) rfl))) (g := (mkF m 119 #[.val (.long x0), .second, .val (.int x1), .val (.int x2), .val (.int n1), .val (.int p1), .val (.long b0), .second, .val (.ref b1), .unset, .unset, .unset, .unset] [(.long b0), (.int (5 : Int32)), (.ref b1)])) rfl (hb hby at_119) _ k) ?_
      refine own_step (g' := (mkF m 123 #[.val (.long x0), .second, .val (.int x1), .val (.int x2), .val (.int n1), .val (.int p1), .val (.long b0), .second, .val (.ref b1), .unset, .unset, .unset, .unset] [(.long (b0 ||| (5 : Int64))), (.int (5 : Int32)), (.ref b1)])) (fun _ k => XS.lor X16.here hx rfl (hb hby at_122) rfl k) ?_
      obtain ⟨cl18, Ar18, q18, S18, G18, H18, F18⟩ := id V16
      have in18 := inb_of S18 ⟨by decide, hc111⟩
      obtain ⟨T18, h18, X18, e18, W18, st18⟩ := stJ X16 hx hZ e16 Ar18 (j := (5 : Int32)) in18 (g := (mkF m 123 #[.val (.long x0), .second, .val (.int x1), .val (.int x2), .val (.int n1), .val (.int p1), .val (.long b0), .second, .val (.ref b1), .unset, .unset, .unset, .unset] [(.long (b0 ||| (5 : Int64))), (.int (5 : Int32)), (.ref b1)])) rfl rfl (hb hby at_123)
      have V_b1_w18 : Arv Z h18 b1 k1 .long n1 [(.long (b0 ||| (0 : Int64))), (.long (b0 ||| (1 : Int64))), (.long (b0 ||| (2 : Int64))), (.long (b0 ||| (3 : Int64))), (.long (b0 ||| (4 : Int64))), (.long (b0 ||| (5 : Int64))), (.long (0 : Int64)), (.long (0 : Int64))] (.long (0 : Int64)) := Arv.set Ar18 q18 S18 G18 H18 F18 rfl W18 5 rfl (Nat.le_of_ble_eq_true rfl)
      have K18 := K16.wr W18 (Or.inr sz_b1)
      have Z18 := Nat.le_trans Z16 (Keep.of_wr W18).1
      have N18 := Fr.snoc X18 N16 le_b1
      refine own_step (g' := (mkF m 124 #[.val (.long x0), .second, .val (.int x1), .val (.int x2), .val (.int n1), .val (.int p1), .val (.long b0), .second, .val (.ref b1), .unset, .unset, .unset, .unset] [])) st18 ?_
      exact kj _ _ _ X18 e18 N18 Z18 K18 V_b1_w18
    · show own_E p e below (own_F s 16 128) (own_Q0 Z x0 x1 x2 h0 n0) T16 (mkF m 124 #[.val (.long x0), .second, .val (.int x1), .val (.int x2), .val (.int n1), .val (.int p1), .val (.long b0), .second, .val (.ref b1), .unset, .unset, .unset, .unset] [])
      exact kj _ _ _ X16 e16 N16 Z16 K16 (own_arv_skip V16 5 5 rfl (by decide) hc111 _)
  refine kj17 fun T19 h19 L19 X19 e19 N19 Z19 K19 V19 => ?_
  show own_E p e below (own_F s 16 128) (own_Q0 Z x0 x1 x2 h0 n0) T19 (mkF m 124 #[.val (.long x0), .second, .val (.int x1), .val (.int x2), .val (.int n1), .val (.int p1), .val (.long b0), .second, .val (.ref b1), .unset, .unset, .unset, .unset] [])
  refine own_step (g' := (mkF m 126 #[.val (.long x0), .second, .val (.int x1), .val (.int x2), .val (.int n1), .val (.int p1), .val (.long b0), .second, .val (.ref b1), .unset, .unset, .unset, .unset] [(.int n1)])) (fun _ k => XS.iload X19.here hx rfl (hb hby at_124) rfl k) ?_
  refine own_step (g' := (mkF m 128 #[.val (.long x0), .second, .val (.int x1), .val (.int x2), .val (.int n1), .val (.int p1), .val (.long b0), .second, .val (.ref b1), .unset, .unset, .unset, .unset] [(.int (6 : Int32)), (.int n1)])) (fun _ k => XS.bipush X19.here hx rfl (hb hby at_126) k) ?_
  have kj20 : (∀ (T' : State) (h' : Heap) (L' : List Loc), Stand p l e room_1 s m #[(.long x0), (.int x1), (.int x2)] below meth c T' L' 1 8 → T'.heap = h' → Fr n0 L' → n0 ≤ h'.size → Keep h0 h' [] → Arv Z h' b1 k1 .long n1 [(.long (b0 ||| (0 : Int64))), (.long (b0 ||| (1 : Int64))), (.long (b0 ||| (2 : Int64))), (.long (b0 ||| (3 : Int64))), (.long (b0 ||| (4 : Int64))), (.long (b0 ||| (5 : Int64))), (.long (b0 ||| (6 : Int64))), (.long (0 : Int64))] (.long (0 : Int64)) → own_E p e below (own_F s 16 128) (own_Q0 Z x0 x1 x2 h0 n0) T' (mkF m 142 #[.val (.long x0), .second, .val (.int x1), .val (.int x2), .val (.int n1), .val (.int p1), .val (.long b0), .second, .val (.ref b1), .unset, .unset, .unset, .unset] [])) → own_E p e below (own_F s 16 128) (own_Q0 Z x0 x1 x2 h0 n0) T19 (mkF m 128 #[.val (.long x0), .second, .val (.int x1), .val (.int x2), .val (.int n1), .val (.int p1), .val (.long b0), .second, .val (.ref b1), .unset, .unset, .unset, .unset] [(.int (6 : Int32)), (.int n1)]) := by
    intro kj
    refine own_icN X19 hx (P := ((6 : Int32) < n1)) (hb hby at_128) (own_i_le n1 (6 : Int32)) (by decide) (pc1 := 142) (by decide) (fun hc128 => ?_) (fun hc128 => ?_)
    · show own_E p e below (own_F s 16 128) (own_Q0 Z x0 x1 x2 h0 n0) T19 (mkF m 131 #[.val (.long x0), .second, .val (.int x1), .val (.int x2), .val (.int n1), .val (.int p1), .val (.long b0), .second, .val (.ref b1), .unset, .unset, .unset, .unset] [])
      refine own_step (g' := (mkF m 133 #[.val (.long x0), .second, .val (.int x1), .val (.int x2), .val (.int n1), .val (.int p1), .val (.long b0), .second, .val (.ref b1), .unset, .unset, .unset, .unset] [(.ref b1)])) (fun _ k => XS.aload X19.here hx rfl (hb hby at_131) rfl rfl k) ?_
      refine own_step (g' := (mkF m 135 #[.val (.long x0), .second, .val (.int x1), .val (.int x2), .val (.int n1), .val (.int p1), .val (.long b0), .second, .val (.ref b1), .unset, .unset, .unset, .unset] [(.int (6 : Int32)), (.ref b1)])) (fun _ k => XS.bipush X19.here hx rfl (hb hby at_133) k) ?_
      refine own_step (g' := (mkF m 137 #[.val (.long x0), .second, .val (.int x1), .val (.int x2), .val (.int n1), .val (.int p1), .val (.long b0), .second, .val (.ref b1), .unset, .unset, .unset, .unset] [(.long b0), (.int (6 : Int32)), (.ref b1)])) (fun _ k => XS.lload X19.here hx rfl (hb hby at_135) rfl k) ?_
      refine own_step (g' := (mkF m 140 #[.val (.long x0), .second, .val (.int x1), .val (.int x2), .val (.int n1), .val (.int p1), .val (.long b0), .second, .val (.ref b1), .unset, .unset, .unset, .unset] [(.long (6 : Int64)), (.long b0), (.int (6 : Int32)), (.ref b1)])) (fun _ k => X19.ldc2Long hx hown (mvT hZ (hw _ (List.mem_of_getElem? (i := 14) rfl))) (g := (mkF m 137 #[.val (.long x0), .second, .val (.int x1), .val (.int x2), .val (.int n1), .val (.int p1), .val (.long b0), .second, .val (.ref b1), .unset, .unset, .unset, .unset] [(.long b0), (.int (6 : Int32)), (.ref b1)])) rfl (hb hby at_137) _ k) ?_
      refine own_step (g' := (mkF m 141 #[.val (.long x0), .second, .val (.int x1), .val (.int x2), .val (.int n1), .val (.int p1), .val (.long b0), .second, .val (.ref b1), .unset, .unset, .unset, .unset] [(.long (b0 ||| (6 : Int64))), (.int (6 : Int32)), (.ref b1)])) (fun _ k => XS.lor X19.here hx rfl (hb hby at_140) rfl k) ?_
      obtain ⟨cl21, Ar21, q21, S21, G21, H21, F21⟩ := id V19
      have in21 := inb_of S21 ⟨by decide, hc128⟩
      obtain ⟨T21, h21, X21, e21, W21, st21⟩ := stJ X19 hx hZ e19 Ar21 (j := (6 : Int32)) in21 (g := (mkF m 141 #[.val (.long x0), .second, .val (.int x1), .val (.int x2), .val (.int n1), .val (.int p1), .val (.long b0), .second, .val (.ref b1), .unset, .unset, .unset, .unset] [(.long (b0 ||| (6 : Int64))), (.int (6 : Int32)), (.ref b1)])) rfl rfl (hb hby at_141)
      have V_b1_w21 : Arv Z h21 b1 k1 .long n1 [(.long (b0 ||| (0 : Int64))), (.long (b0 ||| (1 : Int64))), (.long (b0 ||| (2 : Int64))), (.long (b0 ||| (3 : Int64))), (.long (b0 ||| (4 : Int64))), (.long (b0 ||| (5 : Int64))), (.long (b0 ||| (6 : Int64))), (.long (0 : Int64))] (.long (0 : Int64)) := Arv.set Ar21 q21 S21 G21 H21 F21 rfl W21 6 rfl (Nat.le_of_ble_eq_true rfl)
      have K21 := K19.wr W21 (Or.inr sz_b1)
      have Z21 := Nat.le_trans Z19 (Keep.of_wr W21).1
      have N21 := Fr.snoc X21 N19 le_b1
      refine own_step (g' := (mkF m 142 #[.val (.long x0), .second, .val (.int x1), .val (.int x2), .val (.int n1), .val (.int p1), .val (.long b0), .second, .val (.ref b1), .unset, .unset, .unset, .unset] [])) st21 ?_
      exact kj _ _ _ X21 e21 N21 Z21 K21 V_b1_w21
    · show own_E p e below (own_F s 16 128) (own_Q0 Z x0 x1 x2 h0 n0) T19 (mkF m 142 #[.val (.long x0), .second, .val (.int x1), .val (.int x2), .val (.int n1), .val (.int p1), .val (.long b0), .second, .val (.ref b1), .unset, .unset, .unset, .unset] [])
      exact kj _ _ _ X19 e19 N19 Z19 K19 (own_arv_skip V19 6 6 rfl (by decide) hc128 _)
  refine kj20 fun T22 h22 L22 X22 e22 N22 Z22 K22 V22 => ?_
  show own_E p e below (own_F s 16 128) (own_Q0 Z x0 x1 x2 h0 n0) T22 (mkF m 142 #[.val (.long x0), .second, .val (.int x1), .val (.int x2), .val (.int n1), .val (.int p1), .val (.long b0), .second, .val (.ref b1), .unset, .unset, .unset, .unset] [])
  refine own_step (g' := (mkF m 144 #[.val (.long x0), .second, .val (.int x1), .val (.int x2), .val (.int n1), .val (.int p1), .val (.long b0), .second, .val (.ref b1), .unset, .unset, .unset, .unset] [(.int n1)])) (fun _ k => XS.iload X22.here hx rfl (hb hby at_142) rfl k) ?_
  refine own_step (g' := (mkF m 146 #[.val (.long x0), .second, .val (.int x1), .val (.int x2), .val (.int n1), .val (.int p1), .val (.long b0), .second, .val (.ref b1), .unset, .unset, .unset, .unset] [(.int (7 : Int32)), (.int n1)])) (fun _ k => XS.bipush X22.here hx rfl (hb hby at_144) k) ?_
  have kj23 : (∀ (T' : State) (h' : Heap) (L' : List Loc), Stand p l e room_1 s m #[(.long x0), (.int x1), (.int x2)] below meth c T' L' 1 8 → T'.heap = h' → Fr n0 L' → n0 ≤ h'.size → Keep h0 h' [] → Arv Z h' b1 k1 .long n1 [(.long (b0 ||| (0 : Int64))), (.long (b0 ||| (1 : Int64))), (.long (b0 ||| (2 : Int64))), (.long (b0 ||| (3 : Int64))), (.long (b0 ||| (4 : Int64))), (.long (b0 ||| (5 : Int64))), (.long (b0 ||| (6 : Int64))), (.long (b0 ||| (7 : Int64)))] (.long (0 : Int64)) → own_E p e below (own_F s 16 128) (own_Q0 Z x0 x1 x2 h0 n0) T' (mkF m 160 #[.val (.long x0), .second, .val (.int x1), .val (.int x2), .val (.int n1), .val (.int p1), .val (.long b0), .second, .val (.ref b1), .unset, .unset, .unset, .unset] [])) → own_E p e below (own_F s 16 128) (own_Q0 Z x0 x1 x2 h0 n0) T22 (mkF m 146 #[.val (.long x0), .second, .val (.int x1), .val (.int x2), .val (.int n1), .val (.int p1), .val (.long b0), .second, .val (.ref b1), .unset, .unset, .unset, .unset] [(.int (7 : Int32)), (.int n1)]) := by
    intro kj
    refine own_icN X22 hx (P := ((7 : Int32) < n1)) (hb hby at_146) (own_i_le n1 (7 : Int32)) (by decide) (pc1 := 160) (by decide) (fun hc146 => ?_) (fun hc146 => ?_)
    · show own_E p e below (own_F s 16 128) (own_Q0 Z x0 x1 x2 h0 n0) T22 (mkF m 149 #[.val (.long x0), .second, .val (.int x1), .val (.int x2), .val (.int n1), .val (.int p1), .val (.long b0), .second, .val (.ref b1), .unset, .unset, .unset, .unset] [])
      refine own_step (g' := (mkF m 151 #[.val (.long x0), .second, .val (.int x1), .val (.int x2), .val (.int n1), .val (.int p1), .val (.long b0), .second, .val (.ref b1), .unset, .unset, .unset, .unset] [(.ref b1)])) (fun _ k => XS.aload X22.here hx rfl (hb hby at_149) rfl rfl k) ?_
      refine own_step (g' := (mkF m 153 #[.val (.long x0), .second, .val (.int x1), .val (.int x2), .val (.int n1), .val (.int p1), .val (.long b0), .second, .val (.ref b1), .unset, .unset, .unset, .unset] [(.int (7 : Int32)), (.ref b1)])) (fun _ k => XS.bipush X22.here hx rfl (hb hby at_151) k) ?_
      refine own_step (g' := (mkF m 155 #[.val (.long x0), .second, .val (.int x1), .val (.int x2), .val (.int n1), .val (.int p1), .val (.long b0), .second, .val (.ref b1), .unset, .unset, .unset, .unset] [(.long b0), (.int (7 : Int32)), (.ref b1)])) (fun _ k => XS.lload X22.here hx rfl (hb hby at_153) rfl k) ?_
      refine own_step (g' := (mkF m 158 #[.val (.long x0), .second, .val (.int x1), .val (.int x2), .val (.int n1), .val (.int p1), .val (.long b0), .second, .val (.ref b1), .unset, .unset, .unset, .unset] [(.long (7 : Int64)), (.long b0), (.int (7 : Int32)), (.ref b1)])) (fun _ k => X22.ldc2Long hx hown (mvT hZ (hw _ (List.mem_of_getElem? (i := 9) rfl))) (g := (mkF m 155 #[.val (.long x0), .second, .val (.int x1), .val (.int x2), .val (.int n1), .val (.int p1), .val (.long b0), .second, .val (.ref b1), .unset, .unset, .unset, .unset] [(.long b0), (.int (7 : Int32)), (.ref b1)])) rfl (hb hby at_155) _ k) ?_
      refine own_step (g' := (mkF m 159 #[.val (.long x0), .second, .val (.int x1), .val (.int x2), .val (.int n1), .val (.int p1), .val (.long b0), .second, .val (.ref b1), .unset, .unset, .unset, .unset] [(.long (b0 ||| (7 : Int64))), (.int (7 : Int32)), (.ref b1)])) (fun _ k => XS.lor X22.here hx rfl (hb hby at_158) rfl k) ?_
      obtain ⟨cl24, Ar24, q24, S24, G24, H24, F24⟩ := id V22
      have in24 := inb_of S24 ⟨by decide, hc146⟩
      obtain ⟨T24, h24, X24, e24, W24, st24⟩ := stJ X22 hx hZ e22 Ar24 (j := (7 : Int32)) in24 (g := (mkF m 159 #[.val (.long x0), .second, .val (.int x1), .val (.int x2), .val (.int n1), .val (.int p1), .val (.long b0), .second, .val (.ref b1), .unset, .unset, .unset, .unset] [(.long (b0 ||| (7 : Int64))), (.int (7 : Int32)), (.ref b1)])) rfl rfl (hb hby at_159)
      have V_b1_w24 : Arv Z h24 b1 k1 .long n1 [(.long (b0 ||| (0 : Int64))), (.long (b0 ||| (1 : Int64))), (.long (b0 ||| (2 : Int64))), (.long (b0 ||| (3 : Int64))), (.long (b0 ||| (4 : Int64))), (.long (b0 ||| (5 : Int64))), (.long (b0 ||| (6 : Int64))), (.long (b0 ||| (7 : Int64)))] (.long (0 : Int64)) := Arv.set Ar24 q24 S24 G24 H24 F24 rfl W24 7 rfl (Nat.le_of_ble_eq_true rfl)
      have K24 := K22.wr W24 (Or.inr sz_b1)
      have Z24 := Nat.le_trans Z22 (Keep.of_wr W24).1
      have N24 := Fr.snoc X24 N22 le_b1
      refine own_step (g' := (mkF m 160 #[.val (.long x0), .second, .val (.int x1), .val (.int x2), .val (.int n1), .val (.int p1), .val (.long b0), .second, .val (.ref b1), .unset, .unset, .unset, .unset] [])) st24 ?_
      exact kj _ _ _ X24 e24 N24 Z24 K24 V_b1_w24
    · show own_E p e below (own_F s 16 128) (own_Q0 Z x0 x1 x2 h0 n0) T22 (mkF m 160 #[.val (.long x0), .second, .val (.int x1), .val (.int x2), .val (.int n1), .val (.int p1), .val (.long b0), .second, .val (.ref b1), .unset, .unset, .unset, .unset] [])
      exact kj _ _ _ X22 e22 N22 Z22 K22 (own_arv_skip V22 7 7 rfl (by decide) hc146 _)
  refine kj23 fun T25 h25 L25 X25 e25 N25 Z25 K25 V25 => ?_
  show own_E p e below (own_F s 16 128) (own_Q0 Z x0 x1 x2 h0 n0) T25 (mkF m 160 #[.val (.long x0), .second, .val (.int x1), .val (.int x2), .val (.int n1), .val (.int p1), .val (.long b0), .second, .val (.ref b1), .unset, .unset, .unset, .unset] [])
  have hnp : ¬ n1 = 0 → 1 ≤ n1.toInt ∧ n1.toInt < 9 := fun h => ⟨by rw [← Int32.toInt_inj] at h; have : (0 : Int32).toInt = 0 := rfl; omega, hnb.2⟩
  refine own_step (g' := (mkF m 162 #[.val (.long x0), .second, .val (.int x1), .val (.int x2), .val (.int n1), .val (.int p1), .val (.long b0), .second, .val (.ref b1), .unset, .unset, .unset, .unset] [(.ref b1)])) (fun _ k => XS.aload X25.here hx rfl (hb hby at_160) rfl rfl k) ?_
  refine own_step (g' := (mkF m 164 #[.val (.long x0), .second, .val (.int x1), .val (.int x2), .val (.int n1), .val (.int p1), .val (.long b0), .second, .val (.ref b1), .unset, .unset, .unset, .unset] [(.int p1), (.ref b1)])) (fun _ k => XS.iload X25.here hx rfl (hb hby at_162) rfl k) ?_
  obtain ⟨_, _, ⟨T26, L26, k26, n26⟩, -, X26, ⟨Lc26, hQ26, l26, y26, z26⟩, st26⟩ := Jvm.LawKit.callS X25 hx (y := (⟨"com/example/millrace/millrace/AppendLoadCommand", "percentile", "([JI)J"⟩ : MethodName)) hown (mvT hZ (hw _ (List.mem_of_getElem? (i := 3) rfl))) (mvT hZ (hw _ (List.mem_of_getElem? (i := 4) rfl))) (mvT hZ (hw _ (List.mem_of_getElem? (i := 5) rfl))) (mvT hZ (hw _ (List.mem_of_getElem? (i := 6) rfl))) (by decide) (backOf (W := 0) (own_rm1 l Z a0 hw [] b1 p1 k1 n1 ([(.long (b0 ||| (0 : Int64))), (.long (b0 ||| (1 : Int64))), (.long (b0 ||| (2 : Int64))), (.long (b0 ||| (3 : Int64))), (.long (b0 ||| (4 : Int64))), (.long (b0 ||| (5 : Int64))), (.long (b0 ||| (6 : Int64))), (.long (b0 ||| (7 : Int64)))]) (if n1 = 0 then 0 else b0 ||| (own_idx n1 p1).toInt64) h25 n0 Z25 V25 (fun h => if_pos h) (fun h => by rw [if_neg h]; exact own_fact b0 n1 p1 (hnp h) hpb)) hZ (hw _ (List.mem_of_getElem? (i := 6) rfl)) (hw _ (List.mem_of_getElem? (i := 5) rfl)) (by decide) (by decide)) (g := (mkF m 164 #[.val (.long x0), .second, .val (.int x1), .val (.int x2), .val (.int n1), .val (.int p1), .val (.long b0), .second, .val (.ref b1), .unset, .unset, .unset, .unset] [(.int p1), (.ref b1)])) rfl (by rw [hml]; rfl) (argsL := [(.ref b1), (.int p1)]) (rest := []) (lenOf own_pd__28_5bJI_29J rfl) rfl (by show 2 * 0 + _ ≤ _; exact Nat.le_of_eq rfl) (hb hby at_164) (fun _ _ => ⟨rfl, e25, (by decide : 1 + 0 ≤ _), (by decide : 8 + 0 ≤ _)⟩)
  dsimp only [Pt.U, Pt.locs, Pt.cells, Pt.slots] at X26 l26 y26 z26 st26 hQ26
  subst l26 y26 z26
  obtain ⟨rfl, Nq26, e26⟩ := hQ26
  have N26 := Fr.app N25 Nq26
  refine own_step (g' := (mkF m 167 #[.val (.long x0), .second, .val (.int x1), .val (.int x2), .val (.int n1), .val (.int p1), .val (.long b0), .second, .val (.ref b1), .unset, .unset, .unset, .unset] [(.long (if n1 = 0 then 0 else b0 ||| (own_idx n1 p1).toInt64))])) (fun _ k => st26 _ k) ?_
  refine own_step (g' := (mkF m 169 #[.val (.long x0), .second, .val (.int x1), .val (.int x2), .val (.int n1), .val (.int p1), .val (.long b0), .second, .val (.ref b1), .val (.long (if n1 = 0 then 0 else b0 ||| (own_idx n1 p1).toInt64)), .second, .unset, .unset] [])) (fun _ k => XS.lstore X26.here hx rfl (hb hby at_167) rfl (l' := #[.val (.long x0), .second, .val (.int x1), .val (.int x2), .val (.int n1), .val (.int p1), .val (.long b0), .second, .val (.ref b1), .val (.long (if n1 = 0 then 0 else b0 ||| (own_idx n1 p1).toInt64)), .second, .unset, .unset]) rfl k) ?_
  refine own_step (g' := (mkF m 171 #[.val (.long x0), .second, .val (.int x1), .val (.int x2), .val (.int n1), .val (.int p1), .val (.long b0), .second, .val (.ref b1), .val (.long (if n1 = 0 then 0 else b0 ||| (own_idx n1 p1).toInt64)), .second, .unset, .unset] [(.int n1)])) (fun _ k => XS.iload X26.here hx rfl (hb hby at_169) rfl k) ?_
  refine own_ifN X26 hx (P := (n1 = 0)) (hb hby at_171) (own_z_ne n1) (by decide) (pc1 := 187) (by decide) (fun hc171 => ?_) (fun hc171 => ?_)
  · show own_E p e below (own_F s 16 128) (own_Q0 Z x0 x1 x2 h0 n0) T26 (mkF m 174 #[.val (.long x0), .second, .val (.int x1), .val (.int x2), .val (.int n1), .val (.int p1), .val (.long b0), .second, .val (.ref b1), .val (.long (if n1 = 0 then 0 else b0 ||| (own_idx n1 p1).toInt64)), .second, .unset, .unset] [])
    refine own_step (g' := (mkF m 176 #[.val (.long x0), .second, .val (.int x1), .val (.int x2), .val (.int n1), .val (.int p1), .val (.long b0), .second, .val (.ref b1), .val (.long (if n1 = 0 then 0 else b0 ||| (own_idx n1 p1).toInt64)), .second, .unset, .unset] [(.long (if n1 = 0 then 0 else b0 ||| (own_idx n1 p1).toInt64))])) (fun _ k => XS.lload X26.here hx rfl (hb hby at_174) rfl k) ?_
    refine own_step (g' := (mkF m 177 #[.val (.long x0), .second, .val (.int x1), .val (.int x2), .val (.int n1), .val (.int p1), .val (.long b0), .second, .val (.ref b1), .val (.long (if n1 = 0 then 0 else b0 ||| (own_idx n1 p1).toInt64)), .second, .unset, .unset] [(.long (0 : Int64)), (.long (if n1 = 0 then 0 else b0 ||| (own_idx n1 p1).toInt64))])) (fun _ k => XS.lconst X26.here hx rfl (hb hby at_176) k) ?_
    refine own_step (g' := (mkF m 178 #[.val (.long x0), .second, .val (.int x1), .val (.int x2), .val (.int n1), .val (.int p1), .val (.long b0), .second, .val (.ref b1), .val (.long (if n1 = 0 then 0 else b0 ||| (own_idx n1 p1).toInt64)), .second, .unset, .unset] [(.int (lcmpW (if n1 = 0 then 0 else b0 ||| (own_idx n1 p1).toInt64) (0 : Int64)))])) (fun _ k => XS.lcmp X26.here hx rfl (hb hby at_177) rfl k) ?_
    refine own_ifN X26 hx (P := ((if n1 = 0 then 0 else b0 ||| (own_idx n1 p1).toInt64) = (0 : Int64))) (hb hby at_178) (own_l_ne (if n1 = 0 then 0 else b0 ||| (own_idx n1 p1).toInt64) (0 : Int64)) (by decide) (pc1 := 185) (by decide) (fun hc178 => ?_) (fun hc178 => ?_)
    · show own_E p e below (own_F s 16 128) (own_Q0 Z x0 x1 x2 h0 n0) T26 (mkF m 181 #[.val (.long x0), .second, .val (.int x1), .val (.int x2), .val (.int n1), .val (.int p1), .val (.long b0), .second, .val (.ref b1), .val (.long (if n1 = 0 then 0 else b0 ||| (own_idx n1 p1).toInt64)), .second, .unset, .unset] [])
      refine own_step (g' := (mkF m 182 #[.val (.long x0), .second, .val (.int x1), .val (.int x2), .val (.int n1), .val (.int p1), .val (.long b0), .second, .val (.ref b1), .val (.long (if n1 = 0 then 0 else b0 ||| (own_idx n1 p1).toInt64)), .second, .unset, .unset] [(.int (1 : Int32))])) (fun _ k => XS.iconst X26.here hx rfl (hb hby at_181) k) ?_
      refine own_step (g' := (mkF m 186 #[.val (.long x0), .second, .val (.int x1), .val (.int x2), .val (.int n1), .val (.int p1), .val (.long b0), .second, .val (.ref b1), .val (.long (if n1 = 0 then 0 else b0 ||| (own_idx n1 p1).toInt64)), .second, .unset, .unset] [(.int (1 : Int32))])) (fun _ k => XS.goto X26.here hx rfl (pc0 := 182) (pc' := 186) rfl (hb hby at_182) (by decide) (by decide) k) ?_
      exact own_retI X26 hx hlk hret (by simp) (hb hby at_186) rfl (by decide) (by decide) (by show own_Q0 Z x0 x1 x2 h0 n0 (some (.int (1 : Int32))) T26.heap _; rw [e26]; exact ⟨rfl, N26⟩)
    · show own_E p e below (own_F s 16 128) (own_Q0 Z x0 x1 x2 h0 n0) T26 (mkF m 185 #[.val (.long x0), .second, .val (.int x1), .val (.int x2), .val (.int n1), .val (.int p1), .val (.long b0), .second, .val (.ref b1), .val (.long (if n1 = 0 then 0 else b0 ||| (own_idx n1 p1).toInt64)), .second, .unset, .unset] [])
      exact absurd (if_pos hc171) hc178
  · show own_E p e below (own_F s 16 128) (own_Q0 Z x0 x1 x2 h0 n0) T26 (mkF m 187 #[.val (.long x0), .second, .val (.int x1), .val (.int x2), .val (.int n1), .val (.int p1), .val (.long b0), .second, .val (.ref b1), .val (.long (if n1 = 0 then 0 else b0 ||| (own_idx n1 p1).toInt64)), .second, .unset, .unset] [])
    rw [if_neg hc171]
    show own_E p e below (own_F s 16 128) (own_Q0 Z x0 x1 x2 h0 n0) T26 (mkF m 187 #[.val (.long x0), .second, .val (.int x1), .val (.int x2), .val (.int n1), .val (.int p1), .val (.long b0), .second, .val (.ref b1), .val (.long (b0 ||| (own_idx n1 p1).toInt64)), .second, .unset, .unset] [])
    refine own_step (g' := (mkF m 189 #[.val (.long x0), .second, .val (.int x1), .val (.int x2), .val (.int n1), .val (.int p1), .val (.long b0), .second, .val (.ref b1), .val (.long (b0 ||| (own_idx n1 p1).toInt64)), .second, .unset, .unset] [(.long (b0 ||| (own_idx n1 p1).toInt64))])) (fun _ k => XS.lload X26.here hx rfl (hb hby at_187) rfl k) ?_
    refine own_step (g' := (mkF m 192 #[.val (.long x0), .second, .val (.int x1), .val (.int x2), .val (.int n1), .val (.int p1), .val (.long b0), .second, .val (.ref b1), .val (.long (b0 ||| (own_idx n1 p1).toInt64)), .second, .unset, .unset] [(.long (-8 : Int64)), (.long (b0 ||| (own_idx n1 p1).toInt64))])) (fun _ k => X26.ldc2Long hx hown (mvT hZ (hw _ (List.mem_of_getElem? (i := 1) rfl))) (g := (mkF m 189 #[.val (.long x0), .second, .val (.int x1), .val (.int x2), .val (.int n1), .val (.int p1), .val (.long b0), .second, .val (.ref b1), .val (.long (b0 ||| (own_idx n1 p1).toInt64)), .second, .unset, .unset] [(.long (b0 ||| (own_idx n1 p1).toInt64))])) rfl (hb hby at_189) _ k) ?_
    refine own_step (g' := (mkF m 193 #[.val (.long x0), .second, .val (.int x1), .val (.int x2), .val (.int n1), .val (.int p1), .val (.long b0), .second, .val (.ref b1), .val (.long (b0 ||| (own_idx n1 p1).toInt64)), .second, .unset, .unset] [(.long ((b0 ||| (own_idx n1 p1).toInt64) &&& (-8 : Int64)))])) (fun _ k => XS.land X26.here hx rfl (hb hby at_192) rfl k) ?_
    refine own_step (g' := (mkF m 195 #[.val (.long x0), .second, .val (.int x1), .val (.int x2), .val (.int n1), .val (.int p1), .val (.long b0), .second, .val (.ref b1), .val (.long (b0 ||| (own_idx n1 p1).toInt64)), .second, .unset, .unset] [(.long b0), (.long ((b0 ||| (own_idx n1 p1).toInt64) &&& (-8 : Int64)))])) (fun _ k => XS.lload X26.here hx rfl (hb hby at_193) rfl k) ?_
    refine own_step (g' := (mkF m 196 #[.val (.long x0), .second, .val (.int x1), .val (.int x2), .val (.int n1), .val (.int p1), .val (.long b0), .second, .val (.ref b1), .val (.long (b0 ||| (own_idx n1 p1).toInt64)), .second, .unset, .unset] [(.int (lcmpW ((b0 ||| (own_idx n1 p1).toInt64) &&& (-8 : Int64)) b0))])) (fun _ k => XS.lcmp X26.here hx rfl (hb hby at_195) rfl k) ?_
    refine own_ifY X26 hx (P := (((b0 ||| (own_idx n1 p1).toInt64) &&& (-8 : Int64)) = b0)) (hb hby at_196) (own_l_eq ((b0 ||| (own_idx n1 p1).toInt64) &&& (-8 : Int64)) b0) (by decide) (pc1 := 201) (by decide) (fun hc196 => ?_) (fun hc196 => ?_)
    · show own_E p e below (own_F s 16 128) (own_Q0 Z x0 x1 x2 h0 n0) T26 (mkF m 201 #[.val (.long x0), .second, .val (.int x1), .val (.int x2), .val (.int n1), .val (.int p1), .val (.long b0), .second, .val (.ref b1), .val (.long (b0 ||| (own_idx n1 p1).toInt64)), .second, .unset, .unset] [])
      refine own_step (g' := (mkF m 203 #[.val (.long x0), .second, .val (.int x1), .val (.int x2), .val (.int n1), .val (.int p1), .val (.long b0), .second, .val (.ref b1), .val (.long (b0 ||| (own_idx n1 p1).toInt64)), .second, .unset, .unset] [(.long (b0 ||| (own_idx n1 p1).toInt64))])) (fun _ k => XS.lload X26.here hx rfl (hb hby at_201) rfl k) ?_
      refine own_step (g' := (mkF m 206 #[.val (.long x0), .second, .val (.int x1), .val (.int x2), .val (.int n1), .val (.int p1), .val (.long b0), .second, .val (.ref b1), .val (.long (b0 ||| (own_idx n1 p1).toInt64)), .second, .unset, .unset] [(.long (7 : Int64)), (.long (b0 ||| (own_idx n1 p1).toInt64))])) (fun _ k => X26.ldc2Long hx hown (mvT hZ (hw _ (List.mem_of_getElem? (i := 9) rfl))) (g := (mkF m 203 #[.val (.long x0), .second, .val (.int x1), .val (.int x2), .val (.int n1), .val (.int p1), .val (.long b0), .second, .val (.ref b1), .val (.long (b0 ||| (own_idx n1 p1).toInt64)), .second, .unset, .unset] [(.long (b0 ||| (own_idx n1 p1).toInt64))])) rfl (hb hby at_203) _ k) ?_
      refine own_step (g' := (mkF m 207 #[.val (.long x0), .second, .val (.int x1), .val (.int x2), .val (.int n1), .val (.int p1), .val (.long b0), .second, .val (.ref b1), .val (.long (b0 ||| (own_idx n1 p1).toInt64)), .second, .unset, .unset] [(.long ((b0 ||| (own_idx n1 p1).toInt64) &&& (7 : Int64)))])) (fun _ k => XS.land X26.here hx rfl (hb hby at_206) rfl k) ?_
      refine own_step (g' := (mkF m 208 #[.val (.long x0), .second, .val (.int x1), .val (.int x2), .val (.int n1), .val (.int p1), .val (.long b0), .second, .val (.ref b1), .val (.long (b0 ||| (own_idx n1 p1).toInt64)), .second, .unset, .unset] [(.int (((b0 ||| (own_idx n1 p1).toInt64) &&& (7 : Int64)).toInt32))])) (fun _ k => XS.l2i X26.here hx rfl (hb hby at_207) rfl k) ?_
      refine own_step (g' := (mkF m 210 #[.val (.long x0), .second, .val (.int x1), .val (.int x2), .val (.int n1), .val (.int p1), .val (.long b0), .second, .val (.ref b1), .val (.long (b0 ||| (own_idx n1 p1).toInt64)), .second, .val (.int (((b0 ||| (own_idx n1 p1).toInt64) &&& (7 : Int64)).toInt32)), .unset] [])) (fun _ k => XS.istore X26.here hx rfl (hb hby at_208) rfl (l' := #[.val (.long x0), .second, .val (.int x1), .val (.int x2), .val (.int n1), .val (.int p1), .val (.long b0), .second, .val (.ref b1), .val (.long (b0 ||| (own_idx n1 p1).toInt64)), .second, .val (.int (((b0 ||| (own_idx n1 p1).toInt64) &&& (7 : Int64)).toInt32)), .unset]) rfl k) ?_
      refine own_step (g' := (mkF m 212 #[.val (.long x0), .second, .val (.int x1), .val (.int x2), .val (.int n1), .val (.int p1), .val (.long b0), .second, .val (.ref b1), .val (.long (b0 ||| (own_idx n1 p1).toInt64)), .second, .val (.int (((b0 ||| (own_idx n1 p1).toInt64) &&& (7 : Int64)).toInt32)), .unset] [(.int n1)])) (fun _ k => XS.iload X26.here hx rfl (hb hby at_210) rfl k) ?_
      refine own_step (g' := (mkF m 214 #[.val (.long x0), .second, .val (.int x1), .val (.int x2), .val (.int n1), .val (.int p1), .val (.long b0), .second, .val (.ref b1), .val (.long (b0 ||| (own_idx n1 p1).toInt64)), .second, .val (.int (((b0 ||| (own_idx n1 p1).toInt64) &&& (7 : Int64)).toInt32)), .unset] [(.int p1), (.int n1)])) (fun _ k => XS.iload X26.here hx rfl (hb hby at_212) rfl k) ?_
      refine own_step (g' := (mkF m 215 #[.val (.long x0), .second, .val (.int x1), .val (.int x2), .val (.int n1), .val (.int p1), .val (.long b0), .second, .val (.ref b1), .val (.long (b0 ||| (own_idx n1 p1).toInt64)), .second, .val (.int (((b0 ||| (own_idx n1 p1).toInt64) &&& (7 : Int64)).toInt32)), .unset] [(.int (n1 * p1))])) (fun _ k => XS.imul X26.here hx rfl (hb hby at_214) rfl k) ?_
      refine own_step (g' := (mkF m 217 #[.val (.long x0), .second, .val (.int x1), .val (.int x2), .val (.int n1), .val (.int p1), .val (.long b0), .second, .val (.ref b1), .val (.long (b0 ||| (own_idx n1 p1).toInt64)), .second, .val (.int (((b0 ||| (own_idx n1 p1).toInt64) &&& (7 : Int64)).toInt32)), .val (.int (n1 * p1))] [])) (fun _ k => XS.istore X26.here hx rfl (hb hby at_215) rfl (l' := #[.val (.long x0), .second, .val (.int x1), .val (.int x2), .val (.int n1), .val (.int p1), .val (.long b0), .second, .val (.ref b1), .val (.long (b0 ||| (own_idx n1 p1).toInt64)), .second, .val (.int (((b0 ||| (own_idx n1 p1).toInt64) &&& (7 : Int64)).toInt32)), .val (.int (n1 * p1))]) rfl k) ?_
      have hk2 := own_k2 x0 n1 p1 (hnp hc171) hpb
      rw [hb0] at hk2
      rw [hk2]
      show own_E p e below (own_F s 16 128) (own_Q0 Z x0 x1 x2 h0 n0) T26 (mkF m 217 #[.val (.long x0), .second, .val (.int x1), .val (.int x2), .val (.int n1), .val (.int p1), .val (.long b0), .second, .val (.ref b1), .val (.long (b0 ||| (own_idx n1 p1).toInt64)), .second, .val (.int (own_idx n1 p1)), .val (.int (n1 * p1))] [])
      refine own_step (g' := (mkF m 219 #[.val (.long x0), .second, .val (.int x1), .val (.int x2), .val (.int n1), .val (.int p1), .val (.long b0), .second, .val (.ref b1), .val (.long (b0 ||| (own_idx n1 p1).toInt64)), .second, .val (.int (own_idx n1 p1)), .val (.int (n1 * p1))] [(.int (own_idx n1 p1))])) (fun _ k => XS.iload X26.here hx rfl (hb hby at_217) rfl k) ?_
      refine own_step (g' := (mkF m 221 #[.val (.long x0), .second, .val (.int x1), .val (.int x2), .val (.int n1), .val (.int p1), .val (.long b0), .second, .val (.ref b1), .val (.long (b0 ||| (own_idx n1 p1).toInt64)), .second, .val (.int (own_idx n1 p1)), .val (.int (n1 * p1))] [(.int n1), (.int (own_idx n1 p1))])) (fun _ k => XS.iload X26.here hx rfl (hb hby at_219) rfl k) ?_
      refine own_icN X26 hx (P := ((own_idx n1 p1) < n1)) (hb hby at_221) (own_i_ge (own_idx n1 p1) n1) (by decide) (pc1 := 250) (by decide) (fun hc221 => ?_) (fun hc221 => ?_)
      · show own_E p e below (own_F s 16 128) (own_Q0 Z x0 x1 x2 h0 n0) T26 (mkF m 224 #[.val (.long x0), .second, .val (.int x1), .val (.int x2), .val (.int n1), .val (.int p1), .val (.long b0), .second, .val (.ref b1), .val (.long (b0 ||| (own_idx n1 p1).toInt64)), .second, .val (.int (own_idx n1 p1)), .val (.int (n1 * p1))] [])
        refine own_step (g' := (mkF m 226 #[.val (.long x0), .second, .val (.int x1), .val (.int x2), .val (.int n1), .val (.int p1), .val (.long b0), .second, .val (.ref b1), .val (.long (b0 ||| (own_idx n1 p1).toInt64)), .second, .val (.int (own_idx n1 p1)), .val (.int (n1 * p1))] [(.int (own_idx n1 p1))])) (fun _ k => XS.iload X26.here hx rfl (hb hby at_224) rfl k) ?_
        refine own_step (g' := (mkF m 228 #[.val (.long x0), .second, .val (.int x1), .val (.int x2), .val (.int n1), .val (.int p1), .val (.long b0), .second, .val (.ref b1), .val (.long (b0 ||| (own_idx n1 p1).toInt64)), .second, .val (.int (own_idx n1 p1)), .val (.int (n1 * p1))] [(.int (100 : Int32)), (.int (own_idx n1 p1))])) (fun _ k => XS.bipush X26.here hx rfl (hb hby at_226) k) ?_
        refine own_step (g' := (mkF m 229 #[.val (.long x0), .second, .val (.int x1), .val (.int x2), .val (.int n1), .val (.int p1), .val (.long b0), .second, .val (.ref b1), .val (.long (b0 ||| (own_idx n1 p1).toInt64)), .second, .val (.int (own_idx n1 p1)), .val (.int (n1 * p1))] [(.int ((own_idx n1 p1) * (100 : Int32)))])) (fun _ k => XS.imul X26.here hx rfl (hb hby at_228) rfl k) ?_
        refine own_step (g' := (mkF m 231 #[.val (.long x0), .second, .val (.int x1), .val (.int x2), .val (.int n1), .val (.int p1), .val (.long b0), .second, .val (.ref b1), .val (.long (b0 ||| (own_idx n1 p1).toInt64)), .second, .val (.int (own_idx n1 p1)), .val (.int (n1 * p1))] [(.int (n1 * p1)), (.int ((own_idx n1 p1) * (100 : Int32)))])) (fun _ k => XS.iload X26.here hx rfl (hb hby at_229) rfl k) ?_
        refine own_icN X26 hx (P := (((own_idx n1 p1) * (100 : Int32)) < (n1 * p1))) (hb hby at_231) (own_i_ge ((own_idx n1 p1) * (100 : Int32)) (n1 * p1)) (by decide) (pc1 := 250) (by decide) (fun hc231 => ?_) (fun hc231 => ?_)
        · show own_E p e below (own_F s 16 128) (own_Q0 Z x0 x1 x2 h0 n0) T26 (mkF m 234 #[.val (.long x0), .second, .val (.int x1), .val (.int x2), .val (.int n1), .val (.int p1), .val (.long b0), .second, .val (.ref b1), .val (.long (b0 ||| (own_idx n1 p1).toInt64)), .second, .val (.int (own_idx n1 p1)), .val (.int (n1 * p1))] [])
          refine own_step (g' := (mkF m 236 #[.val (.long x0), .second, .val (.int x1), .val (.int x2), .val (.int n1), .val (.int p1), .val (.long b0), .second, .val (.ref b1), .val (.long (b0 ||| (own_idx n1 p1).toInt64)), .second, .val (.int (own_idx n1 p1)), .val (.int (n1 * p1))] [(.int (n1 * p1))])) (fun _ k => XS.iload X26.here hx rfl (hb hby at_234) rfl k) ?_
          refine own_step (g' := (mkF m 238 #[.val (.long x0), .second, .val (.int x1), .val (.int x2), .val (.int n1), .val (.int p1), .val (.long b0), .second, .val (.ref b1), .val (.long (b0 ||| (own_idx n1 p1).toInt64)), .second, .val (.int (own_idx n1 p1)), .val (.int (n1 * p1))] [(.int (own_idx n1 p1)), (.int (n1 * p1))])) (fun _ k => XS.iload X26.here hx rfl (hb hby at_236) rfl k) ?_
          refine own_step (g' := (mkF m 239 #[.val (.long x0), .second, .val (.int x1), .val (.int x2), .val (.int n1), .val (.int p1), .val (.long b0), .second, .val (.ref b1), .val (.long (b0 ||| (own_idx n1 p1).toInt64)), .second, .val (.int (own_idx n1 p1)), .val (.int (n1 * p1))] [(.int (1 : Int32)), (.int (own_idx n1 p1)), (.int (n1 * p1))])) (fun _ k => XS.iconst X26.here hx rfl (hb hby at_238) k) ?_
          refine own_step (g' := (mkF m 240 #[.val (.long x0), .second, .val (.int x1), .val (.int x2), .val (.int n1), .val (.int p1), .val (.long b0), .second, .val (.ref b1), .val (.long (b0 ||| (own_idx n1 p1).toInt64)), .second, .val (.int (own_idx n1 p1)), .val (.int (n1 * p1))] [(.int ((own_idx n1 p1) + (1 : Int32))), (.int (n1 * p1))])) (fun _ k => XS.iadd X26.here hx rfl (hb hby at_239) rfl k) ?_
          refine own_step (g' := (mkF m 242 #[.val (.long x0), .second, .val (.int x1), .val (.int x2), .val (.int n1), .val (.int p1), .val (.long b0), .second, .val (.ref b1), .val (.long (b0 ||| (own_idx n1 p1).toInt64)), .second, .val (.int (own_idx n1 p1)), .val (.int (n1 * p1))] [(.int (100 : Int32)), (.int ((own_idx n1 p1) + (1 : Int32))), (.int (n1 * p1))])) (fun _ k => XS.bipush X26.here hx rfl (hb hby at_240) k) ?_
          refine own_step (g' := (mkF m 243 #[.val (.long x0), .second, .val (.int x1), .val (.int x2), .val (.int n1), .val (.int p1), .val (.long b0), .second, .val (.ref b1), .val (.long (b0 ||| (own_idx n1 p1).toInt64)), .second, .val (.int (own_idx n1 p1)), .val (.int (n1 * p1))] [(.int (((own_idx n1 p1) + (1 : Int32)) * (100 : Int32))), (.int (n1 * p1))])) (fun _ k => XS.imul X26.here hx rfl (hb hby at_242) rfl k) ?_
          refine own_icY X26 hx (P := ((((own_idx n1 p1) + (1 : Int32)) * (100 : Int32)) < (n1 * p1))) (hb hby at_243) (own_i_gt (n1 * p1) (((own_idx n1 p1) + (1 : Int32)) * (100 : Int32))) (by decide) (pc1 := 250) (by decide) (fun hc243 => ?_) (fun hc243 => ?_)
          · show own_E p e below (own_F s 16 128) (own_Q0 Z x0 x1 x2 h0 n0) T26 (mkF m 250 #[.val (.long x0), .second, .val (.int x1), .val (.int x2), .val (.int n1), .val (.int p1), .val (.long b0), .second, .val (.ref b1), .val (.long (b0 ||| (own_idx n1 p1).toInt64)), .second, .val (.int (own_idx n1 p1)), .val (.int (n1 * p1))] [])
            exact absurd hc243 (own_k3 n1 p1 (hnp hc171) hpb).2
          · show own_E p e below (own_F s 16 128) (own_Q0 Z x0 x1 x2 h0 n0) T26 (mkF m 246 #[.val (.long x0), .second, .val (.int x1), .val (.int x2), .val (.int n1), .val (.int p1), .val (.long b0), .second, .val (.ref b1), .val (.long (b0 ||| (own_idx n1 p1).toInt64)), .second, .val (.int (own_idx n1 p1)), .val (.int (n1 * p1))] [])
            refine own_step (g' := (mkF m 247 #[.val (.long x0), .second, .val (.int x1), .val (.int x2), .val (.int n1), .val (.int p1), .val (.long b0), .second, .val (.ref b1), .val (.long (b0 ||| (own_idx n1 p1).toInt64)), .second, .val (.int (own_idx n1 p1)), .val (.int (n1 * p1))] [(.int (1 : Int32))])) (fun _ k => XS.iconst X26.here hx rfl (hb hby at_246) k) ?_
            refine own_step (g' := (mkF m 251 #[.val (.long x0), .second, .val (.int x1), .val (.int x2), .val (.int n1), .val (.int p1), .val (.long b0), .second, .val (.ref b1), .val (.long (b0 ||| (own_idx n1 p1).toInt64)), .second, .val (.int (own_idx n1 p1)), .val (.int (n1 * p1))] [(.int (1 : Int32))])) (fun _ k => XS.goto X26.here hx rfl (pc0 := 247) (pc' := 251) rfl (hb hby at_247) (by decide) (by decide) k) ?_
            exact own_retI X26 hx hlk hret (by simp) (hb hby at_251) rfl (by decide) (by decide) (by show own_Q0 Z x0 x1 x2 h0 n0 (some (.int (1 : Int32))) T26.heap _; rw [e26]; exact ⟨rfl, N26⟩)
        · show own_E p e below (own_F s 16 128) (own_Q0 Z x0 x1 x2 h0 n0) T26 (mkF m 250 #[.val (.long x0), .second, .val (.int x1), .val (.int x2), .val (.int n1), .val (.int p1), .val (.long b0), .second, .val (.ref b1), .val (.long (b0 ||| (own_idx n1 p1).toInt64)), .second, .val (.int (own_idx n1 p1)), .val (.int (n1 * p1))] [])
          exact absurd (own_k3 n1 p1 (hnp hc171) hpb).1 hc231
      · show own_E p e below (own_F s 16 128) (own_Q0 Z x0 x1 x2 h0 n0) T26 (mkF m 250 #[.val (.long x0), .second, .val (.int x1), .val (.int x2), .val (.int n1), .val (.int p1), .val (.long b0), .second, .val (.ref b1), .val (.long (b0 ||| (own_idx n1 p1).toInt64)), .second, .val (.int (own_idx n1 p1)), .val (.int (n1 * p1))] [])
        exact absurd (own_fact b0 n1 p1 (hnp hc171) hpb).2.1 hc221
    · show own_E p e below (own_F s 16 128) (own_Q0 Z x0 x1 x2 h0 n0) T26 (mkF m 199 #[.val (.long x0), .second, .val (.int x1), .val (.int x2), .val (.int n1), .val (.int p1), .val (.long b0), .second, .val (.ref b1), .val (.long (b0 ||| (own_idx n1 p1).toInt64)), .second, .unset, .unset] [])
      exact absurd (by rw [← hb0]; exact own_k1 x0 n1 p1 (hnp hc171) hpb) hc196
set_option maxRecDepth 65536 in
set_option maxHeartbeats 40000000 in
theorem own_comes {Post : Tables → Env → Array Value → State → Outcome → State → Prop} (hpost : ∀ tb e args s v u, (limb_1_1.after args s (.returned v) u = true ∧ limb_1_2.after args s (.returned v) u = true ∧ True) → FrameEnd s (.returned v) u (Jvm.fieldLocs frame_1_writes args s ++ Jvm.arrayLocs frame_1_arrays args s ++ Jvm.staticLocs frame_1_statics s) 16 128 → Post tb e args s (.returned v) u) :
    ArmFor flags0 classFile x code maxLocals ret World_1 tables_1 room_1 Calls_1 rest_1 Pre_1 Post := by
  intro l hfl _ _ p e ha hc hk s m args below hf hA hF happ hP
  obtain ⟨hcalls, hrest, hpre⟩ := hP
  obtain ⟨-, -, -, hnamed, -, -, -, hat⟩ := (Spec.applies_iff hf).mp happ
  obtain ⟨hg, hn⟩ := and_e (Cond.before_iff.mp (show (Jvm.Cond.and given_1 narrow_1).before args s = true from hpre))
  obtain ⟨q0, r0⟩ := and_e hg
  obtain ⟨q1, r1⟩ := and_e r0
  obtain ⟨q2, r2⟩ := and_e r1
  obtain ⟨w0, w1, w2, rfl⟩ : ∃ w0 w1 w2 : Value, args = #[w0, w1, w2] := by
    have hs : args.size = 3 := by simpa [Cond.value, given_1] using q0
    obtain ⟨L⟩ := args
    match L, hs with
    | [w0, w1, w2], _ => exact ⟨w0, w1, w2, rfl⟩
  have hw := fun d (hd : d ∈ tables_1) => atoms_spec (ws := Jvm.Cond.code x code maxLocals ret :: tables_1) hat d (List.mem_cons_of_mem _ hd)
  obtain ⟨i0, ei0⟩ := isL_v q1
  obtain rfl : w0 = (.long i0) := Option.some.inj ei0
  obtain ⟨i1, ei1⟩ := is_v q2
  obtain rfl : w1 = (.int i1) := Option.some.inj ei1
  obtain ⟨i2, ei2⟩ := is_v r2
  obtain rfl : w2 = (.int i2) := Option.some.inj ei2
  obtain ⟨n, o, h1, h2, h3, _, L, rfl, ⟨rfl, N⟩, hq⟩ := own_rm0 l s _ hw tables_1 i0 i1 i2 s.heap s.heap.size (Nat.le_refl _) p e ha hc hk s m _ below hf ((Spec.applies_iff_loose hf).mp happ).1 ⟨rfl, State.Warmed39.refl s, rfl⟩ trivial
  refine ⟨n, _, h1, h2, h3, hpost _ _ _ _ _ _ ⟨Cond.after_iff.mpr rfl, Cond.after_iff.mpr (eq_i res_at (Term.int_eval (1)) rfl), trivial⟩ ⟨hq.1, hq.2.1, (hq.2.2.sift fun y hy => Or.inr (N y hy)).mono (by decide) (by decide)⟩⟩
theorem main_1_1 : Claimed_1_1 := own_comes fun _ _ _ _ _ _ h hF => ⟨h.1, hF⟩
theorem main_1_2 : Claimed_1_2 := own_comes fun _ _ _ _ _ _ h hF => ⟨h.2.1, hF⟩
end Jvm.Pilot.@@N@@
namespace Jvm.Pilot.@@N@@
open Jvm Jvm.ClassFile Sem Op Lib Jvm.Free Jvm.Stand Jvm.Pilot.@@N@@.Jvm.D
/-! MADE BY PROGRAM (witnessworld.py) out of the Statement's table words and the real class files: 11 classes; the members and pool entries that the words name. The judged class is class 1, her method 1. -/
namespace start1
open Jvm.ClassFile
def u (s : String) : CpInfo := .utf8 (stringToUtf16 s)
/-- a pool by its gaps: so many unusable entries, then the entry; so many at the end -/
def gap : Nat → List CpInfo → List CpInfo
  | 0, r => r
  | n + 1, r => .unusable :: gap n r
def poolList (es : List (Nat × CpInfo)) (last : Nat) : List CpInfo := es.foldr (fun e r => gap e.1 (e.2 :: r)) (gap last [])
def pool (es : List (Nat × CpInfo)) (last : Nat) : Array CpInfo := ⟨poolList es last⟩
def fileOf (pool : Array CpInfo) (this : Nat) (attrs : Array Attribute := #[]) (ms : Array MethodInfo := #[]) (fl : Nat := 33) (sup : Nat := 0) (ifs : Array Nat := #[]) (fds : Array FieldInfo := #[]) : ClassFile where
  minorVersion := 0
  majorVersion := 65
  constantPool := pool
  accessFlags := fl
  thisClass := this
  superClass := sup
  interfaces := ifs
  fields := fds
  methods := ms
  attributes := attrs
def plain (name : String) (sup : Option ClassId) : Class where
  name := name
  kind := .ordinary
  loader := none
  accessFlags := 33
  super := sup
  interfaces := #[]
  cf := none
  fields := #[]
  methods := #[]
  instanceTypes := #[]
  staticTypes := #[]
  resolved := #[]
  callSites := []
  init := .initialized
  statics := none
  mirror := none

def pool0 : Array CpInfo := pool [(5, u "<init>"), (0, u "()V"), (1, .class_ 10), (1, u "java/lang/Object")] 113

def k0m0 : Method := { name := "<init>", desc := "()V", sig := { parameters := [], returnType := none }, accessFlags := 1, code := none }
/-- java/lang/Object -/
def k0 : Class := { plain "java/lang/Object" none with
  accessFlags := 33
  interfaces := #[]
  cf := some (fileOf pool0 8 #[] #[{ accessFlags := 1, nameIndex := 5, descriptorIndex := 6, attributes := #[] }] 33 0 #[] #[])
  fields := #[]
  methods := #[k0m0]
  instanceTypes := #[]
  staticTypes := #[]
  resolved := Array.replicate 124 none
  statics := none }

def pool1 : Array CpInfo := pool [(2, .class_ 4), (1, u "java/lang/Object"), (0, u "<init>"), (0, u "()V"), (0, .integer 2147483647), (0, .long 18446744073709551608), (1, .long 2), (1, .long 3), (1, .long 4), (1, .long 5), (1, .long 6), (1, .long 7), (1, .methodref 23 24), (0, .class_ 25), (0, .nameAndType 26 27), (0, u "com/example/millrace/millrace/AppendLoadCommand"), (0, u "percentile"), (0, u "([JI)J"), (0, .class_ 29), (0, u "com/example/millrace/millrace/AppendLoadCommandPercentilePinLaw"), (2, u "law"), (0, u "(JII)Z")] 5

def k1m0 : Method := { name := "<init>", desc := "()V", sig := { parameters := [], returnType := none }, accessFlags := 2, code := none }
def k1c1 : Code := { maxStack := 6, maxLocals := 13, code := code, exceptionTable := #[], attributes := #[] }
def k1m1 : Method := { name := "law", desc := "(JII)Z", sig := { parameters := [.long, .int, .int], returnType := some .boolean }, accessFlags := 9, code := some k1c1 }
/-- com/example/millrace/millrace/AppendLoadCommandPercentilePinLaw -/
def k1 : Class := { plain "com/example/millrace/millrace/AppendLoadCommandPercentilePinLaw" (some 0) with
  accessFlags := 49
  interfaces := #[]
  cf := some (fileOf pool1 28 #[] #[{ accessFlags := 2, nameIndex := 5, descriptorIndex := 6, attributes := #[] }, { accessFlags := 9, nameIndex := 32, descriptorIndex := 33, attributes := #[] }] 49 2 #[] #[])
  fields := #[]
  methods := #[k1m0, k1m1]
  instanceTypes := #[]
  staticTypes := #[]
  resolved := Array.replicate 39 none
  statics := none }

def pool2 : Array CpInfo := pool [(2, .class_ 4), (1, u "java/lang/Object"), (0, u "<init>"), (0, u "()V"), (1, .class_ 10), (1, u "com/example/millrace/millrace/AppendLoadCommand"), (0, u "OPTIONS"), (0, u "Ljava/util/List;"), (2, u "FLAGS"), (109, .class_ 126), (0, u "com/example/millrace/millrace/AppendLoadCommand$Events"), (13, .class_ 141), (0, u "com/example/millrace/millrace/AppendLoadCommand$Client"), (25, u "REPLY_TIME"), (0, u "Ljava/time/Duration;"), (51, u "Ljava/lang/String;"), (55, u "percentile"), (0, u "([JI)J"), (146, .long 99), (1, .long 100), (20, u "DEFAULT_STREAM"), (1, u "MAX_CLIENTS"), (0, u "I"), (1, u "MAX_SECONDS"), (1, u "SELECT_MILLIS"), (1, u "READ_BYTES")] 92

def k2m0 : Method := { name := "<init>", desc := "()V", sig := { parameters := [], returnType := none }, accessFlags := 2, code := none }
def k2c1 : Code := { maxStack := 4, maxLocals := 4, code := prog_1_method_10_code, exceptionTable := #[], attributes := #[] }
def k2m1 : Method := { name := "percentile", desc := "([JI)J", sig := { parameters := [(.array .long), .int], returnType := some .long }, accessFlags := 8, code := some k2c1 }
/-- com/example/millrace/millrace/AppendLoadCommand -/
def k2 : Class := { plain "com/example/millrace/millrace/AppendLoadCommand" (some 0) with
  accessFlags := 48
  interfaces := #[]
  cf := some (fileOf pool2 8 #[.nestMembers #[140, 125]] #[{ accessFlags := 2, nameIndex := 5, descriptorIndex := 6, attributes := #[] }, { accessFlags := 8, nameIndex := 276, descriptorIndex := 277, attributes := #[] }] 48 2 #[] #[{ accessFlags := 26, nameIndex := 11, descriptorIndex := 12, attributes := #[] }, { accessFlags := 26, nameIndex := 15, descriptorIndex := 12, attributes := #[] }, { accessFlags := 26, nameIndex := 447, descriptorIndex := 220, attributes := #[] }, { accessFlags := 26, nameIndex := 449, descriptorIndex := 450, attributes := #[] }, { accessFlags := 26, nameIndex := 452, descriptorIndex := 450, attributes := #[] }, { accessFlags := 26, nameIndex := 167, descriptorIndex := 168, attributes := #[] }, { accessFlags := 26, nameIndex := 454, descriptorIndex := 450, attributes := #[] }, { accessFlags := 26, nameIndex := 456, descriptorIndex := 450, attributes := #[] }])
  fields := #[{ name := "OPTIONS", type := (.object "java/util/List"), accessFlags := 26, slot := 0, constantValue := 0 }, { name := "FLAGS", type := (.object "java/util/List"), accessFlags := 26, slot := 1, constantValue := 0 }, { name := "DEFAULT_STREAM", type := (.object "java/lang/String"), accessFlags := 26, slot := 2, constantValue := 0 }, { name := "MAX_CLIENTS", type := .int, accessFlags := 26, slot := 3, constantValue := 0 }, { name := "MAX_SECONDS", type := .int, accessFlags := 26, slot := 4, constantValue := 0 }, { name := "REPLY_TIME", type := (.object "java/time/Duration"), accessFlags := 26, slot := 5, constantValue := 0 }, { name := "SELECT_MILLIS", type := .int, accessFlags := 26, slot := 6, constantValue := 0 }, { name := "READ_BYTES", type := .int, accessFlags := 26, slot := 7, constantValue := 0 }]
  methods := #[k2m0, k2m1]
  instanceTypes := #[]
  staticTypes := #[(.object "java/util/List"), (.object "java/util/List"), (.object "java/lang/String"), .int, .int, (.object "java/time/Duration"), .int, .int]
  resolved := Array.replicate 549 none
  statics := none }

def pool3 : Array CpInfo := pool [(1, u "java/lang/Cloneable"), (0, .class_ 1), (0, u "java/lang/Object"), (0, .class_ 3)] 3

/-- java/lang/Cloneable -/
def k3 : Class := { plain "java/lang/Cloneable" (some 0) with
  accessFlags := 1537
  interfaces := #[]
  cf := some (fileOf pool3 2 #[] #[] 1537 4 #[] #[])
  fields := #[]
  methods := #[]
  instanceTypes := #[]
  staticTypes := #[]
  resolved := Array.replicate 8 none
  statics := none }

def pool4 : Array CpInfo := pool [(1, u "java/io/Serializable"), (0, .class_ 1), (0, u "java/lang/Object"), (0, .class_ 3)] 3

/-- java/io/Serializable -/
def k4 : Class := { plain "java/io/Serializable" (some 0) with
  accessFlags := 1537
  interfaces := #[]
  cf := some (fileOf pool4 2 #[] #[] 1537 4 #[] #[])
  fields := #[]
  methods := #[]
  instanceTypes := #[]
  staticTypes := #[]
  resolved := Array.replicate 8 none
  statics := none }

/-- the primitive byte -/
def k5 : Class := { plain "byte" none with kind := .primitive 'B', accessFlags := 0x411 }
/-- [B -/
def k6 : Class := { plain "[B" (some 0) with kind := .array 5 .byte, interfaces := #[3, 4], accessFlags := 1041 }

/-- the primitive int -/
def k7 : Class := { plain "int" none with kind := .primitive 'I', accessFlags := 0x411 }
/-- [I -/
def k8 : Class := { plain "[I" (some 0) with kind := .array 7 .int, interfaces := #[3, 4], accessFlags := 1041 }

/-- the primitive long -/
def k9 : Class := { plain "long" none with kind := .primitive 'J', accessFlags := 0x411 }
/-- [J -/
def k10 : Class := { plain "[J" (some 0) with kind := .array 9 .long, interfaces := #[3, 4], accessFlags := 1041 }

def heap : Heap := #[]
def classes : Array Class := #[k0, k1, k2, k3, k4, k5, k6, k7, k8, k9, k10]
def interned : List (Array UInt16 × Addr) := []
def slotsUsed : Nat := 0
def theMethod : MethodId := ⟨1, 1⟩
def args0 : Array Value := #[.long 5, .int 7, .int 2]
def aboutOver (below : List Frame) : State where
  vm := { classes := classes, interned := interned.toArray }
  heap := heap
  slotsUsed := slotsUsed
  threads := #[{ frames := .invoking theMethod args0 :: below }]
def below0 : List Frame := [.native { method := ⟨0, 0⟩, args := #[] }]
def about1 : State := aboutOver below0
def p0 : Program := .bare "" "" ""
def e0 : Env := launch0.env 0 0 0
theorem w_frames : about1.frames = Frame.invoking theMethod args0 :: below0 := rfl
set_option maxRecDepth 65536 in
theorem w_args : argsFit about1.vm theMethod args0 = true := by decide +kernel
set_option maxRecDepth 65536 in
theorem w_heap : heapFits about1 = true := by decide +kernel
set_option maxRecDepth 65536 in
theorem w_runnable : about1.curStatus? = some .runnable := by decide +kernel
set_option maxRecDepth 65536 in
theorem w_alone : about1.alone = true := by decide +kernel
set_option maxRecDepth 65536 in
theorem w_named : about1.methodNamed? x = some theMethod := by decide +kernel
set_option maxRecDepth 65536 in
theorem w_hears : about1.hears theMethod below0 = true := by decide +kernel
set_option maxRecDepth 65536 in
theorem w_ripe : about1.ripe theMethod args0 below0 = true := by decide +kernel
theorem w_running : about1.status = .running := rfl
set_option maxRecDepth 65536 in
theorem w_room : about1.hasRoom e0.platform room_1 = true :=
  launch0.hasRoom_least _ room_1 (by decide +kernel) (by decide +kernel) (by decide +kernel) (by decide +kernel) (by decide +kernel) (by decide +kernel)
theorem allAtoms_all (ts : List Jvm.Cond) (a : Array Jvm.Value) (st : Jvm.State) : (allAtoms ts).before a st = ts.all (fun c => c.before a st) := by
  induction ts with
  | nil => rfl
  | cons c t ih =>
    show (Jvm.Cond.and c (allAtoms t)).before a st = _
    rw [Jvm.Cond.before_and, ih, List.all_cons]
def words1 : List Jvm.Cond := Jvm.Cond.code x code maxLocals ret :: tables_1
/-- a 'code' word, met by the world's own term for the bytes: nothing is compared byte by byte -/
theorem code_word {y : MethodName} {bytes : ByteArray} {mx : Nat} {rt : Option FieldType} {a : Array Value} {s : State} {m : MethodId} {meth : Method} {c : Code} (h1 : s.methodNamed? y = some m) (h2 : s.vm.method? m = some meth) (h3 : meth.code = some c) (h4 : c.code = bytes)
    (h5 : (c.maxLocals == mx && c.exceptionTable.isEmpty && decide (c.maxStack ≤ mostOperands) && decide (meth.sig.returnType = rt) && !meth.locks && decide (parseMethodDescriptor y.desc = some meth.sig)) = true) : (Jvm.Cond.code y bytes mx rt).before a s = true := by
  simp only [Bool.and_eq_true, beq_iff_eq, Bool.not_eq_true', decide_eq_true_eq] at h5
  obtain ⟨⟨⟨⟨⟨g1, g2⟩, g3⟩, g4⟩, g5⟩, g6⟩ := h5
  simp [Cond.before, Cond.holds, Cond.value, h1, h2, h3, h4, g1, g2, g3, g4, g5, g6]
def isCode : Jvm.Cond → Bool
  | .code _ _ _ _ => true
  | _ => false
theorem all_split {L : List Jvm.Cond} {P : Jvm.Cond → Bool} (h1 : L.all (fun c => isCode c || P c) = true) (h2 : ∀ c ∈ L.filter isCode, P c = true) : L.all P = true := by
  refine List.all_eq_true.mpr fun c hc => ?_
  have h := List.all_eq_true.mp h1 c hc
  rcases Bool.eq_false_or_eq_true (isCode c) with hi | hi
  · exact h2 c (List.mem_filter.mpr ⟨hc, hi⟩)
  · simpa [hi] using h
set_option maxRecDepth 65536 in
theorem w_c0 : (Jvm.Cond.code x code maxLocals ret).before args0 about1 = true := code_word (m := ⟨1, 1⟩) (meth := k1m1) (c := k1c1) (by decide +kernel) rfl rfl rfl (by decide +kernel)
set_option maxRecDepth 65536 in
theorem w_c1 : (Jvm.Cond.code ({ cls := "com/example/millrace/millrace/AppendLoadCommand", name := "percentile", desc := "([JI)J" } : Jvm.MethodName) prog_1_method_10_code (4 : Nat) (Option.some Jvm.ClassFile.FieldType.long)).before args0 about1 = true := code_word (m := ⟨2, 1⟩) (meth := k2m1) (c := k2c1) (by decide +kernel) rfl rfl rfl (by decide +kernel)
def codes1 : List Jvm.Cond := [Jvm.Cond.code x code maxLocals ret, Jvm.Cond.code ({ cls := "com/example/millrace/millrace/AppendLoadCommand", name := "percentile", desc := "([JI)J" } : Jvm.MethodName) prog_1_method_10_code (4 : Nat) (Option.some Jvm.ClassFile.FieldType.long)]
set_option maxRecDepth 65536 in
theorem codes_eq : words1.filter isCode = codes1 := rfl
theorem w_codes : ∀ c ∈ words1.filter isCode, c.before args0 about1 = true := by
  rw [codes_eq]
  intro c hc
  simp only [codes1, List.mem_cons, List.not_mem_nil, or_false] at hc
  rcases hc with rfl | rfl
  · exact w_c0
  · exact w_c1
set_option maxRecDepth 65536 in
theorem w_t1 : words1.all (fun c => isCode c || c.before args0 about1) = true := by decide +kernel
theorem w_tables : (allAtoms (Jvm.Cond.code x code maxLocals ret :: tables_1)).before args0 about1 = true := by
  rw [allAtoms_all]
  show words1.all (fun c => c.before args0 about1) = true
  refine all_split ?_ w_codes
  rw [w_t1]
set_option maxRecDepth 65536 in
theorem w_case : (Jvm.Cond.and given_1 narrow_1).before args0 about1 = true := by decide +kernel
theorem w_applies : (headSpec (Jvm.Cond.code x code maxLocals ret :: tables_1) room_1).applies x e0.platform about1 = true :=
  (Spec.applies_iff w_frames).mpr ⟨w_running, w_runnable, w_alone, w_named, w_hears, w_ripe, w_room, w_tables⟩
theorem atStart : AtStart classFile x code maxLocals ret World_1 tables_1 room_1 Calls_1 rest_1 Pre_1 launch0 p0 e0 about1 theMethod args0 below0 :=
  ⟨lists_1, trivial, launch0.admits_env _ _ _, launch0.least_env, fairChoices_fair.cas, fairChoices_fair.clock, w_frames, w_args, w_heap, w_applies, trivial, trivial, w_case⟩
end start1
theorem witness_1 : WitnessClaimed_1 := ⟨start1.p0, start1.e0, start1.about1, start1.theMethod, start1.args0, start1.below0, start1.atStart⟩
end Jvm.Pilot.@@N@@
