import JvmDerived
import JvmDerived.Pilot.@@N@@Statement
import JvmDerived.Pilot.@@N@@Code
set_option linter.unusedVariables false
set_option linter.unusedSimpArgs false
namespace Jvm.Pilot.@@N@@
open Jvm Jvm.ClassFile Sem Op Lib Jvm.Free Jvm.Stand Jvm.LawKit Jvm.RoadKit Bundle Jvm.Pilot.@@N@@.Jvm.D
section Own
variable {p : Program} {l : Launch} {e : Env} {R : Room} {s : State} {m : MethodId} {args : Array Value} {below : List Frame} {meth : Method} {c : Code} {T T' : State} {locs : List Loc} {cells slots : Nat}
variable {F : Outcome → State → List Loc → Prop} {Q : Option Value → Heap → List Loc → Prop} {ck sk : Nat} {g g' : JFrame}
def own_F (s : State) (ck sk : Nat) (o : Outcome) (t : State) (L : List Loc) : Prop := FrameEnd s o t L ck sk
/-- from the state T with the frame g on top the method comes to its end, and Q holds of what it returns, of the heap and of the places written -/
def own_E (p : Program) (e : Env) (below : List Frame) (F : Outcome → State → List Loc → Prop) (Q : Option Value → Heap → List Loc → Prop) (T : State) (g : JFrame) : Prop :=
  ∃ s₂ o, Steps p.tables e below (T.setTop g) s₂ ∧ s₂.status = .running ∧ Ended s₂ below o ∧ ∃ v L, o = .returned v ∧ Q v s₂.heap L ∧ F o s₂ L
theorem own_step (st : ∀ t, Steps p.tables e below (T'.setTop g') t → Steps p.tables e below (T.setTop g) t) (k : own_E p e below F Q T' g') : own_E p e below F Q T g := by
  obtain ⟨s2, o, h, r⟩ := k
  exact ⟨s2, o, st _ h, r⟩
theorem own_cast (q : g = g') (k : own_E p e below F Q T g') : own_E p e below F Q T g := q ▸ k
theorem own_ret (X : Stand p l e R s m args below meth c T locs cells slots) (hx : p.tables.exec = Jvm.exec) (hlk : meth.locks = false) {pc : Nat} {Ls : Array Slot} {w : Value} {t : FieldType} {i : Instr} {rest : List Value} (hret : meth.sig.returnType = some t)
    (hi : (i = .ireturn ∧ (t = .int ∨ t = .boolean ∨ t = .byte ∨ t = .char ∨ t = .short) ∧ ∃ z, w = .int z) ∨ (i = .lreturn ∧ t = .long ∧ ∃ z, w = .long z) ∨ (i = .dreturn ∧ t = .double ∧ ∃ z, w = .double z) ∨ (i = .freturn ∧ t = .float ∧ ∃ z, w = .float z) ∨ (i = .areturn ∧ t.isReference = true ∧ w.isRef = true))
    (hd : decode c.code pc = .ok (i, 1)) (hn : narrow t w = w) (hc : cells ≤ ck) (hs : slots ≤ sk) (hQ : Q (some w) T.heap locs) : own_E p e below (own_F s ck sk) Q T (mkF m pc Ls (w :: rest)) := by
  obtain ⟨fs, hr, hrun, hended, hW, hsame⟩ := X.leave (v := some w) (fun h => by rw [hret] at h; cases h) hlk
  exact ⟨_, _, retOut X hx hret hn hi hd hr, hrun, hended, _, _, rfl, hQ, ⟨_, rfl⟩, hW, hsame.mono hc hs⟩
theorem own_retI (X : Stand p l e R s m args below meth c T locs cells slots) (hx : p.tables.exec = Jvm.exec) (hlk : meth.locks = false) {pc : Nat} {Ls : Array Slot} {z : Int32} {t : FieldType} {rest : List Value} (hret : meth.sig.returnType = some t)
    (ht : t = .int ∨ t = .boolean ∨ t = .byte ∨ t = .char ∨ t = .short) (hd : decode c.code pc = .ok (.ireturn, 1)) (hn : narrow t (.int z) = .int z) (hc : cells ≤ ck) (hs : slots ≤ sk) (hQ : Q (some (.int z)) T.heap locs) : own_E p e below (own_F s ck sk) Q T (mkF m pc Ls (.int z :: rest)) :=
  own_ret X hx hlk hret (Or.inl ⟨rfl, ht, z, rfl⟩) hd hn hc hs hQ
theorem own_retJ (X : Stand p l e R s m args below meth c T locs cells slots) (hx : p.tables.exec = Jvm.exec) (hlk : meth.locks = false) {pc : Nat} {Ls : Array Slot} {z : Int64} {rest : List Value} (hret : meth.sig.returnType = some .long)
    (hd : decode c.code pc = .ok (.lreturn, 1)) (hc : cells ≤ ck) (hs : slots ≤ sk) (hQ : Q (some (.long z)) T.heap locs) : own_E p e below (own_F s ck sk) Q T (mkF m pc Ls (.long z :: rest)) :=
  own_ret X hx hlk hret (Or.inr (Or.inl ⟨rfl, rfl, z, rfl⟩)) hd rfl hc hs hQ
theorem own_retA (X : Stand p l e R s m args below meth c T locs cells slots) (hx : p.tables.exec = Jvm.exec) (hlk : meth.locks = false) {pc : Nat} {Ls : Array Slot} {a : Addr} {C : String} {rest : List Value} (hret : meth.sig.returnType = some (.object C))
    (hd : decode c.code pc = .ok (.areturn, 1)) (hc : cells ≤ ck) (hs : slots ≤ sk) (hQ : Q (some (.ref a)) T.heap locs) : own_E p e below (own_F s ck sk) Q T (mkF m pc Ls (.ref a :: rest)) :=
  own_ret X hx hlk hret (Or.inr (Or.inr (Or.inr (Or.inr ⟨rfl, rfl, rfl⟩)))) hd rfl hc hs hQ
theorem own_retV (X : Stand p l e R s m args below meth c T locs cells slots) (hx : p.tables.exec = Jvm.exec) (hlk : meth.locks = false) {pc : Nat} {Ls : Array Slot} (hret : meth.sig.returnType = none)
    (hd : decode c.code pc = .ok (.return_, 1)) (hc : cells ≤ ck) (hs : slots ≤ sk) (hQ : Q none T.heap locs) : own_E p e below (own_F s ck sk) Q T (mkF m pc Ls []) := by
  obtain ⟨fs, hr, hrun, hended, hW, hsame⟩ := X.leave (v := none) (fun _ => rfl) hlk
  exact ⟨_, _, X.returnOut hx hret hd hr, hrun, hended, _, _, rfl, hQ, ⟨_, rfl⟩, hW, hsame.mono hc hs⟩
/-- forks: P first, its denial second -/
theorem own_ifY (X : Stand p l e R s m args below meth c T locs cells slots) (hx : p.tables.exec = Jvm.exec) {cd : ClassFile.Cond} {x : Int32} {rest : List Value} {o : Int} {pc0 pc1 : Nat} {Ls : Array Slot} {P : Prop} [Decidable P] (hd : decode c.code pc0 = .ok (.ifCond cd o, 3)) (hP : ifCond.holds cd x = decide P)
    (ho : 0 ≤ (pc0 : Int) + o) (hp : ((pc0 : Int) + o).toNat = pc1) (hy : P → own_E p e below F Q T (mkF m pc1 Ls rest)) (hn : ¬ P → own_E p e below F Q T (mkF m (pc0 + 3) Ls rest)) : own_E p e below F Q T (mkF m pc0 Ls (.int x :: rest)) := by
  by_cases h : P
  · exact own_step (fun t k => XS.ifYes X.here hx rfl (pc0 := pc0) (pc' := pc1) rfl hd rfl (by rw [hP]; exact decide_eq_true h) ho hp k) (hy h)
  · exact own_step (fun t k => XS.ifNo X.here hx rfl hd rfl (by rw [hP]; exact decide_eq_false h) k) (hn h)
theorem own_ifN (X : Stand p l e R s m args below meth c T locs cells slots) (hx : p.tables.exec = Jvm.exec) {cd : ClassFile.Cond} {x : Int32} {rest : List Value} {o : Int} {pc0 pc1 : Nat} {Ls : Array Slot} {P : Prop} [Decidable P] (hd : decode c.code pc0 = .ok (.ifCond cd o, 3)) (hP : ifCond.holds cd x = !decide P)
    (ho : 0 ≤ (pc0 : Int) + o) (hp : ((pc0 : Int) + o).toNat = pc1) (hy : P → own_E p e below F Q T (mkF m (pc0 + 3) Ls rest)) (hn : ¬ P → own_E p e below F Q T (mkF m pc1 Ls rest)) : own_E p e below F Q T (mkF m pc0 Ls (.int x :: rest)) :=
  own_ifY X hx (P := ¬ P) hd (by rw [hP, decide_not]) ho hp hn (fun h => hy (Decidable.of_not_not h))
theorem own_icY (X : Stand p l e R s m args below meth c T locs cells slots) (hx : p.tables.exec = Jvm.exec) {cd : ClassFile.Cond} {x y : Int32} {rest : List Value} {o : Int} {pc0 pc1 : Nat} {Ls : Array Slot} {P : Prop} [Decidable P] (hd : decode c.code pc0 = .ok (.if_icmp cd o, 3)) (hP : if_icmp.holds cd x y = decide P)
    (ho : 0 ≤ (pc0 : Int) + o) (hp : ((pc0 : Int) + o).toNat = pc1) (hy : P → own_E p e below F Q T (mkF m pc1 Ls rest)) (hn : ¬ P → own_E p e below F Q T (mkF m (pc0 + 3) Ls rest)) : own_E p e below F Q T (mkF m pc0 Ls (.int y :: .int x :: rest)) := by
  by_cases h : P
  · exact own_step (fun t k => XS.icmpYes X.here hx rfl (pc0 := pc0) (pc' := pc1) rfl hd rfl (by rw [hP]; exact decide_eq_true h) ho hp k) (hy h)
  · exact own_step (fun t k => XS.icmpNo X.here hx rfl hd rfl (by rw [hP]; exact decide_eq_false h) k) (hn h)
theorem own_icN (X : Stand p l e R s m args below meth c T locs cells slots) (hx : p.tables.exec = Jvm.exec) {cd : ClassFile.Cond} {x y : Int32} {rest : List Value} {o : Int} {pc0 pc1 : Nat} {Ls : Array Slot} {P : Prop} [Decidable P] (hd : decode c.code pc0 = .ok (.if_icmp cd o, 3)) (hP : if_icmp.holds cd x y = !decide P)
    (ho : 0 ≤ (pc0 : Int) + o) (hp : ((pc0 : Int) + o).toNat = pc1) (hy : P → own_E p e below F Q T (mkF m (pc0 + 3) Ls rest)) (hn : ¬ P → own_E p e below F Q T (mkF m pc1 Ls rest)) : own_E p e below F Q T (mkF m pc0 Ls (.int y :: .int x :: rest)) :=
  own_icY X hx (P := ¬ P) hd (by rw [hP, decide_not]) ho hp hn (fun h => hy (Decidable.of_not_not h))
theorem own_i_eq (x y : Int32) : if_icmp.holds .eq x y = decide (x = y) := by
  by_cases h : x = y
  · rw [(teq h).1, decide_eq_true h]
  · rw [(feq h).1, decide_eq_false h]
theorem own_i_ne (x y : Int32) : if_icmp.holds .ne x y = !decide (x = y) := by
  by_cases h : x = y
  · rw [(teq h).2, decide_eq_true h]; rfl
  · rw [(feq h).2, decide_eq_false h]; rfl
theorem own_i_lt (x y : Int32) : if_icmp.holds .lt x y = decide (x < y) := by
  by_cases h : x < y
  · rw [(tlt h).1, decide_eq_true h]
  · rw [(flt h).1, decide_eq_false h]
theorem own_i_ge (x y : Int32) : if_icmp.holds .ge x y = !decide (x < y) := by
  by_cases h : x < y
  · rw [(tlt h).2.1, decide_eq_true h]; rfl
  · rw [(flt h).2.1, decide_eq_false h]; rfl
theorem own_i_gt (x y : Int32) : if_icmp.holds .gt x y = decide (y < x) := by
  by_cases h : y < x
  · rw [(tlt h).2.2.1, decide_eq_true h]
  · rw [(flt h).2.2.1, decide_eq_false h]
theorem own_i_le (x y : Int32) : if_icmp.holds .le x y = !decide (y < x) := by
  by_cases h : y < x
  · rw [(tlt h).2.2.2, decide_eq_true h]; rfl
  · rw [(flt h).2.2.2, decide_eq_false h]; rfl
theorem own_z_eq (x : Int32) : ifCond.holds .eq x = decide (x = 0) := (if0 _ _).trans (own_i_eq x 0)
theorem own_z_ne (x : Int32) : ifCond.holds .ne x = !decide (x = 0) := (if0 _ _).trans (own_i_ne x 0)
theorem own_z_lt (x : Int32) : ifCond.holds .lt x = decide (x < 0) := (if0 _ _).trans (own_i_lt x 0)
theorem own_z_ge (x : Int32) : ifCond.holds .ge x = !decide (x < 0) := (if0 _ _).trans (own_i_ge x 0)
theorem own_z_gt (x : Int32) : ifCond.holds .gt x = decide (0 < x) := (if0 _ _).trans (own_i_gt x 0)
theorem own_z_le (x : Int32) : ifCond.holds .le x = !decide (0 < x) := (if0 _ _).trans (own_i_le x 0)
theorem own_l_eq (x y : Int64) : ifCond.holds .eq (lcmpW x y) = decide (x = y) := (own_z_eq _).trans (decide_eq_decide.mpr (lw_eq x y))
theorem own_l_ne (x y : Int64) : ifCond.holds .ne (lcmpW x y) = !decide (x = y) := (own_z_ne _).trans (congrArg not (decide_eq_decide.mpr (lw_eq x y)))
theorem own_l_lt (x y : Int64) : ifCond.holds .lt (lcmpW x y) = decide (x < y) := (own_z_lt _).trans (decide_eq_decide.mpr (lw_lt x y))
theorem own_l_ge (x y : Int64) : ifCond.holds .ge (lcmpW x y) = !decide (x < y) := (own_z_ge _).trans (congrArg not (decide_eq_decide.mpr (lw_lt x y)))
theorem own_l_gt (x y : Int64) : ifCond.holds .gt (lcmpW x y) = decide (y < x) := (own_z_gt _).trans (decide_eq_decide.mpr (lw_gt x y))
theorem own_l_le (x y : Int64) : ifCond.holds .le (lcmpW x y) = !decide (y < x) := (own_z_le _).trans (congrArg not (decide_eq_decide.mpr (lw_gt x y)))
/-- a condition as Java's int: 1 or 0 -/
def own_b (P : Prop) [Decidable P] : Int32 := if P then 1 else 0
theorem own_b1 {P : Prop} [Decidable P] (h : P) : own_b P = 1 := if_pos h
theorem own_b0 {P : Prop} [Decidable P] (h : ¬ P) : own_b P = 0 := if_neg h
theorem own_b_ne (P : Prop) [Decidable P] : ifCond.holds .ne (own_b P) = decide P := by
  by_cases h : P
  · rw [own_b1 h, decide_eq_true h]; rfl
  · rw [own_b0 h, decide_eq_false h]; rfl
theorem own_b_eq (P : Prop) [Decidable P] : ifCond.holds .eq (own_b P) = !decide P := by
  by_cases h : P
  · rw [own_b1 h, decide_eq_true h]; rfl
  · rw [own_b0 h, decide_eq_false h]; rfl
theorem own_bn (P : Prop) [Decidable P] : narrow .boolean (.int (own_b P)) = .int (own_b P) := by
  by_cases h : P
  · rw [own_b1 h]; rfl
  · rw [own_b0 h]; rfl
end Own
abbrev own_norms (x : Int32) : Prop := ¬ ((x &&& (1 : Int32)) = 0) ∧ ((x &&& (16 : Int32)) = 0)
abbrev own_freqs (x : Int32) : Prop := ((x &&& (64 : Int32)) = 0)
abbrev own_pos (x : Int32) : Prop := own_freqs x ∧ ((x &&& (128 : Int32)) = 0)
def own_comb (x y : Int32) : Int32 :=
  if ¬ ((x &&& (1 : Int32)) = 0) then
    if ¬ ((y &&& (1 : Int32)) = 0) then
      if ((x ||| y) &&& (64 : Int32)) = 0 then ((1 : Int32) ||| ((x &&& y) &&& (16 : Int32))) ||| ((x ||| y) &&& (128 : Int32)) else ((1 : Int32) ||| ((x &&& y) &&& (16 : Int32))) ||| (64 : Int32)
    else x
  else y
theorem own_bit0 (x : Int32) : ((x &&& (1 : Int32)) = 0) ↔ x.toBitVec.getLsbD 0 = false := by
  rw [← Int32.toBitVec_inj, Int32.toBitVec_and, show (1 : Int32).toBitVec = BitVec.twoPow 32 0 by decide, BitVec.and_twoPow]
  cases x.toBitVec.getLsbD 0 <;> decide
theorem own_bit4 (x : Int32) : ((x &&& (16 : Int32)) = 0) ↔ x.toBitVec.getLsbD 4 = false := by
  rw [← Int32.toBitVec_inj, Int32.toBitVec_and, show (16 : Int32).toBitVec = BitVec.twoPow 32 4 by decide, BitVec.and_twoPow]
  cases x.toBitVec.getLsbD 4 <;> decide
theorem own_bit6 (x : Int32) : ((x &&& (64 : Int32)) = 0) ↔ x.toBitVec.getLsbD 6 = false := by
  rw [← Int32.toBitVec_inj, Int32.toBitVec_and, show (64 : Int32).toBitVec = BitVec.twoPow 32 6 by decide, BitVec.and_twoPow]
  cases x.toBitVec.getLsbD 6 <;> decide
theorem own_bit7 (x : Int32) : ((x &&& (128 : Int32)) = 0) ↔ x.toBitVec.getLsbD 7 = false := by
  rw [← Int32.toBitVec_inj, Int32.toBitVec_and, show (128 : Int32).toBitVec = BitVec.twoPow 32 7 by decide, BitVec.and_twoPow]
  cases x.toBitVec.getLsbD 7 <;> decide
theorem own_r1 (x y : Int32) (h1 : ¬ ((x &&& (1 : Int32)) = 0)) (h2 : ¬ ((y &&& (1 : Int32)) = 0)) (h3 : ((x ||| y) &&& (64 : Int32)) = 0) : own_comb x y = ((1 : Int32) ||| ((x &&& y) &&& (16 : Int32))) ||| ((x ||| y) &&& (128 : Int32)) := by
  simp only [own_comb, if_pos h1, if_pos h2, if_pos h3]
theorem own_r2 (x y : Int32) (h1 : ¬ ((x &&& (1 : Int32)) = 0)) (h2 : ¬ ((y &&& (1 : Int32)) = 0)) (h3 : ¬ (((x ||| y) &&& (64 : Int32)) = 0)) : own_comb x y = ((1 : Int32) ||| ((x &&& y) &&& (16 : Int32))) ||| (64 : Int32) := by
  simp only [own_comb, if_pos h1, if_pos h2, if_neg h3]
theorem own_bits (x y : Int32) (h1 : ¬ ((x &&& (1 : Int32)) = 0)) (h2 : ¬ ((y &&& (1 : Int32)) = 0)) :
    (own_comb x y).toBitVec.getLsbD 0 = true ∧ (own_comb x y).toBitVec.getLsbD 4 = (x.toBitVec.getLsbD 4 && y.toBitVec.getLsbD 4) ∧ (own_comb x y).toBitVec.getLsbD 6 = (x.toBitVec.getLsbD 6 || y.toBitVec.getLsbD 6) ∧ (own_comb x y).toBitVec.getLsbD 7 = (!(x.toBitVec.getLsbD 6 || y.toBitVec.getLsbD 6) && (x.toBitVec.getLsbD 7 || y.toBitVec.getLsbD 7)) := by
  have k1_0 : (1 : Int32).toBitVec.getLsbD 0 = true := by decide
  have k1_4 : (1 : Int32).toBitVec.getLsbD 4 = false := by decide
  have k1_6 : (1 : Int32).toBitVec.getLsbD 6 = false := by decide
  have k1_7 : (1 : Int32).toBitVec.getLsbD 7 = false := by decide
  have k16_0 : (16 : Int32).toBitVec.getLsbD 0 = false := by decide
  have k16_4 : (16 : Int32).toBitVec.getLsbD 4 = true := by decide
  have k16_6 : (16 : Int32).toBitVec.getLsbD 6 = false := by decide
  have k16_7 : (16 : Int32).toBitVec.getLsbD 7 = false := by decide
  have k64_0 : (64 : Int32).toBitVec.getLsbD 0 = false := by decide
  have k64_4 : (64 : Int32).toBitVec.getLsbD 4 = false := by decide
  have k64_6 : (64 : Int32).toBitVec.getLsbD 6 = true := by decide
  have k64_7 : (64 : Int32).toBitVec.getLsbD 7 = false := by decide
  have k128_0 : (128 : Int32).toBitVec.getLsbD 0 = false := by decide
  have k128_4 : (128 : Int32).toBitVec.getLsbD 4 = false := by decide
  have k128_6 : (128 : Int32).toBitVec.getLsbD 6 = false := by decide
  have k128_7 : (128 : Int32).toBitVec.getLsbD 7 = true := by decide
  by_cases h3 : ((x ||| y) &&& (64 : Int32)) = 0
  · rw [own_r1 x y h1 h2 h3]
    rw [own_bit6, Int32.toBitVec_or, BitVec.getLsbD_or] at h3
    simp only [Int32.toBitVec_or, Int32.toBitVec_and, BitVec.getLsbD_or, BitVec.getLsbD_and, k1_0, k1_4, k1_6, k1_7, k16_0, k16_4, k16_6, k16_7, k64_0, k64_4, k64_6, k64_7, k128_0, k128_4, k128_6, k128_7, h3]
    simp
  · rw [own_r2 x y h1 h2 h3]
    rw [own_bit6, Int32.toBitVec_or, BitVec.getLsbD_or, Bool.not_eq_false] at h3
    simp only [Int32.toBitVec_or, Int32.toBitVec_and, BitVec.getLsbD_or, BitVec.getLsbD_and, k1_0, k1_4, k1_6, k1_7, k16_0, k16_4, k16_6, k16_7, k64_0, k64_4, k64_6, k64_7, k128_0, k128_4, k128_6, k128_7, h3]
    simp
theorem own_m (a b : Int32) : (((1 : Int32) ||| (a &&& (16 : Int32))) ||| (b &&& (128 : Int32))) &&& ((209 : Int32) ^^^ (-1 : Int32)) = 0 := by
  rw [← Int32.toBitVec_inj]
  simp only [Int32.toBitVec_or, Int32.toBitVec_and]
  generalize a.toBitVec = A; generalize b.toBitVec = B
  have q1 : (1 : Int32).toBitVec &&& ((209 : Int32) ^^^ (-1 : Int32)).toBitVec = 0#32 := by decide
  have q2 : (16 : Int32).toBitVec &&& ((209 : Int32) ^^^ (-1 : Int32)).toBitVec = 0#32 := by decide
  have q3 : (128 : Int32).toBitVec &&& ((209 : Int32) ^^^ (-1 : Int32)).toBitVec = 0#32 := by decide
  generalize ((209 : Int32) ^^^ (-1 : Int32)).toBitVec = M at *
  generalize (1 : Int32).toBitVec = C1 at *; generalize (16 : Int32).toBitVec = C2 at *; generalize (128 : Int32).toBitVec = C3 at *
  apply BitVec.eq_of_getLsbD_eq
  intro i hi
  have w1 := congrArg (fun z => BitVec.getLsbD z i) q1
  have w2 := congrArg (fun z => BitVec.getLsbD z i) q2
  have w3 := congrArg (fun z => BitVec.getLsbD z i) q3
  simp only [BitVec.getLsbD_and, BitVec.getLsbD_zero] at w1 w2 w3
  show _ = (0#32).getLsbD i
  simp only [BitVec.getLsbD_and, BitVec.getLsbD_or, BitVec.getLsbD_zero]
  cases hM : M.getLsbD i
  · simp
  · rw [hM] at w1 w2 w3
    simp only [Bool.and_true] at w1 w2 w3
    simp [w1, w2, w3]
theorem own_m2 (a : Int32) : (((1 : Int32) ||| (a &&& (16 : Int32))) ||| (64 : Int32)) &&& ((209 : Int32) ^^^ (-1 : Int32)) = 0 := by
  rw [← Int32.toBitVec_inj]
  simp only [Int32.toBitVec_or, Int32.toBitVec_and]
  generalize a.toBitVec = A
  have q1 : (1 : Int32).toBitVec &&& ((209 : Int32) ^^^ (-1 : Int32)).toBitVec = 0#32 := by decide
  have q2 : (16 : Int32).toBitVec &&& ((209 : Int32) ^^^ (-1 : Int32)).toBitVec = 0#32 := by decide
  have q3 : (64 : Int32).toBitVec &&& ((209 : Int32) ^^^ (-1 : Int32)).toBitVec = 0#32 := by decide
  generalize ((209 : Int32) ^^^ (-1 : Int32)).toBitVec = M at *
  generalize (1 : Int32).toBitVec = C1 at *; generalize (16 : Int32).toBitVec = C2 at *; generalize (64 : Int32).toBitVec = C3 at *
  apply BitVec.eq_of_getLsbD_eq
  intro i hi
  have w1 := congrArg (fun z => BitVec.getLsbD z i) q1
  have w2 := congrArg (fun z => BitVec.getLsbD z i) q2
  have w3 := congrArg (fun z => BitVec.getLsbD z i) q3
  simp only [BitVec.getLsbD_and, BitVec.getLsbD_zero] at w1 w2 w3
  show _ = (0#32).getLsbD i
  simp only [BitVec.getLsbD_and, BitVec.getLsbD_or, BitVec.getLsbD_zero]
  cases hM : M.getLsbD i
  · simp
  · rw [hM] at w1 w2 w3
    simp only [Bool.and_true] at w1 w2 w3
    simp [w1, w2, w3]
theorem own_l1 (x y : Int32) (h1 : ¬ ((x &&& (1 : Int32)) = 0)) (h2 : ¬ ((y &&& (1 : Int32)) = 0)) : (own_comb x y &&& ((209 : Int32) ^^^ (-1 : Int32))) = 0 := by
  by_cases h3 : ((x ||| y) &&& (64 : Int32)) = 0
  · rw [own_r1 x y h1 h2 h3]; exact own_m _ _
  · rw [own_r2 x y h1 h2 h3]; exact own_m2 _
theorem own_l2 (x y : Int32) (h1 : ¬ ((x &&& (1 : Int32)) = 0)) (h2 : ¬ ((y &&& (1 : Int32)) = 0)) : ¬ ((own_comb x y &&& (1 : Int32)) = 0) := by
  rw [own_bit0, (own_bits x y h1 h2).1]; decide
theorem own_b_iff {P R : Prop} [Decidable P] [Decidable R] (h : P ↔ R) : own_b P = own_b R := by
  by_cases p : P
  · rw [own_b1 p, own_b1 (h.mp p)]
  · rw [own_b0 p, own_b0 (fun r => p (h.mpr r))]
theorem own_l3 (x y : Int32) (h1 : ¬ ((x &&& (1 : Int32)) = 0)) (h2 : ¬ ((y &&& (1 : Int32)) = 0)) : own_b (own_norms (own_comb x y)) = own_b (own_norms x ∨ own_norms y) := by
  obtain ⟨a0, a4, a6, a7⟩ := own_bits x y h1 h2
  refine own_b_iff ?_
  unfold own_norms
  simp only [own_bit0, own_bit4] at h1 h2 ⊢
  rw [a0, a4]
  revert h1 h2
  cases x.toBitVec.getLsbD 0 <;> cases y.toBitVec.getLsbD 0 <;> cases x.toBitVec.getLsbD 4 <;> cases y.toBitVec.getLsbD 4 <;> decide
theorem own_l4 (x y : Int32) (h1 : ¬ ((x &&& (1 : Int32)) = 0)) (h2 : ¬ ((y &&& (1 : Int32)) = 0)) : own_b (own_freqs (own_comb x y)) = own_b (own_freqs x ∧ own_freqs y) := by
  obtain ⟨a0, a4, a6, a7⟩ := own_bits x y h1 h2
  refine own_b_iff ?_
  unfold own_freqs
  simp only [own_bit6]
  rw [a6]
  cases x.toBitVec.getLsbD 6 <;> cases y.toBitVec.getLsbD 6 <;> decide
theorem own_l5 (x y : Int32) (h1 : ¬ ((x &&& (1 : Int32)) = 0)) (h2 : ¬ ((y &&& (1 : Int32)) = 0)) : own_b (own_pos (own_comb x y)) = own_b (own_pos x ∧ own_pos y) := by
  obtain ⟨a0, a4, a6, a7⟩ := own_bits x y h1 h2
  refine own_b_iff ?_
  unfold own_pos own_freqs
  simp only [own_bit6, own_bit7]
  rw [a6, a7]
  cases x.toBitVec.getLsbD 6 <;> cases y.toBitVec.getLsbD 6 <;> cases x.toBitVec.getLsbD 7 <;> cases y.toBitVec.getLsbD 7 <;> decide
theorem own_l6 (x y : Int32) (h1 : ¬ ((x &&& (1 : Int32)) = 0)) (h2 : ¬ ((y &&& (1 : Int32)) = 0)) (h3 : ¬ own_freqs (own_comb x y)) : (own_comb x y &&& (128 : Int32)) = 0 := by
  obtain ⟨a0, a4, a6, a7⟩ := own_bits x y h1 h2
  unfold own_freqs at h3
  rw [own_bit6, a6] at h3
  rw [own_bit7, a7]
  revert h3
  cases x.toBitVec.getLsbD 6 <;> cases y.toBitVec.getLsbD 6 <;> cases x.toBitVec.getLsbD 7 <;> cases y.toBitVec.getLsbD 7 <;> decide
theorem own_ef2 (m : MethodId) (x0 : Int32) : entryFrame m #[(.int x0)] 1 = mkF m 0 #[.val (.int x0)] [] := by first | (simp [entryFrame, mkF, argsToLocals, Value.category]; done) | rfl
def own_Q2 (Z : State) (x0 : Int32) (h0 : Heap) (n0 : Nat) (v : Option Value) (h : Heap) (L : List Loc) : Prop := v = some (.int (own_b (own_norms x0))) ∧ Fr n0 L ∧ h = h0
theorem own_pn_2 : plainName "com/example/quern/quern/codec/FieldInfoCombinePinLaw" = true := by first | (simp [plainName, overriddenIn]; done) | decide +kernel
theorem own_d2_0 : decode method_2_code 0 = .ok (.iload_n 0, 1) := by decide +kernel
theorem own_d2_1 : decode method_2_code 1 = .ok (.iconst 1, 1) := by decide +kernel
theorem own_d2_2 : decode method_2_code 2 = .ok (.iand, 1) := by decide +kernel
theorem own_d2_3 : decode method_2_code 3 = .ok (.ifCond .eq 14, 3) := by decide +kernel
theorem own_d2_17 : decode method_2_code 17 = .ok (.iconst 0, 1) := by decide +kernel
theorem own_d2_18 : decode method_2_code 18 = .ok (.ireturn, 1) := by decide +kernel
theorem own_d2_6 : decode method_2_code 6 = .ok (.iload_n 0, 1) := by decide +kernel
theorem own_d2_7 : decode method_2_code 7 = .ok (.bipush 16, 2) := by decide +kernel
theorem own_d2_9 : decode method_2_code 9 = .ok (.iand, 1) := by decide +kernel
theorem own_d2_10 : decode method_2_code 10 = .ok (.ifCond .ne 7, 3) := by decide +kernel
theorem own_d2_13 : decode method_2_code 13 = .ok (.iconst 1, 1) := by decide +kernel
theorem own_d2_14 : decode method_2_code 14 = .ok (.goto 4, 3) := by decide +kernel
set_option maxRecDepth 65536 in
set_option maxHeartbeats 40000000 in
theorem own_rm2 (l : Launch) (Z : State) (a0 : Array Value) (hw : ∀ d ∈ tables_1, d.before a0 Z = true) (ws : List Jvm.Cond) (x0 : Int32) (h0 : Heap) (n0 : Nat) (Z0 : n0 ≤ h0.size)  :
    MetFree l (⟨"com/example/quern/quern/codec/FieldInfoCombinePinLaw", "norms", "(I)Z"⟩ : MethodName) (head1 (Jvm.Cond.code (⟨"com/example/quern/quern/codec/FieldInfoCombinePinLaw", "norms", "(I)Z"⟩ : MethodName) method_2_code 1 (some .boolean) :: ws) ({ frames := 0, cells := 0, slots := 0, locals := 0 } : Room)) (fun aU U => aU = #[(.int x0)] ∧ Z.Warmed39 U.vm ∧ U.heap = h0) (fun _ _ _ _ _ => True) (fun _ U o U' => ∃ v L, o = .returned v ∧ own_Q2 Z x0 h0 n0 v U'.heap L ∧ FrameEnd U o U' L 0 0) := by
  refine MetFree.of_bodySF (plainFor_of_name own_pn_2) hisR ?_
  intro p e s m args below meth c s₁ Bd hml0 hP hK
  obtain ⟨rfl, hZ, hh⟩ := hP
  have hx := Bd.exec
  have hby := Bd.bytes
  have hml : c.maxLocals = 1 := hml0
  have hown : s.vm.findClass "com/example/quern/quern/codec/FieldInfoCombinePinLaw" = some m.cls := findClass_of_methodNamed Bd.named
  have hnm := (name_of_methodNamed Bd.named Bd.method).1
  have hlk : meth.locks = false := Bd.notSynchronized
  have hret := Bd.returns
  have X0 : Stand p l e ({ frames := 0, cells := 0, slots := 0, locals := 0 } : Room) s m #[(.int x0)] below meth c s₁ [] 0 0 := Stand.of_body Bd
  have e0 : s₁.heap = h0 := by rw [← hh, Bd.state]; rfl
  have N0 := Fr.nil n0
  have K0 := Keep.refl h0 ([] : List Addr)
  show own_E p e below (own_F s 0 0) (own_Q2 Z x0 h0 n0) s₁ (entryFrame m #[(.int x0)] 1)
  refine own_cast (own_ef2 m x0) ?_
  refine own_step (g' := (mkF m 1 #[.val (.int x0)] [(.int x0)])) (fun _ k => XS.iloadN X0.here hx rfl (hb hby own_d2_0) rfl k) ?_
  refine own_step (g' := (mkF m 2 #[.val (.int x0)] [(.int (1 : Int32)), (.int x0)])) (fun _ k => XS.iconst X0.here hx rfl (hb hby own_d2_1) k) ?_
  refine own_step (g' := (mkF m 3 #[.val (.int x0)] [(.int (x0 &&& (1 : Int32)))])) (fun _ k => XS.iand X0.here hx rfl (hb hby own_d2_2) rfl k) ?_
  refine own_ifY X0 hx (P := ((x0 &&& (1 : Int32)) = 0)) (hb hby own_d2_3) (own_z_eq (x0 &&& (1 : Int32))) (by decide) (pc1 := 17) (by decide) (fun hc3 => ?_) (fun hc3 => ?_)
  · show own_E p e below (own_F s 0 0) (own_Q2 Z x0 h0 n0) s₁ (mkF m 17 #[.val (.int x0)] [])
    refine own_step (g' := (mkF m 18 #[.val (.int x0)] [(.int (0 : Int32))])) (fun _ k => XS.iconst X0.here hx rfl (hb hby own_d2_17) k) ?_
    exact own_retI X0 hx hlk hret (by simp) (hb hby own_d2_18) rfl (by decide) (by decide) (by show own_Q2 Z x0 h0 n0 (some (.int (0 : Int32))) s₁.heap _; rw [e0]; exact ⟨by simp [own_b, own_norms, hc3], N0, rfl⟩)
  · show own_E p e below (own_F s 0 0) (own_Q2 Z x0 h0 n0) s₁ (mkF m 6 #[.val (.int x0)] [])
    refine own_step (g' := (mkF m 7 #[.val (.int x0)] [(.int x0)])) (fun _ k => XS.iloadN X0.here hx rfl (hb hby own_d2_6) rfl k) ?_
    refine own_step (g' := (mkF m 9 #[.val (.int x0)] [(.int (16 : Int32)), (.int x0)])) (fun _ k => XS.bipush X0.here hx rfl (hb hby own_d2_7) k) ?_
    refine own_step (g' := (mkF m 10 #[.val (.int x0)] [(.int (x0 &&& (16 : Int32)))])) (fun _ k => XS.iand X0.here hx rfl (hb hby own_d2_9) rfl k) ?_
    refine own_ifN X0 hx (P := ((x0 &&& (16 : Int32)) = 0)) (hb hby own_d2_10) (own_z_ne (x0 &&& (16 : Int32))) (by decide) (pc1 := 17) (by decide) (fun hc10 => ?_) (fun hc10 => ?_)
    · show own_E p e below (own_F s 0 0) (own_Q2 Z x0 h0 n0) s₁ (mkF m 13 #[.val (.int x0)] [])
      refine own_step (g' := (mkF m 14 #[.val (.int x0)] [(.int (1 : Int32))])) (fun _ k => XS.iconst X0.here hx rfl (hb hby own_d2_13) k) ?_
      refine own_step (g' := (mkF m 18 #[.val (.int x0)] [(.int (1 : Int32))])) (fun _ k => XS.goto X0.here hx rfl (pc0 := 14) (pc' := 18) rfl (hb hby own_d2_14) (by decide) (by decide) k) ?_
      exact own_retI X0 hx hlk hret (by simp) (hb hby own_d2_18) rfl (by decide) (by decide) (by show own_Q2 Z x0 h0 n0 (some (.int (1 : Int32))) s₁.heap _; rw [e0]; exact ⟨by simp [own_b, own_norms, hc3, hc10], N0, rfl⟩)
    · show own_E p e below (own_F s 0 0) (own_Q2 Z x0 h0 n0) s₁ (mkF m 17 #[.val (.int x0)] [])
      refine own_step (g' := (mkF m 18 #[.val (.int x0)] [(.int (0 : Int32))])) (fun _ k => XS.iconst X0.here hx rfl (hb hby own_d2_17) k) ?_
      exact own_retI X0 hx hlk hret (by simp) (hb hby own_d2_18) rfl (by decide) (by decide) (by show own_Q2 Z x0 h0 n0 (some (.int (0 : Int32))) s₁.heap _; rw [e0]; exact ⟨by simp [own_b, own_norms, hc3, hc10], N0, rfl⟩)
theorem own_ef3 (m : MethodId) (x0 : Int32) : entryFrame m #[(.int x0)] 1 = mkF m 0 #[.val (.int x0)] [] := by first | (simp [entryFrame, mkF, argsToLocals, Value.category]; done) | rfl
def own_Q3 (Z : State) (x0 : Int32) (h0 : Heap) (n0 : Nat) (v : Option Value) (h : Heap) (L : List Loc) : Prop := v = some (.int (own_b (own_freqs x0))) ∧ Fr n0 L ∧ h = h0
theorem own_pn_3 : plainName "com/example/quern/quern/codec/FieldInfoCombinePinLaw" = true := by first | (simp [plainName, overriddenIn]; done) | decide +kernel
theorem own_d3_0 : decode method_3_code 0 = .ok (.iload_n 0, 1) := by decide +kernel
theorem own_d3_1 : decode method_3_code 1 = .ok (.bipush 64, 2) := by decide +kernel
theorem own_d3_3 : decode method_3_code 3 = .ok (.iand, 1) := by decide +kernel
theorem own_d3_4 : decode method_3_code 4 = .ok (.ifCond .ne 7, 3) := by decide +kernel
theorem own_d3_7 : decode method_3_code 7 = .ok (.iconst 1, 1) := by decide +kernel
theorem own_d3_8 : decode method_3_code 8 = .ok (.goto 4, 3) := by decide +kernel
theorem own_d3_12 : decode method_3_code 12 = .ok (.ireturn, 1) := by decide +kernel
theorem own_d3_11 : decode method_3_code 11 = .ok (.iconst 0, 1) := by decide +kernel
set_option maxRecDepth 65536 in
set_option maxHeartbeats 40000000 in
theorem own_rm3 (l : Launch) (Z : State) (a0 : Array Value) (hw : ∀ d ∈ tables_1, d.before a0 Z = true) (ws : List Jvm.Cond) (x0 : Int32) (h0 : Heap) (n0 : Nat) (Z0 : n0 ≤ h0.size)  :
    MetFree l (⟨"com/example/quern/quern/codec/FieldInfoCombinePinLaw", "freqs", "(I)Z"⟩ : MethodName) (head1 (Jvm.Cond.code (⟨"com/example/quern/quern/codec/FieldInfoCombinePinLaw", "freqs", "(I)Z"⟩ : MethodName) method_3_code 1 (some .boolean) :: ws) ({ frames := 0, cells := 0, slots := 0, locals := 0 } : Room)) (fun aU U => aU = #[(.int x0)] ∧ Z.Warmed39 U.vm ∧ U.heap = h0) (fun _ _ _ _ _ => True) (fun _ U o U' => ∃ v L, o = .returned v ∧ own_Q3 Z x0 h0 n0 v U'.heap L ∧ FrameEnd U o U' L 0 0) := by
  refine MetFree.of_bodySF (plainFor_of_name own_pn_3) hisR ?_
  intro p e s m args below meth c s₁ Bd hml0 hP hK
  obtain ⟨rfl, hZ, hh⟩ := hP
  have hx := Bd.exec
  have hby := Bd.bytes
  have hml : c.maxLocals = 1 := hml0
  have hown : s.vm.findClass "com/example/quern/quern/codec/FieldInfoCombinePinLaw" = some m.cls := findClass_of_methodNamed Bd.named
  have hnm := (name_of_methodNamed Bd.named Bd.method).1
  have hlk : meth.locks = false := Bd.notSynchronized
  have hret := Bd.returns
  have X0 : Stand p l e ({ frames := 0, cells := 0, slots := 0, locals := 0 } : Room) s m #[(.int x0)] below meth c s₁ [] 0 0 := Stand.of_body Bd
  have e0 : s₁.heap = h0 := by rw [← hh, Bd.state]; rfl
  have N0 := Fr.nil n0
  have K0 := Keep.refl h0 ([] : List Addr)
  show own_E p e below (own_F s 0 0) (own_Q3 Z x0 h0 n0) s₁ (entryFrame m #[(.int x0)] 1)
  refine own_cast (own_ef3 m x0) ?_
  refine own_step (g' := (mkF m 1 #[.val (.int x0)] [(.int x0)])) (fun _ k => XS.iloadN X0.here hx rfl (hb hby own_d3_0) rfl k) ?_
  refine own_step (g' := (mkF m 3 #[.val (.int x0)] [(.int (64 : Int32)), (.int x0)])) (fun _ k => XS.bipush X0.here hx rfl (hb hby own_d3_1) k) ?_
  refine own_step (g' := (mkF m 4 #[.val (.int x0)] [(.int (x0 &&& (64 : Int32)))])) (fun _ k => XS.iand X0.here hx rfl (hb hby own_d3_3) rfl k) ?_
  refine own_ifN X0 hx (P := ((x0 &&& (64 : Int32)) = 0)) (hb hby own_d3_4) (own_z_ne (x0 &&& (64 : Int32))) (by decide) (pc1 := 11) (by decide) (fun hc4 => ?_) (fun hc4 => ?_)
  · show own_E p e below (own_F s 0 0) (own_Q3 Z x0 h0 n0) s₁ (mkF m 7 #[.val (.int x0)] [])
    refine own_step (g' := (mkF m 8 #[.val (.int x0)] [(.int (1 : Int32))])) (fun _ k => XS.iconst X0.here hx rfl (hb hby own_d3_7) k) ?_
    refine own_step (g' := (mkF m 12 #[.val (.int x0)] [(.int (1 : Int32))])) (fun _ k => XS.goto X0.here hx rfl (pc0 := 8) (pc' := 12) rfl (hb hby own_d3_8) (by decide) (by decide) k) ?_
    exact own_retI X0 hx hlk hret (by simp) (hb hby own_d3_12) rfl (by decide) (by decide) (by show own_Q3 Z x0 h0 n0 (some (.int (1 : Int32))) s₁.heap _; rw [e0]; exact ⟨by simp [own_b, own_freqs, hc4], N0, rfl⟩)
  · show own_E p e below (own_F s 0 0) (own_Q3 Z x0 h0 n0) s₁ (mkF m 11 #[.val (.int x0)] [])
    refine own_step (g' := (mkF m 12 #[.val (.int x0)] [(.int (0 : Int32))])) (fun _ k => XS.iconst X0.here hx rfl (hb hby own_d3_11) k) ?_
    exact own_retI X0 hx hlk hret (by simp) (hb hby own_d3_12) rfl (by decide) (by decide) (by show own_Q3 Z x0 h0 n0 (some (.int (0 : Int32))) s₁.heap _; rw [e0]; exact ⟨by simp [own_b, own_freqs, hc4], N0, rfl⟩)
theorem own_ef4 (m : MethodId) (x0 : Int32) : entryFrame m #[(.int x0)] 1 = mkF m 0 #[.val (.int x0)] [] := by first | (simp [entryFrame, mkF, argsToLocals, Value.category]; done) | rfl
def own_Q4 (Z : State) (x0 : Int32) (h0 : Heap) (n0 : Nat) (v : Option Value) (h : Heap) (L : List Loc) : Prop := v = some (.int (own_b (own_pos x0))) ∧ Fr n0 L ∧ h = h0
theorem own_pn_4 : plainName "com/example/quern/quern/codec/FieldInfoCombinePinLaw" = true := by first | (simp [plainName, overriddenIn]; done) | decide +kernel
theorem own_d4_0 : decode method_4_code 0 = .ok (.iload_n 0, 1) := by decide +kernel
theorem own_d4_1 : decode method_4_code 1 = .ok (.invokestatic 9, 3) := by decide +kernel
theorem own_pd__28I_29Z : parseMethodDescriptor "(I)Z" = some ⟨[.int], some .boolean⟩ := by decide +kernel
theorem own_d4_4 : decode method_4_code 4 = .ok (.ifCond .eq 15, 3) := by decide +kernel
theorem own_d4_7 : decode method_4_code 7 = .ok (.iload_n 0, 1) := by decide +kernel
theorem own_d4_8 : decode method_4_code 8 = .ok (.sipush 128, 3) := by decide +kernel
theorem own_d4_11 : decode method_4_code 11 = .ok (.iand, 1) := by decide +kernel
theorem own_d4_12 : decode method_4_code 12 = .ok (.ifCond .ne 7, 3) := by decide +kernel
theorem own_d4_15 : decode method_4_code 15 = .ok (.iconst 1, 1) := by decide +kernel
theorem own_d4_16 : decode method_4_code 16 = .ok (.goto 4, 3) := by decide +kernel
theorem own_d4_20 : decode method_4_code 20 = .ok (.ireturn, 1) := by decide +kernel
theorem own_d4_19 : decode method_4_code 19 = .ok (.iconst 0, 1) := by decide +kernel
set_option maxRecDepth 65536 in
set_option maxHeartbeats 40000000 in
theorem own_rm4 (l : Launch) (Z : State) (a0 : Array Value) (hw : ∀ d ∈ tables_1, d.before a0 Z = true) (ws : List Jvm.Cond) (x0 : Int32) (h0 : Heap) (n0 : Nat) (Z0 : n0 ≤ h0.size)  :
    MetFree l (⟨"com/example/quern/quern/codec/FieldInfoCombinePinLaw", "positions", "(I)Z"⟩ : MethodName) (head1 (Jvm.Cond.code (⟨"com/example/quern/quern/codec/FieldInfoCombinePinLaw", "positions", "(I)Z"⟩ : MethodName) method_4_code 1 (some .boolean) :: ws) ({ frames := 1, cells := 0, slots := 0, locals := 12 } : Room)) (fun aU U => aU = #[(.int x0)] ∧ Z.Warmed39 U.vm ∧ U.heap = h0) (fun _ _ _ _ _ => True) (fun _ U o U' => ∃ v L, o = .returned v ∧ own_Q4 Z x0 h0 n0 v U'.heap L ∧ FrameEnd U o U' L 0 0) := by
  refine MetFree.of_bodySF (plainFor_of_name own_pn_4) hisR ?_
  intro p e s m args below meth c s₁ Bd hml0 hP hK
  obtain ⟨rfl, hZ, hh⟩ := hP
  have hx := Bd.exec
  have hby := Bd.bytes
  have hml : c.maxLocals = 1 := hml0
  have hown : s.vm.findClass "com/example/quern/quern/codec/FieldInfoCombinePinLaw" = some m.cls := findClass_of_methodNamed Bd.named
  have hnm := (name_of_methodNamed Bd.named Bd.method).1
  have hlk : meth.locks = false := Bd.notSynchronized
  have hret := Bd.returns
  have X0 : Stand p l e ({ frames := 1, cells := 0, slots := 0, locals := 12 } : Room) s m #[(.int x0)] below meth c s₁ [] 0 0 := Stand.of_body Bd
  have e0 : s₁.heap = h0 := by rw [← hh, Bd.state]; rfl
  have N0 := Fr.nil n0
  have K0 := Keep.refl h0 ([] : List Addr)
  show own_E p e below (own_F s 0 0) (own_Q4 Z x0 h0 n0) s₁ (entryFrame m #[(.int x0)] 1)
  refine own_cast (own_ef4 m x0) ?_
  refine own_step (g' := (mkF m 1 #[.val (.int x0)] [(.int x0)])) (fun _ k => XS.iloadN X0.here hx rfl (hb hby own_d4_0) rfl k) ?_
  obtain ⟨_, _, ⟨T1, L1, k1, n1⟩, -, X1, ⟨Lc1, hQ1, l1, y1, z1⟩, st1⟩ := Jvm.LawKit.callS X0 hx (y := (⟨"com/example/quern/quern/codec/FieldInfoCombinePinLaw", "freqs", "(I)Z"⟩ : MethodName)) hown (mvT hZ (hw _ (List.mem_of_getElem? (i := 8) rfl))) (mvT hZ (hw _ (List.mem_of_getElem? (i := 9) rfl))) (mvT hZ (hw _ (List.mem_of_getElem? (i := 6) rfl))) (mvT hZ (hw _ (List.mem_of_getElem? (i := 10) rfl))) (by decide) (backOf (W := 0) (own_rm3 l Z a0 hw [] x0 h0 n0 Z0 ) hZ (hw _ (List.mem_of_getElem? (i := 10) rfl)) (hw _ (List.mem_of_getElem? (i := 6) rfl)) (by decide) (by decide)) (g := (mkF m 1 #[.val (.int x0)] [(.int x0)])) rfl (by rw [hml]; rfl) (argsL := [(.int x0)]) (rest := []) (lenOf own_pd__28I_29Z rfl) rfl (by show 2 * 0 + _ ≤ _; exact Nat.le_of_eq rfl) (hb hby own_d4_1) (fun _ _ => ⟨rfl, e0, (by decide : 0 + 0 ≤ _), (by decide : 0 + 0 ≤ _)⟩)
  dsimp only [Pt.U, Pt.locs, Pt.cells, Pt.slots] at X1 l1 y1 z1 st1 hQ1
  subst l1 y1 z1
  obtain ⟨rfl, Nq1, e1⟩ := hQ1
  have N1 := Fr.app N0 Nq1
  refine own_step (g' := (mkF m 4 #[.val (.int x0)] [(.int (own_b (own_freqs x0)))])) (fun _ k => st1 _ k) ?_
  refine own_ifN X1 hx (P := (own_freqs x0)) (hb hby own_d4_4) (own_b_eq (own_freqs x0)) (by decide) (pc1 := 19) (by decide) (fun hc4 => ?_) (fun hc4 => ?_)
  · show own_E p e below (own_F s 0 0) (own_Q4 Z x0 h0 n0) T1 (mkF m 7 #[.val (.int x0)] [])
    refine own_step (g' := (mkF m 8 #[.val (.int x0)] [(.int x0)])) (fun _ k => XS.iloadN X1.here hx rfl (hb hby own_d4_7) rfl k) ?_
    refine own_step (g' := (mkF m 11 #[.val (.int x0)] [(.int (128 : Int32)), (.int x0)])) (fun _ k => XS.sipush X1.here hx rfl (hb hby own_d4_8) k) ?_
    refine own_step (g' := (mkF m 12 #[.val (.int x0)] [(.int (x0 &&& (128 : Int32)))])) (fun _ k => XS.iand X1.here hx rfl (hb hby own_d4_11) rfl k) ?_
    refine own_ifN X1 hx (P := ((x0 &&& (128 : Int32)) = 0)) (hb hby own_d4_12) (own_z_ne (x0 &&& (128 : Int32))) (by decide) (pc1 := 19) (by decide) (fun hc12 => ?_) (fun hc12 => ?_)
    · show own_E p e below (own_F s 0 0) (own_Q4 Z x0 h0 n0) T1 (mkF m 15 #[.val (.int x0)] [])
      refine own_step (g' := (mkF m 16 #[.val (.int x0)] [(.int (1 : Int32))])) (fun _ k => XS.iconst X1.here hx rfl (hb hby own_d4_15) k) ?_
      refine own_step (g' := (mkF m 20 #[.val (.int x0)] [(.int (1 : Int32))])) (fun _ k => XS.goto X1.here hx rfl (pc0 := 16) (pc' := 20) rfl (hb hby own_d4_16) (by decide) (by decide) k) ?_
      exact own_retI X1 hx hlk hret (by simp) (hb hby own_d4_20) rfl (by decide) (by decide) (by show own_Q4 Z x0 h0 n0 (some (.int (1 : Int32))) T1.heap _; rw [e1]; exact ⟨by simp [own_b, own_pos, hc4, hc12], N1, rfl⟩)
    · show own_E p e below (own_F s 0 0) (own_Q4 Z x0 h0 n0) T1 (mkF m 19 #[.val (.int x0)] [])
      refine own_step (g' := (mkF m 20 #[.val (.int x0)] [(.int (0 : Int32))])) (fun _ k => XS.iconst X1.here hx rfl (hb hby own_d4_19) k) ?_
      exact own_retI X1 hx hlk hret (by simp) (hb hby own_d4_20) rfl (by decide) (by decide) (by show own_Q4 Z x0 h0 n0 (some (.int (0 : Int32))) T1.heap _; rw [e1]; exact ⟨by simp [own_b, own_pos, hc4, hc12], N1, rfl⟩)
  · show own_E p e below (own_F s 0 0) (own_Q4 Z x0 h0 n0) T1 (mkF m 19 #[.val (.int x0)] [])
    refine own_step (g' := (mkF m 20 #[.val (.int x0)] [(.int (0 : Int32))])) (fun _ k => XS.iconst X1.here hx rfl (hb hby own_d4_19) k) ?_
    exact own_retI X1 hx hlk hret (by simp) (hb hby own_d4_20) rfl (by decide) (by decide) (by show own_Q4 Z x0 h0 n0 (some (.int (0 : Int32))) T1.heap _; rw [e1]; exact ⟨by simp [own_b, own_pos, hc4], N1, rfl⟩)
theorem own_ef1 (m : MethodId) (x0 : Int32) (x1 : Int32) : entryFrame m #[(.int x0), (.int x1)] 6 = mkF m 0 #[.val (.int x0), .val (.int x1), .unset, .unset, .unset, .unset] [] := by first | (simp [entryFrame, mkF, argsToLocals, Value.category]; done) | rfl
def own_Q1 (Z : State) (x0 : Int32) (x1 : Int32) (h0 : Heap) (n0 : Nat) (v : Option Value) (h : Heap) (L : List Loc) : Prop := v = some (.int (own_comb x0 x1)) ∧ Fr n0 L ∧ h = h0
theorem own_pn_1 : plainName "com/example/quern/quern/codec/FieldInfo" = true := by first | (simp [plainName, overriddenIn]; done) | decide +kernel
theorem own_d1_0 : decode prog_28_method_2_code 0 = .ok (.iload_n 0, 1) := by decide +kernel
theorem own_d1_1 : decode prog_28_method_2_code 1 = .ok (.iconst 1, 1) := by decide +kernel
theorem own_d1_2 : decode prog_28_method_2_code 2 = .ok (.iand, 1) := by decide +kernel
theorem own_d1_3 : decode prog_28_method_2_code 3 = .ok (.ifCond .eq 7, 3) := by decide +kernel
theorem own_d1_10 : decode prog_28_method_2_code 10 = .ok (.iconst 0, 1) := by decide +kernel
theorem own_d1_6 : decode prog_28_method_2_code 6 = .ok (.iconst 1, 1) := by decide +kernel
theorem own_d1_7 : decode prog_28_method_2_code 7 = .ok (.goto 4, 3) := by decide +kernel
theorem own_d1_11 : decode prog_28_method_2_code 11 = .ok (.istore_n 2, 1) := by decide +kernel
theorem own_d1_12 : decode prog_28_method_2_code 12 = .ok (.iload_n 1, 1) := by decide +kernel
theorem own_d1_13 : decode prog_28_method_2_code 13 = .ok (.iconst 1, 1) := by decide +kernel
theorem own_d1_14 : decode prog_28_method_2_code 14 = .ok (.iand, 1) := by decide +kernel
theorem own_d1_15 : decode prog_28_method_2_code 15 = .ok (.ifCond .eq 7, 3) := by decide +kernel
theorem own_d1_22 : decode prog_28_method_2_code 22 = .ok (.iconst 0, 1) := by decide +kernel
theorem own_d1_18 : decode prog_28_method_2_code 18 = .ok (.iconst 1, 1) := by decide +kernel
theorem own_d1_19 : decode prog_28_method_2_code 19 = .ok (.goto 4, 3) := by decide +kernel
theorem own_d1_23 : decode prog_28_method_2_code 23 = .ok (.istore_n 3, 1) := by decide +kernel
theorem own_d1_24 : decode prog_28_method_2_code 24 = .ok (.iload_n 2, 1) := by decide +kernel
theorem own_d1_25 : decode prog_28_method_2_code 25 = .ok (.ifCond .eq 7, 3) := by decide +kernel
theorem own_d1_28 : decode prog_28_method_2_code 28 = .ok (.iload_n 3, 1) := by decide +kernel
theorem own_d1_29 : decode prog_28_method_2_code 29 = .ok (.ifCond .ne 13, 3) := by decide +kernel
theorem own_d1_42 : decode prog_28_method_2_code 42 = .ok (.iconst 1, 1) := by decide +kernel
theorem own_d1_43 : decode prog_28_method_2_code 43 = .ok (.iload_n 0, 1) := by decide +kernel
theorem own_d1_44 : decode prog_28_method_2_code 44 = .ok (.iload_n 1, 1) := by decide +kernel
theorem own_d1_45 : decode prog_28_method_2_code 45 = .ok (.iand, 1) := by decide +kernel
theorem own_d1_46 : decode prog_28_method_2_code 46 = .ok (.bipush 16, 2) := by decide +kernel
theorem own_d1_48 : decode prog_28_method_2_code 48 = .ok (.iand, 1) := by decide +kernel
theorem own_d1_49 : decode prog_28_method_2_code 49 = .ok (.ior, 1) := by decide +kernel
theorem own_d1_50 : decode prog_28_method_2_code 50 = .ok (.istore 4, 2) := by decide +kernel
theorem own_d1_52 : decode prog_28_method_2_code 52 = .ok (.iload_n 0, 1) := by decide +kernel
theorem own_d1_53 : decode prog_28_method_2_code 53 = .ok (.iload_n 1, 1) := by decide +kernel
theorem own_d1_54 : decode prog_28_method_2_code 54 = .ok (.ior, 1) := by decide +kernel
theorem own_d1_55 : decode prog_28_method_2_code 55 = .ok (.istore 5, 2) := by decide +kernel
theorem own_d1_57 : decode prog_28_method_2_code 57 = .ok (.iload 5, 2) := by decide +kernel
theorem own_d1_59 : decode prog_28_method_2_code 59 = .ok (.bipush 64, 2) := by decide +kernel
theorem own_d1_61 : decode prog_28_method_2_code 61 = .ok (.iand, 1) := by decide +kernel
theorem own_d1_62 : decode prog_28_method_2_code 62 = .ok (.ifCond .eq 13, 3) := by decide +kernel
theorem own_d1_75 : decode prog_28_method_2_code 75 = .ok (.iload 4, 2) := by decide +kernel
theorem own_d1_77 : decode prog_28_method_2_code 77 = .ok (.iload 5, 2) := by decide +kernel
theorem own_d1_79 : decode prog_28_method_2_code 79 = .ok (.sipush 128, 3) := by decide +kernel
theorem own_d1_82 : decode prog_28_method_2_code 82 = .ok (.iand, 1) := by decide +kernel
theorem own_d1_83 : decode prog_28_method_2_code 83 = .ok (.ior, 1) := by decide +kernel
theorem own_d1_84 : decode prog_28_method_2_code 84 = .ok (.istore 4, 2) := by decide +kernel
theorem own_d1_86 : decode prog_28_method_2_code 86 = .ok (.iload 4, 2) := by decide +kernel
theorem own_d1_88 : decode prog_28_method_2_code 88 = .ok (.ireturn, 1) := by decide +kernel
theorem own_d1_65 : decode prog_28_method_2_code 65 = .ok (.iload 4, 2) := by decide +kernel
theorem own_d1_67 : decode prog_28_method_2_code 67 = .ok (.bipush 64, 2) := by decide +kernel
theorem own_d1_69 : decode prog_28_method_2_code 69 = .ok (.ior, 1) := by decide +kernel
theorem own_d1_70 : decode prog_28_method_2_code 70 = .ok (.istore 4, 2) := by decide +kernel
theorem own_d1_72 : decode prog_28_method_2_code 72 = .ok (.goto 14, 3) := by decide +kernel
theorem own_d1_32 : decode prog_28_method_2_code 32 = .ok (.iload_n 2, 1) := by decide +kernel
theorem own_d1_33 : decode prog_28_method_2_code 33 = .ok (.ifCond .eq 7, 3) := by decide +kernel
theorem own_d1_36 : decode prog_28_method_2_code 36 = .ok (.iload_n 0, 1) := by decide +kernel
theorem own_d1_37 : decode prog_28_method_2_code 37 = .ok (.goto 4, 3) := by decide +kernel
theorem own_d1_41 : decode prog_28_method_2_code 41 = .ok (.ireturn, 1) := by decide +kernel
theorem own_d1_40 : decode prog_28_method_2_code 40 = .ok (.iload_n 1, 1) := by decide +kernel
set_option maxRecDepth 65536 in
set_option maxHeartbeats 40000000 in
theorem own_rm1 (l : Launch) (Z : State) (a0 : Array Value) (hw : ∀ d ∈ tables_1, d.before a0 Z = true) (ws : List Jvm.Cond) (x0 : Int32) (x1 : Int32) (h0 : Heap) (n0 : Nat) (Z0 : n0 ≤ h0.size)  :
    MetFree l (⟨"com/example/quern/quern/codec/FieldInfo", "combine", "(II)I"⟩ : MethodName) (head1 (Jvm.Cond.code (⟨"com/example/quern/quern/codec/FieldInfo", "combine", "(II)I"⟩ : MethodName) prog_28_method_2_code 6 (some .int) :: ws) ({ frames := 0, cells := 0, slots := 0, locals := 0 } : Room)) (fun aU U => aU = #[(.int x0), (.int x1)] ∧ Z.Warmed39 U.vm ∧ U.heap = h0) (fun _ _ _ _ _ => True) (fun _ U o U' => ∃ v L, o = .returned v ∧ own_Q1 Z x0 x1 h0 n0 v U'.heap L ∧ FrameEnd U o U' L 0 0) := by
  refine MetFree.of_bodySF (plainFor_of_name own_pn_1) hisR ?_
  intro p e s m args below meth c s₁ Bd hml0 hP hK
  obtain ⟨rfl, hZ, hh⟩ := hP
  have hx := Bd.exec
  have hby := Bd.bytes
  have hml : c.maxLocals = 6 := hml0
  have hown : s.vm.findClass "com/example/quern/quern/codec/FieldInfo" = some m.cls := findClass_of_methodNamed Bd.named
  have hnm := (name_of_methodNamed Bd.named Bd.method).1
  have hlk : meth.locks = false := Bd.notSynchronized
  have hret := Bd.returns
  have X0 : Stand p l e ({ frames := 0, cells := 0, slots := 0, locals := 0 } : Room) s m #[(.int x0), (.int x1)] below meth c s₁ [] 0 0 := Stand.of_body Bd
  have e0 : s₁.heap = h0 := by rw [← hh, Bd.state]; rfl
  have N0 := Fr.nil n0
  have K0 := Keep.refl h0 ([] : List Addr)
  show own_E p e below (own_F s 0 0) (own_Q1 Z x0 x1 h0 n0) s₁ (entryFrame m #[(.int x0), (.int x1)] 6)
  refine own_cast (own_ef1 m x0 x1) ?_
  refine own_step (g' := (mkF m 1 #[.val (.int x0), .val (.int x1), .unset, .unset, .unset, .unset] [(.int x0)])) (fun _ k => XS.iloadN X0.here hx rfl (hb hby own_d1_0) rfl k) ?_
  refine own_step (g' := (mkF m 2 #[.val (.int x0), .val (.int x1), .unset, .unset, .unset, .unset] [(.int (1 : Int32)), (.int x0)])) (fun _ k => XS.iconst X0.here hx rfl (hb hby own_d1_1) k) ?_
  refine own_step (g' := (mkF m 3 #[.val (.int x0), .val (.int x1), .unset, .unset, .unset, .unset] [(.int (x0 &&& (1 : Int32)))])) (fun _ k => XS.iand X0.here hx rfl (hb hby own_d1_2) rfl k) ?_
  have kj1 : (∀ (z1_0 : Int32), z1_0 = (own_b (¬ ((x0 &&& (1 : Int32)) = 0))) → own_E p e below (own_F s 0 0) (own_Q1 Z x0 x1 h0 n0) s₁ (mkF m 11 #[.val (.int x0), .val (.int x1), .unset, .unset, .unset, .unset] [(.int z1_0)])) → own_E p e below (own_F s 0 0) (own_Q1 Z x0 x1 h0 n0) s₁ (mkF m 3 #[.val (.int x0), .val (.int x1), .unset, .unset, .unset, .unset] [(.int (x0 &&& (1 : Int32)))]) := by
    intro kj
    refine own_ifY X0 hx (P := ((x0 &&& (1 : Int32)) = 0)) (hb hby own_d1_3) (own_z_eq (x0 &&& (1 : Int32))) (by decide) (pc1 := 10) (by decide) (fun hc3 => ?_) (fun hc3 => ?_)
    · show own_E p e below (own_F s 0 0) (own_Q1 Z x0 x1 h0 n0) s₁ (mkF m 10 #[.val (.int x0), .val (.int x1), .unset, .unset, .unset, .unset] [])
      refine own_step (g' := (mkF m 11 #[.val (.int x0), .val (.int x1), .unset, .unset, .unset, .unset] [(.int (0 : Int32))])) (fun _ k => XS.iconst X0.here hx rfl (hb hby own_d1_10) k) ?_
      exact kj (0 : Int32) (by simp [own_b, hc3])
    · show own_E p e below (own_F s 0 0) (own_Q1 Z x0 x1 h0 n0) s₁ (mkF m 6 #[.val (.int x0), .val (.int x1), .unset, .unset, .unset, .unset] [])
      refine own_step (g' := (mkF m 7 #[.val (.int x0), .val (.int x1), .unset, .unset, .unset, .unset] [(.int (1 : Int32))])) (fun _ k => XS.iconst X0.here hx rfl (hb hby own_d1_6) k) ?_
      refine own_step (g' := (mkF m 11 #[.val (.int x0), .val (.int x1), .unset, .unset, .unset, .unset] [(.int (1 : Int32))])) (fun _ k => XS.goto X0.here hx rfl (pc0 := 7) (pc' := 11) rfl (hb hby own_d1_7) (by decide) (by decide) k) ?_
      exact kj (1 : Int32) (by simp [own_b, hc3])
  refine kj1 fun z1_0 hz1 => ?_
  subst hz1
  show own_E p e below (own_F s 0 0) (own_Q1 Z x0 x1 h0 n0) s₁ (mkF m 11 #[.val (.int x0), .val (.int x1), .unset, .unset, .unset, .unset] [(.int (own_b (¬ ((x0 &&& (1 : Int32)) = 0))))])
  refine own_step (g' := (mkF m 12 #[.val (.int x0), .val (.int x1), .val (.int (own_b (¬ ((x0 &&& (1 : Int32)) = 0)))), .unset, .unset, .unset] [])) (fun _ k => XS.istoreN X0.here hx rfl (hb hby own_d1_11) rfl (l' := #[.val (.int x0), .val (.int x1), .val (.int (own_b (¬ ((x0 &&& (1 : Int32)) = 0)))), .unset, .unset, .unset]) rfl k) ?_
  refine own_step (g' := (mkF m 13 #[.val (.int x0), .val (.int x1), .val (.int (own_b (¬ ((x0 &&& (1 : Int32)) = 0)))), .unset, .unset, .unset] [(.int x1)])) (fun _ k => XS.iloadN X0.here hx rfl (hb hby own_d1_12) rfl k) ?_
  refine own_step (g' := (mkF m 14 #[.val (.int x0), .val (.int x1), .val (.int (own_b (¬ ((x0 &&& (1 : Int32)) = 0)))), .unset, .unset, .unset] [(.int (1 : Int32)), (.int x1)])) (fun _ k => XS.iconst X0.here hx rfl (hb hby own_d1_13) k) ?_
  refine own_step (g' := (mkF m 15 #[.val (.int x0), .val (.int x1), .val (.int (own_b (¬ ((x0 &&& (1 : Int32)) = 0)))), .unset, .unset, .unset] [(.int (x1 &&& (1 : Int32)))])) (fun _ k => XS.iand X0.here hx rfl (hb hby own_d1_14) rfl k) ?_
  have kj2 : (∀ (z2_0 : Int32), z2_0 = (own_b (¬ ((x1 &&& (1 : Int32)) = 0))) → own_E p e below (own_F s 0 0) (own_Q1 Z x0 x1 h0 n0) s₁ (mkF m 23 #[.val (.int x0), .val (.int x1), .val (.int (own_b (¬ ((x0 &&& (1 : Int32)) = 0)))), .unset, .unset, .unset] [(.int z2_0)])) → own_E p e below (own_F s 0 0) (own_Q1 Z x0 x1 h0 n0) s₁ (mkF m 15 #[.val (.int x0), .val (.int x1), .val (.int (own_b (¬ ((x0 &&& (1 : Int32)) = 0)))), .unset, .unset, .unset] [(.int (x1 &&& (1 : Int32)))]) := by
    intro kj
    refine own_ifY X0 hx (P := ((x1 &&& (1 : Int32)) = 0)) (hb hby own_d1_15) (own_z_eq (x1 &&& (1 : Int32))) (by decide) (pc1 := 22) (by decide) (fun hc15 => ?_) (fun hc15 => ?_)
    · show own_E p e below (own_F s 0 0) (own_Q1 Z x0 x1 h0 n0) s₁ (mkF m 22 #[.val (.int x0), .val (.int x1), .val (.int (own_b (¬ ((x0 &&& (1 : Int32)) = 0)))), .unset, .unset, .unset] [])
      refine own_step (g' := (mkF m 23 #[.val (.int x0), .val (.int x1), .val (.int (own_b (¬ ((x0 &&& (1 : Int32)) = 0)))), .unset, .unset, .unset] [(.int (0 : Int32))])) (fun _ k => XS.iconst X0.here hx rfl (hb hby own_d1_22) k) ?_
      exact kj (0 : Int32) (by simp [own_b, hc15])
    · show own_E p e below (own_F s 0 0) (own_Q1 Z x0 x1 h0 n0) s₁ (mkF m 18 #[.val (.int x0), .val (.int x1), .val (.int (own_b (¬ ((x0 &&& (1 : Int32)) = 0)))), .unset, .unset, .unset] [])
      refine own_step (g' := (mkF m 19 #[.val (.int x0), .val (.int x1), .val (.int (own_b (¬ ((x0 &&& (1 : Int32)) = 0)))), .unset, .unset, .unset] [(.int (1 : Int32))])) (fun _ k => XS.iconst X0.here hx rfl (hb hby own_d1_18) k) ?_
      refine own_step (g' := (mkF m 23 #[.val (.int x0), .val (.int x1), .val (.int (own_b (¬ ((x0 &&& (1 : Int32)) = 0)))), .unset, .unset, .unset] [(.int (1 : Int32))])) (fun _ k => XS.goto X0.here hx rfl (pc0 := 19) (pc' := 23) rfl (hb hby own_d1_19) (by decide) (by decide) k) ?_
      exact kj (1 : Int32) (by simp [own_b, hc15])
  refine kj2 fun z2_0 hz2 => ?_
  subst hz2
  show own_E p e below (own_F s 0 0) (own_Q1 Z x0 x1 h0 n0) s₁ (mkF m 23 #[.val (.int x0), .val (.int x1), .val (.int (own_b (¬ ((x0 &&& (1 : Int32)) = 0)))), .unset, .unset, .unset] [(.int (own_b (¬ ((x1 &&& (1 : Int32)) = 0))))])
  refine own_step (g' := (mkF m 24 #[.val (.int x0), .val (.int x1), .val (.int (own_b (¬ ((x0 &&& (1 : Int32)) = 0)))), .val (.int (own_b (¬ ((x1 &&& (1 : Int32)) = 0)))), .unset, .unset] [])) (fun _ k => XS.istoreN X0.here hx rfl (hb hby own_d1_23) rfl (l' := #[.val (.int x0), .val (.int x1), .val (.int (own_b (¬ ((x0 &&& (1 : Int32)) = 0)))), .val (.int (own_b (¬ ((x1 &&& (1 : Int32)) = 0)))), .unset, .unset]) rfl k) ?_
  refine own_step (g' := (mkF m 25 #[.val (.int x0), .val (.int x1), .val (.int (own_b (¬ ((x0 &&& (1 : Int32)) = 0)))), .val (.int (own_b (¬ ((x1 &&& (1 : Int32)) = 0)))), .unset, .unset] [(.int (own_b (¬ ((x0 &&& (1 : Int32)) = 0))))])) (fun _ k => XS.iloadN X0.here hx rfl (hb hby own_d1_24) rfl k) ?_
  refine own_ifN X0 hx (P := (¬ ((x0 &&& (1 : Int32)) = 0))) (hb hby own_d1_25) (own_b_eq (¬ ((x0 &&& (1 : Int32)) = 0))) (by decide) (pc1 := 32) (by decide) (fun hc25 => ?_) (fun hc25 => ?_)
  · show own_E p e below (own_F s 0 0) (own_Q1 Z x0 x1 h0 n0) s₁ (mkF m 28 #[.val (.int x0), .val (.int x1), .val (.int (own_b (¬ ((x0 &&& (1 : Int32)) = 0)))), .val (.int (own_b (¬ ((x1 &&& (1 : Int32)) = 0)))), .unset, .unset] [])
    refine own_step (g' := (mkF m 29 #[.val (.int x0), .val (.int x1), .val (.int (own_b (¬ ((x0 &&& (1 : Int32)) = 0)))), .val (.int (own_b (¬ ((x1 &&& (1 : Int32)) = 0)))), .unset, .unset] [(.int (own_b (¬ ((x1 &&& (1 : Int32)) = 0))))])) (fun _ k => XS.iloadN X0.here hx rfl (hb hby own_d1_28) rfl k) ?_
    refine own_ifY X0 hx (P := (¬ ((x1 &&& (1 : Int32)) = 0))) (hb hby own_d1_29) (own_b_ne (¬ ((x1 &&& (1 : Int32)) = 0))) (by decide) (pc1 := 42) (by decide) (fun hc29 => ?_) (fun hc29 => ?_)
    · show own_E p e below (own_F s 0 0) (own_Q1 Z x0 x1 h0 n0) s₁ (mkF m 42 #[.val (.int x0), .val (.int x1), .val (.int (own_b (¬ ((x0 &&& (1 : Int32)) = 0)))), .val (.int (own_b (¬ ((x1 &&& (1 : Int32)) = 0)))), .unset, .unset] [])
      refine own_step (g' := (mkF m 43 #[.val (.int x0), .val (.int x1), .val (.int (own_b (¬ ((x0 &&& (1 : Int32)) = 0)))), .val (.int (own_b (¬ ((x1 &&& (1 : Int32)) = 0)))), .unset, .unset] [(.int (1 : Int32))])) (fun _ k => XS.iconst X0.here hx rfl (hb hby own_d1_42) k) ?_
      refine own_step (g' := (mkF m 44 #[.val (.int x0), .val (.int x1), .val (.int (own_b (¬ ((x0 &&& (1 : Int32)) = 0)))), .val (.int (own_b (¬ ((x1 &&& (1 : Int32)) = 0)))), .unset, .unset] [(.int x0), (.int (1 : Int32))])) (fun _ k => XS.iloadN X0.here hx rfl (hb hby own_d1_43) rfl k) ?_
      refine own_step (g' := (mkF m 45 #[.val (.int x0), .val (.int x1), .val (.int (own_b (¬ ((x0 &&& (1 : Int32)) = 0)))), .val (.int (own_b (¬ ((x1 &&& (1 : Int32)) = 0)))), .unset, .unset] [(.int x1), (.int x0), (.int (1 : Int32))])) (fun _ k => XS.iloadN X0.here hx rfl (hb hby own_d1_44) rfl k) ?_
      refine own_step (g' := (mkF m 46 #[.val (.int x0), .val (.int x1), .val (.int (own_b (¬ ((x0 &&& (1 : Int32)) = 0)))), .val (.int (own_b (¬ ((x1 &&& (1 : Int32)) = 0)))), .unset, .unset] [(.int (x0 &&& x1)), (.int (1 : Int32))])) (fun _ k => XS.iand X0.here hx rfl (hb hby own_d1_45) rfl k) ?_
      refine own_step (g' := (mkF m 48 #[.val (.int x0), .val (.int x1), .val (.int (own_b (¬ ((x0 &&& (1 : Int32)) = 0)))), .val (.int (own_b (¬ ((x1 &&& (1 : Int32)) = 0)))), .unset, .unset] [(.int (16 : Int32)), (.int (x0 &&& x1)), (.int (1 : Int32))])) (fun _ k => XS.bipush X0.here hx rfl (hb hby own_d1_46) k) ?_
      refine own_step (g' := (mkF m 49 #[.val (.int x0), .val (.int x1), .val (.int (own_b (¬ ((x0 &&& (1 : Int32)) = 0)))), .val (.int (own_b (¬ ((x1 &&& (1 : Int32)) = 0)))), .unset, .unset] [(.int ((x0 &&& x1) &&& (16 : Int32))), (.int (1 : Int32))])) (fun _ k => XS.iand X0.here hx rfl (hb hby own_d1_48) rfl k) ?_
      refine own_step (g' := (mkF m 50 #[.val (.int x0), .val (.int x1), .val (.int (own_b (¬ ((x0 &&& (1 : Int32)) = 0)))), .val (.int (own_b (¬ ((x1 &&& (1 : Int32)) = 0)))), .unset, .unset] [(.int ((1 : Int32) ||| ((x0 &&& x1) &&& (16 : Int32))))])) (fun _ k => XS.ior X0.here hx rfl (hb hby own_d1_49) rfl k) ?_
      refine own_step (g' := (mkF m 52 #[.val (.int x0), .val (.int x1), .val (.int (own_b (¬ ((x0 &&& (1 : Int32)) = 0)))), .val (.int (own_b (¬ ((x1 &&& (1 : Int32)) = 0)))), .val (.int ((1 : Int32) ||| ((x0 &&& x1) &&& (16 : Int32)))), .unset] [])) (fun _ k => XS.istore X0.here hx rfl (hb hby own_d1_50) rfl (l' := #[.val (.int x0), .val (.int x1), .val (.int (own_b (¬ ((x0 &&& (1 : Int32)) = 0)))), .val (.int (own_b (¬ ((x1 &&& (1 : Int32)) = 0)))), .val (.int ((1 : Int32) ||| ((x0 &&& x1) &&& (16 : Int32)))), .unset]) rfl k) ?_
      refine own_step (g' := (mkF m 53 #[.val (.int x0), .val (.int x1), .val (.int (own_b (¬ ((x0 &&& (1 : Int32)) = 0)))), .val (.int (own_b (¬ ((x1 &&& (1 : Int32)) = 0)))), .val (.int ((1 : Int32) ||| ((x0 &&& x1) &&& (16 : Int32)))), .unset] [(.int x0)])) (fun _ k => XS.iloadN X0.here hx rfl (hb hby own_d1_52) rfl k) ?_
      refine own_step (g' := (mkF m 54 #[.val (.int x0), .val (.int x1), .val (.int (own_b (¬ ((x0 &&& (1 : Int32)) = 0)))), .val (.int (own_b (¬ ((x1 &&& (1 : Int32)) = 0)))), .val (.int ((1 : Int32) ||| ((x0 &&& x1) &&& (16 : Int32)))), .unset] [(.int x1), (.int x0)])) (fun _ k => XS.iloadN X0.here hx rfl (hb hby own_d1_53) rfl k) ?_
      refine own_step (g' := (mkF m 55 #[.val (.int x0), .val (.int x1), .val (.int (own_b (¬ ((x0 &&& (1 : Int32)) = 0)))), .val (.int (own_b (¬ ((x1 &&& (1 : Int32)) = 0)))), .val (.int ((1 : Int32) ||| ((x0 &&& x1) &&& (16 : Int32)))), .unset] [(.int (x0 ||| x1))])) (fun _ k => XS.ior X0.here hx rfl (hb hby own_d1_54) rfl k) ?_
      refine own_step (g' := (mkF m 57 #[.val (.int x0), .val (.int x1), .val (.int (own_b (¬ ((x0 &&& (1 : Int32)) = 0)))), .val (.int (own_b (¬ ((x1 &&& (1 : Int32)) = 0)))), .val (.int ((1 : Int32) ||| ((x0 &&& x1) &&& (16 : Int32)))), .val (.int (x0 ||| x1))] [])) (fun _ k => XS.istore X0.here hx rfl (hb hby own_d1_55) rfl (l' := #[.val (.int x0), .val (.int x1), .val (.int (own_b (¬ ((x0 &&& (1 : Int32)) = 0)))), .val (.int (own_b (¬ ((x1 &&& (1 : Int32)) = 0)))), .val (.int ((1 : Int32) ||| ((x0 &&& x1) &&& (16 : Int32)))), .val (.int (x0 ||| x1))]) rfl k) ?_
      refine own_step (g' := (mkF m 59 #[.val (.int x0), .val (.int x1), .val (.int (own_b (¬ ((x0 &&& (1 : Int32)) = 0)))), .val (.int (own_b (¬ ((x1 &&& (1 : Int32)) = 0)))), .val (.int ((1 : Int32) ||| ((x0 &&& x1) &&& (16 : Int32)))), .val (.int (x0 ||| x1))] [(.int (x0 ||| x1))])) (fun _ k => XS.iload X0.here hx rfl (hb hby own_d1_57) rfl k) ?_
      refine own_step (g' := (mkF m 61 #[.val (.int x0), .val (.int x1), .val (.int (own_b (¬ ((x0 &&& (1 : Int32)) = 0)))), .val (.int (own_b (¬ ((x1 &&& (1 : Int32)) = 0)))), .val (.int ((1 : Int32) ||| ((x0 &&& x1) &&& (16 : Int32)))), .val (.int (x0 ||| x1))] [(.int (64 : Int32)), (.int (x0 ||| x1))])) (fun _ k => XS.bipush X0.here hx rfl (hb hby own_d1_59) k) ?_
      refine own_step (g' := (mkF m 62 #[.val (.int x0), .val (.int x1), .val (.int (own_b (¬ ((x0 &&& (1 : Int32)) = 0)))), .val (.int (own_b (¬ ((x1 &&& (1 : Int32)) = 0)))), .val (.int ((1 : Int32) ||| ((x0 &&& x1) &&& (16 : Int32)))), .val (.int (x0 ||| x1))] [(.int ((x0 ||| x1) &&& (64 : Int32)))])) (fun _ k => XS.iand X0.here hx rfl (hb hby own_d1_61) rfl k) ?_
      refine own_ifY X0 hx (P := (((x0 ||| x1) &&& (64 : Int32)) = 0)) (hb hby own_d1_62) (own_z_eq ((x0 ||| x1) &&& (64 : Int32))) (by decide) (pc1 := 75) (by decide) (fun hc62 => ?_) (fun hc62 => ?_)
      · show own_E p e below (own_F s 0 0) (own_Q1 Z x0 x1 h0 n0) s₁ (mkF m 75 #[.val (.int x0), .val (.int x1), .val (.int (own_b (¬ ((x0 &&& (1 : Int32)) = 0)))), .val (.int (own_b (¬ ((x1 &&& (1 : Int32)) = 0)))), .val (.int ((1 : Int32) ||| ((x0 &&& x1) &&& (16 : Int32)))), .val (.int (x0 ||| x1))] [])
        refine own_step (g' := (mkF m 77 #[.val (.int x0), .val (.int x1), .val (.int (own_b (¬ ((x0 &&& (1 : Int32)) = 0)))), .val (.int (own_b (¬ ((x1 &&& (1 : Int32)) = 0)))), .val (.int ((1 : Int32) ||| ((x0 &&& x1) &&& (16 : Int32)))), .val (.int (x0 ||| x1))] [(.int ((1 : Int32) ||| ((x0 &&& x1) &&& (16 : Int32))))])) (fun _ k => XS.iload X0.here hx rfl (hb hby own_d1_75) rfl k) ?_
        refine own_step (g' := (mkF m 79 #[.val (.int x0), .val (.int x1), .val (.int (own_b (¬ ((x0 &&& (1 : Int32)) = 0)))), .val (.int (own_b (¬ ((x1 &&& (1 : Int32)) = 0)))), .val (.int ((1 : Int32) ||| ((x0 &&& x1) &&& (16 : Int32)))), .val (.int (x0 ||| x1))] [(.int (x0 ||| x1)), (.int ((1 : Int32) ||| ((x0 &&& x1) &&& (16 : Int32))))])) (fun _ k => XS.iload X0.here hx rfl (hb hby own_d1_77) rfl k) ?_
        refine own_step (g' := (mkF m 82 #[.val (.int x0), .val (.int x1), .val (.int (own_b (¬ ((x0 &&& (1 : Int32)) = 0)))), .val (.int (own_b (¬ ((x1 &&& (1 : Int32)) = 0)))), .val (.int ((1 : Int32) ||| ((x0 &&& x1) &&& (16 : Int32)))), .val (.int (x0 ||| x1))] [(.int (128 : Int32)), (.int (x0 ||| x1)), (.int ((1 : Int32) ||| ((x0 &&& x1) &&& (16 : Int32))))])) (fun _ k => XS.sipush X0.here hx rfl (hb hby own_d1_79) k) ?_
        refine own_step (g' := (mkF m 83 #[.val (.int x0), .val (.int x1), .val (.int (own_b (¬ ((x0 &&& (1 : Int32)) = 0)))), .val (.int (own_b (¬ ((x1 &&& (1 : Int32)) = 0)))), .val (.int ((1 : Int32) ||| ((x0 &&& x1) &&& (16 : Int32)))), .val (.int (x0 ||| x1))] [(.int ((x0 ||| x1) &&& (128 : Int32))), (.int ((1 : Int32) ||| ((x0 &&& x1) &&& (16 : Int32))))])) (fun _ k => XS.iand X0.here hx rfl (hb hby own_d1_82) rfl k) ?_
        refine own_step (g' := (mkF m 84 #[.val (.int x0), .val (.int x1), .val (.int (own_b (¬ ((x0 &&& (1 : Int32)) = 0)))), .val (.int (own_b (¬ ((x1 &&& (1 : Int32)) = 0)))), .val (.int ((1 : Int32) ||| ((x0 &&& x1) &&& (16 : Int32)))), .val (.int (x0 ||| x1))] [(.int (((1 : Int32) ||| ((x0 &&& x1) &&& (16 : Int32))) ||| ((x0 ||| x1) &&& (128 : Int32))))])) (fun _ k => XS.ior X0.here hx rfl (hb hby own_d1_83) rfl k) ?_
        refine own_step (g' := (mkF m 86 #[.val (.int x0), .val (.int x1), .val (.int (own_b (¬ ((x0 &&& (1 : Int32)) = 0)))), .val (.int (own_b (¬ ((x1 &&& (1 : Int32)) = 0)))), .val (.int (((1 : Int32) ||| ((x0 &&& x1) &&& (16 : Int32))) ||| ((x0 ||| x1) &&& (128 : Int32)))), .val (.int (x0 ||| x1))] [])) (fun _ k => XS.istore X0.here hx rfl (hb hby own_d1_84) rfl (l' := #[.val (.int x0), .val (.int x1), .val (.int (own_b (¬ ((x0 &&& (1 : Int32)) = 0)))), .val (.int (own_b (¬ ((x1 &&& (1 : Int32)) = 0)))), .val (.int (((1 : Int32) ||| ((x0 &&& x1) &&& (16 : Int32))) ||| ((x0 ||| x1) &&& (128 : Int32)))), .val (.int (x0 ||| x1))]) rfl k) ?_
        refine own_step (g' := (mkF m 88 #[.val (.int x0), .val (.int x1), .val (.int (own_b (¬ ((x0 &&& (1 : Int32)) = 0)))), .val (.int (own_b (¬ ((x1 &&& (1 : Int32)) = 0)))), .val (.int (((1 : Int32) ||| ((x0 &&& x1) &&& (16 : Int32))) ||| ((x0 ||| x1) &&& (128 : Int32)))), .val (.int (x0 ||| x1))] [(.int (((1 : Int32) ||| ((x0 &&& x1) &&& (16 : Int32))) ||| ((x0 ||| x1) &&& (128 : Int32))))])) (fun _ k => XS.iload X0.here hx rfl (hb hby own_d1_86) rfl k) ?_
        exact own_retI X0 hx hlk hret (by simp) (hb hby own_d1_88) rfl (by decide) (by decide) (by show own_Q1 Z x0 x1 h0 n0 (some (.int (((1 : Int32) ||| ((x0 &&& x1) &&& (16 : Int32))) ||| ((x0 ||| x1) &&& (128 : Int32))))) s₁.heap _; rw [e0]; exact ⟨by simp only [own_comb, if_pos hc25, if_pos hc29, if_pos hc62], N0, rfl⟩)
      · show own_E p e below (own_F s 0 0) (own_Q1 Z x0 x1 h0 n0) s₁ (mkF m 65 #[.val (.int x0), .val (.int x1), .val (.int (own_b (¬ ((x0 &&& (1 : Int32)) = 0)))), .val (.int (own_b (¬ ((x1 &&& (1 : Int32)) = 0)))), .val (.int ((1 : Int32) ||| ((x0 &&& x1) &&& (16 : Int32)))), .val (.int (x0 ||| x1))] [])
        refine own_step (g' := (mkF m 67 #[.val (.int x0), .val (.int x1), .val (.int (own_b (¬ ((x0 &&& (1 : Int32)) = 0)))), .val (.int (own_b (¬ ((x1 &&& (1 : Int32)) = 0)))), .val (.int ((1 : Int32) ||| ((x0 &&& x1) &&& (16 : Int32)))), .val (.int (x0 ||| x1))] [(.int ((1 : Int32) ||| ((x0 &&& x1) &&& (16 : Int32))))])) (fun _ k => XS.iload X0.here hx rfl (hb hby own_d1_65) rfl k) ?_
        refine own_step (g' := (mkF m 69 #[.val (.int x0), .val (.int x1), .val (.int (own_b (¬ ((x0 &&& (1 : Int32)) = 0)))), .val (.int (own_b (¬ ((x1 &&& (1 : Int32)) = 0)))), .val (.int ((1 : Int32) ||| ((x0 &&& x1) &&& (16 : Int32)))), .val (.int (x0 ||| x1))] [(.int (64 : Int32)), (.int ((1 : Int32) ||| ((x0 &&& x1) &&& (16 : Int32))))])) (fun _ k => XS.bipush X0.here hx rfl (hb hby own_d1_67) k) ?_
        refine own_step (g' := (mkF m 70 #[.val (.int x0), .val (.int x1), .val (.int (own_b (¬ ((x0 &&& (1 : Int32)) = 0)))), .val (.int (own_b (¬ ((x1 &&& (1 : Int32)) = 0)))), .val (.int ((1 : Int32) ||| ((x0 &&& x1) &&& (16 : Int32)))), .val (.int (x0 ||| x1))] [(.int (((1 : Int32) ||| ((x0 &&& x1) &&& (16 : Int32))) ||| (64 : Int32)))])) (fun _ k => XS.ior X0.here hx rfl (hb hby own_d1_69) rfl k) ?_
        refine own_step (g' := (mkF m 72 #[.val (.int x0), .val (.int x1), .val (.int (own_b (¬ ((x0 &&& (1 : Int32)) = 0)))), .val (.int (own_b (¬ ((x1 &&& (1 : Int32)) = 0)))), .val (.int (((1 : Int32) ||| ((x0 &&& x1) &&& (16 : Int32))) ||| (64 : Int32))), .val (.int (x0 ||| x1))] [])) (fun _ k => XS.istore X0.here hx rfl (hb hby own_d1_70) rfl (l' := #[.val (.int x0), .val (.int x1), .val (.int (own_b (¬ ((x0 &&& (1 : Int32)) = 0)))), .val (.int (own_b (¬ ((x1 &&& (1 : Int32)) = 0)))), .val (.int (((1 : Int32) ||| ((x0 &&& x1) &&& (16 : Int32))) ||| (64 : Int32))), .val (.int (x0 ||| x1))]) rfl k) ?_
        refine own_step (g' := (mkF m 86 #[.val (.int x0), .val (.int x1), .val (.int (own_b (¬ ((x0 &&& (1 : Int32)) = 0)))), .val (.int (own_b (¬ ((x1 &&& (1 : Int32)) = 0)))), .val (.int (((1 : Int32) ||| ((x0 &&& x1) &&& (16 : Int32))) ||| (64 : Int32))), .val (.int (x0 ||| x1))] [])) (fun _ k => XS.goto X0.here hx rfl (pc0 := 72) (pc' := 86) rfl (hb hby own_d1_72) (by decide) (by decide) k) ?_
        refine own_step (g' := (mkF m 88 #[.val (.int x0), .val (.int x1), .val (.int (own_b (¬ ((x0 &&& (1 : Int32)) = 0)))), .val (.int (own_b (¬ ((x1 &&& (1 : Int32)) = 0)))), .val (.int (((1 : Int32) ||| ((x0 &&& x1) &&& (16 : Int32))) ||| (64 : Int32))), .val (.int (x0 ||| x1))] [(.int (((1 : Int32) ||| ((x0 &&& x1) &&& (16 : Int32))) ||| (64 : Int32)))])) (fun _ k => XS.iload X0.here hx rfl (hb hby own_d1_86) rfl k) ?_
        exact own_retI X0 hx hlk hret (by simp) (hb hby own_d1_88) rfl (by decide) (by decide) (by show own_Q1 Z x0 x1 h0 n0 (some (.int (((1 : Int32) ||| ((x0 &&& x1) &&& (16 : Int32))) ||| (64 : Int32)))) s₁.heap _; rw [e0]; exact ⟨by simp only [own_comb, if_pos hc25, if_pos hc29, if_neg hc62], N0, rfl⟩)
    · show own_E p e below (own_F s 0 0) (own_Q1 Z x0 x1 h0 n0) s₁ (mkF m 32 #[.val (.int x0), .val (.int x1), .val (.int (own_b (¬ ((x0 &&& (1 : Int32)) = 0)))), .val (.int (own_b (¬ ((x1 &&& (1 : Int32)) = 0)))), .unset, .unset] [])
      refine own_step (g' := (mkF m 33 #[.val (.int x0), .val (.int x1), .val (.int (own_b (¬ ((x0 &&& (1 : Int32)) = 0)))), .val (.int (own_b (¬ ((x1 &&& (1 : Int32)) = 0)))), .unset, .unset] [(.int (own_b (¬ ((x0 &&& (1 : Int32)) = 0))))])) (fun _ k => XS.iloadN X0.here hx rfl (hb hby own_d1_32) rfl k) ?_
      refine own_ifN X0 hx (P := (¬ ((x0 &&& (1 : Int32)) = 0))) (hb hby own_d1_33) (own_b_eq (¬ ((x0 &&& (1 : Int32)) = 0))) (by decide) (pc1 := 40) (by decide) (fun hc33 => ?_) (fun hc33 => ?_)
      · show own_E p e below (own_F s 0 0) (own_Q1 Z x0 x1 h0 n0) s₁ (mkF m 36 #[.val (.int x0), .val (.int x1), .val (.int (own_b (¬ ((x0 &&& (1 : Int32)) = 0)))), .val (.int (own_b (¬ ((x1 &&& (1 : Int32)) = 0)))), .unset, .unset] [])
        refine own_step (g' := (mkF m 37 #[.val (.int x0), .val (.int x1), .val (.int (own_b (¬ ((x0 &&& (1 : Int32)) = 0)))), .val (.int (own_b (¬ ((x1 &&& (1 : Int32)) = 0)))), .unset, .unset] [(.int x0)])) (fun _ k => XS.iloadN X0.here hx rfl (hb hby own_d1_36) rfl k) ?_
        refine own_step (g' := (mkF m 41 #[.val (.int x0), .val (.int x1), .val (.int (own_b (¬ ((x0 &&& (1 : Int32)) = 0)))), .val (.int (own_b (¬ ((x1 &&& (1 : Int32)) = 0)))), .unset, .unset] [(.int x0)])) (fun _ k => XS.goto X0.here hx rfl (pc0 := 37) (pc' := 41) rfl (hb hby own_d1_37) (by decide) (by decide) k) ?_
        exact own_retI X0 hx hlk hret (by simp) (hb hby own_d1_41) rfl (by decide) (by decide) (by show own_Q1 Z x0 x1 h0 n0 (some (.int x0)) s₁.heap _; rw [e0]; exact ⟨by simp only [own_comb, if_pos hc25, if_neg hc29, if_pos hc33], N0, rfl⟩)
      · exact absurd hc25 hc33
  · show own_E p e below (own_F s 0 0) (own_Q1 Z x0 x1 h0 n0) s₁ (mkF m 32 #[.val (.int x0), .val (.int x1), .val (.int (own_b (¬ ((x0 &&& (1 : Int32)) = 0)))), .val (.int (own_b (¬ ((x1 &&& (1 : Int32)) = 0)))), .unset, .unset] [])
    refine own_step (g' := (mkF m 33 #[.val (.int x0), .val (.int x1), .val (.int (own_b (¬ ((x0 &&& (1 : Int32)) = 0)))), .val (.int (own_b (¬ ((x1 &&& (1 : Int32)) = 0)))), .unset, .unset] [(.int (own_b (¬ ((x0 &&& (1 : Int32)) = 0))))])) (fun _ k => XS.iloadN X0.here hx rfl (hb hby own_d1_32) rfl k) ?_
    refine own_ifN X0 hx (P := (¬ ((x0 &&& (1 : Int32)) = 0))) (hb hby own_d1_33) (own_b_eq (¬ ((x0 &&& (1 : Int32)) = 0))) (by decide) (pc1 := 40) (by decide) (fun hc33 => ?_) (fun hc33 => ?_)
    · exact absurd hc33 hc25
    · show own_E p e below (own_F s 0 0) (own_Q1 Z x0 x1 h0 n0) s₁ (mkF m 40 #[.val (.int x0), .val (.int x1), .val (.int (own_b (¬ ((x0 &&& (1 : Int32)) = 0)))), .val (.int (own_b (¬ ((x1 &&& (1 : Int32)) = 0)))), .unset, .unset] [])
      refine own_step (g' := (mkF m 41 #[.val (.int x0), .val (.int x1), .val (.int (own_b (¬ ((x0 &&& (1 : Int32)) = 0)))), .val (.int (own_b (¬ ((x1 &&& (1 : Int32)) = 0)))), .unset, .unset] [(.int x1)])) (fun _ k => XS.iloadN X0.here hx rfl (hb hby own_d1_40) rfl k) ?_
      exact own_retI X0 hx hlk hret (by simp) (hb hby own_d1_41) rfl (by decide) (by decide) (by show own_Q1 Z x0 x1 h0 n0 (some (.int x1)) s₁.heap _; rw [e0]; exact ⟨by simp only [own_comb, if_neg hc25, if_neg hc33], N0, rfl⟩)
theorem own_ef0 (m : MethodId) (x0 : Int32) (x1 : Int32) : entryFrame m #[(.int x0), (.int x1)] maxLocals = mkF m 0 #[.val (.int x0), .val (.int x1), .unset, .unset, .unset, .unset] [] := by first | (simp [entryFrame, mkF, argsToLocals, Value.category, maxLocals]; done) | rfl
def own_Q0 (Z : State) (x0 : Int32) (x1 : Int32) (h0 : Heap) (n0 : Nat) (v : Option Value) (h : Heap) (L : List Loc) : Prop := v = some (.int 1) ∧ Fr n0 L
theorem own_pn_0 : plainName "com/example/quern/quern/codec/FieldInfoCombinePinLaw" = true := by first | (simp [plainName, overriddenIn]; done) | decide +kernel
theorem own_pd__28II_29I : parseMethodDescriptor "(II)I" = some ⟨[.int, .int], some .int⟩ := by decide +kernel
set_option maxRecDepth 65536 in
set_option maxHeartbeats 40000000 in
theorem own_rm0 (l : Launch) (Z : State) (a0 : Array Value) (hw : ∀ d ∈ tables_1, d.before a0 Z = true) (ws : List Jvm.Cond) (x0 : Int32) (x1 : Int32) (h0 : Heap) (n0 : Nat) (Z0 : n0 ≤ h0.size)  :
    MetFree l x (head1 (Jvm.Cond.code x code maxLocals ret :: ws) room_1) (fun aU U => aU = #[(.int x0), (.int x1)] ∧ Z.Warmed39 U.vm ∧ U.heap = h0) (fun _ _ _ _ _ => True) (fun _ U o U' => ∃ v L, o = .returned v ∧ own_Q0 Z x0 x1 h0 n0 v U'.heap L ∧ FrameEnd U o U' L 0 0) := by
  refine MetFree.of_bodySF (plainFor_of_name own_pn_0) hisR ?_
  intro p e s m args below meth c s₁ Bd hml0 hP hK
  obtain ⟨rfl, hZ, hh⟩ := hP
  have hx := Bd.exec
  have hby := Bd.bytes
  have hml : c.maxLocals = 6 := hml0
  have hown : s.vm.findClass "com/example/quern/quern/codec/FieldInfoCombinePinLaw" = some m.cls := findClass_of_methodNamed Bd.named
  have hnm := (name_of_methodNamed Bd.named Bd.method).1
  have hlk : meth.locks = false := Bd.notSynchronized
  have hret := Bd.returns
  have X0 : Stand p l e room_1 s m #[(.int x0), (.int x1)] below meth c s₁ [] 0 0 := Stand.of_body Bd
  have e0 : s₁.heap = h0 := by rw [← hh, Bd.state]; rfl
  have N0 := Fr.nil n0
  have K0 := Keep.refl h0 ([] : List Addr)
  show own_E p e below (own_F s 0 0) (own_Q0 Z x0 x1 h0 n0) s₁ (entryFrame m #[(.int x0), (.int x1)] maxLocals)
  refine own_cast (own_ef0 m x0 x1) ?_
  refine own_step (g' := (mkF m 1 #[.val (.int x0), .val (.int x1), .unset, .unset, .unset, .unset] [(.int x0)])) (fun _ k => XS.iloadN X0.here hx rfl (hb hby at_0) rfl k) ?_
  refine own_step (g' := (mkF m 2 #[.val (.int x0), .val (.int x1), .unset, .unset, .unset, .unset] [(.int x1), (.int x0)])) (fun _ k => XS.iloadN X0.here hx rfl (hb hby at_1) rfl k) ?_
  obtain ⟨_, _, ⟨T1, L1, k1, n1⟩, -, X1, ⟨Lc1, hQ1, l1, y1, z1⟩, st1⟩ := Jvm.LawKit.callS X0 hx (y := (⟨"com/example/quern/quern/codec/FieldInfo", "combine", "(II)I"⟩ : MethodName)) hown (mvT hZ (hw _ (List.mem_of_getElem? (i := 0) rfl))) (mvT hZ (hw _ (List.mem_of_getElem? (i := 1) rfl))) (mvT hZ (hw _ (List.mem_of_getElem? (i := 2) rfl))) (mvT hZ (hw _ (List.mem_of_getElem? (i := 3) rfl))) (by decide) (backOf (W := 0) (own_rm1 l Z a0 hw [] x0 x1 h0 n0 Z0 ) hZ (hw _ (List.mem_of_getElem? (i := 3) rfl)) (hw _ (List.mem_of_getElem? (i := 2) rfl)) (by decide) (by decide)) (g := (mkF m 2 #[.val (.int x0), .val (.int x1), .unset, .unset, .unset, .unset] [(.int x1), (.int x0)])) rfl (by rw [hml]; rfl) (argsL := [(.int x0), (.int x1)]) (rest := []) (lenOf own_pd__28II_29I rfl) rfl (by show 2 * 0 + _ ≤ _; exact Nat.le_of_eq rfl) (hb hby at_2) (fun _ _ => ⟨rfl, e0, (by decide : 0 + 0 ≤ _), (by decide : 0 + 0 ≤ _)⟩)
  dsimp only [Pt.U, Pt.locs, Pt.cells, Pt.slots] at X1 l1 y1 z1 st1 hQ1
  subst l1 y1 z1
  obtain ⟨rfl, Nq1, e1⟩ := hQ1
  have N1 := Fr.app N0 Nq1
  refine own_step (g' := (mkF m 5 #[.val (.int x0), .val (.int x1), .unset, .unset, .unset, .unset] [(.int (own_comb x0 x1))])) (fun _ k => st1 _ k) ?_
  refine own_step (g' := (mkF m 6 #[.val (.int x0), .val (.int x1), .val (.int (own_comb x0 x1)), .unset, .unset, .unset] [])) (fun _ k => XS.istoreN X1.here hx rfl (hb hby at_5) rfl (l' := #[.val (.int x0), .val (.int x1), .val (.int (own_comb x0 x1)), .unset, .unset, .unset]) rfl k) ?_
  refine own_step (g' := (mkF m 7 #[.val (.int x0), .val (.int x1), .val (.int (own_comb x0 x1)), .unset, .unset, .unset] [(.int x0)])) (fun _ k => XS.iloadN X1.here hx rfl (hb hby at_6) rfl k) ?_
  refine own_step (g' := (mkF m 8 #[.val (.int x0), .val (.int x1), .val (.int (own_comb x0 x1)), .unset, .unset, .unset] [(.int (1 : Int32)), (.int x0)])) (fun _ k => XS.iconst X1.here hx rfl (hb hby at_7) k) ?_
  refine own_step (g' := (mkF m 9 #[.val (.int x0), .val (.int x1), .val (.int (own_comb x0 x1)), .unset, .unset, .unset] [(.int (x0 &&& (1 : Int32)))])) (fun _ k => XS.iand X1.here hx rfl (hb hby at_8) rfl k) ?_
  have kj2 : (∀ (z2_0 : Int32), z2_0 = (own_b (¬ ((x0 &&& (1 : Int32)) = 0))) → own_E p e below (own_F s 0 0) (own_Q0 Z x0 x1 h0 n0) T1 (mkF m 17 #[.val (.int x0), .val (.int x1), .val (.int (own_comb x0 x1)), .unset, .unset, .unset] [(.int z2_0)])) → own_E p e below (own_F s 0 0) (own_Q0 Z x0 x1 h0 n0) T1 (mkF m 9 #[.val (.int x0), .val (.int x1), .val (.int (own_comb x0 x1)), .unset, .unset, .unset] [(.int (x0 &&& (1 : Int32)))]) := by
    intro kj
    refine own_ifY X1 hx (P := ((x0 &&& (1 : Int32)) = 0)) (hb hby at_9) (own_z_eq (x0 &&& (1 : Int32))) (by decide) (pc1 := 16) (by decide) (fun hc9 => ?_) (fun hc9 => ?_)
    · show own_E p e below (own_F s 0 0) (own_Q0 Z x0 x1 h0 n0) T1 (mkF m 16 #[.val (.int x0), .val (.int x1), .val (.int (own_comb x0 x1)), .unset, .unset, .unset] [])
      refine own_step (g' := (mkF m 17 #[.val (.int x0), .val (.int x1), .val (.int (own_comb x0 x1)), .unset, .unset, .unset] [(.int (0 : Int32))])) (fun _ k => XS.iconst X1.here hx rfl (hb hby at_16) k) ?_
      exact kj (0 : Int32) (by simp [own_b, hc9])
    · show own_E p e below (own_F s 0 0) (own_Q0 Z x0 x1 h0 n0) T1 (mkF m 12 #[.val (.int x0), .val (.int x1), .val (.int (own_comb x0 x1)), .unset, .unset, .unset] [])
      refine own_step (g' := (mkF m 13 #[.val (.int x0), .val (.int x1), .val (.int (own_comb x0 x1)), .unset, .unset, .unset] [(.int (1 : Int32))])) (fun _ k => XS.iconst X1.here hx rfl (hb hby at_12) k) ?_
      refine own_step (g' := (mkF m 17 #[.val (.int x0), .val (.int x1), .val (.int (own_comb x0 x1)), .unset, .unset, .unset] [(.int (1 : Int32))])) (fun _ k => XS.goto X1.here hx rfl (pc0 := 13) (pc' := 17) rfl (hb hby at_13) (by decide) (by decide) k) ?_
      exact kj (1 : Int32) (by simp [own_b, hc9])
  refine kj2 fun z2_0 hz2 => ?_
  subst hz2
  show own_E p e below (own_F s 0 0) (own_Q0 Z x0 x1 h0 n0) T1 (mkF m 17 #[.val (.int x0), .val (.int x1), .val (.int (own_comb x0 x1)), .unset, .unset, .unset] [(.int (own_b (¬ ((x0 &&& (1 : Int32)) = 0))))])
  refine own_step (g' := (mkF m 18 #[.val (.int x0), .val (.int x1), .val (.int (own_comb x0 x1)), .val (.int (own_b (¬ ((x0 &&& (1 : Int32)) = 0)))), .unset, .unset] [])) (fun _ k => XS.istoreN X1.here hx rfl (hb hby at_17) rfl (l' := #[.val (.int x0), .val (.int x1), .val (.int (own_comb x0 x1)), .val (.int (own_b (¬ ((x0 &&& (1 : Int32)) = 0)))), .unset, .unset]) rfl k) ?_
  refine own_step (g' := (mkF m 19 #[.val (.int x0), .val (.int x1), .val (.int (own_comb x0 x1)), .val (.int (own_b (¬ ((x0 &&& (1 : Int32)) = 0)))), .unset, .unset] [(.int x1)])) (fun _ k => XS.iloadN X1.here hx rfl (hb hby at_18) rfl k) ?_
  refine own_step (g' := (mkF m 20 #[.val (.int x0), .val (.int x1), .val (.int (own_comb x0 x1)), .val (.int (own_b (¬ ((x0 &&& (1 : Int32)) = 0)))), .unset, .unset] [(.int (1 : Int32)), (.int x1)])) (fun _ k => XS.iconst X1.here hx rfl (hb hby at_19) k) ?_
  refine own_step (g' := (mkF m 21 #[.val (.int x0), .val (.int x1), .val (.int (own_comb x0 x1)), .val (.int (own_b (¬ ((x0 &&& (1 : Int32)) = 0)))), .unset, .unset] [(.int (x1 &&& (1 : Int32)))])) (fun _ k => XS.iand X1.here hx rfl (hb hby at_20) rfl k) ?_
  have kj3 : (∀ (z3_0 : Int32), z3_0 = (own_b (¬ ((x1 &&& (1 : Int32)) = 0))) → own_E p e below (own_F s 0 0) (own_Q0 Z x0 x1 h0 n0) T1 (mkF m 29 #[.val (.int x0), .val (.int x1), .val (.int (own_comb x0 x1)), .val (.int (own_b (¬ ((x0 &&& (1 : Int32)) = 0)))), .unset, .unset] [(.int z3_0)])) → own_E p e below (own_F s 0 0) (own_Q0 Z x0 x1 h0 n0) T1 (mkF m 21 #[.val (.int x0), .val (.int x1), .val (.int (own_comb x0 x1)), .val (.int (own_b (¬ ((x0 &&& (1 : Int32)) = 0)))), .unset, .unset] [(.int (x1 &&& (1 : Int32)))]) := by
    intro kj
    refine own_ifY X1 hx (P := ((x1 &&& (1 : Int32)) = 0)) (hb hby at_21) (own_z_eq (x1 &&& (1 : Int32))) (by decide) (pc1 := 28) (by decide) (fun hc21 => ?_) (fun hc21 => ?_)
    · show own_E p e below (own_F s 0 0) (own_Q0 Z x0 x1 h0 n0) T1 (mkF m 28 #[.val (.int x0), .val (.int x1), .val (.int (own_comb x0 x1)), .val (.int (own_b (¬ ((x0 &&& (1 : Int32)) = 0)))), .unset, .unset] [])
      refine own_step (g' := (mkF m 29 #[.val (.int x0), .val (.int x1), .val (.int (own_comb x0 x1)), .val (.int (own_b (¬ ((x0 &&& (1 : Int32)) = 0)))), .unset, .unset] [(.int (0 : Int32))])) (fun _ k => XS.iconst X1.here hx rfl (hb hby at_28) k) ?_
      exact kj (0 : Int32) (by simp [own_b, hc21])
    · show own_E p e below (own_F s 0 0) (own_Q0 Z x0 x1 h0 n0) T1 (mkF m 24 #[.val (.int x0), .val (.int x1), .val (.int (own_comb x0 x1)), .val (.int (own_b (¬ ((x0 &&& (1 : Int32)) = 0)))), .unset, .unset] [])
      refine own_step (g' := (mkF m 25 #[.val (.int x0), .val (.int x1), .val (.int (own_comb x0 x1)), .val (.int (own_b (¬ ((x0 &&& (1 : Int32)) = 0)))), .unset, .unset] [(.int (1 : Int32))])) (fun _ k => XS.iconst X1.here hx rfl (hb hby at_24) k) ?_
      refine own_step (g' := (mkF m 29 #[.val (.int x0), .val (.int x1), .val (.int (own_comb x0 x1)), .val (.int (own_b (¬ ((x0 &&& (1 : Int32)) = 0)))), .unset, .unset] [(.int (1 : Int32))])) (fun _ k => XS.goto X1.here hx rfl (pc0 := 25) (pc' := 29) rfl (hb hby at_25) (by decide) (by decide) k) ?_
      exact kj (1 : Int32) (by simp [own_b, hc21])
  refine kj3 fun z3_0 hz3 => ?_
  subst hz3
  show own_E p e below (own_F s 0 0) (own_Q0 Z x0 x1 h0 n0) T1 (mkF m 29 #[.val (.int x0), .val (.int x1), .val (.int (own_comb x0 x1)), .val (.int (own_b (¬ ((x0 &&& (1 : Int32)) = 0)))), .unset, .unset] [(.int (own_b (¬ ((x1 &&& (1 : Int32)) = 0))))])
  refine own_step (g' := (mkF m 31 #[.val (.int x0), .val (.int x1), .val (.int (own_comb x0 x1)), .val (.int (own_b (¬ ((x0 &&& (1 : Int32)) = 0)))), .val (.int (own_b (¬ ((x1 &&& (1 : Int32)) = 0)))), .unset] [])) (fun _ k => XS.istore X1.here hx rfl (hb hby at_29) rfl (l' := #[.val (.int x0), .val (.int x1), .val (.int (own_comb x0 x1)), .val (.int (own_b (¬ ((x0 &&& (1 : Int32)) = 0)))), .val (.int (own_b (¬ ((x1 &&& (1 : Int32)) = 0)))), .unset]) rfl k) ?_
  refine own_step (g' := (mkF m 32 #[.val (.int x0), .val (.int x1), .val (.int (own_comb x0 x1)), .val (.int (own_b (¬ ((x0 &&& (1 : Int32)) = 0)))), .val (.int (own_b (¬ ((x1 &&& (1 : Int32)) = 0)))), .unset] [(.int (own_b (¬ ((x0 &&& (1 : Int32)) = 0))))])) (fun _ k => XS.iloadN X1.here hx rfl (hb hby at_31) rfl k) ?_
  refine own_ifN X1 hx (P := (¬ ((x0 &&& (1 : Int32)) = 0))) (hb hby at_32) (own_b_eq (¬ ((x0 &&& (1 : Int32)) = 0))) (by decide) (pc1 := 40) (by decide) (fun hc32 => ?_) (fun hc32 => ?_)
  · show own_E p e below (own_F s 0 0) (own_Q0 Z x0 x1 h0 n0) T1 (mkF m 35 #[.val (.int x0), .val (.int x1), .val (.int (own_comb x0 x1)), .val (.int (own_b (¬ ((x0 &&& (1 : Int32)) = 0)))), .val (.int (own_b (¬ ((x1 &&& (1 : Int32)) = 0)))), .unset] [])
    refine own_step (g' := (mkF m 37 #[.val (.int x0), .val (.int x1), .val (.int (own_comb x0 x1)), .val (.int (own_b (¬ ((x0 &&& (1 : Int32)) = 0)))), .val (.int (own_b (¬ ((x1 &&& (1 : Int32)) = 0)))), .unset] [(.int (own_b (¬ ((x1 &&& (1 : Int32)) = 0))))])) (fun _ k => XS.iload X1.here hx rfl (hb hby at_35) rfl k) ?_
    refine own_ifY X1 hx (P := (¬ ((x1 &&& (1 : Int32)) = 0))) (hb hby at_37) (own_b_ne (¬ ((x1 &&& (1 : Int32)) = 0))) (by decide) (pc1 := 59) (by decide) (fun hc37 => ?_) (fun hc37 => ?_)
    · show own_E p e below (own_F s 0 0) (own_Q0 Z x0 x1 h0 n0) T1 (mkF m 59 #[.val (.int x0), .val (.int x1), .val (.int (own_comb x0 x1)), .val (.int (own_b (¬ ((x0 &&& (1 : Int32)) = 0)))), .val (.int (own_b (¬ ((x1 &&& (1 : Int32)) = 0)))), .unset] [])
      refine own_step (g' := (mkF m 62 #[.val (.int x0), .val (.int x1), .val (.int (own_comb x0 x1)), .val (.int (own_b (¬ ((x0 &&& (1 : Int32)) = 0)))), .val (.int (own_b (¬ ((x1 &&& (1 : Int32)) = 0)))), .unset] [(.int (209 : Int32))])) (fun _ k => XS.sipush X1.here hx rfl (hb hby at_59) k) ?_
      refine own_step (g' := (mkF m 64 #[.val (.int x0), .val (.int x1), .val (.int (own_comb x0 x1)), .val (.int (own_b (¬ ((x0 &&& (1 : Int32)) = 0)))), .val (.int (own_b (¬ ((x1 &&& (1 : Int32)) = 0)))), .val (.int (209 : Int32))] [])) (fun _ k => XS.istore X1.here hx rfl (hb hby at_62) rfl (l' := #[.val (.int x0), .val (.int x1), .val (.int (own_comb x0 x1)), .val (.int (own_b (¬ ((x0 &&& (1 : Int32)) = 0)))), .val (.int (own_b (¬ ((x1 &&& (1 : Int32)) = 0)))), .val (.int (209 : Int32))]) rfl k) ?_
      refine own_step (g' := (mkF m 65 #[.val (.int x0), .val (.int x1), .val (.int (own_comb x0 x1)), .val (.int (own_b (¬ ((x0 &&& (1 : Int32)) = 0)))), .val (.int (own_b (¬ ((x1 &&& (1 : Int32)) = 0)))), .val (.int (209 : Int32))] [(.int (own_comb x0 x1))])) (fun _ k => XS.iloadN X1.here hx rfl (hb hby at_64) rfl k) ?_
      refine own_step (g' := (mkF m 67 #[.val (.int x0), .val (.int x1), .val (.int (own_comb x0 x1)), .val (.int (own_b (¬ ((x0 &&& (1 : Int32)) = 0)))), .val (.int (own_b (¬ ((x1 &&& (1 : Int32)) = 0)))), .val (.int (209 : Int32))] [(.int (209 : Int32)), (.int (own_comb x0 x1))])) (fun _ k => XS.iload X1.here hx rfl (hb hby at_65) rfl k) ?_
      refine own_step (g' := (mkF m 68 #[.val (.int x0), .val (.int x1), .val (.int (own_comb x0 x1)), .val (.int (own_b (¬ ((x0 &&& (1 : Int32)) = 0)))), .val (.int (own_b (¬ ((x1 &&& (1 : Int32)) = 0)))), .val (.int (209 : Int32))] [(.int (-1 : Int32)), (.int (209 : Int32)), (.int (own_comb x0 x1))])) (fun _ k => XS.iconst X1.here hx rfl (hb hby at_67) k) ?_
      refine own_step (g' := (mkF m 69 #[.val (.int x0), .val (.int x1), .val (.int (own_comb x0 x1)), .val (.int (own_b (¬ ((x0 &&& (1 : Int32)) = 0)))), .val (.int (own_b (¬ ((x1 &&& (1 : Int32)) = 0)))), .val (.int (209 : Int32))] [(.int ((209 : Int32) ^^^ (-1 : Int32))), (.int (own_comb x0 x1))])) (fun _ k => XS.ixor X1.here hx rfl (hb hby at_68) rfl k) ?_
      refine own_step (g' := (mkF m 70 #[.val (.int x0), .val (.int x1), .val (.int (own_comb x0 x1)), .val (.int (own_b (¬ ((x0 &&& (1 : Int32)) = 0)))), .val (.int (own_b (¬ ((x1 &&& (1 : Int32)) = 0)))), .val (.int (209 : Int32))] [(.int ((own_comb x0 x1) &&& ((209 : Int32) ^^^ (-1 : Int32))))])) (fun _ k => XS.iand X1.here hx rfl (hb hby at_69) rfl k) ?_
      refine own_ifY X1 hx (P := (((own_comb x0 x1) &&& ((209 : Int32) ^^^ (-1 : Int32))) = 0)) (hb hby at_70) (own_z_eq ((own_comb x0 x1) &&& ((209 : Int32) ^^^ (-1 : Int32)))) (by decide) (pc1 := 75) (by decide) (fun hc70 => ?_) (fun hc70 => ?_)
      · show own_E p e below (own_F s 0 0) (own_Q0 Z x0 x1 h0 n0) T1 (mkF m 75 #[.val (.int x0), .val (.int x1), .val (.int (own_comb x0 x1)), .val (.int (own_b (¬ ((x0 &&& (1 : Int32)) = 0)))), .val (.int (own_b (¬ ((x1 &&& (1 : Int32)) = 0)))), .val (.int (209 : Int32))] [])
        refine own_step (g' := (mkF m 76 #[.val (.int x0), .val (.int x1), .val (.int (own_comb x0 x1)), .val (.int (own_b (¬ ((x0 &&& (1 : Int32)) = 0)))), .val (.int (own_b (¬ ((x1 &&& (1 : Int32)) = 0)))), .val (.int (209 : Int32))] [(.int (own_comb x0 x1))])) (fun _ k => XS.iloadN X1.here hx rfl (hb hby at_75) rfl k) ?_
        refine own_step (g' := (mkF m 77 #[.val (.int x0), .val (.int x1), .val (.int (own_comb x0 x1)), .val (.int (own_b (¬ ((x0 &&& (1 : Int32)) = 0)))), .val (.int (own_b (¬ ((x1 &&& (1 : Int32)) = 0)))), .val (.int (209 : Int32))] [(.int (1 : Int32)), (.int (own_comb x0 x1))])) (fun _ k => XS.iconst X1.here hx rfl (hb hby at_76) k) ?_
        refine own_step (g' := (mkF m 78 #[.val (.int x0), .val (.int x1), .val (.int (own_comb x0 x1)), .val (.int (own_b (¬ ((x0 &&& (1 : Int32)) = 0)))), .val (.int (own_b (¬ ((x1 &&& (1 : Int32)) = 0)))), .val (.int (209 : Int32))] [(.int ((own_comb x0 x1) &&& (1 : Int32)))])) (fun _ k => XS.iand X1.here hx rfl (hb hby at_77) rfl k) ?_
        refine own_ifN X1 hx (P := (((own_comb x0 x1) &&& (1 : Int32)) = 0)) (hb hby at_78) (own_z_ne ((own_comb x0 x1) &&& (1 : Int32))) (by decide) (pc1 := 83) (by decide) (fun hc78 => ?_) (fun hc78 => ?_)
        · show own_E p e below (own_F s 0 0) (own_Q0 Z x0 x1 h0 n0) T1 (mkF m 81 #[.val (.int x0), .val (.int x1), .val (.int (own_comb x0 x1)), .val (.int (own_b (¬ ((x0 &&& (1 : Int32)) = 0)))), .val (.int (own_b (¬ ((x1 &&& (1 : Int32)) = 0)))), .val (.int (209 : Int32))] [])
          exact absurd hc78 (own_l2 x0 x1 hc32 hc37)
        · show own_E p e below (own_F s 0 0) (own_Q0 Z x0 x1 h0 n0) T1 (mkF m 83 #[.val (.int x0), .val (.int x1), .val (.int (own_comb x0 x1)), .val (.int (own_b (¬ ((x0 &&& (1 : Int32)) = 0)))), .val (.int (own_b (¬ ((x1 &&& (1 : Int32)) = 0)))), .val (.int (209 : Int32))] [])
          refine own_step (g' := (mkF m 84 #[.val (.int x0), .val (.int x1), .val (.int (own_comb x0 x1)), .val (.int (own_b (¬ ((x0 &&& (1 : Int32)) = 0)))), .val (.int (own_b (¬ ((x1 &&& (1 : Int32)) = 0)))), .val (.int (209 : Int32))] [(.int (own_comb x0 x1))])) (fun _ k => XS.iloadN X1.here hx rfl (hb hby at_83) rfl k) ?_
          obtain ⟨_, _, ⟨T4, L4, k4, n4⟩, -, X4, ⟨Lc4, hQ4, l4, y4, z4⟩, st4⟩ := Jvm.LawKit.callS X1 hx (y := (⟨"com/example/quern/quern/codec/FieldInfoCombinePinLaw", "norms", "(I)Z"⟩ : MethodName)) hown (mvT hZ (hw _ (List.mem_of_getElem? (i := 4) rfl))) (mvT hZ (hw _ (List.mem_of_getElem? (i := 5) rfl))) (mvT hZ (hw _ (List.mem_of_getElem? (i := 6) rfl))) (mvT hZ (hw _ (List.mem_of_getElem? (i := 7) rfl))) (by decide) (backOf (W := 0) (own_rm2 l Z a0 hw [] (own_comb x0 x1) h0 n0 Z0 ) hZ (hw _ (List.mem_of_getElem? (i := 7) rfl)) (hw _ (List.mem_of_getElem? (i := 6) rfl)) (by decide) (by decide)) (g := (mkF m 84 #[.val (.int x0), .val (.int x1), .val (.int (own_comb x0 x1)), .val (.int (own_b (¬ ((x0 &&& (1 : Int32)) = 0)))), .val (.int (own_b (¬ ((x1 &&& (1 : Int32)) = 0)))), .val (.int (209 : Int32))] [(.int (own_comb x0 x1))])) rfl (by rw [hml]; rfl) (argsL := [(.int (own_comb x0 x1))]) (rest := []) (lenOf own_pd__28I_29Z rfl) rfl (by show 2 * 0 + _ ≤ _; exact Nat.le_of_eq rfl) (hb hby at_84) (fun _ _ => ⟨rfl, e1, (by decide : 0 + 0 ≤ _), (by decide : 0 + 0 ≤ _)⟩)
          dsimp only [Pt.U, Pt.locs, Pt.cells, Pt.slots] at X4 l4 y4 z4 st4 hQ4
          subst l4 y4 z4
          obtain ⟨rfl, Nq4, e4⟩ := hQ4
          have N4 := Fr.app N1 Nq4
          refine own_step (g' := (mkF m 87 #[.val (.int x0), .val (.int x1), .val (.int (own_comb x0 x1)), .val (.int (own_b (¬ ((x0 &&& (1 : Int32)) = 0)))), .val (.int (own_b (¬ ((x1 &&& (1 : Int32)) = 0)))), .val (.int (209 : Int32))] [(.int (own_b (own_norms (own_comb x0 x1))))])) (fun _ k => st4 _ k) ?_
          refine own_step (g' := (mkF m 88 #[.val (.int x0), .val (.int x1), .val (.int (own_comb x0 x1)), .val (.int (own_b (¬ ((x0 &&& (1 : Int32)) = 0)))), .val (.int (own_b (¬ ((x1 &&& (1 : Int32)) = 0)))), .val (.int (209 : Int32))] [(.int x0), (.int (own_b (own_norms (own_comb x0 x1))))])) (fun _ k => XS.iloadN X4.here hx rfl (hb hby at_87) rfl k) ?_
          obtain ⟨_, _, ⟨T5, L5, k5, n5⟩, -, X5, ⟨Lc5, hQ5, l5, y5, z5⟩, st5⟩ := Jvm.LawKit.callS X4 hx (y := (⟨"com/example/quern/quern/codec/FieldInfoCombinePinLaw", "norms", "(I)Z"⟩ : MethodName)) hown (mvT hZ (hw _ (List.mem_of_getElem? (i := 4) rfl))) (mvT hZ (hw _ (List.mem_of_getElem? (i := 5) rfl))) (mvT hZ (hw _ (List.mem_of_getElem? (i := 6) rfl))) (mvT hZ (hw _ (List.mem_of_getElem? (i := 7) rfl))) (by decide) (backOf (W := 1) (own_rm2 l Z a0 hw [] x0 h0 n0 Z0 ) hZ (hw _ (List.mem_of_getElem? (i := 7) rfl)) (hw _ (List.mem_of_getElem? (i := 6) rfl)) (by decide) (by decide)) (g := (mkF m 88 #[.val (.int x0), .val (.int x1), .val (.int (own_comb x0 x1)), .val (.int (own_b (¬ ((x0 &&& (1 : Int32)) = 0)))), .val (.int (own_b (¬ ((x1 &&& (1 : Int32)) = 0)))), .val (.int (209 : Int32))] [(.int x0), (.int (own_b (own_norms (own_comb x0 x1))))])) rfl (by rw [hml]; rfl) (argsL := [(.int x0)]) (rest := [(.int (own_b (own_norms (own_comb x0 x1))))]) (lenOf own_pd__28I_29Z rfl) rfl (by show 2 * 0 + _ ≤ _; exact Nat.le_of_eq rfl) (hb hby at_88) (fun _ _ => ⟨rfl, e4, (by decide : 0 + 0 ≤ _), (by decide : 0 + 0 ≤ _)⟩)
          dsimp only [Pt.U, Pt.locs, Pt.cells, Pt.slots] at X5 l5 y5 z5 st5 hQ5
          subst l5 y5 z5
          obtain ⟨rfl, Nq5, e5⟩ := hQ5
          have N5 := Fr.app N4 Nq5
          refine own_step (g' := (mkF m 91 #[.val (.int x0), .val (.int x1), .val (.int (own_comb x0 x1)), .val (.int (own_b (¬ ((x0 &&& (1 : Int32)) = 0)))), .val (.int (own_b (¬ ((x1 &&& (1 : Int32)) = 0)))), .val (.int (209 : Int32))] [(.int (own_b (own_norms x0))), (.int (own_b (own_norms (own_comb x0 x1))))])) (fun _ k => st5 _ k) ?_
          have kj6 : (∀ (T' : State) (L' : List Loc), Stand p l e room_1 s m #[(.int x0), (.int x1)] below meth c T' L' 0 0 → T'.heap = h0 → Fr n0 L' → ∀ (z6_0 : Int32), z6_0 = (own_b (own_norms x0 ∨ own_norms x1)) → own_E p e below (own_F s 0 0) (own_Q0 Z x0 x1 h0 n0) T' (mkF m 106 #[.val (.int x0), .val (.int x1), .val (.int (own_comb x0 x1)), .val (.int (own_b (¬ ((x0 &&& (1 : Int32)) = 0)))), .val (.int (own_b (¬ ((x1 &&& (1 : Int32)) = 0)))), .val (.int (209 : Int32))] [(.int z6_0), (.int (own_b (own_norms (own_comb x0 x1))))])) → own_E p e below (own_F s 0 0) (own_Q0 Z x0 x1 h0 n0) T5 (mkF m 91 #[.val (.int x0), .val (.int x1), .val (.int (own_comb x0 x1)), .val (.int (own_b (¬ ((x0 &&& (1 : Int32)) = 0)))), .val (.int (own_b (¬ ((x1 &&& (1 : Int32)) = 0)))), .val (.int (209 : Int32))] [(.int (own_b (own_norms x0))), (.int (own_b (own_norms (own_comb x0 x1))))]) := by
            intro kj
            refine own_ifY X5 hx (P := (own_norms x0)) (hb hby at_91) (own_b_ne (own_norms x0)) (by decide) (pc1 := 101) (by decide) (fun hc91 => ?_) (fun hc91 => ?_)
            · show own_E p e below (own_F s 0 0) (own_Q0 Z x0 x1 h0 n0) T5 (mkF m 101 #[.val (.int x0), .val (.int x1), .val (.int (own_comb x0 x1)), .val (.int (own_b (¬ ((x0 &&& (1 : Int32)) = 0)))), .val (.int (own_b (¬ ((x1 &&& (1 : Int32)) = 0)))), .val (.int (209 : Int32))] [(.int (own_b (own_norms (own_comb x0 x1))))])
              refine own_step (g' := (mkF m 102 #[.val (.int x0), .val (.int x1), .val (.int (own_comb x0 x1)), .val (.int (own_b (¬ ((x0 &&& (1 : Int32)) = 0)))), .val (.int (own_b (¬ ((x1 &&& (1 : Int32)) = 0)))), .val (.int (209 : Int32))] [(.int (1 : Int32)), (.int (own_b (own_norms (own_comb x0 x1))))])) (fun _ k => XS.iconst X5.here hx rfl (hb hby at_101) k) ?_
              refine own_step (g' := (mkF m 106 #[.val (.int x0), .val (.int x1), .val (.int (own_comb x0 x1)), .val (.int (own_b (¬ ((x0 &&& (1 : Int32)) = 0)))), .val (.int (own_b (¬ ((x1 &&& (1 : Int32)) = 0)))), .val (.int (209 : Int32))] [(.int (1 : Int32)), (.int (own_b (own_norms (own_comb x0 x1))))])) (fun _ k => XS.goto X5.here hx rfl (pc0 := 102) (pc' := 106) rfl (hb hby at_102) (by decide) (by decide) k) ?_
              exact kj _ _ X5 e5 N5 (1 : Int32) ((own_b1 (Or.inl hc91)).symm)
            · show own_E p e below (own_F s 0 0) (own_Q0 Z x0 x1 h0 n0) T5 (mkF m 94 #[.val (.int x0), .val (.int x1), .val (.int (own_comb x0 x1)), .val (.int (own_b (¬ ((x0 &&& (1 : Int32)) = 0)))), .val (.int (own_b (¬ ((x1 &&& (1 : Int32)) = 0)))), .val (.int (209 : Int32))] [(.int (own_b (own_norms (own_comb x0 x1))))])
              refine own_step (g' := (mkF m 95 #[.val (.int x0), .val (.int x1), .val (.int (own_comb x0 x1)), .val (.int (own_b (¬ ((x0 &&& (1 : Int32)) = 0)))), .val (.int (own_b (¬ ((x1 &&& (1 : Int32)) = 0)))), .val (.int (209 : Int32))] [(.int x1), (.int (own_b (own_norms (own_comb x0 x1))))])) (fun _ k => XS.iloadN X5.here hx rfl (hb hby at_94) rfl k) ?_
              obtain ⟨_, _, ⟨T7, L7, k7, n7⟩, -, X7, ⟨Lc7, hQ7, l7, y7, z7⟩, st7⟩ := Jvm.LawKit.callS X5 hx (y := (⟨"com/example/quern/quern/codec/FieldInfoCombinePinLaw", "norms", "(I)Z"⟩ : MethodName)) hown (mvT hZ (hw _ (List.mem_of_getElem? (i := 4) rfl))) (mvT hZ (hw _ (List.mem_of_getElem? (i := 5) rfl))) (mvT hZ (hw _ (List.mem_of_getElem? (i := 6) rfl))) (mvT hZ (hw _ (List.mem_of_getElem? (i := 7) rfl))) (by decide) (backOf (W := 1) (own_rm2 l Z a0 hw [] x1 h0 n0 Z0 ) hZ (hw _ (List.mem_of_getElem? (i := 7) rfl)) (hw _ (List.mem_of_getElem? (i := 6) rfl)) (by decide) (by decide)) (g := (mkF m 95 #[.val (.int x0), .val (.int x1), .val (.int (own_comb x0 x1)), .val (.int (own_b (¬ ((x0 &&& (1 : Int32)) = 0)))), .val (.int (own_b (¬ ((x1 &&& (1 : Int32)) = 0)))), .val (.int (209 : Int32))] [(.int x1), (.int (own_b (own_norms (own_comb x0 x1))))])) rfl (by rw [hml]; rfl) (argsL := [(.int x1)]) (rest := [(.int (own_b (own_norms (own_comb x0 x1))))]) (lenOf own_pd__28I_29Z rfl) rfl (by show 2 * 0 + _ ≤ _; exact Nat.le_of_eq rfl) (hb hby at_95) (fun _ _ => ⟨rfl, e5, (by decide : 0 + 0 ≤ _), (by decide : 0 + 0 ≤ _)⟩)
              dsimp only [Pt.U, Pt.locs, Pt.cells, Pt.slots] at X7 l7 y7 z7 st7 hQ7
              subst l7 y7 z7
              obtain ⟨rfl, Nq7, e7⟩ := hQ7
              have N7 := Fr.app N5 Nq7
              refine own_step (g' := (mkF m 98 #[.val (.int x0), .val (.int x1), .val (.int (own_comb x0 x1)), .val (.int (own_b (¬ ((x0 &&& (1 : Int32)) = 0)))), .val (.int (own_b (¬ ((x1 &&& (1 : Int32)) = 0)))), .val (.int (209 : Int32))] [(.int (own_b (own_norms x1))), (.int (own_b (own_norms (own_comb x0 x1))))])) (fun _ k => st7 _ k) ?_
              refine own_ifN X7 hx (P := (own_norms x1)) (hb hby at_98) (own_b_eq (own_norms x1)) (by decide) (pc1 := 105) (by decide) (fun hc98 => ?_) (fun hc98 => ?_)
              · show own_E p e below (own_F s 0 0) (own_Q0 Z x0 x1 h0 n0) T7 (mkF m 101 #[.val (.int x0), .val (.int x1), .val (.int (own_comb x0 x1)), .val (.int (own_b (¬ ((x0 &&& (1 : Int32)) = 0)))), .val (.int (own_b (¬ ((x1 &&& (1 : Int32)) = 0)))), .val (.int (209 : Int32))] [(.int (own_b (own_norms (own_comb x0 x1))))])
                refine own_step (g' := (mkF m 102 #[.val (.int x0), .val (.int x1), .val (.int (own_comb x0 x1)), .val (.int (own_b (¬ ((x0 &&& (1 : Int32)) = 0)))), .val (.int (own_b (¬ ((x1 &&& (1 : Int32)) = 0)))), .val (.int (209 : Int32))] [(.int (1 : Int32)), (.int (own_b (own_norms (own_comb x0 x1))))])) (fun _ k => XS.iconst X7.here hx rfl (hb hby at_101) k) ?_
                refine own_step (g' := (mkF m 106 #[.val (.int x0), .val (.int x1), .val (.int (own_comb x0 x1)), .val (.int (own_b (¬ ((x0 &&& (1 : Int32)) = 0)))), .val (.int (own_b (¬ ((x1 &&& (1 : Int32)) = 0)))), .val (.int (209 : Int32))] [(.int (1 : Int32)), (.int (own_b (own_norms (own_comb x0 x1))))])) (fun _ k => XS.goto X7.here hx rfl (pc0 := 102) (pc' := 106) rfl (hb hby at_102) (by decide) (by decide) k) ?_
                exact kj _ _ X7 e7 N7 (1 : Int32) ((own_b1 (Or.inr hc98)).symm)
              · show own_E p e below (own_F s 0 0) (own_Q0 Z x0 x1 h0 n0) T7 (mkF m 105 #[.val (.int x0), .val (.int x1), .val (.int (own_comb x0 x1)), .val (.int (own_b (¬ ((x0 &&& (1 : Int32)) = 0)))), .val (.int (own_b (¬ ((x1 &&& (1 : Int32)) = 0)))), .val (.int (209 : Int32))] [(.int (own_b (own_norms (own_comb x0 x1))))])
                refine own_step (g' := (mkF m 106 #[.val (.int x0), .val (.int x1), .val (.int (own_comb x0 x1)), .val (.int (own_b (¬ ((x0 &&& (1 : Int32)) = 0)))), .val (.int (own_b (¬ ((x1 &&& (1 : Int32)) = 0)))), .val (.int (209 : Int32))] [(.int (0 : Int32)), (.int (own_b (own_norms (own_comb x0 x1))))])) (fun _ k => XS.iconst X7.here hx rfl (hb hby at_105) k) ?_
                exact kj _ _ X7 e7 N7 (0 : Int32) ((own_b0 (fun q => q.elim hc91 hc98)).symm)
          refine kj6 fun T8 L8 X8 e8 N8 z6_0 hz6 => ?_
          subst hz6
          show own_E p e below (own_F s 0 0) (own_Q0 Z x0 x1 h0 n0) T8 (mkF m 106 #[.val (.int x0), .val (.int x1), .val (.int (own_comb x0 x1)), .val (.int (own_b (¬ ((x0 &&& (1 : Int32)) = 0)))), .val (.int (own_b (¬ ((x1 &&& (1 : Int32)) = 0)))), .val (.int (209 : Int32))] [(.int (own_b (own_norms x0 ∨ own_norms x1))), (.int (own_b (own_norms (own_comb x0 x1))))])
          refine own_icY X8 hx (P := ((own_b (own_norms (own_comb x0 x1))) = (own_b (own_norms x0 ∨ own_norms x1)))) (hb hby at_106) (own_i_eq (own_b (own_norms (own_comb x0 x1))) (own_b (own_norms x0 ∨ own_norms x1))) (by decide) (pc1 := 111) (by decide) (fun hc106 => ?_) (fun hc106 => ?_)
          · show own_E p e below (own_F s 0 0) (own_Q0 Z x0 x1 h0 n0) T8 (mkF m 111 #[.val (.int x0), .val (.int x1), .val (.int (own_comb x0 x1)), .val (.int (own_b (¬ ((x0 &&& (1 : Int32)) = 0)))), .val (.int (own_b (¬ ((x1 &&& (1 : Int32)) = 0)))), .val (.int (209 : Int32))] [])
            refine own_step (g' := (mkF m 112 #[.val (.int x0), .val (.int x1), .val (.int (own_comb x0 x1)), .val (.int (own_b (¬ ((x0 &&& (1 : Int32)) = 0)))), .val (.int (own_b (¬ ((x1 &&& (1 : Int32)) = 0)))), .val (.int (209 : Int32))] [(.int (own_comb x0 x1))])) (fun _ k => XS.iloadN X8.here hx rfl (hb hby at_111) rfl k) ?_
            obtain ⟨_, _, ⟨T9, L9, k9, n9⟩, -, X9, ⟨Lc9, hQ9, l9, y9, z9⟩, st9⟩ := Jvm.LawKit.callS X8 hx (y := (⟨"com/example/quern/quern/codec/FieldInfoCombinePinLaw", "freqs", "(I)Z"⟩ : MethodName)) hown (mvT hZ (hw _ (List.mem_of_getElem? (i := 8) rfl))) (mvT hZ (hw _ (List.mem_of_getElem? (i := 9) rfl))) (mvT hZ (hw _ (List.mem_of_getElem? (i := 6) rfl))) (mvT hZ (hw _ (List.mem_of_getElem? (i := 10) rfl))) (by decide) (backOf (W := 0) (own_rm3 l Z a0 hw [] (own_comb x0 x1) h0 n0 Z0 ) hZ (hw _ (List.mem_of_getElem? (i := 10) rfl)) (hw _ (List.mem_of_getElem? (i := 6) rfl)) (by decide) (by decide)) (g := (mkF m 112 #[.val (.int x0), .val (.int x1), .val (.int (own_comb x0 x1)), .val (.int (own_b (¬ ((x0 &&& (1 : Int32)) = 0)))), .val (.int (own_b (¬ ((x1 &&& (1 : Int32)) = 0)))), .val (.int (209 : Int32))] [(.int (own_comb x0 x1))])) rfl (by rw [hml]; rfl) (argsL := [(.int (own_comb x0 x1))]) (rest := []) (lenOf own_pd__28I_29Z rfl) rfl (by show 2 * 0 + _ ≤ _; exact Nat.le_of_eq rfl) (hb hby at_112) (fun _ _ => ⟨rfl, e8, (by decide : 0 + 0 ≤ _), (by decide : 0 + 0 ≤ _)⟩)
            dsimp only [Pt.U, Pt.locs, Pt.cells, Pt.slots] at X9 l9 y9 z9 st9 hQ9
            subst l9 y9 z9
            obtain ⟨rfl, Nq9, e9⟩ := hQ9
            have N9 := Fr.app N8 Nq9
            refine own_step (g' := (mkF m 115 #[.val (.int x0), .val (.int x1), .val (.int (own_comb x0 x1)), .val (.int (own_b (¬ ((x0 &&& (1 : Int32)) = 0)))), .val (.int (own_b (¬ ((x1 &&& (1 : Int32)) = 0)))), .val (.int (209 : Int32))] [(.int (own_b (own_freqs (own_comb x0 x1))))])) (fun _ k => st9 _ k) ?_
            refine own_step (g' := (mkF m 116 #[.val (.int x0), .val (.int x1), .val (.int (own_comb x0 x1)), .val (.int (own_b (¬ ((x0 &&& (1 : Int32)) = 0)))), .val (.int (own_b (¬ ((x1 &&& (1 : Int32)) = 0)))), .val (.int (209 : Int32))] [(.int x0), (.int (own_b (own_freqs (own_comb x0 x1))))])) (fun _ k => XS.iloadN X9.here hx rfl (hb hby at_115) rfl k) ?_
            obtain ⟨_, _, ⟨T10, L10, k10, n10⟩, -, X10, ⟨Lc10, hQ10, l10, y10, z10⟩, st10⟩ := Jvm.LawKit.callS X9 hx (y := (⟨"com/example/quern/quern/codec/FieldInfoCombinePinLaw", "freqs", "(I)Z"⟩ : MethodName)) hown (mvT hZ (hw _ (List.mem_of_getElem? (i := 8) rfl))) (mvT hZ (hw _ (List.mem_of_getElem? (i := 9) rfl))) (mvT hZ (hw _ (List.mem_of_getElem? (i := 6) rfl))) (mvT hZ (hw _ (List.mem_of_getElem? (i := 10) rfl))) (by decide) (backOf (W := 1) (own_rm3 l Z a0 hw [] x0 h0 n0 Z0 ) hZ (hw _ (List.mem_of_getElem? (i := 10) rfl)) (hw _ (List.mem_of_getElem? (i := 6) rfl)) (by decide) (by decide)) (g := (mkF m 116 #[.val (.int x0), .val (.int x1), .val (.int (own_comb x0 x1)), .val (.int (own_b (¬ ((x0 &&& (1 : Int32)) = 0)))), .val (.int (own_b (¬ ((x1 &&& (1 : Int32)) = 0)))), .val (.int (209 : Int32))] [(.int x0), (.int (own_b (own_freqs (own_comb x0 x1))))])) rfl (by rw [hml]; rfl) (argsL := [(.int x0)]) (rest := [(.int (own_b (own_freqs (own_comb x0 x1))))]) (lenOf own_pd__28I_29Z rfl) rfl (by show 2 * 0 + _ ≤ _; exact Nat.le_of_eq rfl) (hb hby at_116) (fun _ _ => ⟨rfl, e9, (by decide : 0 + 0 ≤ _), (by decide : 0 + 0 ≤ _)⟩)
            dsimp only [Pt.U, Pt.locs, Pt.cells, Pt.slots] at X10 l10 y10 z10 st10 hQ10
            subst l10 y10 z10
            obtain ⟨rfl, Nq10, e10⟩ := hQ10
            have N10 := Fr.app N9 Nq10
            refine own_step (g' := (mkF m 119 #[.val (.int x0), .val (.int x1), .val (.int (own_comb x0 x1)), .val (.int (own_b (¬ ((x0 &&& (1 : Int32)) = 0)))), .val (.int (own_b (¬ ((x1 &&& (1 : Int32)) = 0)))), .val (.int (209 : Int32))] [(.int (own_b (own_freqs x0))), (.int (own_b (own_freqs (own_comb x0 x1))))])) (fun _ k => st10 _ k) ?_
            have kj11 : (∀ (T' : State) (L' : List Loc), Stand p l e room_1 s m #[(.int x0), (.int x1)] below meth c T' L' 0 0 → T'.heap = h0 → Fr n0 L' → ∀ (z11_0 : Int32), z11_0 = (own_b (own_freqs x0 ∧ own_freqs x1)) → own_E p e below (own_F s 0 0) (own_Q0 Z x0 x1 h0 n0) T' (mkF m 134 #[.val (.int x0), .val (.int x1), .val (.int (own_comb x0 x1)), .val (.int (own_b (¬ ((x0 &&& (1 : Int32)) = 0)))), .val (.int (own_b (¬ ((x1 &&& (1 : Int32)) = 0)))), .val (.int (209 : Int32))] [(.int z11_0), (.int (own_b (own_freqs (own_comb x0 x1))))])) → own_E p e below (own_F s 0 0) (own_Q0 Z x0 x1 h0 n0) T10 (mkF m 119 #[.val (.int x0), .val (.int x1), .val (.int (own_comb x0 x1)), .val (.int (own_b (¬ ((x0 &&& (1 : Int32)) = 0)))), .val (.int (own_b (¬ ((x1 &&& (1 : Int32)) = 0)))), .val (.int (209 : Int32))] [(.int (own_b (own_freqs x0))), (.int (own_b (own_freqs (own_comb x0 x1))))]) := by
              intro kj
              refine own_ifN X10 hx (P := (own_freqs x0)) (hb hby at_119) (own_b_eq (own_freqs x0)) (by decide) (pc1 := 133) (by decide) (fun hc119 => ?_) (fun hc119 => ?_)
              · show own_E p e below (own_F s 0 0) (own_Q0 Z x0 x1 h0 n0) T10 (mkF m 122 #[.val (.int x0), .val (.int x1), .val (.int (own_comb x0 x1)), .val (.int (own_b (¬ ((x0 &&& (1 : Int32)) = 0)))), .val (.int (own_b (¬ ((x1 &&& (1 : Int32)) = 0)))), .val (.int (209 : Int32))] [(.int (own_b (own_freqs (own_comb x0 x1))))])
                refine own_step (g' := (mkF m 123 #[.val (.int x0), .val (.int x1), .val (.int (own_comb x0 x1)), .val (.int (own_b (¬ ((x0 &&& (1 : Int32)) = 0)))), .val (.int (own_b (¬ ((x1 &&& (1 : Int32)) = 0)))), .val (.int (209 : Int32))] [(.int x1), (.int (own_b (own_freqs (own_comb x0 x1))))])) (fun _ k => XS.iloadN X10.here hx rfl (hb hby at_122) rfl k) ?_
                obtain ⟨_, _, ⟨T12, L12, k12, n12⟩, -, X12, ⟨Lc12, hQ12, l12, y12, z12⟩, st12⟩ := Jvm.LawKit.callS X10 hx (y := (⟨"com/example/quern/quern/codec/FieldInfoCombinePinLaw", "freqs", "(I)Z"⟩ : MethodName)) hown (mvT hZ (hw _ (List.mem_of_getElem? (i := 8) rfl))) (mvT hZ (hw _ (List.mem_of_getElem? (i := 9) rfl))) (mvT hZ (hw _ (List.mem_of_getElem? (i := 6) rfl))) (mvT hZ (hw _ (List.mem_of_getElem? (i := 10) rfl))) (by decide) (backOf (W := 1) (own_rm3 l Z a0 hw [] x1 h0 n0 Z0 ) hZ (hw _ (List.mem_of_getElem? (i := 10) rfl)) (hw _ (List.mem_of_getElem? (i := 6) rfl)) (by decide) (by decide)) (g := (mkF m 123 #[.val (.int x0), .val (.int x1), .val (.int (own_comb x0 x1)), .val (.int (own_b (¬ ((x0 &&& (1 : Int32)) = 0)))), .val (.int (own_b (¬ ((x1 &&& (1 : Int32)) = 0)))), .val (.int (209 : Int32))] [(.int x1), (.int (own_b (own_freqs (own_comb x0 x1))))])) rfl (by rw [hml]; rfl) (argsL := [(.int x1)]) (rest := [(.int (own_b (own_freqs (own_comb x0 x1))))]) (lenOf own_pd__28I_29Z rfl) rfl (by show 2 * 0 + _ ≤ _; exact Nat.le_of_eq rfl) (hb hby at_123) (fun _ _ => ⟨rfl, e10, (by decide : 0 + 0 ≤ _), (by decide : 0 + 0 ≤ _)⟩)
                dsimp only [Pt.U, Pt.locs, Pt.cells, Pt.slots] at X12 l12 y12 z12 st12 hQ12
                subst l12 y12 z12
                obtain ⟨rfl, Nq12, e12⟩ := hQ12
                have N12 := Fr.app N10 Nq12
                refine own_step (g' := (mkF m 126 #[.val (.int x0), .val (.int x1), .val (.int (own_comb x0 x1)), .val (.int (own_b (¬ ((x0 &&& (1 : Int32)) = 0)))), .val (.int (own_b (¬ ((x1 &&& (1 : Int32)) = 0)))), .val (.int (209 : Int32))] [(.int (own_b (own_freqs x1))), (.int (own_b (own_freqs (own_comb x0 x1))))])) (fun _ k => st12 _ k) ?_
                refine own_ifN X12 hx (P := (own_freqs x1)) (hb hby at_126) (own_b_eq (own_freqs x1)) (by decide) (pc1 := 133) (by decide) (fun hc126 => ?_) (fun hc126 => ?_)
                · show own_E p e below (own_F s 0 0) (own_Q0 Z x0 x1 h0 n0) T12 (mkF m 129 #[.val (.int x0), .val (.int x1), .val (.int (own_comb x0 x1)), .val (.int (own_b (¬ ((x0 &&& (1 : Int32)) = 0)))), .val (.int (own_b (¬ ((x1 &&& (1 : Int32)) = 0)))), .val (.int (209 : Int32))] [(.int (own_b (own_freqs (own_comb x0 x1))))])
                  refine own_step (g' := (mkF m 130 #[.val (.int x0), .val (.int x1), .val (.int (own_comb x0 x1)), .val (.int (own_b (¬ ((x0 &&& (1 : Int32)) = 0)))), .val (.int (own_b (¬ ((x1 &&& (1 : Int32)) = 0)))), .val (.int (209 : Int32))] [(.int (1 : Int32)), (.int (own_b (own_freqs (own_comb x0 x1))))])) (fun _ k => XS.iconst X12.here hx rfl (hb hby at_129) k) ?_
                  refine own_step (g' := (mkF m 134 #[.val (.int x0), .val (.int x1), .val (.int (own_comb x0 x1)), .val (.int (own_b (¬ ((x0 &&& (1 : Int32)) = 0)))), .val (.int (own_b (¬ ((x1 &&& (1 : Int32)) = 0)))), .val (.int (209 : Int32))] [(.int (1 : Int32)), (.int (own_b (own_freqs (own_comb x0 x1))))])) (fun _ k => XS.goto X12.here hx rfl (pc0 := 130) (pc' := 134) rfl (hb hby at_130) (by decide) (by decide) k) ?_
                  exact kj _ _ X12 e12 N12 (1 : Int32) ((own_b1 ⟨hc119, hc126⟩).symm)
                · show own_E p e below (own_F s 0 0) (own_Q0 Z x0 x1 h0 n0) T12 (mkF m 133 #[.val (.int x0), .val (.int x1), .val (.int (own_comb x0 x1)), .val (.int (own_b (¬ ((x0 &&& (1 : Int32)) = 0)))), .val (.int (own_b (¬ ((x1 &&& (1 : Int32)) = 0)))), .val (.int (209 : Int32))] [(.int (own_b (own_freqs (own_comb x0 x1))))])
                  refine own_step (g' := (mkF m 134 #[.val (.int x0), .val (.int x1), .val (.int (own_comb x0 x1)), .val (.int (own_b (¬ ((x0 &&& (1 : Int32)) = 0)))), .val (.int (own_b (¬ ((x1 &&& (1 : Int32)) = 0)))), .val (.int (209 : Int32))] [(.int (0 : Int32)), (.int (own_b (own_freqs (own_comb x0 x1))))])) (fun _ k => XS.iconst X12.here hx rfl (hb hby at_133) k) ?_
                  exact kj _ _ X12 e12 N12 (0 : Int32) ((own_b0 (fun q => hc126 q.2)).symm)
              · show own_E p e below (own_F s 0 0) (own_Q0 Z x0 x1 h0 n0) T10 (mkF m 133 #[.val (.int x0), .val (.int x1), .val (.int (own_comb x0 x1)), .val (.int (own_b (¬ ((x0 &&& (1 : Int32)) = 0)))), .val (.int (own_b (¬ ((x1 &&& (1 : Int32)) = 0)))), .val (.int (209 : Int32))] [(.int (own_b (own_freqs (own_comb x0 x1))))])
                refine own_step (g' := (mkF m 134 #[.val (.int x0), .val (.int x1), .val (.int (own_comb x0 x1)), .val (.int (own_b (¬ ((x0 &&& (1 : Int32)) = 0)))), .val (.int (own_b (¬ ((x1 &&& (1 : Int32)) = 0)))), .val (.int (209 : Int32))] [(.int (0 : Int32)), (.int (own_b (own_freqs (own_comb x0 x1))))])) (fun _ k => XS.iconst X10.here hx rfl (hb hby at_133) k) ?_
                exact kj _ _ X10 e10 N10 (0 : Int32) ((own_b0 (fun q => hc119 q.1)).symm)
            refine kj11 fun T13 L13 X13 e13 N13 z11_0 hz11 => ?_
            subst hz11
            show own_E p e below (own_F s 0 0) (own_Q0 Z x0 x1 h0 n0) T13 (mkF m 134 #[.val (.int x0), .val (.int x1), .val (.int (own_comb x0 x1)), .val (.int (own_b (¬ ((x0 &&& (1 : Int32)) = 0)))), .val (.int (own_b (¬ ((x1 &&& (1 : Int32)) = 0)))), .val (.int (209 : Int32))] [(.int (own_b (own_freqs x0 ∧ own_freqs x1))), (.int (own_b (own_freqs (own_comb x0 x1))))])
            refine own_icY X13 hx (P := ((own_b (own_freqs (own_comb x0 x1))) = (own_b (own_freqs x0 ∧ own_freqs x1)))) (hb hby at_134) (own_i_eq (own_b (own_freqs (own_comb x0 x1))) (own_b (own_freqs x0 ∧ own_freqs x1))) (by decide) (pc1 := 139) (by decide) (fun hc134 => ?_) (fun hc134 => ?_)
            · show own_E p e below (own_F s 0 0) (own_Q0 Z x0 x1 h0 n0) T13 (mkF m 139 #[.val (.int x0), .val (.int x1), .val (.int (own_comb x0 x1)), .val (.int (own_b (¬ ((x0 &&& (1 : Int32)) = 0)))), .val (.int (own_b (¬ ((x1 &&& (1 : Int32)) = 0)))), .val (.int (209 : Int32))] [])
              refine own_step (g' := (mkF m 140 #[.val (.int x0), .val (.int x1), .val (.int (own_comb x0 x1)), .val (.int (own_b (¬ ((x0 &&& (1 : Int32)) = 0)))), .val (.int (own_b (¬ ((x1 &&& (1 : Int32)) = 0)))), .val (.int (209 : Int32))] [(.int (own_comb x0 x1))])) (fun _ k => XS.iloadN X13.here hx rfl (hb hby at_139) rfl k) ?_
              obtain ⟨_, _, ⟨T14, L14, k14, n14⟩, -, X14, ⟨Lc14, hQ14, l14, y14, z14⟩, st14⟩ := Jvm.LawKit.callS X13 hx (y := (⟨"com/example/quern/quern/codec/FieldInfoCombinePinLaw", "positions", "(I)Z"⟩ : MethodName)) hown (mvT hZ (hw _ (List.mem_of_getElem? (i := 11) rfl))) (mvT hZ (hw _ (List.mem_of_getElem? (i := 12) rfl))) (mvT hZ (hw _ (List.mem_of_getElem? (i := 6) rfl))) (mvT hZ (hw _ (List.mem_of_getElem? (i := 13) rfl))) (by decide) (backOf (W := 0) (own_rm4 l Z a0 hw [] (own_comb x0 x1) h0 n0 Z0 ) hZ (hw _ (List.mem_of_getElem? (i := 13) rfl)) (hw _ (List.mem_of_getElem? (i := 6) rfl)) (by decide) (by decide)) (g := (mkF m 140 #[.val (.int x0), .val (.int x1), .val (.int (own_comb x0 x1)), .val (.int (own_b (¬ ((x0 &&& (1 : Int32)) = 0)))), .val (.int (own_b (¬ ((x1 &&& (1 : Int32)) = 0)))), .val (.int (209 : Int32))] [(.int (own_comb x0 x1))])) rfl (by rw [hml]; rfl) (argsL := [(.int (own_comb x0 x1))]) (rest := []) (lenOf own_pd__28I_29Z rfl) rfl (by show 2 * 0 + _ ≤ _; exact Nat.le_of_eq rfl) (hb hby at_140) (fun _ _ => ⟨rfl, e13, (by decide : 0 + 0 ≤ _), (by decide : 0 + 0 ≤ _)⟩)
              dsimp only [Pt.U, Pt.locs, Pt.cells, Pt.slots] at X14 l14 y14 z14 st14 hQ14
              subst l14 y14 z14
              obtain ⟨rfl, Nq14, e14⟩ := hQ14
              have N14 := Fr.app N13 Nq14
              refine own_step (g' := (mkF m 143 #[.val (.int x0), .val (.int x1), .val (.int (own_comb x0 x1)), .val (.int (own_b (¬ ((x0 &&& (1 : Int32)) = 0)))), .val (.int (own_b (¬ ((x1 &&& (1 : Int32)) = 0)))), .val (.int (209 : Int32))] [(.int (own_b (own_pos (own_comb x0 x1))))])) (fun _ k => st14 _ k) ?_
              refine own_step (g' := (mkF m 144 #[.val (.int x0), .val (.int x1), .val (.int (own_comb x0 x1)), .val (.int (own_b (¬ ((x0 &&& (1 : Int32)) = 0)))), .val (.int (own_b (¬ ((x1 &&& (1 : Int32)) = 0)))), .val (.int (209 : Int32))] [(.int x0), (.int (own_b (own_pos (own_comb x0 x1))))])) (fun _ k => XS.iloadN X14.here hx rfl (hb hby at_143) rfl k) ?_
              obtain ⟨_, _, ⟨T15, L15, k15, n15⟩, -, X15, ⟨Lc15, hQ15, l15, y15, z15⟩, st15⟩ := Jvm.LawKit.callS X14 hx (y := (⟨"com/example/quern/quern/codec/FieldInfoCombinePinLaw", "positions", "(I)Z"⟩ : MethodName)) hown (mvT hZ (hw _ (List.mem_of_getElem? (i := 11) rfl))) (mvT hZ (hw _ (List.mem_of_getElem? (i := 12) rfl))) (mvT hZ (hw _ (List.mem_of_getElem? (i := 6) rfl))) (mvT hZ (hw _ (List.mem_of_getElem? (i := 13) rfl))) (by decide) (backOf (W := 1) (own_rm4 l Z a0 hw [] x0 h0 n0 Z0 ) hZ (hw _ (List.mem_of_getElem? (i := 13) rfl)) (hw _ (List.mem_of_getElem? (i := 6) rfl)) (by decide) (by decide)) (g := (mkF m 144 #[.val (.int x0), .val (.int x1), .val (.int (own_comb x0 x1)), .val (.int (own_b (¬ ((x0 &&& (1 : Int32)) = 0)))), .val (.int (own_b (¬ ((x1 &&& (1 : Int32)) = 0)))), .val (.int (209 : Int32))] [(.int x0), (.int (own_b (own_pos (own_comb x0 x1))))])) rfl (by rw [hml]; rfl) (argsL := [(.int x0)]) (rest := [(.int (own_b (own_pos (own_comb x0 x1))))]) (lenOf own_pd__28I_29Z rfl) rfl (by show 2 * 0 + _ ≤ _; exact Nat.le_of_eq rfl) (hb hby at_144) (fun _ _ => ⟨rfl, e14, (by decide : 0 + 0 ≤ _), (by decide : 0 + 0 ≤ _)⟩)
              dsimp only [Pt.U, Pt.locs, Pt.cells, Pt.slots] at X15 l15 y15 z15 st15 hQ15
              subst l15 y15 z15
              obtain ⟨rfl, Nq15, e15⟩ := hQ15
              have N15 := Fr.app N14 Nq15
              refine own_step (g' := (mkF m 147 #[.val (.int x0), .val (.int x1), .val (.int (own_comb x0 x1)), .val (.int (own_b (¬ ((x0 &&& (1 : Int32)) = 0)))), .val (.int (own_b (¬ ((x1 &&& (1 : Int32)) = 0)))), .val (.int (209 : Int32))] [(.int (own_b (own_pos x0))), (.int (own_b (own_pos (own_comb x0 x1))))])) (fun _ k => st15 _ k) ?_
              have kj16 : (∀ (T' : State) (L' : List Loc), Stand p l e room_1 s m #[(.int x0), (.int x1)] below meth c T' L' 0 0 → T'.heap = h0 → Fr n0 L' → ∀ (z16_0 : Int32), z16_0 = (own_b (own_pos x0 ∧ own_pos x1)) → own_E p e below (own_F s 0 0) (own_Q0 Z x0 x1 h0 n0) T' (mkF m 162 #[.val (.int x0), .val (.int x1), .val (.int (own_comb x0 x1)), .val (.int (own_b (¬ ((x0 &&& (1 : Int32)) = 0)))), .val (.int (own_b (¬ ((x1 &&& (1 : Int32)) = 0)))), .val (.int (209 : Int32))] [(.int z16_0), (.int (own_b (own_pos (own_comb x0 x1))))])) → own_E p e below (own_F s 0 0) (own_Q0 Z x0 x1 h0 n0) T15 (mkF m 147 #[.val (.int x0), .val (.int x1), .val (.int (own_comb x0 x1)), .val (.int (own_b (¬ ((x0 &&& (1 : Int32)) = 0)))), .val (.int (own_b (¬ ((x1 &&& (1 : Int32)) = 0)))), .val (.int (209 : Int32))] [(.int (own_b (own_pos x0))), (.int (own_b (own_pos (own_comb x0 x1))))]) := by
                intro kj
                refine own_ifN X15 hx (P := (own_pos x0)) (hb hby at_147) (own_b_eq (own_pos x0)) (by decide) (pc1 := 161) (by decide) (fun hc147 => ?_) (fun hc147 => ?_)
                · show own_E p e below (own_F s 0 0) (own_Q0 Z x0 x1 h0 n0) T15 (mkF m 150 #[.val (.int x0), .val (.int x1), .val (.int (own_comb x0 x1)), .val (.int (own_b (¬ ((x0 &&& (1 : Int32)) = 0)))), .val (.int (own_b (¬ ((x1 &&& (1 : Int32)) = 0)))), .val (.int (209 : Int32))] [(.int (own_b (own_pos (own_comb x0 x1))))])
                  refine own_step (g' := (mkF m 151 #[.val (.int x0), .val (.int x1), .val (.int (own_comb x0 x1)), .val (.int (own_b (¬ ((x0 &&& (1 : Int32)) = 0)))), .val (.int (own_b (¬ ((x1 &&& (1 : Int32)) = 0)))), .val (.int (209 : Int32))] [(.int x1), (.int (own_b (own_pos (own_comb x0 x1))))])) (fun _ k => XS.iloadN X15.here hx rfl (hb hby at_150) rfl k) ?_
                  obtain ⟨_, _, ⟨T17, L17, k17, n17⟩, -, X17, ⟨Lc17, hQ17, l17, y17, z17⟩, st17⟩ := Jvm.LawKit.callS X15 hx (y := (⟨"com/example/quern/quern/codec/FieldInfoCombinePinLaw", "positions", "(I)Z"⟩ : MethodName)) hown (mvT hZ (hw _ (List.mem_of_getElem? (i := 11) rfl))) (mvT hZ (hw _ (List.mem_of_getElem? (i := 12) rfl))) (mvT hZ (hw _ (List.mem_of_getElem? (i := 6) rfl))) (mvT hZ (hw _ (List.mem_of_getElem? (i := 13) rfl))) (by decide) (backOf (W := 1) (own_rm4 l Z a0 hw [] x1 h0 n0 Z0 ) hZ (hw _ (List.mem_of_getElem? (i := 13) rfl)) (hw _ (List.mem_of_getElem? (i := 6) rfl)) (by decide) (by decide)) (g := (mkF m 151 #[.val (.int x0), .val (.int x1), .val (.int (own_comb x0 x1)), .val (.int (own_b (¬ ((x0 &&& (1 : Int32)) = 0)))), .val (.int (own_b (¬ ((x1 &&& (1 : Int32)) = 0)))), .val (.int (209 : Int32))] [(.int x1), (.int (own_b (own_pos (own_comb x0 x1))))])) rfl (by rw [hml]; rfl) (argsL := [(.int x1)]) (rest := [(.int (own_b (own_pos (own_comb x0 x1))))]) (lenOf own_pd__28I_29Z rfl) rfl (by show 2 * 0 + _ ≤ _; exact Nat.le_of_eq rfl) (hb hby at_151) (fun _ _ => ⟨rfl, e15, (by decide : 0 + 0 ≤ _), (by decide : 0 + 0 ≤ _)⟩)
                  dsimp only [Pt.U, Pt.locs, Pt.cells, Pt.slots] at X17 l17 y17 z17 st17 hQ17
                  subst l17 y17 z17
                  obtain ⟨rfl, Nq17, e17⟩ := hQ17
                  have N17 := Fr.app N15 Nq17
                  refine own_step (g' := (mkF m 154 #[.val (.int x0), .val (.int x1), .val (.int (own_comb x0 x1)), .val (.int (own_b (¬ ((x0 &&& (1 : Int32)) = 0)))), .val (.int (own_b (¬ ((x1 &&& (1 : Int32)) = 0)))), .val (.int (209 : Int32))] [(.int (own_b (own_pos x1))), (.int (own_b (own_pos (own_comb x0 x1))))])) (fun _ k => st17 _ k) ?_
                  refine own_ifN X17 hx (P := (own_pos x1)) (hb hby at_154) (own_b_eq (own_pos x1)) (by decide) (pc1 := 161) (by decide) (fun hc154 => ?_) (fun hc154 => ?_)
                  · show own_E p e below (own_F s 0 0) (own_Q0 Z x0 x1 h0 n0) T17 (mkF m 157 #[.val (.int x0), .val (.int x1), .val (.int (own_comb x0 x1)), .val (.int (own_b (¬ ((x0 &&& (1 : Int32)) = 0)))), .val (.int (own_b (¬ ((x1 &&& (1 : Int32)) = 0)))), .val (.int (209 : Int32))] [(.int (own_b (own_pos (own_comb x0 x1))))])
                    refine own_step (g' := (mkF m 158 #[.val (.int x0), .val (.int x1), .val (.int (own_comb x0 x1)), .val (.int (own_b (¬ ((x0 &&& (1 : Int32)) = 0)))), .val (.int (own_b (¬ ((x1 &&& (1 : Int32)) = 0)))), .val (.int (209 : Int32))] [(.int (1 : Int32)), (.int (own_b (own_pos (own_comb x0 x1))))])) (fun _ k => XS.iconst X17.here hx rfl (hb hby at_157) k) ?_
                    refine own_step (g' := (mkF m 162 #[.val (.int x0), .val (.int x1), .val (.int (own_comb x0 x1)), .val (.int (own_b (¬ ((x0 &&& (1 : Int32)) = 0)))), .val (.int (own_b (¬ ((x1 &&& (1 : Int32)) = 0)))), .val (.int (209 : Int32))] [(.int (1 : Int32)), (.int (own_b (own_pos (own_comb x0 x1))))])) (fun _ k => XS.goto X17.here hx rfl (pc0 := 158) (pc' := 162) rfl (hb hby at_158) (by decide) (by decide) k) ?_
                    exact kj _ _ X17 e17 N17 (1 : Int32) ((own_b1 ⟨hc147, hc154⟩).symm)
                  · show own_E p e below (own_F s 0 0) (own_Q0 Z x0 x1 h0 n0) T17 (mkF m 161 #[.val (.int x0), .val (.int x1), .val (.int (own_comb x0 x1)), .val (.int (own_b (¬ ((x0 &&& (1 : Int32)) = 0)))), .val (.int (own_b (¬ ((x1 &&& (1 : Int32)) = 0)))), .val (.int (209 : Int32))] [(.int (own_b (own_pos (own_comb x0 x1))))])
                    refine own_step (g' := (mkF m 162 #[.val (.int x0), .val (.int x1), .val (.int (own_comb x0 x1)), .val (.int (own_b (¬ ((x0 &&& (1 : Int32)) = 0)))), .val (.int (own_b (¬ ((x1 &&& (1 : Int32)) = 0)))), .val (.int (209 : Int32))] [(.int (0 : Int32)), (.int (own_b (own_pos (own_comb x0 x1))))])) (fun _ k => XS.iconst X17.here hx rfl (hb hby at_161) k) ?_
                    exact kj _ _ X17 e17 N17 (0 : Int32) ((own_b0 (fun q => hc154 q.2)).symm)
                · show own_E p e below (own_F s 0 0) (own_Q0 Z x0 x1 h0 n0) T15 (mkF m 161 #[.val (.int x0), .val (.int x1), .val (.int (own_comb x0 x1)), .val (.int (own_b (¬ ((x0 &&& (1 : Int32)) = 0)))), .val (.int (own_b (¬ ((x1 &&& (1 : Int32)) = 0)))), .val (.int (209 : Int32))] [(.int (own_b (own_pos (own_comb x0 x1))))])
                  refine own_step (g' := (mkF m 162 #[.val (.int x0), .val (.int x1), .val (.int (own_comb x0 x1)), .val (.int (own_b (¬ ((x0 &&& (1 : Int32)) = 0)))), .val (.int (own_b (¬ ((x1 &&& (1 : Int32)) = 0)))), .val (.int (209 : Int32))] [(.int (0 : Int32)), (.int (own_b (own_pos (own_comb x0 x1))))])) (fun _ k => XS.iconst X15.here hx rfl (hb hby at_161) k) ?_
                  exact kj _ _ X15 e15 N15 (0 : Int32) ((own_b0 (fun q => hc147 q.1)).symm)
              refine kj16 fun T18 L18 X18 e18 N18 z16_0 hz16 => ?_
              subst hz16
              show own_E p e below (own_F s 0 0) (own_Q0 Z x0 x1 h0 n0) T18 (mkF m 162 #[.val (.int x0), .val (.int x1), .val (.int (own_comb x0 x1)), .val (.int (own_b (¬ ((x0 &&& (1 : Int32)) = 0)))), .val (.int (own_b (¬ ((x1 &&& (1 : Int32)) = 0)))), .val (.int (209 : Int32))] [(.int (own_b (own_pos x0 ∧ own_pos x1))), (.int (own_b (own_pos (own_comb x0 x1))))])
              refine own_icY X18 hx (P := ((own_b (own_pos (own_comb x0 x1))) = (own_b (own_pos x0 ∧ own_pos x1)))) (hb hby at_162) (own_i_eq (own_b (own_pos (own_comb x0 x1))) (own_b (own_pos x0 ∧ own_pos x1))) (by decide) (pc1 := 167) (by decide) (fun hc162 => ?_) (fun hc162 => ?_)
              · show own_E p e below (own_F s 0 0) (own_Q0 Z x0 x1 h0 n0) T18 (mkF m 167 #[.val (.int x0), .val (.int x1), .val (.int (own_comb x0 x1)), .val (.int (own_b (¬ ((x0 &&& (1 : Int32)) = 0)))), .val (.int (own_b (¬ ((x1 &&& (1 : Int32)) = 0)))), .val (.int (209 : Int32))] [])
                refine own_step (g' := (mkF m 168 #[.val (.int x0), .val (.int x1), .val (.int (own_comb x0 x1)), .val (.int (own_b (¬ ((x0 &&& (1 : Int32)) = 0)))), .val (.int (own_b (¬ ((x1 &&& (1 : Int32)) = 0)))), .val (.int (209 : Int32))] [(.int (own_comb x0 x1))])) (fun _ k => XS.iloadN X18.here hx rfl (hb hby at_167) rfl k) ?_
                obtain ⟨_, _, ⟨T19, L19, k19, n19⟩, -, X19, ⟨Lc19, hQ19, l19, y19, z19⟩, st19⟩ := Jvm.LawKit.callS X18 hx (y := (⟨"com/example/quern/quern/codec/FieldInfoCombinePinLaw", "freqs", "(I)Z"⟩ : MethodName)) hown (mvT hZ (hw _ (List.mem_of_getElem? (i := 8) rfl))) (mvT hZ (hw _ (List.mem_of_getElem? (i := 9) rfl))) (mvT hZ (hw _ (List.mem_of_getElem? (i := 6) rfl))) (mvT hZ (hw _ (List.mem_of_getElem? (i := 10) rfl))) (by decide) (backOf (W := 0) (own_rm3 l Z a0 hw [] (own_comb x0 x1) h0 n0 Z0 ) hZ (hw _ (List.mem_of_getElem? (i := 10) rfl)) (hw _ (List.mem_of_getElem? (i := 6) rfl)) (by decide) (by decide)) (g := (mkF m 168 #[.val (.int x0), .val (.int x1), .val (.int (own_comb x0 x1)), .val (.int (own_b (¬ ((x0 &&& (1 : Int32)) = 0)))), .val (.int (own_b (¬ ((x1 &&& (1 : Int32)) = 0)))), .val (.int (209 : Int32))] [(.int (own_comb x0 x1))])) rfl (by rw [hml]; rfl) (argsL := [(.int (own_comb x0 x1))]) (rest := []) (lenOf own_pd__28I_29Z rfl) rfl (by show 2 * 0 + _ ≤ _; exact Nat.le_of_eq rfl) (hb hby at_168) (fun _ _ => ⟨rfl, e18, (by decide : 0 + 0 ≤ _), (by decide : 0 + 0 ≤ _)⟩)
                dsimp only [Pt.U, Pt.locs, Pt.cells, Pt.slots] at X19 l19 y19 z19 st19 hQ19
                subst l19 y19 z19
                obtain ⟨rfl, Nq19, e19⟩ := hQ19
                have N19 := Fr.app N18 Nq19
                refine own_step (g' := (mkF m 171 #[.val (.int x0), .val (.int x1), .val (.int (own_comb x0 x1)), .val (.int (own_b (¬ ((x0 &&& (1 : Int32)) = 0)))), .val (.int (own_b (¬ ((x1 &&& (1 : Int32)) = 0)))), .val (.int (209 : Int32))] [(.int (own_b (own_freqs (own_comb x0 x1))))])) (fun _ k => st19 _ k) ?_
                refine own_ifY X19 hx (P := (own_freqs (own_comb x0 x1))) (hb hby at_171) (own_b_ne (own_freqs (own_comb x0 x1))) (by decide) (pc1 := 184) (by decide) (fun hc171 => ?_) (fun hc171 => ?_)
                · show own_E p e below (own_F s 0 0) (own_Q0 Z x0 x1 h0 n0) T19 (mkF m 184 #[.val (.int x0), .val (.int x1), .val (.int (own_comb x0 x1)), .val (.int (own_b (¬ ((x0 &&& (1 : Int32)) = 0)))), .val (.int (own_b (¬ ((x1 &&& (1 : Int32)) = 0)))), .val (.int (209 : Int32))] [])
                  refine own_step (g' := (mkF m 185 #[.val (.int x0), .val (.int x1), .val (.int (own_comb x0 x1)), .val (.int (own_b (¬ ((x0 &&& (1 : Int32)) = 0)))), .val (.int (own_b (¬ ((x1 &&& (1 : Int32)) = 0)))), .val (.int (209 : Int32))] [(.int (1 : Int32))])) (fun _ k => XS.iconst X19.here hx rfl (hb hby at_184) k) ?_
                  exact own_retI X19 hx hlk hret (by simp) (hb hby at_185) rfl (by decide) (by decide) (by show own_Q0 Z x0 x1 h0 n0 (some (.int (1 : Int32))) T19.heap _; rw [e19]; exact ⟨rfl, N19⟩)
                · show own_E p e below (own_F s 0 0) (own_Q0 Z x0 x1 h0 n0) T19 (mkF m 174 #[.val (.int x0), .val (.int x1), .val (.int (own_comb x0 x1)), .val (.int (own_b (¬ ((x0 &&& (1 : Int32)) = 0)))), .val (.int (own_b (¬ ((x1 &&& (1 : Int32)) = 0)))), .val (.int (209 : Int32))] [])
                  refine own_step (g' := (mkF m 175 #[.val (.int x0), .val (.int x1), .val (.int (own_comb x0 x1)), .val (.int (own_b (¬ ((x0 &&& (1 : Int32)) = 0)))), .val (.int (own_b (¬ ((x1 &&& (1 : Int32)) = 0)))), .val (.int (209 : Int32))] [(.int (own_comb x0 x1))])) (fun _ k => XS.iloadN X19.here hx rfl (hb hby at_174) rfl k) ?_
                  refine own_step (g' := (mkF m 178 #[.val (.int x0), .val (.int x1), .val (.int (own_comb x0 x1)), .val (.int (own_b (¬ ((x0 &&& (1 : Int32)) = 0)))), .val (.int (own_b (¬ ((x1 &&& (1 : Int32)) = 0)))), .val (.int (209 : Int32))] [(.int (128 : Int32)), (.int (own_comb x0 x1))])) (fun _ k => XS.sipush X19.here hx rfl (hb hby at_175) k) ?_
                  refine own_step (g' := (mkF m 179 #[.val (.int x0), .val (.int x1), .val (.int (own_comb x0 x1)), .val (.int (own_b (¬ ((x0 &&& (1 : Int32)) = 0)))), .val (.int (own_b (¬ ((x1 &&& (1 : Int32)) = 0)))), .val (.int (209 : Int32))] [(.int ((own_comb x0 x1) &&& (128 : Int32)))])) (fun _ k => XS.iand X19.here hx rfl (hb hby at_178) rfl k) ?_
                  refine own_ifY X19 hx (P := (((own_comb x0 x1) &&& (128 : Int32)) = 0)) (hb hby at_179) (own_z_eq ((own_comb x0 x1) &&& (128 : Int32))) (by decide) (pc1 := 184) (by decide) (fun hc179 => ?_) (fun hc179 => ?_)
                  · show own_E p e below (own_F s 0 0) (own_Q0 Z x0 x1 h0 n0) T19 (mkF m 184 #[.val (.int x0), .val (.int x1), .val (.int (own_comb x0 x1)), .val (.int (own_b (¬ ((x0 &&& (1 : Int32)) = 0)))), .val (.int (own_b (¬ ((x1 &&& (1 : Int32)) = 0)))), .val (.int (209 : Int32))] [])
                    refine own_step (g' := (mkF m 185 #[.val (.int x0), .val (.int x1), .val (.int (own_comb x0 x1)), .val (.int (own_b (¬ ((x0 &&& (1 : Int32)) = 0)))), .val (.int (own_b (¬ ((x1 &&& (1 : Int32)) = 0)))), .val (.int (209 : Int32))] [(.int (1 : Int32))])) (fun _ k => XS.iconst X19.here hx rfl (hb hby at_184) k) ?_
                    exact own_retI X19 hx hlk hret (by simp) (hb hby at_185) rfl (by decide) (by decide) (by show own_Q0 Z x0 x1 h0 n0 (some (.int (1 : Int32))) T19.heap _; rw [e19]; exact ⟨rfl, N19⟩)
                  · show own_E p e below (own_F s 0 0) (own_Q0 Z x0 x1 h0 n0) T19 (mkF m 182 #[.val (.int x0), .val (.int x1), .val (.int (own_comb x0 x1)), .val (.int (own_b (¬ ((x0 &&& (1 : Int32)) = 0)))), .val (.int (own_b (¬ ((x1 &&& (1 : Int32)) = 0)))), .val (.int (209 : Int32))] [])
                    exact absurd (own_l6 x0 x1 hc32 hc37 hc171) hc179
              · show own_E p e below (own_F s 0 0) (own_Q0 Z x0 x1 h0 n0) T18 (mkF m 165 #[.val (.int x0), .val (.int x1), .val (.int (own_comb x0 x1)), .val (.int (own_b (¬ ((x0 &&& (1 : Int32)) = 0)))), .val (.int (own_b (¬ ((x1 &&& (1 : Int32)) = 0)))), .val (.int (209 : Int32))] [])
                exact absurd (own_l5 x0 x1 hc32 hc37) hc162
            · show own_E p e below (own_F s 0 0) (own_Q0 Z x0 x1 h0 n0) T13 (mkF m 137 #[.val (.int x0), .val (.int x1), .val (.int (own_comb x0 x1)), .val (.int (own_b (¬ ((x0 &&& (1 : Int32)) = 0)))), .val (.int (own_b (¬ ((x1 &&& (1 : Int32)) = 0)))), .val (.int (209 : Int32))] [])
              exact absurd (own_l4 x0 x1 hc32 hc37) hc134
          · show own_E p e below (own_F s 0 0) (own_Q0 Z x0 x1 h0 n0) T8 (mkF m 109 #[.val (.int x0), .val (.int x1), .val (.int (own_comb x0 x1)), .val (.int (own_b (¬ ((x0 &&& (1 : Int32)) = 0)))), .val (.int (own_b (¬ ((x1 &&& (1 : Int32)) = 0)))), .val (.int (209 : Int32))] [])
            exact absurd (own_l3 x0 x1 hc32 hc37) hc106
      · show own_E p e below (own_F s 0 0) (own_Q0 Z x0 x1 h0 n0) T1 (mkF m 73 #[.val (.int x0), .val (.int x1), .val (.int (own_comb x0 x1)), .val (.int (own_b (¬ ((x0 &&& (1 : Int32)) = 0)))), .val (.int (own_b (¬ ((x1 &&& (1 : Int32)) = 0)))), .val (.int (209 : Int32))] [])
        exact absurd (own_l1 x0 x1 hc32 hc37) hc70
    · show own_E p e below (own_F s 0 0) (own_Q0 Z x0 x1 h0 n0) T1 (mkF m 40 #[.val (.int x0), .val (.int x1), .val (.int (own_comb x0 x1)), .val (.int (own_b (¬ ((x0 &&& (1 : Int32)) = 0)))), .val (.int (own_b (¬ ((x1 &&& (1 : Int32)) = 0)))), .unset] [])
      refine own_step (g' := (mkF m 41 #[.val (.int x0), .val (.int x1), .val (.int (own_comb x0 x1)), .val (.int (own_b (¬ ((x0 &&& (1 : Int32)) = 0)))), .val (.int (own_b (¬ ((x1 &&& (1 : Int32)) = 0)))), .unset] [(.int (own_comb x0 x1))])) (fun _ k => XS.iloadN X1.here hx rfl (hb hby at_40) rfl k) ?_
      refine own_step (g' := (mkF m 42 #[.val (.int x0), .val (.int x1), .val (.int (own_comb x0 x1)), .val (.int (own_b (¬ ((x0 &&& (1 : Int32)) = 0)))), .val (.int (own_b (¬ ((x1 &&& (1 : Int32)) = 0)))), .unset] [(.int (own_b (¬ ((x0 &&& (1 : Int32)) = 0)))), (.int (own_comb x0 x1))])) (fun _ k => XS.iloadN X1.here hx rfl (hb hby at_41) rfl k) ?_
      refine own_ifN X1 hx (P := (¬ ((x0 &&& (1 : Int32)) = 0))) (hb hby at_42) (own_b_eq (¬ ((x0 &&& (1 : Int32)) = 0))) (by decide) (pc1 := 49) (by decide) (fun hc42 => ?_) (fun hc42 => ?_)
      · show own_E p e below (own_F s 0 0) (own_Q0 Z x0 x1 h0 n0) T1 (mkF m 45 #[.val (.int x0), .val (.int x1), .val (.int (own_comb x0 x1)), .val (.int (own_b (¬ ((x0 &&& (1 : Int32)) = 0)))), .val (.int (own_b (¬ ((x1 &&& (1 : Int32)) = 0)))), .unset] [(.int (own_comb x0 x1))])
        refine own_step (g' := (mkF m 46 #[.val (.int x0), .val (.int x1), .val (.int (own_comb x0 x1)), .val (.int (own_b (¬ ((x0 &&& (1 : Int32)) = 0)))), .val (.int (own_b (¬ ((x1 &&& (1 : Int32)) = 0)))), .unset] [(.int x0), (.int (own_comb x0 x1))])) (fun _ k => XS.iloadN X1.here hx rfl (hb hby at_45) rfl k) ?_
        refine own_step (g' := (mkF m 50 #[.val (.int x0), .val (.int x1), .val (.int (own_comb x0 x1)), .val (.int (own_b (¬ ((x0 &&& (1 : Int32)) = 0)))), .val (.int (own_b (¬ ((x1 &&& (1 : Int32)) = 0)))), .unset] [(.int x0), (.int (own_comb x0 x1))])) (fun _ k => XS.goto X1.here hx rfl (pc0 := 46) (pc' := 50) rfl (hb hby at_46) (by decide) (by decide) k) ?_
        refine own_icN X1 hx (P := ((own_comb x0 x1) = x0)) (hb hby at_50) (own_i_ne (own_comb x0 x1) x0) (by decide) (pc1 := 57) (by decide) (fun hc50 => ?_) (fun hc50 => ?_)
        · show own_E p e below (own_F s 0 0) (own_Q0 Z x0 x1 h0 n0) T1 (mkF m 53 #[.val (.int x0), .val (.int x1), .val (.int (own_comb x0 x1)), .val (.int (own_b (¬ ((x0 &&& (1 : Int32)) = 0)))), .val (.int (own_b (¬ ((x1 &&& (1 : Int32)) = 0)))), .unset] [])
          refine own_step (g' := (mkF m 54 #[.val (.int x0), .val (.int x1), .val (.int (own_comb x0 x1)), .val (.int (own_b (¬ ((x0 &&& (1 : Int32)) = 0)))), .val (.int (own_b (¬ ((x1 &&& (1 : Int32)) = 0)))), .unset] [(.int (1 : Int32))])) (fun _ k => XS.iconst X1.here hx rfl (hb hby at_53) k) ?_
          refine own_step (g' := (mkF m 58 #[.val (.int x0), .val (.int x1), .val (.int (own_comb x0 x1)), .val (.int (own_b (¬ ((x0 &&& (1 : Int32)) = 0)))), .val (.int (own_b (¬ ((x1 &&& (1 : Int32)) = 0)))), .unset] [(.int (1 : Int32))])) (fun _ k => XS.goto X1.here hx rfl (pc0 := 54) (pc' := 58) rfl (hb hby at_54) (by decide) (by decide) k) ?_
          exact own_retI X1 hx hlk hret (by simp) (hb hby at_58) rfl (by decide) (by decide) (by show own_Q0 Z x0 x1 h0 n0 (some (.int (1 : Int32))) T1.heap _; rw [e1]; exact ⟨rfl, N1⟩)
        · show own_E p e below (own_F s 0 0) (own_Q0 Z x0 x1 h0 n0) T1 (mkF m 57 #[.val (.int x0), .val (.int x1), .val (.int (own_comb x0 x1)), .val (.int (own_b (¬ ((x0 &&& (1 : Int32)) = 0)))), .val (.int (own_b (¬ ((x1 &&& (1 : Int32)) = 0)))), .unset] [])
          exact absurd (by simp only [own_comb, if_pos hc32, if_neg hc37, if_pos hc42]) hc50
      · exact absurd hc32 hc42
  · show own_E p e below (own_F s 0 0) (own_Q0 Z x0 x1 h0 n0) T1 (mkF m 40 #[.val (.int x0), .val (.int x1), .val (.int (own_comb x0 x1)), .val (.int (own_b (¬ ((x0 &&& (1 : Int32)) = 0)))), .val (.int (own_b (¬ ((x1 &&& (1 : Int32)) = 0)))), .unset] [])
    refine own_step (g' := (mkF m 41 #[.val (.int x0), .val (.int x1), .val (.int (own_comb x0 x1)), .val (.int (own_b (¬ ((x0 &&& (1 : Int32)) = 0)))), .val (.int (own_b (¬ ((x1 &&& (1 : Int32)) = 0)))), .unset] [(.int (own_comb x0 x1))])) (fun _ k => XS.iloadN X1.here hx rfl (hb hby at_40) rfl k) ?_
    refine own_step (g' := (mkF m 42 #[.val (.int x0), .val (.int x1), .val (.int (own_comb x0 x1)), .val (.int (own_b (¬ ((x0 &&& (1 : Int32)) = 0)))), .val (.int (own_b (¬ ((x1 &&& (1 : Int32)) = 0)))), .unset] [(.int (own_b (¬ ((x0 &&& (1 : Int32)) = 0)))), (.int (own_comb x0 x1))])) (fun _ k => XS.iloadN X1.here hx rfl (hb hby at_41) rfl k) ?_
    refine own_ifN X1 hx (P := (¬ ((x0 &&& (1 : Int32)) = 0))) (hb hby at_42) (own_b_eq (¬ ((x0 &&& (1 : Int32)) = 0))) (by decide) (pc1 := 49) (by decide) (fun hc42 => ?_) (fun hc42 => ?_)
    · exact absurd hc42 hc32
    · show own_E p e below (own_F s 0 0) (own_Q0 Z x0 x1 h0 n0) T1 (mkF m 49 #[.val (.int x0), .val (.int x1), .val (.int (own_comb x0 x1)), .val (.int (own_b (¬ ((x0 &&& (1 : Int32)) = 0)))), .val (.int (own_b (¬ ((x1 &&& (1 : Int32)) = 0)))), .unset] [(.int (own_comb x0 x1))])
      refine own_step (g' := (mkF m 50 #[.val (.int x0), .val (.int x1), .val (.int (own_comb x0 x1)), .val (.int (own_b (¬ ((x0 &&& (1 : Int32)) = 0)))), .val (.int (own_b (¬ ((x1 &&& (1 : Int32)) = 0)))), .unset] [(.int x1), (.int (own_comb x0 x1))])) (fun _ k => XS.iloadN X1.here hx rfl (hb hby at_49) rfl k) ?_
      refine own_icN X1 hx (P := ((own_comb x0 x1) = x1)) (hb hby at_50) (own_i_ne (own_comb x0 x1) x1) (by decide) (pc1 := 57) (by decide) (fun hc50 => ?_) (fun hc50 => ?_)
      · show own_E p e below (own_F s 0 0) (own_Q0 Z x0 x1 h0 n0) T1 (mkF m 53 #[.val (.int x0), .val (.int x1), .val (.int (own_comb x0 x1)), .val (.int (own_b (¬ ((x0 &&& (1 : Int32)) = 0)))), .val (.int (own_b (¬ ((x1 &&& (1 : Int32)) = 0)))), .unset] [])
        refine own_step (g' := (mkF m 54 #[.val (.int x0), .val (.int x1), .val (.int (own_comb x0 x1)), .val (.int (own_b (¬ ((x0 &&& (1 : Int32)) = 0)))), .val (.int (own_b (¬ ((x1 &&& (1 : Int32)) = 0)))), .unset] [(.int (1 : Int32))])) (fun _ k => XS.iconst X1.here hx rfl (hb hby at_53) k) ?_
        refine own_step (g' := (mkF m 58 #[.val (.int x0), .val (.int x1), .val (.int (own_comb x0 x1)), .val (.int (own_b (¬ ((x0 &&& (1 : Int32)) = 0)))), .val (.int (own_b (¬ ((x1 &&& (1 : Int32)) = 0)))), .unset] [(.int (1 : Int32))])) (fun _ k => XS.goto X1.here hx rfl (pc0 := 54) (pc' := 58) rfl (hb hby at_54) (by decide) (by decide) k) ?_
        exact own_retI X1 hx hlk hret (by simp) (hb hby at_58) rfl (by decide) (by decide) (by show own_Q0 Z x0 x1 h0 n0 (some (.int (1 : Int32))) T1.heap _; rw [e1]; exact ⟨rfl, N1⟩)
      · show own_E p e below (own_F s 0 0) (own_Q0 Z x0 x1 h0 n0) T1 (mkF m 57 #[.val (.int x0), .val (.int x1), .val (.int (own_comb x0 x1)), .val (.int (own_b (¬ ((x0 &&& (1 : Int32)) = 0)))), .val (.int (own_b (¬ ((x1 &&& (1 : Int32)) = 0)))), .unset] [])
        exact absurd (by simp only [own_comb, if_neg hc32, if_neg hc42]) hc50
set_option maxRecDepth 65536 in
set_option maxHeartbeats 40000000 in
theorem own_comes {Post : Tables → Env → Array Value → State → Outcome → State → Prop} (hpost : ∀ tb e args s v u, (limb_1_1.after args s (.returned v) u = true ∧ limb_1_2.after args s (.returned v) u = true ∧ True) → FrameEnd s (.returned v) u (Jvm.fieldLocs frame_1_writes args s ++ Jvm.arrayLocs frame_1_arrays args s ++ Jvm.staticLocs frame_1_statics s) 0 0 → Post tb e args s (.returned v) u) :
    ArmFor flags0 classFile x code maxLocals ret World_1 tables_1 room_1 Calls_1 rest_1 Pre_1 Post := by
  intro l hfl _ _ p e ha hc hk s m args below hf hA hF happ hP
  obtain ⟨hcalls, hrest, hpre⟩ := hP
  obtain ⟨-, -, -, hnamed, -, -, -, hat⟩ := (Spec.applies_iff hf).mp happ
  obtain ⟨hg, hn⟩ := and_e (Cond.before_iff.mp (show (Jvm.Cond.and given_1 narrow_1).before args s = true from hpre))
  obtain ⟨q0, r0⟩ := and_e hg
  obtain ⟨q1, r1⟩ := and_e r0
  obtain ⟨w0, w1, rfl⟩ : ∃ w0 w1 : Value, args = #[w0, w1] := by
    have hs : args.size = 2 := by simpa [Cond.value, given_1] using q0
    obtain ⟨L⟩ := args
    match L, hs with
    | [w0, w1], _ => exact ⟨w0, w1, rfl⟩
  have hw := fun d (hd : d ∈ tables_1) => atoms_spec (ws := Jvm.Cond.code x code maxLocals ret :: tables_1) hat d (List.mem_cons_of_mem _ hd)
  obtain ⟨i0, ei0⟩ := is_v q1
  obtain rfl : w0 = (.int i0) := Option.some.inj ei0
  obtain ⟨i1, ei1⟩ := is_v r1
  obtain rfl : w1 = (.int i1) := Option.some.inj ei1
  obtain ⟨n, o, h1, h2, h3, _, L, rfl, ⟨rfl, N⟩, hq⟩ := own_rm0 l s _ hw tables_1 i0 i1 s.heap s.heap.size (Nat.le_refl _) p e ha hc hk s m _ below hf ((Spec.applies_iff_loose hf).mp happ).1 ⟨rfl, State.Warmed39.refl s, rfl⟩ trivial
  refine ⟨n, _, h1, h2, h3, hpost _ _ _ _ _ _ ⟨Cond.after_iff.mpr rfl, Cond.after_iff.mpr (eq_i res_at (Term.int_eval (1)) rfl), trivial⟩ ⟨hq.1, hq.2.1, (hq.2.2.sift fun y hy => Or.inr (N y hy)).mono (by decide) (by decide)⟩⟩
theorem main_1_1 : Claimed_1_1 := own_comes fun _ _ _ _ _ _ h hF => ⟨h.1, hF⟩
theorem main_1_2 : Claimed_1_2 := own_comes fun _ _ _ _ _ _ h hF => ⟨h.2.1, hF⟩
end Jvm.Pilot.@@N@@
namespace Jvm.Pilot.@@N@@
open Jvm Jvm.ClassFile Sem Op Lib Jvm.Free Jvm.Stand Jvm.Pilot.@@N@@.Jvm.D
/-! MADE BY PROGRAM (witnessworld.py) out of the Statement's table words and the real class files: 10 classes; the members and pool entries that the words name. The judged class is class 1, her method 4. -/
namespace start1
open Jvm.ClassFile
def u (s : String) : CpInfo := .utf8 (stringToUtf16 s)
/-- a pool by its gaps: so many unusable entries, then the entry; so many at the end -/
def gap : Nat → List CpInfo → List CpInfo
  | 0, r => r
  | n + 1, r => .unusable :: gap n r
def poolList (es : List (Nat × CpInfo)) (last : Nat) : List CpInfo := es.foldr (fun e r => gap e.1 (e.2 :: r)) (gap last [])
def pool (es : List (Nat × CpInfo)) (last : Nat) : Array CpInfo := ⟨poolList es last⟩
def fileOf (pool : Array CpInfo) (this : Nat) (attrs : Array Attribute := #[]) (ms : Array MethodInfo := #[]) (fl : Nat := 33) (sup : Nat := 0) (ifs : Array Nat := #[]) (fds : Array FieldInfo := #[]) : ClassFile where
  minorVersion := 0
  majorVersion := 65
  constantPool := pool
  accessFlags := fl
  thisClass := this
  superClass := sup
  interfaces := ifs
  fields := fds
  methods := ms
  attributes := attrs
def plain (name : String) (sup : Option ClassId) : Class where
  name := name
  kind := .ordinary
  loader := none
  accessFlags := 33
  super := sup
  interfaces := #[]
  cf := none
  fields := #[]
  methods := #[]
  instanceTypes := #[]
  staticTypes := #[]
  resolved := #[]
  callSites := []
  init := .initialized
  statics := none
  mirror := none

def pool0 : Array CpInfo := pool [(5, u "<init>"), (0, u "()V"), (1, .class_ 10), (1, u "java/lang/Object")] 113

def k0m0 : Method := { name := "<init>", desc := "()V", sig := { parameters := [], returnType := none }, accessFlags := 1, code := none }
/-- java/lang/Object -/
def k0 : Class := { plain "java/lang/Object" none with
  accessFlags := 33
  interfaces := #[]
  cf := some (fileOf pool0 8 #[] #[{ accessFlags := 1, nameIndex := 5, descriptorIndex := 6, attributes := #[] }] 33 0 #[] #[])
  fields := #[]
  methods := #[k0m0]
  instanceTypes := #[]
  staticTypes := #[]
  resolved := Array.replicate 124 none
  statics := none }

def pool1 : Array CpInfo := pool [(2, .class_ 4), (1, u "java/lang/Object"), (0, u "<init>"), (0, u "()V"), (0, .class_ 8), (0, u "com/example/quern/quern/codec/FieldInfo"), (0, .methodref 10 11), (0, .class_ 12), (0, .nameAndType 13 14), (0, u "com/example/quern/quern/codec/FieldInfoCombinePinLaw"), (0, u "freqs"), (0, u "(I)Z"), (0, .methodref 7 16), (0, .nameAndType 17 18), (0, u "combine"), (0, u "(II)I"), (0, .methodref 10 20), (0, .nameAndType 21 14), (0, u "norms"), (0, .methodref 10 23), (0, .nameAndType 24 14), (0, u "positions"), (3, u "law"), (0, u "(II)Z")] 2

def k1m0 : Method := { name := "<init>", desc := "()V", sig := { parameters := [], returnType := none }, accessFlags := 1, code := none }
def k1c1 : Code := { maxStack := 2, maxLocals := 1, code := method_2_code, exceptionTable := #[], attributes := #[] }
def k1m1 : Method := { name := "norms", desc := "(I)Z", sig := { parameters := [.int], returnType := some .boolean }, accessFlags := 10, code := some k1c1 }
def k1c2 : Code := { maxStack := 2, maxLocals := 1, code := method_3_code, exceptionTable := #[], attributes := #[] }
def k1m2 : Method := { name := "freqs", desc := "(I)Z", sig := { parameters := [.int], returnType := some .boolean }, accessFlags := 10, code := some k1c2 }
def k1c3 : Code := { maxStack := 2, maxLocals := 1, code := method_4_code, exceptionTable := #[], attributes := #[] }
def k1m3 : Method := { name := "positions", desc := "(I)Z", sig := { parameters := [.int], returnType := some .boolean }, accessFlags := 10, code := some k1c3 }
def k1c4 : Code := { maxStack := 3, maxLocals := 6, code := code, exceptionTable := #[], attributes := #[] }
def k1m4 : Method := { name := "law", desc := "(II)Z", sig := { parameters := [.int, .int], returnType := some .boolean }, accessFlags := 9, code := some k1c4 }
/-- com/example/quern/quern/codec/FieldInfoCombinePinLaw -/
def k1 : Class := { plain "com/example/quern/quern/codec/FieldInfoCombinePinLaw" (some 0) with
  accessFlags := 49
  interfaces := #[]
  cf := some (fileOf pool1 10 #[] #[{ accessFlags := 1, nameIndex := 5, descriptorIndex := 6, attributes := #[] }, { accessFlags := 10, nameIndex := 21, descriptorIndex := 14, attributes := #[] }, { accessFlags := 10, nameIndex := 13, descriptorIndex := 14, attributes := #[] }, { accessFlags := 10, nameIndex := 24, descriptorIndex := 14, attributes := #[] }, { accessFlags := 9, nameIndex := 28, descriptorIndex := 29, attributes := #[] }] 49 2 #[] #[])
  fields := #[]
  methods := #[k1m0, k1m1, k1m2, k1m3, k1m4]
  instanceTypes := #[]
  staticTypes := #[]
  resolved := Array.replicate 32 none
  statics := none }

def pool2 : Array CpInfo := pool [(2, .class_ 4), (1, u "java/lang/Object"), (0, u "<init>"), (0, u "()V"), (0, .class_ 8), (0, u "java/lang/Record")] 13

def k2m0 : Method := { name := "<init>", desc := "()V", sig := { parameters := [], returnType := none }, accessFlags := 4, code := none }
/-- java/lang/Record -/
def k2 : Class := { plain "java/lang/Record" (some 0) with
  accessFlags := 1057
  interfaces := #[]
  cf := some (fileOf pool2 7 #[] #[{ accessFlags := 4, nameIndex := 5, descriptorIndex := 6, attributes := #[] }] 1057 2 #[] #[])
  fields := #[]
  methods := #[k2m0]
  instanceTypes := #[]
  staticTypes := #[]
  resolved := Array.replicate 22 none
  statics := none }

def pool3 : Array CpInfo := pool [(2, .class_ 4), (1, u "java/lang/Record"), (3, .class_ 10), (1, u "com/example/quern/quern/codec/FieldInfo"), (0, u "name"), (0, u "Ljava/lang/String;"), (2, u "number"), (0, u "I"), (2, u "bits"), (19, u "INDEXED"), (2, u "OMIT_NORMS"), (1, u "STORES_PAYLOADS"), (1, u "OMIT_FREQS_AND_POSITIONS"), (1, u "OMIT_POSITIONS"), (5, u "combine"), (0, u "(II)I")] 28

def k3c0 : Code := { maxStack := 3, maxLocals := 6, code := prog_28_method_2_code, exceptionTable := #[], attributes := #[] }
def k3m0 : Method := { name := "combine", desc := "(II)I", sig := { parameters := [.int, .int], returnType := some .int }, accessFlags := 9, code := some k3c0 }
/-- com/example/quern/quern/codec/FieldInfo -/
def k3 : Class := { plain "com/example/quern/quern/codec/FieldInfo" (some 2) with
  accessFlags := 49
  interfaces := #[]
  cf := some (fileOf pool3 8 #[] #[{ accessFlags := 9, nameIndex := 54, descriptorIndex := 55, attributes := #[] }] 49 2 #[] #[{ accessFlags := 18, nameIndex := 11, descriptorIndex := 12, attributes := #[] }, { accessFlags := 18, nameIndex := 15, descriptorIndex := 16, attributes := #[] }, { accessFlags := 18, nameIndex := 19, descriptorIndex := 16, attributes := #[] }, { accessFlags := 25, nameIndex := 39, descriptorIndex := 16, attributes := #[] }, { accessFlags := 25, nameIndex := 42, descriptorIndex := 16, attributes := #[] }, { accessFlags := 25, nameIndex := 44, descriptorIndex := 16, attributes := #[] }, { accessFlags := 25, nameIndex := 46, descriptorIndex := 16, attributes := #[] }, { accessFlags := 25, nameIndex := 48, descriptorIndex := 16, attributes := #[] }])
  fields := #[{ name := "name", type := (.object "java/lang/String"), accessFlags := 18, slot := 0, constantValue := 0 }, { name := "number", type := .int, accessFlags := 18, slot := 1, constantValue := 0 }, { name := "bits", type := .int, accessFlags := 18, slot := 2, constantValue := 0 }, { name := "INDEXED", type := .int, accessFlags := 25, slot := 0, constantValue := 0 }, { name := "OMIT_NORMS", type := .int, accessFlags := 25, slot := 1, constantValue := 0 }, { name := "STORES_PAYLOADS", type := .int, accessFlags := 25, slot := 2, constantValue := 0 }, { name := "OMIT_FREQS_AND_POSITIONS", type := .int, accessFlags := 25, slot := 3, constantValue := 0 }, { name := "OMIT_POSITIONS", type := .int, accessFlags := 25, slot := 4, constantValue := 0 }]
  methods := #[k3m0]
  instanceTypes := #[(.object "java/lang/String"), .int, .int]
  staticTypes := #[.int, .int, .int, .int, .int]
  resolved := Array.replicate 84 none
  statics := none }

def pool4 : Array CpInfo := pool [(1, u "java/lang/Cloneable"), (0, .class_ 1), (0, u "java/lang/Object"), (0, .class_ 3)] 3

/-- java/lang/Cloneable -/
def k4 : Class := { plain "java/lang/Cloneable" (some 0) with
  accessFlags := 1537
  interfaces := #[]
  cf := some (fileOf pool4 2 #[] #[] 1537 4 #[] #[])
  fields := #[]
  methods := #[]
  instanceTypes := #[]
  staticTypes := #[]
  resolved := Array.replicate 8 none
  statics := none }

def pool5 : Array CpInfo := pool [(1, u "java/io/Serializable"), (0, .class_ 1), (0, u "java/lang/Object"), (0, .class_ 3)] 3

/-- java/io/Serializable -/
def k5 : Class := { plain "java/io/Serializable" (some 0) with
  accessFlags := 1537
  interfaces := #[]
  cf := some (fileOf pool5 2 #[] #[] 1537 4 #[] #[])
  fields := #[]
  methods := #[]
  instanceTypes := #[]
  staticTypes := #[]
  resolved := Array.replicate 8 none
  statics := none }

/-- the primitive byte -/
def k6 : Class := { plain "byte" none with kind := .primitive 'B', accessFlags := 0x411 }
/-- [B -/
def k7 : Class := { plain "[B" (some 0) with kind := .array 6 .byte, interfaces := #[4, 5], accessFlags := 1041 }

/-- the primitive int -/
def k8 : Class := { plain "int" none with kind := .primitive 'I', accessFlags := 0x411 }
/-- [I -/
def k9 : Class := { plain "[I" (some 0) with kind := .array 8 .int, interfaces := #[4, 5], accessFlags := 1041 }

def heap : Heap := #[]
def classes : Array Class := #[k0, k1, k2, k3, k4, k5, k6, k7, k8, k9]
def interned : List (Array UInt16 × Addr) := []
def slotsUsed : Nat := 0
def theMethod : MethodId := ⟨1, 4⟩
def args0 : Array Value := #[.int 5, .int 7]
def aboutOver (below : List Frame) : State where
  vm := { classes := classes, interned := interned.toArray }
  heap := heap
  slotsUsed := slotsUsed
  threads := #[{ frames := .invoking theMethod args0 :: below }]
def below0 : List Frame := [.native { method := ⟨0, 0⟩, args := #[] }]
def about1 : State := aboutOver below0
def p0 : Program := .bare "" "" ""
def e0 : Env := launch0.env 0 0 0
theorem w_frames : about1.frames = Frame.invoking theMethod args0 :: below0 := rfl
set_option maxRecDepth 65536 in
theorem w_args : argsFit about1.vm theMethod args0 = true := by decide +kernel
set_option maxRecDepth 65536 in
theorem w_heap : heapFits about1 = true := by decide +kernel
set_option maxRecDepth 65536 in
theorem w_runnable : about1.curStatus? = some .runnable := by decide +kernel
set_option maxRecDepth 65536 in
theorem w_alone : about1.alone = true := by decide +kernel
set_option maxRecDepth 65536 in
theorem w_named : about1.methodNamed? x = some theMethod := by decide +kernel
set_option maxRecDepth 65536 in
theorem w_hears : about1.hears theMethod below0 = true := by decide +kernel
set_option maxRecDepth 65536 in
theorem w_ripe : about1.ripe theMethod args0 below0 = true := by decide +kernel
theorem w_running : about1.status = .running := rfl
set_option maxRecDepth 65536 in
theorem w_room : about1.hasRoom e0.platform room_1 = true :=
  launch0.hasRoom_least _ room_1 (by decide +kernel) (by decide +kernel) (by decide +kernel) (by decide +kernel) (by decide +kernel) (by decide +kernel)
theorem allAtoms_all (ts : List Jvm.Cond) (a : Array Jvm.Value) (st : Jvm.State) : (allAtoms ts).before a st = ts.all (fun c => c.before a st) := by
  induction ts with
  | nil => rfl
  | cons c t ih =>
    show (Jvm.Cond.and c (allAtoms t)).before a st = _
    rw [Jvm.Cond.before_and, ih, List.all_cons]
def words1 : List Jvm.Cond := Jvm.Cond.code x code maxLocals ret :: tables_1
/-- a 'code' word, met by the world's own term for the bytes: nothing is compared byte by byte -/
theorem code_word {y : MethodName} {bytes : ByteArray} {mx : Nat} {rt : Option FieldType} {a : Array Value} {s : State} {m : MethodId} {meth : Method} {c : Code} (h1 : s.methodNamed? y = some m) (h2 : s.vm.method? m = some meth) (h3 : meth.code = some c) (h4 : c.code = bytes)
    (h5 : (c.maxLocals == mx && c.exceptionTable.isEmpty && decide (c.maxStack ≤ mostOperands) && decide (meth.sig.returnType = rt) && !meth.locks && decide (parseMethodDescriptor y.desc = some meth.sig)) = true) : (Jvm.Cond.code y bytes mx rt).before a s = true := by
  simp only [Bool.and_eq_true, beq_iff_eq, Bool.not_eq_true', decide_eq_true_eq] at h5
  obtain ⟨⟨⟨⟨⟨g1, g2⟩, g3⟩, g4⟩, g5⟩, g6⟩ := h5
  simp [Cond.before, Cond.holds, Cond.value, h1, h2, h3, h4, g1, g2, g3, g4, g5, g6]
def isCode : Jvm.Cond → Bool
  | .code _ _ _ _ => true
  | _ => false
theorem all_split {L : List Jvm.Cond} {P : Jvm.Cond → Bool} (h1 : L.all (fun c => isCode c || P c) = true) (h2 : ∀ c ∈ L.filter isCode, P c = true) : L.all P = true := by
  refine List.all_eq_true.mpr fun c hc => ?_
  have h := List.all_eq_true.mp h1 c hc
  rcases Bool.eq_false_or_eq_true (isCode c) with hi | hi
  · exact h2 c (List.mem_filter.mpr ⟨hc, hi⟩)
  · simpa [hi] using h
set_option maxRecDepth 65536 in
theorem w_c0 : (Jvm.Cond.code x code maxLocals ret).before args0 about1 = true := code_word (m := ⟨1, 4⟩) (meth := k1m4) (c := k1c4) (by decide +kernel) rfl rfl rfl (by decide +kernel)
set_option maxRecDepth 65536 in
theorem w_c1 : (Jvm.Cond.code ({ cls := "com/example/quern/quern/codec/FieldInfo", name := "combine", desc := "(II)I" } : Jvm.MethodName) prog_28_method_2_code (6 : Nat) (Option.some Jvm.ClassFile.FieldType.int)).before args0 about1 = true := code_word (m := ⟨3, 0⟩) (meth := k3m0) (c := k3c0) (by decide +kernel) rfl rfl rfl (by decide +kernel)
set_option maxRecDepth 65536 in
theorem w_c2 : (Jvm.Cond.code ({ cls := "com/example/quern/quern/codec/FieldInfoCombinePinLaw", name := "norms", desc := "(I)Z" } : Jvm.MethodName) method_2_code (1 : Nat) (Option.some Jvm.ClassFile.FieldType.boolean)).before args0 about1 = true := code_word (m := ⟨1, 1⟩) (meth := k1m1) (c := k1c1) (by decide +kernel) rfl rfl rfl (by decide +kernel)
set_option maxRecDepth 65536 in
theorem w_c3 : (Jvm.Cond.code ({ cls := "com/example/quern/quern/codec/FieldInfoCombinePinLaw", name := "freqs", desc := "(I)Z" } : Jvm.MethodName) method_3_code (1 : Nat) (Option.some Jvm.ClassFile.FieldType.boolean)).before args0 about1 = true := code_word (m := ⟨1, 2⟩) (meth := k1m2) (c := k1c2) (by decide +kernel) rfl rfl rfl (by decide +kernel)
set_option maxRecDepth 65536 in
theorem w_c4 : (Jvm.Cond.code ({ cls := "com/example/quern/quern/codec/FieldInfoCombinePinLaw", name := "positions", desc := "(I)Z" } : Jvm.MethodName) method_4_code (1 : Nat) (Option.some Jvm.ClassFile.FieldType.boolean)).before args0 about1 = true := code_word (m := ⟨1, 3⟩) (meth := k1m3) (c := k1c3) (by decide +kernel) rfl rfl rfl (by decide +kernel)
def codes1 : List Jvm.Cond := [Jvm.Cond.code x code maxLocals ret, Jvm.Cond.code ({ cls := "com/example/quern/quern/codec/FieldInfo", name := "combine", desc := "(II)I" } : Jvm.MethodName) prog_28_method_2_code (6 : Nat) (Option.some Jvm.ClassFile.FieldType.int), Jvm.Cond.code ({ cls := "com/example/quern/quern/codec/FieldInfoCombinePinLaw", name := "norms", desc := "(I)Z" } : Jvm.MethodName) method_2_code (1 : Nat) (Option.some Jvm.ClassFile.FieldType.boolean), Jvm.Cond.code ({ cls := "com/example/quern/quern/codec/FieldInfoCombinePinLaw", name := "freqs", desc := "(I)Z" } : Jvm.MethodName) method_3_code (1 : Nat) (Option.some Jvm.ClassFile.FieldType.boolean), Jvm.Cond.code ({ cls := "com/example/quern/quern/codec/FieldInfoCombinePinLaw", name := "positions", desc := "(I)Z" } : Jvm.MethodName) method_4_code (1 : Nat) (Option.some Jvm.ClassFile.FieldType.boolean)]
set_option maxRecDepth 65536 in
theorem codes_eq : words1.filter isCode = codes1 := rfl
theorem w_codes : ∀ c ∈ words1.filter isCode, c.before args0 about1 = true := by
  rw [codes_eq]
  intro c hc
  simp only [codes1, List.mem_cons, List.not_mem_nil, or_false] at hc
  rcases hc with rfl | rfl | rfl | rfl | rfl
  · exact w_c0
  · exact w_c1
  · exact w_c2
  · exact w_c3
  · exact w_c4
set_option maxRecDepth 65536 in
theorem w_t1 : words1.all (fun c => isCode c || c.before args0 about1) = true := by decide +kernel
theorem w_tables : (allAtoms (Jvm.Cond.code x code maxLocals ret :: tables_1)).before args0 about1 = true := by
  rw [allAtoms_all]
  show words1.all (fun c => c.before args0 about1) = true
  refine all_split ?_ w_codes
  rw [w_t1]
set_option maxRecDepth 65536 in
theorem w_case : (Jvm.Cond.and given_1 narrow_1).before args0 about1 = true := by decide +kernel
theorem w_applies : (headSpec (Jvm.Cond.code x code maxLocals ret :: tables_1) room_1).applies x e0.platform about1 = true :=
  (Spec.applies_iff w_frames).mpr ⟨w_running, w_runnable, w_alone, w_named, w_hears, w_ripe, w_room, w_tables⟩
theorem atStart : AtStart classFile x code maxLocals ret World_1 tables_1 room_1 Calls_1 rest_1 Pre_1 launch0 p0 e0 about1 theMethod args0 below0 :=
  ⟨lists_1, trivial, launch0.admits_env _ _ _, launch0.least_env, fairChoices_fair.cas, fairChoices_fair.clock, w_frames, w_args, w_heap, w_applies, trivial, trivial, w_case⟩
end start1
theorem witness_1 : WitnessClaimed_1 := ⟨start1.p0, start1.e0, start1.about1, start1.theMethod, start1.args0, start1.below0, start1.atStart⟩
end Jvm.Pilot.@@N@@
