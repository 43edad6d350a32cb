import JvmDerived
import JvmDerived.Pilot.@@N@@Statement
import JvmDerived.Pilot.@@N@@Code
set_option linter.unusedVariables false
set_option linter.unusedSimpArgs false
namespace Jvm.Pilot.@@N@@
open Jvm Jvm.ClassFile Sem Op Lib Jvm.Free Jvm.Stand Jvm.LawKit Jvm.RoadKit Bundle Jvm.Pilot.@@N@@.Jvm.D
section Own
variable {p : Program} {l : Launch} {e : Env} {R : Room} {s : State} {m : MethodId} {args : Array Value} {below : List Frame} {meth : Method} {c : Code} {T T' : State} {locs : List Loc} {cells slots : Nat}
variable {F : Outcome → State → List Loc → Prop} {Q : Option Value → Heap → List Loc → Prop} {ck sk : Nat} {g g' : JFrame}
def own_F (s : State) (ck sk : Nat) (o : Outcome) (t : State) (L : List Loc) : Prop := FrameEnd s o t L ck sk
/-- from the state T with the frame g on top the method comes to its end, and Q holds of what it returns, of the heap and of the places written -/
def own_E (p : Program) (e : Env) (below : List Frame) (F : Outcome → State → List Loc → Prop) (Q : Option Value → Heap → List Loc → Prop) (T : State) (g : JFrame) : Prop :=
  ∃ s₂ o, Steps p.tables e below (T.setTop g) s₂ ∧ s₂.status = .running ∧ Ended s₂ below o ∧ ∃ v L, o = .returned v ∧ Q v s₂.heap L ∧ F o s₂ L
theorem own_step (st : ∀ t, Steps p.tables e below (T'.setTop g') t → Steps p.tables e below (T.setTop g) t) (k : own_E p e below F Q T' g') : own_E p e below F Q T g := by
  obtain ⟨s2, o, h, r⟩ := k
  exact ⟨s2, o, st _ h, r⟩
theorem own_cast (q : g = g') (k : own_E p e below F Q T g') : own_E p e below F Q T g := q ▸ k
theorem own_ret (X : Stand p l e R s m args below meth c T locs cells slots) (hx : p.tables.exec = Jvm.exec) (hlk : meth.locks = false) {pc : Nat} {Ls : Array Slot} {w : Value} {t : FieldType} {i : Instr} {rest : List Value} (hret : meth.sig.returnType = some t)
    (hi : (i = .ireturn ∧ (t = .int ∨ t = .boolean ∨ t = .byte ∨ t = .char ∨ t = .short) ∧ ∃ z, w = .int z) ∨ (i = .lreturn ∧ t = .long ∧ ∃ z, w = .long z) ∨ (i = .dreturn ∧ t = .double ∧ ∃ z, w = .double z) ∨ (i = .freturn ∧ t = .float ∧ ∃ z, w = .float z) ∨ (i = .areturn ∧ t.isReference = true ∧ w.isRef = true))
    (hd : decode c.code pc = .ok (i, 1)) (hn : narrow t w = w) (hc : cells ≤ ck) (hs : slots ≤ sk) (hQ : Q (some w) T.heap locs) : own_E p e below (own_F s ck sk) Q T (mkF m pc Ls (w :: rest)) := by
  obtain ⟨fs, hr, hrun, hended, hW, hsame⟩ := X.leave (v := some w) (fun h => by rw [hret] at h; cases h) hlk
  exact ⟨_, _, retOut X hx hret hn hi hd hr, hrun, hended, _, _, rfl, hQ, ⟨_, rfl⟩, hW, hsame.mono hc hs⟩
theorem own_retI (X : Stand p l e R s m args below meth c T locs cells slots) (hx : p.tables.exec = Jvm.exec) (hlk : meth.locks = false) {pc : Nat} {Ls : Array Slot} {z : Int32} {t : FieldType} {rest : List Value} (hret : meth.sig.returnType = some t)
    (ht : t = .int ∨ t = .boolean ∨ t = .byte ∨ t = .char ∨ t = .short) (hd : decode c.code pc = .ok (.ireturn, 1)) (hn : narrow t (.int z) = .int z) (hc : cells ≤ ck) (hs : slots ≤ sk) (hQ : Q (some (.int z)) T.heap locs) : own_E p e below (own_F s ck sk) Q T (mkF m pc Ls (.int z :: rest)) :=
  own_ret X hx hlk hret (Or.inl ⟨rfl, ht, z, rfl⟩) hd hn hc hs hQ
theorem own_retJ (X : Stand p l e R s m args below meth c T locs cells slots) (hx : p.tables.exec = Jvm.exec) (hlk : meth.locks = false) {pc : Nat} {Ls : Array Slot} {z : Int64} {rest : List Value} (hret : meth.sig.returnType = some .long)
    (hd : decode c.code pc = .ok (.lreturn, 1)) (hc : cells ≤ ck) (hs : slots ≤ sk) (hQ : Q (some (.long z)) T.heap locs) : own_E p e below (own_F s ck sk) Q T (mkF m pc Ls (.long z :: rest)) :=
  own_ret X hx hlk hret (Or.inr (Or.inl ⟨rfl, rfl, z, rfl⟩)) hd rfl hc hs hQ
theorem own_retA (X : Stand p l e R s m args below meth c T locs cells slots) (hx : p.tables.exec = Jvm.exec) (hlk : meth.locks = false) {pc : Nat} {Ls : Array Slot} {a : Addr} {C : String} {rest : List Value} (hret : meth.sig.returnType = some (.object C))
    (hd : decode c.code pc = .ok (.areturn, 1)) (hc : cells ≤ ck) (hs : slots ≤ sk) (hQ : Q (some (.ref a)) T.heap locs) : own_E p e below (own_F s ck sk) Q T (mkF m pc Ls (.ref a :: rest)) :=
  own_ret X hx hlk hret (Or.inr (Or.inr (Or.inr (Or.inr ⟨rfl, rfl, rfl⟩)))) hd rfl hc hs hQ
theorem own_retV (X : Stand p l e R s m args below meth c T locs cells slots) (hx : p.tables.exec = Jvm.exec) (hlk : meth.locks = false) {pc : Nat} {Ls : Array Slot} (hret : meth.sig.returnType = none)
    (hd : decode c.code pc = .ok (.return_, 1)) (hc : cells ≤ ck) (hs : slots ≤ sk) (hQ : Q none T.heap locs) : own_E p e below (own_F s ck sk) Q T (mkF m pc Ls []) := by
  obtain ⟨fs, hr, hrun, hended, hW, hsame⟩ := X.leave (v := none) (fun _ => rfl) hlk
  exact ⟨_, _, X.returnOut hx hret hd hr, hrun, hended, _, _, rfl, hQ, ⟨_, rfl⟩, hW, hsame.mono hc hs⟩
/-- forks: P first, its denial second -/
theorem own_ifY (X : Stand p l e R s m args below meth c T locs cells slots) (hx : p.tables.exec = Jvm.exec) {cd : ClassFile.Cond} {x : Int32} {rest : List Value} {o : Int} {pc0 pc1 : Nat} {Ls : Array Slot} {P : Prop} [Decidable P] (hd : decode c.code pc0 = .ok (.ifCond cd o, 3)) (hP : ifCond.holds cd x = decide P)
    (ho : 0 ≤ (pc0 : Int) + o) (hp : ((pc0 : Int) + o).toNat = pc1) (hy : P → own_E p e below F Q T (mkF m pc1 Ls rest)) (hn : ¬ P → own_E p e below F Q T (mkF m (pc0 + 3) Ls rest)) : own_E p e below F Q T (mkF m pc0 Ls (.int x :: rest)) := by
  by_cases h : P
  · exact own_step (fun t k => XS.ifYes X.here hx rfl (pc0 := pc0) (pc' := pc1) rfl hd rfl (by rw [hP]; exact decide_eq_true h) ho hp k) (hy h)
  · exact own_step (fun t k => XS.ifNo X.here hx rfl hd rfl (by rw [hP]; exact decide_eq_false h) k) (hn h)
theorem own_ifN (X : Stand p l e R s m args below meth c T locs cells slots) (hx : p.tables.exec = Jvm.exec) {cd : ClassFile.Cond} {x : Int32} {rest : List Value} {o : Int} {pc0 pc1 : Nat} {Ls : Array Slot} {P : Prop} [Decidable P] (hd : decode c.code pc0 = .ok (.ifCond cd o, 3)) (hP : ifCond.holds cd x = !decide P)
    (ho : 0 ≤ (pc0 : Int) + o) (hp : ((pc0 : Int) + o).toNat = pc1) (hy : P → own_E p e below F Q T (mkF m (pc0 + 3) Ls rest)) (hn : ¬ P → own_E p e below F Q T (mkF m pc1 Ls rest)) : own_E p e below F Q T (mkF m pc0 Ls (.int x :: rest)) :=
  own_ifY X hx (P := ¬ P) hd (by rw [hP, decide_not]) ho hp hn (fun h => hy (Decidable.of_not_not h))
theorem own_icY (X : Stand p l e R s m args below meth c T locs cells slots) (hx : p.tables.exec = Jvm.exec) {cd : ClassFile.Cond} {x y : Int32} {rest : List Value} {o : Int} {pc0 pc1 : Nat} {Ls : Array Slot} {P : Prop} [Decidable P] (hd : decode c.code pc0 = .ok (.if_icmp cd o, 3)) (hP : if_icmp.holds cd x y = decide P)
    (ho : 0 ≤ (pc0 : Int) + o) (hp : ((pc0 : Int) + o).toNat = pc1) (hy : P → own_E p e below F Q T (mkF m pc1 Ls rest)) (hn : ¬ P → own_E p e below F Q T (mkF m (pc0 + 3) Ls rest)) : own_E p e below F Q T (mkF m pc0 Ls (.int y :: .int x :: rest)) := by
  by_cases h : P
  · exact own_step (fun t k => XS.icmpYes X.here hx rfl (pc0 := pc0) (pc' := pc1) rfl hd rfl (by rw [hP]; exact decide_eq_true h) ho hp k) (hy h)
  · exact own_step (fun t k => XS.icmpNo X.here hx rfl hd rfl (by rw [hP]; exact decide_eq_false h) k) (hn h)
theorem own_icN (X : Stand p l e R s m args below meth c T locs cells slots) (hx : p.tables.exec = Jvm.exec) {cd : ClassFile.Cond} {x y : Int32} {rest : List Value} {o : Int} {pc0 pc1 : Nat} {Ls : Array Slot} {P : Prop} [Decidable P] (hd : decode c.code pc0 = .ok (.if_icmp cd o, 3)) (hP : if_icmp.holds cd x y = !decide P)
    (ho : 0 ≤ (pc0 : Int) + o) (hp : ((pc0 : Int) + o).toNat = pc1) (hy : P → own_E p e below F Q T (mkF m (pc0 + 3) Ls rest)) (hn : ¬ P → own_E p e below F Q T (mkF m pc1 Ls rest)) : own_E p e below F Q T (mkF m pc0 Ls (.int y :: .int x :: rest)) :=
  own_icY X hx (P := ¬ P) hd (by rw [hP, decide_not]) ho hp hn (fun h => hy (Decidable.of_not_not h))
theorem own_i_eq (x y : Int32) : if_icmp.holds .eq x y = decide (x = y) := by
  by_cases h : x = y
  · rw [(teq h).1, decide_eq_true h]
  · rw [(feq h).1, decide_eq_false h]
theorem own_i_ne (x y : Int32) : if_icmp.holds .ne x y = !decide (x = y) := by
  by_cases h : x = y
  · rw [(teq h).2, decide_eq_true h]; rfl
  · rw [(feq h).2, decide_eq_false h]; rfl
theorem own_i_lt (x y : Int32) : if_icmp.holds .lt x y = decide (x < y) := by
  by_cases h : x < y
  · rw [(tlt h).1, decide_eq_true h]
  · rw [(flt h).1, decide_eq_false h]
theorem own_i_ge (x y : Int32) : if_icmp.holds .ge x y = !decide (x < y) := by
  by_cases h : x < y
  · rw [(tlt h).2.1, decide_eq_true h]; rfl
  · rw [(flt h).2.1, decide_eq_false h]; rfl
theorem own_i_gt (x y : Int32) : if_icmp.holds .gt x y = decide (y < x) := by
  by_cases h : y < x
  · rw [(tlt h).2.2.1, decide_eq_true h]
  · rw [(flt h).2.2.1, decide_eq_false h]
theorem own_i_le (x y : Int32) : if_icmp.holds .le x y = !decide (y < x) := by
  by_cases h : y < x
  · rw [(tlt h).2.2.2, decide_eq_true h]; rfl
  · rw [(flt h).2.2.2, decide_eq_false h]; rfl
theorem own_z_eq (x : Int32) : ifCond.holds .eq x = decide (x = 0) := (if0 _ _).trans (own_i_eq x 0)
theorem own_z_ne (x : Int32) : ifCond.holds .ne x = !decide (x = 0) := (if0 _ _).trans (own_i_ne x 0)
theorem own_z_lt (x : Int32) : ifCond.holds .lt x = decide (x < 0) := (if0 _ _).trans (own_i_lt x 0)
theorem own_z_ge (x : Int32) : ifCond.holds .ge x = !decide (x < 0) := (if0 _ _).trans (own_i_ge x 0)
theorem own_z_gt (x : Int32) : ifCond.holds .gt x = decide (0 < x) := (if0 _ _).trans (own_i_gt x 0)
theorem own_z_le (x : Int32) : ifCond.holds .le x = !decide (0 < x) := (if0 _ _).trans (own_i_le x 0)
theorem own_l_eq (x y : Int64) : ifCond.holds .eq (lcmpW x y) = decide (x = y) := (own_z_eq _).trans (decide_eq_decide.mpr (lw_eq x y))
theorem own_l_ne (x y : Int64) : ifCond.holds .ne (lcmpW x y) = !decide (x = y) := (own_z_ne _).trans (congrArg not (decide_eq_decide.mpr (lw_eq x y)))
theorem own_l_lt (x y : Int64) : ifCond.holds .lt (lcmpW x y) = decide (x < y) := (own_z_lt _).trans (decide_eq_decide.mpr (lw_lt x y))
theorem own_l_ge (x y : Int64) : ifCond.holds .ge (lcmpW x y) = !decide (x < y) := (own_z_ge _).trans (congrArg not (decide_eq_decide.mpr (lw_lt x y)))
theorem own_l_gt (x y : Int64) : ifCond.holds .gt (lcmpW x y) = decide (y < x) := (own_z_gt _).trans (decide_eq_decide.mpr (lw_gt x y))
theorem own_l_le (x y : Int64) : ifCond.holds .le (lcmpW x y) = !decide (y < x) := (own_z_le _).trans (congrArg not (decide_eq_decide.mpr (lw_gt x y)))
/-- a condition as Java's int: 1 or 0 -/
def own_b (P : Prop) [Decidable P] : Int32 := if P then 1 else 0
theorem own_b1 {P : Prop} [Decidable P] (h : P) : own_b P = 1 := if_pos h
theorem own_b0 {P : Prop} [Decidable P] (h : ¬ P) : own_b P = 0 := if_neg h
theorem own_b_ne (P : Prop) [Decidable P] : ifCond.holds .ne (own_b P) = decide P := by
  by_cases h : P
  · rw [own_b1 h, decide_eq_true h]; rfl
  · rw [own_b0 h, decide_eq_false h]; rfl
theorem own_b_eq (P : Prop) [Decidable P] : ifCond.holds .eq (own_b P) = !decide P := by
  by_cases h : P
  · rw [own_b1 h, decide_eq_true h]; rfl
  · rw [own_b0 h, decide_eq_false h]; rfl
theorem own_bn (P : Prop) [Decidable P] : narrow .boolean (.int (own_b P)) = .int (own_b P) := by
  by_cases h : P
  · rw [own_b1 h]; rfl
  · rw [own_b0 h]; rfl
end Own
/-- the logical shift as the machine does it -/
def own_mix (z : Int64) : Int64 :=
  let a := (z ^^^ ((z.toUInt64 >>> ((30 : Int32) &&& 0x3f).toInt64.toUInt64).toInt64)) * (-4658895280553007687 : Int64)
  let b := (a ^^^ ((a.toUInt64 >>> ((27 : Int32) &&& 0x3f).toInt64.toUInt64).toInt64)) * (-7723592293110705685 : Int64)
  b ^^^ ((b.toUInt64 >>> ((31 : Int32) &&& 0x3f).toInt64.toUInt64).toInt64)
def own_nw (x y : Int64) : Int64 := y * ((2 : Int64) - x * y)
def own_inv (x : Int64) : Int64 := own_nw x (own_nw x (own_nw x (own_nw x (own_nw x x))))
def own_unmix (z : Int64) : Int64 :=
  let a := (z ^^^ ((z.toUInt64 >>> ((31 : Int32) &&& 0x3f).toInt64.toUInt64).toInt64)) ^^^ ((z.toUInt64 >>> ((62 : Int32) &&& 0x3f).toInt64.toUInt64).toInt64)
  let b := a * own_inv (-7723592293110705685 : Int64)
  let d := (b ^^^ ((b.toUInt64 >>> ((27 : Int32) &&& 0x3f).toInt64.toUInt64).toInt64)) ^^^ ((b.toUInt64 >>> ((54 : Int32) &&& 0x3f).toInt64.toUInt64).toInt64)
  let f := d * own_inv (-4658895280553007687 : Int64)
  (f ^^^ ((f.toUInt64 >>> ((30 : Int32) &&& 0x3f).toInt64.toUInt64).toInt64)) ^^^ ((f.toUInt64 >>> ((60 : Int32) &&& 0x3f).toInt64.toUInt64).toInt64)
theorem own_nat (x : Int64) : x.toInt % 18446744073709551616 = (x.toBitVec.toNat : Int) := by
  show x.toBitVec.toInt % _ = _
  have := x.toBitVec.isLt
  rw [BitVec.toInt_eq_toNat_cond]; split <;> omega
theorem own_ush (z : Int64) (k : Int32) (n : Nat) (hk : k.toBitVec.toNat % 64 = n) (h0 : 0 < n) : ((z.toUInt64 >>> (k &&& 0x3f).toInt64.toUInt64).toInt64).toBitVec = z.toBitVec >>> n := by
  have h := c_lushr z k n hk h0
  generalize ((z.toUInt64 >>> (k &&& 0x3f).toInt64.toUInt64).toInt64) = t at *
  apply BitVec.eq_of_toNat_eq
  rw [BitVec.toNat_ushiftRight, Nat.shiftRight_eq_div_pow]
  have e1 := own_nat t
  rw [h, own_nat z] at e1
  have q := Nat.div_le_self z.toBitVec.toNat (2 ^ n)
  have w := z.toBitVec.isLt
  rw [← Int.natCast_ediv] at e1
  generalize z.toBitVec.toNat / 2 ^ n = d at *
  omega
theorem own_xs (z : BitVec 64) (k : Nat) (hk : 22 ≤ k) : ((z ^^^ (z >>> k)) ^^^ ((z ^^^ (z >>> k)) >>> k)) ^^^ ((z ^^^ (z >>> k)) >>> (k + k)) = z := by
  apply BitVec.eq_of_getLsbD_eq
  intro i hi
  have h3 : z.getLsbD (k + k + (k + i)) = false := BitVec.getLsbD_of_ge _ _ (by omega)
  simp only [BitVec.getLsbD_xor, BitVec.getLsbD_ushiftRight]
  rw [show k + (k + i) = k + k + i by omega, show k + (k + k + i) = k + k + (k + i) by omega, h3]
  cases z.getLsbD i <;> cases z.getLsbD (k + i) <;> cases z.getLsbD (k + k + i) <;> rfl
theorem own_x31 (z : Int64) : ((z ^^^ ((z.toUInt64 >>> ((31 : Int32) &&& 0x3f).toInt64.toUInt64).toInt64)) ^^^ (((z ^^^ ((z.toUInt64 >>> ((31 : Int32) &&& 0x3f).toInt64.toUInt64).toInt64)).toUInt64 >>> ((31 : Int32) &&& 0x3f).toInt64.toUInt64).toInt64)) ^^^ (((z ^^^ ((z.toUInt64 >>> ((31 : Int32) &&& 0x3f).toInt64.toUInt64).toInt64)).toUInt64 >>> ((62 : Int32) &&& 0x3f).toInt64.toUInt64).toInt64) = z := by
  apply Int64.toBitVec_inj.mp
  simp only [Int64.toBitVec_xor, own_ush _ 31 31 (by decide) (by decide), own_ush _ 62 62 (by decide) (by decide)]
  exact own_xs _ 31 (by decide)
theorem own_x27 (z : Int64) : ((z ^^^ ((z.toUInt64 >>> ((27 : Int32) &&& 0x3f).toInt64.toUInt64).toInt64)) ^^^ (((z ^^^ ((z.toUInt64 >>> ((27 : Int32) &&& 0x3f).toInt64.toUInt64).toInt64)).toUInt64 >>> ((27 : Int32) &&& 0x3f).toInt64.toUInt64).toInt64)) ^^^ (((z ^^^ ((z.toUInt64 >>> ((27 : Int32) &&& 0x3f).toInt64.toUInt64).toInt64)).toUInt64 >>> ((54 : Int32) &&& 0x3f).toInt64.toUInt64).toInt64) = z := by
  apply Int64.toBitVec_inj.mp
  simp only [Int64.toBitVec_xor, own_ush _ 27 27 (by decide) (by decide), own_ush _ 54 54 (by decide) (by decide)]
  exact own_xs _ 27 (by decide)
theorem own_x30 (z : Int64) : ((z ^^^ ((z.toUInt64 >>> ((30 : Int32) &&& 0x3f).toInt64.toUInt64).toInt64)) ^^^ (((z ^^^ ((z.toUInt64 >>> ((30 : Int32) &&& 0x3f).toInt64.toUInt64).toInt64)).toUInt64 >>> ((30 : Int32) &&& 0x3f).toInt64.toUInt64).toInt64)) ^^^ (((z ^^^ ((z.toUInt64 >>> ((30 : Int32) &&& 0x3f).toInt64.toUInt64).toInt64)).toUInt64 >>> ((60 : Int32) &&& 0x3f).toInt64.toUInt64).toInt64) = z := by
  apply Int64.toBitVec_inj.mp
  simp only [Int64.toBitVec_xor, own_ush _ 30 30 (by decide) (by decide), own_ush _ 60 60 (by decide) (by decide)]
  exact own_xs _ 30 (by decide)
theorem own_i1 : (-4658895280553007687 : Int64) * own_inv (-4658895280553007687 : Int64) = 1 := by decide +kernel
theorem own_i2 : (-7723592293110705685 : Int64) * own_inv (-7723592293110705685 : Int64) = 1 := by decide +kernel
theorem own_unmix_mix (z : Int64) : own_unmix (own_mix z) = z := by
  unfold own_unmix own_mix
  dsimp only
  rw [own_x31, Int64.mul_assoc, own_i2, Int64.mul_one, own_x27, Int64.mul_assoc, own_i1, Int64.mul_one, own_x30]
theorem own_ef1 (m : MethodId) (x0 : Addr) (x1 : Int64) : entryFrame m #[(.ref x0), (.long x1)] 3 = mkF m 0 #[.val (.ref x0), .val (.long x1), .second] [] := by first | (simp [entryFrame, mkF, argsToLocals, Value.category]; done) | rfl
def own_Q1 (Z : State) (a1 : Addr) (q0 : Int64) (h0 : Heap) (n0 : Nat) (v : Option Value) (h : Heap) (L : List Loc) : Prop := v = none ∧ Fr n0 L ∧ Keep h0 h [a1] ∧ Exa Z h a1 "com/example/triplesmith/triplesmith/engine/SeededRandom" ∧ Fld Z h a1 "com/example/triplesmith/triplesmith/engine/SeededRandom" "state" "J" (.long q0)
theorem own_pn_1 : plainName "com/example/triplesmith/triplesmith/engine/SeededRandom" = true := by first | (simp [plainName, overriddenIn]; done) | decide +kernel
theorem own_d1_0 : decode prog_9_method_1_code 0 = .ok (.aload_n 0, 1) := by decide +kernel
theorem own_d1_1 : decode prog_9_method_1_code 1 = .ok (.invokespecial 1, 3) := by decide +kernel
theorem own_d1_4 : decode prog_9_method_1_code 4 = .ok (.aload_n 0, 1) := by decide +kernel
theorem own_d1_5 : decode prog_9_method_1_code 5 = .ok (.lload_n 1, 1) := by decide +kernel
theorem own_d1_6 : decode prog_9_method_1_code 6 = .ok (.putfield 7, 3) := by decide +kernel
theorem own_d1_9 : decode prog_9_method_1_code 9 = .ok (.return_, 1) := by decide +kernel
set_option maxRecDepth 65536 in
set_option maxHeartbeats 40000000 in
theorem own_rm1 (l : Launch) (Z : State) (a0 : Array Value) (hw : ∀ d ∈ tables_1, d.before a0 Z = true) (ws : List Jvm.Cond) (a1 : Addr) (q0 : Int64) (h0 : Heap) (n0 : Nat) (Z0 : n0 ≤ h0.size) (Ea : Exa Z h0 a1 "com/example/triplesmith/triplesmith/engine/SeededRandom") (ga : n0 ≤ a1) (Fstate : Fld Z h0 a1 "com/example/triplesmith/triplesmith/engine/SeededRandom" "state" "J" (.long (0 : Int64))) :
    MetFree l (⟨"com/example/triplesmith/triplesmith/engine/SeededRandom", "<init>", "(J)V"⟩ : MethodName) (head1 (Jvm.Cond.code (⟨"com/example/triplesmith/triplesmith/engine/SeededRandom", "<init>", "(J)V"⟩ : MethodName) prog_9_method_1_code 3 none :: ws) ({ frames := 1, cells := 0, slots := 0, locals := 12 } : Room)) (fun aU U => aU = #[(.ref a1), (.long q0)] ∧ Z.Warmed39 U.vm ∧ U.heap = h0) (fun _ _ _ _ _ => True) (fun _ U o U' => ∃ v L, o = .returned v ∧ own_Q1 Z a1 q0 h0 n0 v U'.heap L ∧ FrameEnd U o U' L 0 0) := by
  refine MetFree.of_bodySF (plainFor_of_name own_pn_1) hisR ?_
  intro p e s m args below meth c s₁ Bd hml0 hP hK
  obtain ⟨rfl, hZ, hh⟩ := hP
  have hx := Bd.exec
  have hby := Bd.bytes
  have hml : c.maxLocals = 3 := hml0
  have hown : s.vm.findClass "com/example/triplesmith/triplesmith/engine/SeededRandom" = some m.cls := findClass_of_methodNamed Bd.named
  have hnm := (name_of_methodNamed Bd.named Bd.method).1
  have hlk : meth.locks = false := Bd.notSynchronized
  have hret := Bd.returns
  have X0 : Stand p l e ({ frames := 1, cells := 0, slots := 0, locals := 12 } : Room) s m #[(.ref a1), (.long q0)] below meth c s₁ [] 0 0 := Stand.of_body Bd
  have e0 : s₁.heap = h0 := by rw [← hh, Bd.state]; rfl
  have N0 := Fr.nil n0
  have K0 := Keep.refl h0 [a1]
  show own_E p e below (own_F s 0 0) (own_Q1 Z a1 q0 h0 n0) s₁ (entryFrame m #[(.ref a1), (.long q0)] 3)
  refine own_cast (own_ef1 m a1 q0) ?_
  refine own_step (g' := (mkF m 1 #[.val (.ref a1), .val (.long q0), .second] [(.ref a1)])) (fun _ k => XS.aloadN X0.here hx rfl (hb hby own_d1_0) rfl rfl k) ?_
  obtain ⟨T1, X1, e1, st1⟩ := initO X0 hx hZ hown (hw _ (List.mem_of_getElem? (i := 6) rfl)) (hw _ (List.mem_of_getElem? (i := 7) rfl)) (hw _ (List.mem_of_getElem? (i := 8) rfl)) e0 (g := (mkF m 1 #[.val (.ref a1), .val (.long q0), .second] [(.ref a1)])) rfl (by rw [hml]; rfl) rfl (hb hby own_d1_1) (by decide) (W := 0) (by show 2 * 0 + _ ≤ _; exact Nat.le_of_eq rfl) (by decide)
  refine own_step (g' := (mkF m 4 #[.val (.ref a1), .val (.long q0), .second] [])) st1 ?_
  refine own_step (g' := (mkF m 5 #[.val (.ref a1), .val (.long q0), .second] [(.ref a1)])) (fun _ k => XS.aloadN X1.here hx rfl (hb hby own_d1_4) rfl rfl k) ?_
  refine own_step (g' := (mkF m 6 #[.val (.ref a1), .val (.long q0), .second] [(.long q0), (.ref a1)])) (fun _ k => XS.lloadN X1.here hx rfl (hb hby own_d1_5) rfl k) ?_
  obtain ⟨T2, h2, X2, e2, W2, st2⟩ := putF X1 hx hZ hown (host := "") (Or.inl (hw _ (List.mem_of_getElem? (i := 9) rfl))) Via.refl e1 Fstate Ea (Or.inl (hw _ (List.mem_of_getElem? (i := 10) rfl))) (hw _ (List.mem_of_getElem? (i := 1) rfl)) (ty := .long) (by decide) rfl rfl (g := (mkF m 6 #[.val (.ref a1), .val (.long q0), .second] [(.long q0), (.ref a1)])) rfl rfl (hb hby own_d1_6)
  have Fstate_2 := Fstate.same W2
  have Ea_2 := Ea.wr W2
  have K2 := K0.wr W2 (Or.inl (List.mem_of_getElem? (i := 0) rfl))
  have Z2 := Nat.le_trans Z0 (Keep.of_wr W2).1
  have N2 := Fr.snoc X2 N0 ga
  refine own_step (g' := (mkF m 9 #[.val (.ref a1), .val (.long q0), .second] [])) st2 ?_
  exact own_retV X2 hx hlk hret (hb hby own_d1_9) (by decide) (by decide) (by show own_Q1 Z a1 q0 h0 n0 none T2.heap _; rw [e2]; exact ⟨rfl, N2, K2, Ea_2, Fstate_2⟩)
theorem own_ef3 (m : MethodId) (x0 : Addr) : entryFrame m #[(.ref x0)] 3 = mkF m 0 #[.val (.ref x0), .unset, .unset] [] := by first | (simp [entryFrame, mkF, argsToLocals, Value.category]; done) | rfl
def own_Q3 (Z : State) (a1 : Addr) (v1 : Int64) (h0 : Heap) (n0 : Nat) (v : Option Value) (h : Heap) (L : List Loc) : Prop := v = some (.long (own_mix (v1 + (-7046029254386353131 : Int64)))) ∧ Fr n0 L ∧ Keep h0 h [a1] ∧ Exa Z h a1 "com/example/triplesmith/triplesmith/engine/SeededRandom" ∧ Fld Z h a1 "com/example/triplesmith/triplesmith/engine/SeededRandom" "state" "J" (.long (v1 + (-7046029254386353131 : Int64)))
theorem own_pn_3 : plainName "com/example/triplesmith/triplesmith/engine/SeededRandom" = true := by first | (simp [plainName, overriddenIn]; done) | decide +kernel
theorem own_d3_0 : decode prog_9_method_2_code 0 = .ok (.aload_n 0, 1) := by decide +kernel
theorem own_d3_1 : decode prog_9_method_2_code 1 = .ok (.dup, 1) := by decide +kernel
theorem own_d3_2 : decode prog_9_method_2_code 2 = .ok (.getfield 7, 3) := by decide +kernel
theorem own_d3_5 : decode prog_9_method_2_code 5 = .ok (.ldc2_w 13, 3) := by decide +kernel
theorem own_d3_8 : decode prog_9_method_2_code 8 = .ok (.ladd, 1) := by decide +kernel
theorem own_d3_9 : decode prog_9_method_2_code 9 = .ok (.putfield 7, 3) := by decide +kernel
theorem own_d3_12 : decode prog_9_method_2_code 12 = .ok (.aload_n 0, 1) := by decide +kernel
theorem own_d3_13 : decode prog_9_method_2_code 13 = .ok (.getfield 7, 3) := by decide +kernel
theorem own_d3_16 : decode prog_9_method_2_code 16 = .ok (.lstore_n 1, 1) := by decide +kernel
theorem own_d3_17 : decode prog_9_method_2_code 17 = .ok (.lload_n 1, 1) := by decide +kernel
theorem own_d3_18 : decode prog_9_method_2_code 18 = .ok (.lload_n 1, 1) := by decide +kernel
theorem own_d3_19 : decode prog_9_method_2_code 19 = .ok (.bipush 30, 2) := by decide +kernel
theorem own_d3_21 : decode prog_9_method_2_code 21 = .ok (.lushr, 1) := by decide +kernel
theorem own_d3_22 : decode prog_9_method_2_code 22 = .ok (.lxor, 1) := by decide +kernel
theorem own_d3_23 : decode prog_9_method_2_code 23 = .ok (.ldc2_w 15, 3) := by decide +kernel
theorem own_d3_26 : decode prog_9_method_2_code 26 = .ok (.lmul, 1) := by decide +kernel
theorem own_d3_27 : decode prog_9_method_2_code 27 = .ok (.lstore_n 1, 1) := by decide +kernel
theorem own_d3_28 : decode prog_9_method_2_code 28 = .ok (.lload_n 1, 1) := by decide +kernel
theorem own_d3_29 : decode prog_9_method_2_code 29 = .ok (.lload_n 1, 1) := by decide +kernel
theorem own_d3_30 : decode prog_9_method_2_code 30 = .ok (.bipush 27, 2) := by decide +kernel
theorem own_d3_32 : decode prog_9_method_2_code 32 = .ok (.lushr, 1) := by decide +kernel
theorem own_d3_33 : decode prog_9_method_2_code 33 = .ok (.lxor, 1) := by decide +kernel
theorem own_d3_34 : decode prog_9_method_2_code 34 = .ok (.ldc2_w 17, 3) := by decide +kernel
theorem own_d3_37 : decode prog_9_method_2_code 37 = .ok (.lmul, 1) := by decide +kernel
theorem own_d3_38 : decode prog_9_method_2_code 38 = .ok (.lstore_n 1, 1) := by decide +kernel
theorem own_d3_39 : decode prog_9_method_2_code 39 = .ok (.lload_n 1, 1) := by decide +kernel
theorem own_d3_40 : decode prog_9_method_2_code 40 = .ok (.lload_n 1, 1) := by decide +kernel
theorem own_d3_41 : decode prog_9_method_2_code 41 = .ok (.bipush 31, 2) := by decide +kernel
theorem own_d3_43 : decode prog_9_method_2_code 43 = .ok (.lushr, 1) := by decide +kernel
theorem own_d3_44 : decode prog_9_method_2_code 44 = .ok (.lxor, 1) := by decide +kernel
theorem own_d3_45 : decode prog_9_method_2_code 45 = .ok (.lreturn, 1) := by decide +kernel
set_option maxRecDepth 65536 in
set_option maxHeartbeats 40000000 in
theorem own_rm3 (l : Launch) (Z : State) (a0 : Array Value) (hw : ∀ d ∈ tables_1, d.before a0 Z = true) (ws : List Jvm.Cond) (a1 : Addr) (v1 : Int64) (h0 : Heap) (n0 : Nat) (Z0 : n0 ≤ h0.size) (Ea : Exa Z h0 a1 "com/example/triplesmith/triplesmith/engine/SeededRandom") (ga : n0 ≤ a1) (F1 : Fld Z h0 a1 "com/example/triplesmith/triplesmith/engine/SeededRandom" "state" "J" (.long v1)) :
    MetFree l (⟨"com/example/triplesmith/triplesmith/engine/SeededRandom", "nextLong", "()J"⟩ : MethodName) (head1 (Jvm.Cond.code (⟨"com/example/triplesmith/triplesmith/engine/SeededRandom", "nextLong", "()J"⟩ : MethodName) prog_9_method_2_code 3 (some .long) :: ws) ({ frames := 0, cells := 0, slots := 0, locals := 0 } : Room)) (fun aU U => aU = #[(.ref a1)] ∧ Z.Warmed39 U.vm ∧ U.heap = h0) (fun _ _ _ _ _ => True) (fun _ U o U' => ∃ v L, o = .returned v ∧ own_Q3 Z a1 v1 h0 n0 v U'.heap L ∧ FrameEnd U o U' L 0 0) := by
  refine MetFree.of_bodySF (plainFor_of_name own_pn_3) hisR ?_
  intro p e s m args below meth c s₁ Bd hml0 hP hK
  obtain ⟨rfl, hZ, hh⟩ := hP
  have hx := Bd.exec
  have hby := Bd.bytes
  have hml : c.maxLocals = 3 := hml0
  have hown : s.vm.findClass "com/example/triplesmith/triplesmith/engine/SeededRandom" = some m.cls := findClass_of_methodNamed Bd.named
  have hnm := (name_of_methodNamed Bd.named Bd.method).1
  have hlk : meth.locks = false := Bd.notSynchronized
  have hret := Bd.returns
  have X0 : Stand p l e ({ frames := 0, cells := 0, slots := 0, locals := 0 } : Room) s m #[(.ref a1)] below meth c s₁ [] 0 0 := Stand.of_body Bd
  have e0 : s₁.heap = h0 := by rw [← hh, Bd.state]; rfl
  have N0 := Fr.nil n0
  have K0 := Keep.refl h0 [a1]
  show own_E p e below (own_F s 0 0) (own_Q3 Z a1 v1 h0 n0) s₁ (entryFrame m #[(.ref a1)] 3)
  refine own_cast (own_ef3 m a1) ?_
  refine own_step (g' := (mkF m 1 #[.val (.ref a1), .unset, .unset] [(.ref a1)])) (fun _ k => XS.aloadN X0.here hx rfl (hb hby own_d3_0) rfl rfl k) ?_
  refine own_step (g' := (mkF m 2 #[.val (.ref a1), .unset, .unset] [(.ref a1), (.ref a1)])) (fun _ k => XS.dup X0.here hx rfl (hb hby own_d3_1) rfl rfl k) ?_
  obtain ⟨T1, X1, e1, st1⟩ := getF X0 hx hZ hown (host := "") (Or.inl (hw _ (List.mem_of_getElem? (i := 9) rfl))) Via.refl e0 F1 (g := (mkF m 2 #[.val (.ref a1), .unset, .unset] [(.ref a1), (.ref a1)])) rfl rfl (hb hby own_d3_2)
  refine own_step (g' := (mkF m 5 #[.val (.ref a1), .unset, .unset] [(.long v1), (.ref a1)])) st1 ?_
  refine own_step (g' := (mkF m 8 #[.val (.ref a1), .unset, .unset] [(.long (-7046029254386353131 : Int64)), (.long v1), (.ref a1)])) (fun _ k => X1.ldc2Long hx hown (mvT hZ (hw _ (List.mem_of_getElem? (i := 16) rfl))) (g := (mkF m 5 #[.val (.ref a1), .unset, .unset] [(.long v1), (.ref a1)])) rfl (hb hby own_d3_5) _ k) ?_
  refine own_step (g' := (mkF m 9 #[.val (.ref a1), .unset, .unset] [(.long (v1 + (-7046029254386353131 : Int64))), (.ref a1)])) (fun _ k => XS.ladd X1.here hx rfl (hb hby own_d3_8) rfl k) ?_
  obtain ⟨T2, h2, X2, e2, W2, st2⟩ := putF X1 hx hZ hown (host := "") (Or.inl (hw _ (List.mem_of_getElem? (i := 9) rfl))) Via.refl e1 F1 Ea (Or.inl (hw _ (List.mem_of_getElem? (i := 10) rfl))) (hw _ (List.mem_of_getElem? (i := 1) rfl)) (ty := .long) (by decide) rfl rfl (g := (mkF m 9 #[.val (.ref a1), .unset, .unset] [(.long (v1 + (-7046029254386353131 : Int64))), (.ref a1)])) rfl rfl (hb hby own_d3_9)
  have Fstate_2 := F1.same W2
  have Ea_2 := Ea.wr W2
  have K2 := K0.wr W2 (Or.inl (List.mem_of_getElem? (i := 0) rfl))
  have Z2 := Nat.le_trans Z0 (Keep.of_wr W2).1
  have N2 := Fr.snoc X2 N0 ga
  refine own_step (g' := (mkF m 12 #[.val (.ref a1), .unset, .unset] [])) st2 ?_
  refine own_step (g' := (mkF m 13 #[.val (.ref a1), .unset, .unset] [(.ref a1)])) (fun _ k => XS.aloadN X2.here hx rfl (hb hby own_d3_12) rfl rfl k) ?_
  obtain ⟨T3, X3, e3, st3⟩ := getF X2 hx hZ hown (host := "") (Or.inl (hw _ (List.mem_of_getElem? (i := 9) rfl))) Via.refl e2 Fstate_2 (g := (mkF m 13 #[.val (.ref a1), .unset, .unset] [(.ref a1)])) rfl rfl (hb hby own_d3_13)
  refine own_step (g' := (mkF m 16 #[.val (.ref a1), .unset, .unset] [(.long (v1 + (-7046029254386353131 : Int64)))])) st3 ?_
  refine own_step (g' := (mkF m 17 #[.val (.ref a1), .val (.long (v1 + (-7046029254386353131 : Int64))), .second] [])) (fun _ k => XS.lstoreN X3.here hx rfl (hb hby own_d3_16) rfl (l' := #[.val (.ref a1), .val (.long (v1 + (-7046029254386353131 : Int64))), .second]) rfl k) ?_
  refine own_step (g' := (mkF m 18 #[.val (.ref a1), .val (.long (v1 + (-7046029254386353131 : Int64))), .second] [(.long (v1 + (-7046029254386353131 : Int64)))])) (fun _ k => XS.lloadN X3.here hx rfl (hb hby own_d3_17) rfl k) ?_
  refine own_step (g' := (mkF m 19 #[.val (.ref a1), .val (.long (v1 + (-7046029254386353131 : Int64))), .second] [(.long (v1 + (-7046029254386353131 : Int64))), (.long (v1 + (-7046029254386353131 : Int64)))])) (fun _ k => XS.lloadN X3.here hx rfl (hb hby own_d3_18) rfl k) ?_
  refine own_step (g' := (mkF m 21 #[.val (.ref a1), .val (.long (v1 + (-7046029254386353131 : Int64))), .second] [(.int (30 : Int32)), (.long (v1 + (-7046029254386353131 : Int64))), (.long (v1 + (-7046029254386353131 : Int64)))])) (fun _ k => XS.bipush X3.here hx rfl (hb hby own_d3_19) k) ?_
  refine own_step (g' := (mkF m 22 #[.val (.ref a1), .val (.long (v1 + (-7046029254386353131 : Int64))), .second] [(.long (((v1 + (-7046029254386353131 : Int64)).toUInt64 >>> ((30 : Int32) &&& 0x3f).toInt64.toUInt64).toInt64)), (.long (v1 + (-7046029254386353131 : Int64)))])) (fun _ k => XS.lushr X3.here hx rfl (hb hby own_d3_21) rfl k) ?_
  refine own_step (g' := (mkF m 23 #[.val (.ref a1), .val (.long (v1 + (-7046029254386353131 : Int64))), .second] [(.long ((v1 + (-7046029254386353131 : Int64)) ^^^ (((v1 + (-7046029254386353131 : Int64)).toUInt64 >>> ((30 : Int32) &&& 0x3f).toInt64.toUInt64).toInt64)))])) (fun _ k => XS.lxor X3.here hx rfl (hb hby own_d3_22) rfl k) ?_
  refine own_step (g' := (mkF m 26 #[.val (.ref a1), .val (.long (v1 + (-7046029254386353131 : Int64))), .second] [(.long (-4658895280553007687 : Int64)), (.long ((v1 + (-7046029254386353131 : Int64)) ^^^ (((v1 + (-7046029254386353131 : Int64)).toUInt64 >>> ((30 : Int32) &&& 0x3f).toInt64.toUInt64).toInt64)))])) (fun _ k => X3.ldc2Long hx hown (mvT hZ (hw _ (List.mem_of_getElem? (i := 17) rfl))) (g := (mkF m 23 #[.val (.ref a1), .val (.long (v1 + (-7046029254386353131 : Int64))), .second] [(.long ((v1 + (-7046029254386353131 : Int64)) ^^^ (((v1 + (-7046029254386353131 : Int64)).toUInt64 >>> ((30 : Int32) &&& 0x3f).toInt64.toUInt64).toInt64)))])) rfl (hb hby own_d3_23) _ k) ?_
  refine own_step (g' := (mkF m 27 #[.val (.ref a1), .val (.long (v1 + (-7046029254386353131 : Int64))), .second] [(.long (((v1 + (-7046029254386353131 : Int64)) ^^^ (((v1 + (-7046029254386353131 : Int64)).toUInt64 >>> ((30 : Int32) &&& 0x3f).toInt64.toUInt64).toInt64)) * (-4658895280553007687 : Int64)))])) (fun _ k => XS.lmul X3.here hx rfl (hb hby own_d3_26) rfl k) ?_
  refine own_step (g' := (mkF m 28 #[.val (.ref a1), .val (.long (((v1 + (-7046029254386353131 : Int64)) ^^^ (((v1 + (-7046029254386353131 : Int64)).toUInt64 >>> ((30 : Int32) &&& 0x3f).toInt64.toUInt64).toInt64)) * (-4658895280553007687 : Int64))), .second] [])) (fun _ k => XS.lstoreN X3.here hx rfl (hb hby own_d3_27) rfl (l' := #[.val (.ref a1), .val (.long (((v1 + (-7046029254386353131 : Int64)) ^^^ (((v1 + (-7046029254386353131 : Int64)).toUInt64 >>> ((30 : Int32) &&& 0x3f).toInt64.toUInt64).toInt64)) * (-4658895280553007687 : Int64))), .second]) rfl k) ?_
  generalize hu1 : (((v1 + (-7046029254386353131 : Int64)) ^^^ (((v1 + (-7046029254386353131 : Int64)).toUInt64 >>> ((30 : Int32) &&& 0x3f).toInt64.toUInt64).toInt64)) * (-4658895280553007687 : Int64)) = u1
  show own_E p e below (own_F s 0 0) (own_Q3 Z a1 v1 h0 n0) T3 (mkF m 28 #[.val (.ref a1), .val (.long u1), .second] [])
  refine own_step (g' := (mkF m 29 #[.val (.ref a1), .val (.long u1), .second] [(.long u1)])) (fun _ k => XS.lloadN X3.here hx rfl (hb hby own_d3_28) rfl k) ?_
  refine own_step (g' := (mkF m 30 #[.val (.ref a1), .val (.long u1), .second] [(.long u1), (.long u1)])) (fun _ k => XS.lloadN X3.here hx rfl (hb hby own_d3_29) rfl k) ?_
  refine own_step (g' := (mkF m 32 #[.val (.ref a1), .val (.long u1), .second] [(.int (27 : Int32)), (.long u1), (.long u1)])) (fun _ k => XS.bipush X3.here hx rfl (hb hby own_d3_30) k) ?_
  refine own_step (g' := (mkF m 33 #[.val (.ref a1), .val (.long u1), .second] [(.long ((u1.toUInt64 >>> ((27 : Int32) &&& 0x3f).toInt64.toUInt64).toInt64)), (.long u1)])) (fun _ k => XS.lushr X3.here hx rfl (hb hby own_d3_32) rfl k) ?_
  refine own_step (g' := (mkF m 34 #[.val (.ref a1), .val (.long u1), .second] [(.long (u1 ^^^ ((u1.toUInt64 >>> ((27 : Int32) &&& 0x3f).toInt64.toUInt64).toInt64)))])) (fun _ k => XS.lxor X3.here hx rfl (hb hby own_d3_33) rfl k) ?_
  refine own_step (g' := (mkF m 37 #[.val (.ref a1), .val (.long u1), .second] [(.long (-7723592293110705685 : Int64)), (.long (u1 ^^^ ((u1.toUInt64 >>> ((27 : Int32) &&& 0x3f).toInt64.toUInt64).toInt64)))])) (fun _ k => X3.ldc2Long hx hown (mvT hZ (hw _ (List.mem_of_getElem? (i := 18) rfl))) (g := (mkF m 34 #[.val (.ref a1), .val (.long u1), .second] [(.long (u1 ^^^ ((u1.toUInt64 >>> ((27 : Int32) &&& 0x3f).toInt64.toUInt64).toInt64)))])) rfl (hb hby own_d3_34) _ k) ?_
  refine own_step (g' := (mkF m 38 #[.val (.ref a1), .val (.long u1), .second] [(.long ((u1 ^^^ ((u1.toUInt64 >>> ((27 : Int32) &&& 0x3f).toInt64.toUInt64).toInt64)) * (-7723592293110705685 : Int64)))])) (fun _ k => XS.lmul X3.here hx rfl (hb hby own_d3_37) rfl k) ?_
  refine own_step (g' := (mkF m 39 #[.val (.ref a1), .val (.long ((u1 ^^^ ((u1.toUInt64 >>> ((27 : Int32) &&& 0x3f).toInt64.toUInt64).toInt64)) * (-7723592293110705685 : Int64))), .second] [])) (fun _ k => XS.lstoreN X3.here hx rfl (hb hby own_d3_38) rfl (l' := #[.val (.ref a1), .val (.long ((u1 ^^^ ((u1.toUInt64 >>> ((27 : Int32) &&& 0x3f).toInt64.toUInt64).toInt64)) * (-7723592293110705685 : Int64))), .second]) rfl k) ?_
  generalize hu2 : ((u1 ^^^ ((u1.toUInt64 >>> ((27 : Int32) &&& 0x3f).toInt64.toUInt64).toInt64)) * (-7723592293110705685 : Int64)) = u2
  show own_E p e below (own_F s 0 0) (own_Q3 Z a1 v1 h0 n0) T3 (mkF m 39 #[.val (.ref a1), .val (.long u2), .second] [])
  refine own_step (g' := (mkF m 40 #[.val (.ref a1), .val (.long u2), .second] [(.long u2)])) (fun _ k => XS.lloadN X3.here hx rfl (hb hby own_d3_39) rfl k) ?_
  refine own_step (g' := (mkF m 41 #[.val (.ref a1), .val (.long u2), .second] [(.long u2), (.long u2)])) (fun _ k => XS.lloadN X3.here hx rfl (hb hby own_d3_40) rfl k) ?_
  refine own_step (g' := (mkF m 43 #[.val (.ref a1), .val (.long u2), .second] [(.int (31 : Int32)), (.long u2), (.long u2)])) (fun _ k => XS.bipush X3.here hx rfl (hb hby own_d3_41) k) ?_
  refine own_step (g' := (mkF m 44 #[.val (.ref a1), .val (.long u2), .second] [(.long ((u2.toUInt64 >>> ((31 : Int32) &&& 0x3f).toInt64.toUInt64).toInt64)), (.long u2)])) (fun _ k => XS.lushr X3.here hx rfl (hb hby own_d3_43) rfl k) ?_
  refine own_step (g' := (mkF m 45 #[.val (.ref a1), .val (.long u2), .second] [(.long (u2 ^^^ ((u2.toUInt64 >>> ((31 : Int32) &&& 0x3f).toInt64.toUInt64).toInt64)))])) (fun _ k => XS.lxor X3.here hx rfl (hb hby own_d3_44) rfl k) ?_
  exact own_retJ X3 hx hlk hret (hb hby own_d3_45) (by decide) (by decide) (by show own_Q3 Z a1 v1 h0 n0 (some (.long (u2 ^^^ ((u2.toUInt64 >>> ((31 : Int32) &&& 0x3f).toInt64.toUInt64).toInt64)))) T3.heap _; rw [e3]; exact ⟨by subst hu2; subst hu1; rfl, N2, K2, Ea_2, Fstate_2⟩)
theorem own_ef5 (m : MethodId) (x0 : Int64) : entryFrame m #[(.long x0)] 4 = mkF m 0 #[.val (.long x0), .second, .unset, .unset] [] := by first | (simp [entryFrame, mkF, argsToLocals, Value.category]; done) | rfl
def own_Q5 (Z : State) (x0 : Int64) (h0 : Heap) (n0 : Nat) (v : Option Value) (h : Heap) (L : List Loc) : Prop := v = some (.long (own_inv x0)) ∧ Fr n0 L ∧ h = h0
theorem own_pn_5 : plainName "com/example/triplesmith/triplesmith/engine/SeededRandomNextLongPinLaw" = true := by first | (simp [plainName, overriddenIn]; done) | decide +kernel
theorem own_d5_0 : decode method_2_code 0 = .ok (.lload_n 0, 1) := by decide +kernel
theorem own_d5_1 : decode method_2_code 1 = .ok (.lstore_n 2, 1) := by decide +kernel
theorem own_d5_2 : decode method_2_code 2 = .ok (.lload_n 2, 1) := by decide +kernel
theorem own_d5_3 : decode method_2_code 3 = .ok (.ldc2_w 7, 3) := by decide +kernel
theorem own_d5_6 : decode method_2_code 6 = .ok (.lload_n 0, 1) := by decide +kernel
theorem own_d5_7 : decode method_2_code 7 = .ok (.lload_n 2, 1) := by decide +kernel
theorem own_d5_8 : decode method_2_code 8 = .ok (.lmul, 1) := by decide +kernel
theorem own_d5_9 : decode method_2_code 9 = .ok (.lsub, 1) := by decide +kernel
theorem own_d5_10 : decode method_2_code 10 = .ok (.lmul, 1) := by decide +kernel
theorem own_d5_11 : decode method_2_code 11 = .ok (.lstore_n 2, 1) := by decide +kernel
theorem own_d5_12 : decode method_2_code 12 = .ok (.lload_n 2, 1) := by decide +kernel
theorem own_d5_13 : decode method_2_code 13 = .ok (.ldc2_w 7, 3) := by decide +kernel
theorem own_d5_16 : decode method_2_code 16 = .ok (.lload_n 0, 1) := by decide +kernel
theorem own_d5_17 : decode method_2_code 17 = .ok (.lload_n 2, 1) := by decide +kernel
theorem own_d5_18 : decode method_2_code 18 = .ok (.lmul, 1) := by decide +kernel
theorem own_d5_19 : decode method_2_code 19 = .ok (.lsub, 1) := by decide +kernel
theorem own_d5_20 : decode method_2_code 20 = .ok (.lmul, 1) := by decide +kernel
theorem own_d5_21 : decode method_2_code 21 = .ok (.lstore_n 2, 1) := by decide +kernel
theorem own_d5_22 : decode method_2_code 22 = .ok (.lload_n 2, 1) := by decide +kernel
theorem own_d5_23 : decode method_2_code 23 = .ok (.ldc2_w 7, 3) := by decide +kernel
theorem own_d5_26 : decode method_2_code 26 = .ok (.lload_n 0, 1) := by decide +kernel
theorem own_d5_27 : decode method_2_code 27 = .ok (.lload_n 2, 1) := by decide +kernel
theorem own_d5_28 : decode method_2_code 28 = .ok (.lmul, 1) := by decide +kernel
theorem own_d5_29 : decode method_2_code 29 = .ok (.lsub, 1) := by decide +kernel
theorem own_d5_30 : decode method_2_code 30 = .ok (.lmul, 1) := by decide +kernel
theorem own_d5_31 : decode method_2_code 31 = .ok (.lstore_n 2, 1) := by decide +kernel
theorem own_d5_32 : decode method_2_code 32 = .ok (.lload_n 2, 1) := by decide +kernel
theorem own_d5_33 : decode method_2_code 33 = .ok (.ldc2_w 7, 3) := by decide +kernel
theorem own_d5_36 : decode method_2_code 36 = .ok (.lload_n 0, 1) := by decide +kernel
theorem own_d5_37 : decode method_2_code 37 = .ok (.lload_n 2, 1) := by decide +kernel
theorem own_d5_38 : decode method_2_code 38 = .ok (.lmul, 1) := by decide +kernel
theorem own_d5_39 : decode method_2_code 39 = .ok (.lsub, 1) := by decide +kernel
theorem own_d5_40 : decode method_2_code 40 = .ok (.lmul, 1) := by decide +kernel
theorem own_d5_41 : decode method_2_code 41 = .ok (.lstore_n 2, 1) := by decide +kernel
theorem own_d5_42 : decode method_2_code 42 = .ok (.lload_n 2, 1) := by decide +kernel
theorem own_d5_43 : decode method_2_code 43 = .ok (.ldc2_w 7, 3) := by decide +kernel
theorem own_d5_46 : decode method_2_code 46 = .ok (.lload_n 0, 1) := by decide +kernel
theorem own_d5_47 : decode method_2_code 47 = .ok (.lload_n 2, 1) := by decide +kernel
theorem own_d5_48 : decode method_2_code 48 = .ok (.lmul, 1) := by decide +kernel
theorem own_d5_49 : decode method_2_code 49 = .ok (.lsub, 1) := by decide +kernel
theorem own_d5_50 : decode method_2_code 50 = .ok (.lmul, 1) := by decide +kernel
theorem own_d5_51 : decode method_2_code 51 = .ok (.lstore_n 2, 1) := by decide +kernel
theorem own_d5_52 : decode method_2_code 52 = .ok (.lload_n 2, 1) := by decide +kernel
theorem own_d5_53 : decode method_2_code 53 = .ok (.lreturn, 1) := by decide +kernel
set_option maxRecDepth 65536 in
set_option maxHeartbeats 40000000 in
theorem own_rm5 (l : Launch) (Z : State) (a0 : Array Value) (hw : ∀ d ∈ tables_1, d.before a0 Z = true) (ws : List Jvm.Cond) (x0 : Int64) (h0 : Heap) (n0 : Nat) (Z0 : n0 ≤ h0.size)  :
    MetFree l (⟨"com/example/triplesmith/triplesmith/engine/SeededRandomNextLongPinLaw", "inverse", "(J)J"⟩ : MethodName) (head1 (Jvm.Cond.code (⟨"com/example/triplesmith/triplesmith/engine/SeededRandomNextLongPinLaw", "inverse", "(J)J"⟩ : MethodName) method_2_code 4 (some .long) :: ws) ({ frames := 0, cells := 0, slots := 0, locals := 0 } : Room)) (fun aU U => aU = #[(.long x0)] ∧ Z.Warmed39 U.vm ∧ U.heap = h0) (fun _ _ _ _ _ => True) (fun _ U o U' => ∃ v L, o = .returned v ∧ own_Q5 Z x0 h0 n0 v U'.heap L ∧ FrameEnd U o U' L 0 0) := by
  refine MetFree.of_bodySF (plainFor_of_name own_pn_5) hisR ?_
  intro p e s m args below meth c s₁ Bd hml0 hP hK
  obtain ⟨rfl, hZ, hh⟩ := hP
  have hx := Bd.exec
  have hby := Bd.bytes
  have hml : c.maxLocals = 4 := hml0
  have hown : s.vm.findClass "com/example/triplesmith/triplesmith/engine/SeededRandomNextLongPinLaw" = some m.cls := findClass_of_methodNamed Bd.named
  have hnm := (name_of_methodNamed Bd.named Bd.method).1
  have hlk : meth.locks = false := Bd.notSynchronized
  have hret := Bd.returns
  have X0 : Stand p l e ({ frames := 0, cells := 0, slots := 0, locals := 0 } : Room) s m #[(.long x0)] below meth c s₁ [] 0 0 := Stand.of_body Bd
  have e0 : s₁.heap = h0 := by rw [← hh, Bd.state]; rfl
  have N0 := Fr.nil n0
  have K0 := Keep.refl h0 ([] : List Addr)
  show own_E p e below (own_F s 0 0) (own_Q5 Z x0 h0 n0) s₁ (entryFrame m #[(.long x0)] 4)
  refine own_cast (own_ef5 m x0) ?_
  refine own_step (g' := (mkF m 1 #[.val (.long x0), .second, .unset, .unset] [(.long x0)])) (fun _ k => XS.lloadN X0.here hx rfl (hb hby own_d5_0) rfl k) ?_
  refine own_step (g' := (mkF m 2 #[.val (.long x0), .second, .val (.long x0), .second] [])) (fun _ k => XS.lstoreN X0.here hx rfl (hb hby own_d5_1) rfl (l' := #[.val (.long x0), .second, .val (.long x0), .second]) rfl k) ?_
  refine own_step (g' := (mkF m 3 #[.val (.long x0), .second, .val (.long x0), .second] [(.long x0)])) (fun _ k => XS.lloadN X0.here hx rfl (hb hby own_d5_2) rfl k) ?_
  refine own_step (g' := (mkF m 6 #[.val (.long x0), .second, .val (.long x0), .second] [(.long (2 : Int64)), (.long x0)])) (fun _ k => X0.ldc2Long hx hown (mvT hZ (hw _ (List.mem_of_getElem? (i := 27) rfl))) (g := (mkF m 3 #[.val (.long x0), .second, .val (.long x0), .second] [(.long x0)])) rfl (hb hby own_d5_3) _ k) ?_
  refine own_step (g' := (mkF m 7 #[.val (.long x0), .second, .val (.long x0), .second] [(.long x0), (.long (2 : Int64)), (.long x0)])) (fun _ k => XS.lloadN X0.here hx rfl (hb hby own_d5_6) rfl k) ?_
  refine own_step (g' := (mkF m 8 #[.val (.long x0), .second, .val (.long x0), .second] [(.long x0), (.long x0), (.long (2 : Int64)), (.long x0)])) (fun _ k => XS.lloadN X0.here hx rfl (hb hby own_d5_7) rfl k) ?_
  refine own_step (g' := (mkF m 9 #[.val (.long x0), .second, .val (.long x0), .second] [(.long (x0 * x0)), (.long (2 : Int64)), (.long x0)])) (fun _ k => XS.lmul X0.here hx rfl (hb hby own_d5_8) rfl k) ?_
  refine own_step (g' := (mkF m 10 #[.val (.long x0), .second, .val (.long x0), .second] [(.long ((2 : Int64) - (x0 * x0))), (.long x0)])) (fun _ k => XS.lsub X0.here hx rfl (hb hby own_d5_9) rfl k) ?_
  refine own_step (g' := (mkF m 11 #[.val (.long x0), .second, .val (.long x0), .second] [(.long (x0 * ((2 : Int64) - (x0 * x0))))])) (fun _ k => XS.lmul X0.here hx rfl (hb hby own_d5_10) rfl k) ?_
  refine own_step (g' := (mkF m 12 #[.val (.long x0), .second, .val (.long (x0 * ((2 : Int64) - (x0 * x0)))), .second] [])) (fun _ k => XS.lstoreN X0.here hx rfl (hb hby own_d5_11) rfl (l' := #[.val (.long x0), .second, .val (.long (x0 * ((2 : Int64) - (x0 * x0)))), .second]) rfl k) ?_
  generalize hu0 : (x0 * ((2 : Int64) - (x0 * x0))) = u0
  show own_E p e below (own_F s 0 0) (own_Q5 Z x0 h0 n0) s₁ (mkF m 12 #[.val (.long x0), .second, .val (.long u0), .second] [])
  refine own_step (g' := (mkF m 13 #[.val (.long x0), .second, .val (.long u0), .second] [(.long u0)])) (fun _ k => XS.lloadN X0.here hx rfl (hb hby own_d5_12) rfl k) ?_
  refine own_step (g' := (mkF m 16 #[.val (.long x0), .second, .val (.long u0), .second] [(.long (2 : Int64)), (.long u0)])) (fun _ k => X0.ldc2Long hx hown (mvT hZ (hw _ (List.mem_of_getElem? (i := 27) rfl))) (g := (mkF m 13 #[.val (.long x0), .second, .val (.long u0), .second] [(.long u0)])) rfl (hb hby own_d5_13) _ k) ?_
  refine own_step (g' := (mkF m 17 #[.val (.long x0), .second, .val (.long u0), .second] [(.long x0), (.long (2 : Int64)), (.long u0)])) (fun _ k => XS.lloadN X0.here hx rfl (hb hby own_d5_16) rfl k) ?_
  refine own_step (g' := (mkF m 18 #[.val (.long x0), .second, .val (.long u0), .second] [(.long u0), (.long x0), (.long (2 : Int64)), (.long u0)])) (fun _ k => XS.lloadN X0.here hx rfl (hb hby own_d5_17) rfl k) ?_
  refine own_step (g' := (mkF m 19 #[.val (.long x0), .second, .val (.long u0), .second] [(.long (x0 * u0)), (.long (2 : Int64)), (.long u0)])) (fun _ k => XS.lmul X0.here hx rfl (hb hby own_d5_18) rfl k) ?_
  refine own_step (g' := (mkF m 20 #[.val (.long x0), .second, .val (.long u0), .second] [(.long ((2 : Int64) - (x0 * u0))), (.long u0)])) (fun _ k => XS.lsub X0.here hx rfl (hb hby own_d5_19) rfl k) ?_
  refine own_step (g' := (mkF m 21 #[.val (.long x0), .second, .val (.long u0), .second] [(.long (u0 * ((2 : Int64) - (x0 * u0))))])) (fun _ k => XS.lmul X0.here hx rfl (hb hby own_d5_20) rfl k) ?_
  refine own_step (g' := (mkF m 22 #[.val (.long x0), .second, .val (.long (u0 * ((2 : Int64) - (x0 * u0)))), .second] [])) (fun _ k => XS.lstoreN X0.here hx rfl (hb hby own_d5_21) rfl (l' := #[.val (.long x0), .second, .val (.long (u0 * ((2 : Int64) - (x0 * u0)))), .second]) rfl k) ?_
  generalize hu1 : (u0 * ((2 : Int64) - (x0 * u0))) = u1
  show own_E p e below (own_F s 0 0) (own_Q5 Z x0 h0 n0) s₁ (mkF m 22 #[.val (.long x0), .second, .val (.long u1), .second] [])
  refine own_step (g' := (mkF m 23 #[.val (.long x0), .second, .val (.long u1), .second] [(.long u1)])) (fun _ k => XS.lloadN X0.here hx rfl (hb hby own_d5_22) rfl k) ?_
  refine own_step (g' := (mkF m 26 #[.val (.long x0), .second, .val (.long u1), .second] [(.long (2 : Int64)), (.long u1)])) (fun _ k => X0.ldc2Long hx hown (mvT hZ (hw _ (List.mem_of_getElem? (i := 27) rfl))) (g := (mkF m 23 #[.val (.long x0), .second, .val (.long u1), .second] [(.long u1)])) rfl (hb hby own_d5_23) _ k) ?_
  refine own_step (g' := (mkF m 27 #[.val (.long x0), .second, .val (.long u1), .second] [(.long x0), (.long (2 : Int64)), (.long u1)])) (fun _ k => XS.lloadN X0.here hx rfl (hb hby own_d5_26) rfl k) ?_
  refine own_step (g' := (mkF m 28 #[.val (.long x0), .second, .val (.long u1), .second] [(.long u1), (.long x0), (.long (2 : Int64)), (.long u1)])) (fun _ k => XS.lloadN X0.here hx rfl (hb hby own_d5_27) rfl k) ?_
  refine own_step (g' := (mkF m 29 #[.val (.long x0), .second, .val (.long u1), .second] [(.long (x0 * u1)), (.long (2 : Int64)), (.long u1)])) (fun _ k => XS.lmul X0.here hx rfl (hb hby own_d5_28) rfl k) ?_
  refine own_step (g' := (mkF m 30 #[.val (.long x0), .second, .val (.long u1), .second] [(.long ((2 : Int64) - (x0 * u1))), (.long u1)])) (fun _ k => XS.lsub X0.here hx rfl (hb hby own_d5_29) rfl k) ?_
  refine own_step (g' := (mkF m 31 #[.val (.long x0), .second, .val (.long u1), .second] [(.long (u1 * ((2 : Int64) - (x0 * u1))))])) (fun _ k => XS.lmul X0.here hx rfl (hb hby own_d5_30) rfl k) ?_
  refine own_step (g' := (mkF m 32 #[.val (.long x0), .second, .val (.long (u1 * ((2 : Int64) - (x0 * u1)))), .second] [])) (fun _ k => XS.lstoreN X0.here hx rfl (hb hby own_d5_31) rfl (l' := #[.val (.long x0), .second, .val (.long (u1 * ((2 : Int64) - (x0 * u1)))), .second]) rfl k) ?_
  generalize hu2 : (u1 * ((2 : Int64) - (x0 * u1))) = u2
  show own_E p e below (own_F s 0 0) (own_Q5 Z x0 h0 n0) s₁ (mkF m 32 #[.val (.long x0), .second, .val (.long u2), .second] [])
  refine own_step (g' := (mkF m 33 #[.val (.long x0), .second, .val (.long u2), .second] [(.long u2)])) (fun _ k => XS.lloadN X0.here hx rfl (hb hby own_d5_32) rfl k) ?_
  refine own_step (g' := (mkF m 36 #[.val (.long x0), .second, .val (.long u2), .second] [(.long (2 : Int64)), (.long u2)])) (fun _ k => X0.ldc2Long hx hown (mvT hZ (hw _ (List.mem_of_getElem? (i := 27) rfl))) (g := (mkF m 33 #[.val (.long x0), .second, .val (.long u2), .second] [(.long u2)])) rfl (hb hby own_d5_33) _ k) ?_
  refine own_step (g' := (mkF m 37 #[.val (.long x0), .second, .val (.long u2), .second] [(.long x0), (.long (2 : Int64)), (.long u2)])) (fun _ k => XS.lloadN X0.here hx rfl (hb hby own_d5_36) rfl k) ?_
  refine own_step (g' := (mkF m 38 #[.val (.long x0), .second, .val (.long u2), .second] [(.long u2), (.long x0), (.long (2 : Int64)), (.long u2)])) (fun _ k => XS.lloadN X0.here hx rfl (hb hby own_d5_37) rfl k) ?_
  refine own_step (g' := (mkF m 39 #[.val (.long x0), .second, .val (.long u2), .second] [(.long (x0 * u2)), (.long (2 : Int64)), (.long u2)])) (fun _ k => XS.lmul X0.here hx rfl (hb hby own_d5_38) rfl k) ?_
  refine own_step (g' := (mkF m 40 #[.val (.long x0), .second, .val (.long u2), .second] [(.long ((2 : Int64) - (x0 * u2))), (.long u2)])) (fun _ k => XS.lsub X0.here hx rfl (hb hby own_d5_39) rfl k) ?_
  refine own_step (g' := (mkF m 41 #[.val (.long x0), .second, .val (.long u2), .second] [(.long (u2 * ((2 : Int64) - (x0 * u2))))])) (fun _ k => XS.lmul X0.here hx rfl (hb hby own_d5_40) rfl k) ?_
  refine own_step (g' := (mkF m 42 #[.val (.long x0), .second, .val (.long (u2 * ((2 : Int64) - (x0 * u2)))), .second] [])) (fun _ k => XS.lstoreN X0.here hx rfl (hb hby own_d5_41) rfl (l' := #[.val (.long x0), .second, .val (.long (u2 * ((2 : Int64) - (x0 * u2)))), .second]) rfl k) ?_
  generalize hu3 : (u2 * ((2 : Int64) - (x0 * u2))) = u3
  show own_E p e below (own_F s 0 0) (own_Q5 Z x0 h0 n0) s₁ (mkF m 42 #[.val (.long x0), .second, .val (.long u3), .second] [])
  refine own_step (g' := (mkF m 43 #[.val (.long x0), .second, .val (.long u3), .second] [(.long u3)])) (fun _ k => XS.lloadN X0.here hx rfl (hb hby own_d5_42) rfl k) ?_
  refine own_step (g' := (mkF m 46 #[.val (.long x0), .second, .val (.long u3), .second] [(.long (2 : Int64)), (.long u3)])) (fun _ k => X0.ldc2Long hx hown (mvT hZ (hw _ (List.mem_of_getElem? (i := 27) rfl))) (g := (mkF m 43 #[.val (.long x0), .second, .val (.long u3), .second] [(.long u3)])) rfl (hb hby own_d5_43) _ k) ?_
  refine own_step (g' := (mkF m 47 #[.val (.long x0), .second, .val (.long u3), .second] [(.long x0), (.long (2 : Int64)), (.long u3)])) (fun _ k => XS.lloadN X0.here hx rfl (hb hby own_d5_46) rfl k) ?_
  refine own_step (g' := (mkF m 48 #[.val (.long x0), .second, .val (.long u3), .second] [(.long u3), (.long x0), (.long (2 : Int64)), (.long u3)])) (fun _ k => XS.lloadN X0.here hx rfl (hb hby own_d5_47) rfl k) ?_
  refine own_step (g' := (mkF m 49 #[.val (.long x0), .second, .val (.long u3), .second] [(.long (x0 * u3)), (.long (2 : Int64)), (.long u3)])) (fun _ k => XS.lmul X0.here hx rfl (hb hby own_d5_48) rfl k) ?_
  refine own_step (g' := (mkF m 50 #[.val (.long x0), .second, .val (.long u3), .second] [(.long ((2 : Int64) - (x0 * u3))), (.long u3)])) (fun _ k => XS.lsub X0.here hx rfl (hb hby own_d5_49) rfl k) ?_
  refine own_step (g' := (mkF m 51 #[.val (.long x0), .second, .val (.long u3), .second] [(.long (u3 * ((2 : Int64) - (x0 * u3))))])) (fun _ k => XS.lmul X0.here hx rfl (hb hby own_d5_50) rfl k) ?_
  refine own_step (g' := (mkF m 52 #[.val (.long x0), .second, .val (.long (u3 * ((2 : Int64) - (x0 * u3)))), .second] [])) (fun _ k => XS.lstoreN X0.here hx rfl (hb hby own_d5_51) rfl (l' := #[.val (.long x0), .second, .val (.long (u3 * ((2 : Int64) - (x0 * u3)))), .second]) rfl k) ?_
  generalize hu4 : (u3 * ((2 : Int64) - (x0 * u3))) = u4
  show own_E p e below (own_F s 0 0) (own_Q5 Z x0 h0 n0) s₁ (mkF m 52 #[.val (.long x0), .second, .val (.long u4), .second] [])
  refine own_step (g' := (mkF m 53 #[.val (.long x0), .second, .val (.long u4), .second] [(.long u4)])) (fun _ k => XS.lloadN X0.here hx rfl (hb hby own_d5_52) rfl k) ?_
  exact own_retJ X0 hx hlk hret (hb hby own_d5_53) (by decide) (by decide) (by show own_Q5 Z x0 h0 n0 (some (.long u4)) s₁.heap _; rw [e0]; exact ⟨by subst hu4; subst hu3; subst hu2; subst hu1; subst hu0; rfl, N0, rfl⟩)
theorem own_ef4 (m : MethodId) (x0 : Int64) : entryFrame m #[(.long x0)] 4 = mkF m 0 #[.val (.long x0), .second, .unset, .unset] [] := by first | (simp [entryFrame, mkF, argsToLocals, Value.category]; done) | rfl
def own_Q4 (Z : State) (x0 : Int64) (h0 : Heap) (n0 : Nat) (v : Option Value) (h : Heap) (L : List Loc) : Prop := v = some (.long (own_unmix x0)) ∧ Fr n0 L ∧ h = h0
theorem own_pn_4 : plainName "com/example/triplesmith/triplesmith/engine/SeededRandomNextLongPinLaw" = true := by first | (simp [plainName, overriddenIn]; done) | decide +kernel
theorem own_d4_0 : decode method_3_code 0 = .ok (.lload_n 0, 1) := by decide +kernel
theorem own_d4_1 : decode method_3_code 1 = .ok (.lload_n 0, 1) := by decide +kernel
theorem own_d4_2 : decode method_3_code 2 = .ok (.bipush 31, 2) := by decide +kernel
theorem own_d4_4 : decode method_3_code 4 = .ok (.lushr, 1) := by decide +kernel
theorem own_d4_5 : decode method_3_code 5 = .ok (.lxor, 1) := by decide +kernel
theorem own_d4_6 : decode method_3_code 6 = .ok (.lload_n 0, 1) := by decide +kernel
theorem own_d4_7 : decode method_3_code 7 = .ok (.bipush 62, 2) := by decide +kernel
theorem own_d4_9 : decode method_3_code 9 = .ok (.lushr, 1) := by decide +kernel
theorem own_d4_10 : decode method_3_code 10 = .ok (.lxor, 1) := by decide +kernel
theorem own_d4_11 : decode method_3_code 11 = .ok (.lstore_n 2, 1) := by decide +kernel
theorem own_d4_12 : decode method_3_code 12 = .ok (.lload_n 2, 1) := by decide +kernel
theorem own_d4_13 : decode method_3_code 13 = .ok (.ldc2_w 9, 3) := by decide +kernel
theorem own_d4_16 : decode method_3_code 16 = .ok (.invokestatic 11, 3) := by decide +kernel
theorem own_pd__28J_29J : parseMethodDescriptor "(J)J" = some ⟨[.long], some .long⟩ := by decide +kernel
theorem own_d4_19 : decode method_3_code 19 = .ok (.lmul, 1) := by decide +kernel
theorem own_d4_20 : decode method_3_code 20 = .ok (.lstore_n 2, 1) := by decide +kernel
theorem own_d4_21 : decode method_3_code 21 = .ok (.lload_n 2, 1) := by decide +kernel
theorem own_d4_22 : decode method_3_code 22 = .ok (.lload_n 2, 1) := by decide +kernel
theorem own_d4_23 : decode method_3_code 23 = .ok (.bipush 27, 2) := by decide +kernel
theorem own_d4_25 : decode method_3_code 25 = .ok (.lushr, 1) := by decide +kernel
theorem own_d4_26 : decode method_3_code 26 = .ok (.lxor, 1) := by decide +kernel
theorem own_d4_27 : decode method_3_code 27 = .ok (.lload_n 2, 1) := by decide +kernel
theorem own_d4_28 : decode method_3_code 28 = .ok (.bipush 54, 2) := by decide +kernel
theorem own_d4_30 : decode method_3_code 30 = .ok (.lushr, 1) := by decide +kernel
theorem own_d4_31 : decode method_3_code 31 = .ok (.lxor, 1) := by decide +kernel
theorem own_d4_32 : decode method_3_code 32 = .ok (.lstore_n 2, 1) := by decide +kernel
theorem own_d4_33 : decode method_3_code 33 = .ok (.lload_n 2, 1) := by decide +kernel
theorem own_d4_34 : decode method_3_code 34 = .ok (.ldc2_w 17, 3) := by decide +kernel
theorem own_d4_37 : decode method_3_code 37 = .ok (.invokestatic 11, 3) := by decide +kernel
theorem own_d4_40 : decode method_3_code 40 = .ok (.lmul, 1) := by decide +kernel
theorem own_d4_41 : decode method_3_code 41 = .ok (.lstore_n 2, 1) := by decide +kernel
theorem own_d4_42 : decode method_3_code 42 = .ok (.lload_n 2, 1) := by decide +kernel
theorem own_d4_43 : decode method_3_code 43 = .ok (.lload_n 2, 1) := by decide +kernel
theorem own_d4_44 : decode method_3_code 44 = .ok (.bipush 30, 2) := by decide +kernel
theorem own_d4_46 : decode method_3_code 46 = .ok (.lushr, 1) := by decide +kernel
theorem own_d4_47 : decode method_3_code 47 = .ok (.lxor, 1) := by decide +kernel
theorem own_d4_48 : decode method_3_code 48 = .ok (.lload_n 2, 1) := by decide +kernel
theorem own_d4_49 : decode method_3_code 49 = .ok (.bipush 60, 2) := by decide +kernel
theorem own_d4_51 : decode method_3_code 51 = .ok (.lushr, 1) := by decide +kernel
theorem own_d4_52 : decode method_3_code 52 = .ok (.lxor, 1) := by decide +kernel
theorem own_d4_53 : decode method_3_code 53 = .ok (.lreturn, 1) := by decide +kernel
set_option maxRecDepth 65536 in
set_option maxHeartbeats 40000000 in
theorem own_rm4 (l : Launch) (Z : State) (a0 : Array Value) (hw : ∀ d ∈ tables_1, d.before a0 Z = true) (ws : List Jvm.Cond) (x0 : Int64) (h0 : Heap) (n0 : Nat) (Z0 : n0 ≤ h0.size)  :
    MetFree l (⟨"com/example/triplesmith/triplesmith/engine/SeededRandomNextLongPinLaw", "unmix", "(J)J"⟩ : MethodName) (head1 (Jvm.Cond.code (⟨"com/example/triplesmith/triplesmith/engine/SeededRandomNextLongPinLaw", "unmix", "(J)J"⟩ : MethodName) method_3_code 4 (some .long) :: ws) ({ frames := 1, cells := 0, slots := 0, locals := 17 } : Room)) (fun aU U => aU = #[(.long x0)] ∧ Z.Warmed39 U.vm ∧ U.heap = h0) (fun _ _ _ _ _ => True) (fun _ U o U' => ∃ v L, o = .returned v ∧ own_Q4 Z x0 h0 n0 v U'.heap L ∧ FrameEnd U o U' L 0 0) := by
  refine MetFree.of_bodySF (plainFor_of_name own_pn_4) hisR ?_
  intro p e s m args below meth c s₁ Bd hml0 hP hK
  obtain ⟨rfl, hZ, hh⟩ := hP
  have hx := Bd.exec
  have hby := Bd.bytes
  have hml : c.maxLocals = 4 := hml0
  have hown : s.vm.findClass "com/example/triplesmith/triplesmith/engine/SeededRandomNextLongPinLaw" = some m.cls := findClass_of_methodNamed Bd.named
  have hnm := (name_of_methodNamed Bd.named Bd.method).1
  have hlk : meth.locks = false := Bd.notSynchronized
  have hret := Bd.returns
  have X0 : Stand p l e ({ frames := 1, cells := 0, slots := 0, locals := 17 } : Room) s m #[(.long x0)] below meth c s₁ [] 0 0 := Stand.of_body Bd
  have e0 : s₁.heap = h0 := by rw [← hh, Bd.state]; rfl
  have N0 := Fr.nil n0
  have K0 := Keep.refl h0 ([] : List Addr)
  show own_E p e below (own_F s 0 0) (own_Q4 Z x0 h0 n0) s₁ (entryFrame m #[(.long x0)] 4)
  refine own_cast (own_ef4 m x0) ?_
  refine own_step (g' := (mkF m 1 #[.val (.long x0), .second, .unset, .unset] [(.long x0)])) (fun _ k => XS.lloadN X0.here hx rfl (hb hby own_d4_0) rfl k) ?_
  refine own_step (g' := (mkF m 2 #[.val (.long x0), .second, .unset, .unset] [(.long x0), (.long x0)])) (fun _ k => XS.lloadN X0.here hx rfl (hb hby own_d4_1) rfl k) ?_
  refine own_step (g' := (mkF m 4 #[.val (.long x0), .second, .unset, .unset] [(.int (31 : Int32)), (.long x0), (.long x0)])) (fun _ k => XS.bipush X0.here hx rfl (hb hby own_d4_2) k) ?_
  refine own_step (g' := (mkF m 5 #[.val (.long x0), .second, .unset, .unset] [(.long ((x0.toUInt64 >>> ((31 : Int32) &&& 0x3f).toInt64.toUInt64).toInt64)), (.long x0)])) (fun _ k => XS.lushr X0.here hx rfl (hb hby own_d4_4) rfl k) ?_
  refine own_step (g' := (mkF m 6 #[.val (.long x0), .second, .unset, .unset] [(.long (x0 ^^^ ((x0.toUInt64 >>> ((31 : Int32) &&& 0x3f).toInt64.toUInt64).toInt64)))])) (fun _ k => XS.lxor X0.here hx rfl (hb hby own_d4_5) rfl k) ?_
  refine own_step (g' := (mkF m 7 #[.val (.long x0), .second, .unset, .unset] [(.long x0), (.long (x0 ^^^ ((x0.toUInt64 >>> ((31 : Int32) &&& 0x3f).toInt64.toUInt64).toInt64)))])) (fun _ k => XS.lloadN X0.here hx rfl (hb hby own_d4_6) rfl k) ?_
  refine own_step (g' := (mkF m 9 #[.val (.long x0), .second, .unset, .unset] [(.int (62 : Int32)), (.long x0), (.long (x0 ^^^ ((x0.toUInt64 >>> ((31 : Int32) &&& 0x3f).toInt64.toUInt64).toInt64)))])) (fun _ k => XS.bipush X0.here hx rfl (hb hby own_d4_7) k) ?_
  refine own_step (g' := (mkF m 10 #[.val (.long x0), .second, .unset, .unset] [(.long ((x0.toUInt64 >>> ((62 : Int32) &&& 0x3f).toInt64.toUInt64).toInt64)), (.long (x0 ^^^ ((x0.toUInt64 >>> ((31 : Int32) &&& 0x3f).toInt64.toUInt64).toInt64)))])) (fun _ k => XS.lushr X0.here hx rfl (hb hby own_d4_9) rfl k) ?_
  refine own_step (g' := (mkF m 11 #[.val (.long x0), .second, .unset, .unset] [(.long ((x0 ^^^ ((x0.toUInt64 >>> ((31 : Int32) &&& 0x3f).toInt64.toUInt64).toInt64)) ^^^ ((x0.toUInt64 >>> ((62 : Int32) &&& 0x3f).toInt64.toUInt64).toInt64)))])) (fun _ k => XS.lxor X0.here hx rfl (hb hby own_d4_10) rfl k) ?_
  refine own_step (g' := (mkF m 12 #[.val (.long x0), .second, .val (.long ((x0 ^^^ ((x0.toUInt64 >>> ((31 : Int32) &&& 0x3f).toInt64.toUInt64).toInt64)) ^^^ ((x0.toUInt64 >>> ((62 : Int32) &&& 0x3f).toInt64.toUInt64).toInt64))), .second] [])) (fun _ k => XS.lstoreN X0.here hx rfl (hb hby own_d4_11) rfl (l' := #[.val (.long x0), .second, .val (.long ((x0 ^^^ ((x0.toUInt64 >>> ((31 : Int32) &&& 0x3f).toInt64.toUInt64).toInt64)) ^^^ ((x0.toUInt64 >>> ((62 : Int32) &&& 0x3f).toInt64.toUInt64).toInt64))), .second]) rfl k) ?_
  generalize hu0 : ((x0 ^^^ ((x0.toUInt64 >>> ((31 : Int32) &&& 0x3f).toInt64.toUInt64).toInt64)) ^^^ ((x0.toUInt64 >>> ((62 : Int32) &&& 0x3f).toInt64.toUInt64).toInt64)) = u0
  show own_E p e below (own_F s 0 0) (own_Q4 Z x0 h0 n0) s₁ (mkF m 12 #[.val (.long x0), .second, .val (.long u0), .second] [])
  refine own_step (g' := (mkF m 13 #[.val (.long x0), .second, .val (.long u0), .second] [(.long u0)])) (fun _ k => XS.lloadN X0.here hx rfl (hb hby own_d4_12) rfl k) ?_
  refine own_step (g' := (mkF m 16 #[.val (.long x0), .second, .val (.long u0), .second] [(.long (-7723592293110705685 : Int64)), (.long u0)])) (fun _ k => X0.ldc2Long hx hown (mvT hZ (hw _ (List.mem_of_getElem? (i := 23) rfl))) (g := (mkF m 13 #[.val (.long x0), .second, .val (.long u0), .second] [(.long u0)])) rfl (hb hby own_d4_13) _ k) ?_
  obtain ⟨_, _, ⟨T1, L1, k1, n1⟩, -, X1, ⟨Lc1, hQ1, l1, y1, z1⟩, st1⟩ := Jvm.LawKit.callS X0 hx (y := (⟨"com/example/triplesmith/triplesmith/engine/SeededRandomNextLongPinLaw", "inverse", "(J)J"⟩ : MethodName)) hown (mvT hZ (hw _ (List.mem_of_getElem? (i := 24) rfl))) (mvT hZ (hw _ (List.mem_of_getElem? (i := 25) rfl))) (mvT hZ (hw _ (List.mem_of_getElem? (i := 21) rfl))) (mvT hZ (hw _ (List.mem_of_getElem? (i := 26) rfl))) (by decide) (backOf (W := 2) (own_rm5 l Z a0 hw [] (-7723592293110705685 : Int64) h0 n0 Z0 ) hZ (hw _ (List.mem_of_getElem? (i := 26) rfl)) (hw _ (List.mem_of_getElem? (i := 21) rfl)) (by decide) (by decide)) (g := (mkF m 16 #[.val (.long x0), .second, .val (.long u0), .second] [(.long (-7723592293110705685 : Int64)), (.long u0)])) rfl (by rw [hml]; rfl) (argsL := [(.long (-7723592293110705685 : Int64))]) (rest := [(.long u0)]) (lenOf own_pd__28J_29J rfl) rfl (by show 2 * 0 + _ ≤ _; exact Nat.le_of_eq rfl) (hb hby own_d4_16) (fun _ _ => ⟨rfl, e0, (by decide : 0 + 0 ≤ _), (by decide : 0 + 0 ≤ _)⟩)
  dsimp only [Pt.U, Pt.locs, Pt.cells, Pt.slots] at X1 l1 y1 z1 st1 hQ1
  subst l1 y1 z1
  obtain ⟨rfl, Nq1, e1⟩ := hQ1
  have N1 := Fr.app N0 Nq1
  refine own_step (g' := (mkF m 19 #[.val (.long x0), .second, .val (.long u0), .second] [(.long (own_inv (-7723592293110705685 : Int64))), (.long u0)])) (fun _ k => st1 _ k) ?_
  refine own_step (g' := (mkF m 20 #[.val (.long x0), .second, .val (.long u0), .second] [(.long (u0 * (own_inv (-7723592293110705685 : Int64))))])) (fun _ k => XS.lmul X1.here hx rfl (hb hby own_d4_19) rfl k) ?_
  refine own_step (g' := (mkF m 21 #[.val (.long x0), .second, .val (.long (u0 * (own_inv (-7723592293110705685 : Int64)))), .second] [])) (fun _ k => XS.lstoreN X1.here hx rfl (hb hby own_d4_20) rfl (l' := #[.val (.long x0), .second, .val (.long (u0 * (own_inv (-7723592293110705685 : Int64)))), .second]) rfl k) ?_
  generalize hu1 : (u0 * (own_inv (-7723592293110705685 : Int64))) = u1
  show own_E p e below (own_F s 0 0) (own_Q4 Z x0 h0 n0) T1 (mkF m 21 #[.val (.long x0), .second, .val (.long u1), .second] [])
  refine own_step (g' := (mkF m 22 #[.val (.long x0), .second, .val (.long u1), .second] [(.long u1)])) (fun _ k => XS.lloadN X1.here hx rfl (hb hby own_d4_21) rfl k) ?_
  refine own_step (g' := (mkF m 23 #[.val (.long x0), .second, .val (.long u1), .second] [(.long u1), (.long u1)])) (fun _ k => XS.lloadN X1.here hx rfl (hb hby own_d4_22) rfl k) ?_
  refine own_step (g' := (mkF m 25 #[.val (.long x0), .second, .val (.long u1), .second] [(.int (27 : Int32)), (.long u1), (.long u1)])) (fun _ k => XS.bipush X1.here hx rfl (hb hby own_d4_23) k) ?_
  refine own_step (g' := (mkF m 26 #[.val (.long x0), .second, .val (.long u1), .second] [(.long ((u1.toUInt64 >>> ((27 : Int32) &&& 0x3f).toInt64.toUInt64).toInt64)), (.long u1)])) (fun _ k => XS.lushr X1.here hx rfl (hb hby own_d4_25) rfl k) ?_
  refine own_step (g' := (mkF m 27 #[.val (.long x0), .second, .val (.long u1), .second] [(.long (u1 ^^^ ((u1.toUInt64 >>> ((27 : Int32) &&& 0x3f).toInt64.toUInt64).toInt64)))])) (fun _ k => XS.lxor X1.here hx rfl (hb hby own_d4_26) rfl k) ?_
  refine own_step (g' := (mkF m 28 #[.val (.long x0), .second, .val (.long u1), .second] [(.long u1), (.long (u1 ^^^ ((u1.toUInt64 >>> ((27 : Int32) &&& 0x3f).toInt64.toUInt64).toInt64)))])) (fun _ k => XS.lloadN X1.here hx rfl (hb hby own_d4_27) rfl k) ?_
  refine own_step (g' := (mkF m 30 #[.val (.long x0), .second, .val (.long u1), .second] [(.int (54 : Int32)), (.long u1), (.long (u1 ^^^ ((u1.toUInt64 >>> ((27 : Int32) &&& 0x3f).toInt64.toUInt64).toInt64)))])) (fun _ k => XS.bipush X1.here hx rfl (hb hby own_d4_28) k) ?_
  refine own_step (g' := (mkF m 31 #[.val (.long x0), .second, .val (.long u1), .second] [(.long ((u1.toUInt64 >>> ((54 : Int32) &&& 0x3f).toInt64.toUInt64).toInt64)), (.long (u1 ^^^ ((u1.toUInt64 >>> ((27 : Int32) &&& 0x3f).toInt64.toUInt64).toInt64)))])) (fun _ k => XS.lushr X1.here hx rfl (hb hby own_d4_30) rfl k) ?_
  refine own_step (g' := (mkF m 32 #[.val (.long x0), .second, .val (.long u1), .second] [(.long ((u1 ^^^ ((u1.toUInt64 >>> ((27 : Int32) &&& 0x3f).toInt64.toUInt64).toInt64)) ^^^ ((u1.toUInt64 >>> ((54 : Int32) &&& 0x3f).toInt64.toUInt64).toInt64)))])) (fun _ k => XS.lxor X1.here hx rfl (hb hby own_d4_31) rfl k) ?_
  refine own_step (g' := (mkF m 33 #[.val (.long x0), .second, .val (.long ((u1 ^^^ ((u1.toUInt64 >>> ((27 : Int32) &&& 0x3f).toInt64.toUInt64).toInt64)) ^^^ ((u1.toUInt64 >>> ((54 : Int32) &&& 0x3f).toInt64.toUInt64).toInt64))), .second] [])) (fun _ k => XS.lstoreN X1.here hx rfl (hb hby own_d4_32) rfl (l' := #[.val (.long x0), .second, .val (.long ((u1 ^^^ ((u1.toUInt64 >>> ((27 : Int32) &&& 0x3f).toInt64.toUInt64).toInt64)) ^^^ ((u1.toUInt64 >>> ((54 : Int32) &&& 0x3f).toInt64.toUInt64).toInt64))), .second]) rfl k) ?_
  generalize hu2 : ((u1 ^^^ ((u1.toUInt64 >>> ((27 : Int32) &&& 0x3f).toInt64.toUInt64).toInt64)) ^^^ ((u1.toUInt64 >>> ((54 : Int32) &&& 0x3f).toInt64.toUInt64).toInt64)) = u2
  show own_E p e below (own_F s 0 0) (own_Q4 Z x0 h0 n0) T1 (mkF m 33 #[.val (.long x0), .second, .val (.long u2), .second] [])
  refine own_step (g' := (mkF m 34 #[.val (.long x0), .second, .val (.long u2), .second] [(.long u2)])) (fun _ k => XS.lloadN X1.here hx rfl (hb hby own_d4_33) rfl k) ?_
  refine own_step (g' := (mkF m 37 #[.val (.long x0), .second, .val (.long u2), .second] [(.long (-4658895280553007687 : Int64)), (.long u2)])) (fun _ k => X1.ldc2Long hx hown (mvT hZ (hw _ (List.mem_of_getElem? (i := 28) rfl))) (g := (mkF m 34 #[.val (.long x0), .second, .val (.long u2), .second] [(.long u2)])) rfl (hb hby own_d4_34) _ k) ?_
  obtain ⟨_, _, ⟨T2, L2, k2, n2⟩, -, X2, ⟨Lc2, hQ2, l2, y2, z2⟩, st2⟩ := Jvm.LawKit.callS X1 hx (y := (⟨"com/example/triplesmith/triplesmith/engine/SeededRandomNextLongPinLaw", "inverse", "(J)J"⟩ : MethodName)) hown (mvT hZ (hw _ (List.mem_of_getElem? (i := 24) rfl))) (mvT hZ (hw _ (List.mem_of_getElem? (i := 25) rfl))) (mvT hZ (hw _ (List.mem_of_getElem? (i := 21) rfl))) (mvT hZ (hw _ (List.mem_of_getElem? (i := 26) rfl))) (by decide) (backOf (W := 2) (own_rm5 l Z a0 hw [] (-4658895280553007687 : Int64) h0 n0 Z0 ) hZ (hw _ (List.mem_of_getElem? (i := 26) rfl)) (hw _ (List.mem_of_getElem? (i := 21) rfl)) (by decide) (by decide)) (g := (mkF m 37 #[.val (.long x0), .second, .val (.long u2), .second] [(.long (-4658895280553007687 : Int64)), (.long u2)])) rfl (by rw [hml]; rfl) (argsL := [(.long (-4658895280553007687 : Int64))]) (rest := [(.long u2)]) (lenOf own_pd__28J_29J rfl) rfl (by show 2 * 0 + _ ≤ _; exact Nat.le_of_eq rfl) (hb hby own_d4_37) (fun _ _ => ⟨rfl, e1, (by decide : 0 + 0 ≤ _), (by decide : 0 + 0 ≤ _)⟩)
  dsimp only [Pt.U, Pt.locs, Pt.cells, Pt.slots] at X2 l2 y2 z2 st2 hQ2
  subst l2 y2 z2
  obtain ⟨rfl, Nq2, e2⟩ := hQ2
  have N2 := Fr.app N1 Nq2
  refine own_step (g' := (mkF m 40 #[.val (.long x0), .second, .val (.long u2), .second] [(.long (own_inv (-4658895280553007687 : Int64))), (.long u2)])) (fun _ k => st2 _ k) ?_
  refine own_step (g' := (mkF m 41 #[.val (.long x0), .second, .val (.long u2), .second] [(.long (u2 * (own_inv (-4658895280553007687 : Int64))))])) (fun _ k => XS.lmul X2.here hx rfl (hb hby own_d4_40) rfl k) ?_
  refine own_step (g' := (mkF m 42 #[.val (.long x0), .second, .val (.long (u2 * (own_inv (-4658895280553007687 : Int64)))), .second] [])) (fun _ k => XS.lstoreN X2.here hx rfl (hb hby own_d4_41) rfl (l' := #[.val (.long x0), .second, .val (.long (u2 * (own_inv (-4658895280553007687 : Int64)))), .second]) rfl k) ?_
  generalize hu3 : (u2 * (own_inv (-4658895280553007687 : Int64))) = u3
  show own_E p e below (own_F s 0 0) (own_Q4 Z x0 h0 n0) T2 (mkF m 42 #[.val (.long x0), .second, .val (.long u3), .second] [])
  refine own_step (g' := (mkF m 43 #[.val (.long x0), .second, .val (.long u3), .second] [(.long u3)])) (fun _ k => XS.lloadN X2.here hx rfl (hb hby own_d4_42) rfl k) ?_
  refine own_step (g' := (mkF m 44 #[.val (.long x0), .second, .val (.long u3), .second] [(.long u3), (.long u3)])) (fun _ k => XS.lloadN X2.here hx rfl (hb hby own_d4_43) rfl k) ?_
  refine own_step (g' := (mkF m 46 #[.val (.long x0), .second, .val (.long u3), .second] [(.int (30 : Int32)), (.long u3), (.long u3)])) (fun _ k => XS.bipush X2.here hx rfl (hb hby own_d4_44) k) ?_
  refine own_step (g' := (mkF m 47 #[.val (.long x0), .second, .val (.long u3), .second] [(.long ((u3.toUInt64 >>> ((30 : Int32) &&& 0x3f).toInt64.toUInt64).toInt64)), (.long u3)])) (fun _ k => XS.lushr X2.here hx rfl (hb hby own_d4_46) rfl k) ?_
  refine own_step (g' := (mkF m 48 #[.val (.long x0), .second, .val (.long u3), .second] [(.long (u3 ^^^ ((u3.toUInt64 >>> ((30 : Int32) &&& 0x3f).toInt64.toUInt64).toInt64)))])) (fun _ k => XS.lxor X2.here hx rfl (hb hby own_d4_47) rfl k) ?_
  refine own_step (g' := (mkF m 49 #[.val (.long x0), .second, .val (.long u3), .second] [(.long u3), (.long (u3 ^^^ ((u3.toUInt64 >>> ((30 : Int32) &&& 0x3f).toInt64.toUInt64).toInt64)))])) (fun _ k => XS.lloadN X2.here hx rfl (hb hby own_d4_48) rfl k) ?_
  refine own_step (g' := (mkF m 51 #[.val (.long x0), .second, .val (.long u3), .second] [(.int (60 : Int32)), (.long u3), (.long (u3 ^^^ ((u3.toUInt64 >>> ((30 : Int32) &&& 0x3f).toInt64.toUInt64).toInt64)))])) (fun _ k => XS.bipush X2.here hx rfl (hb hby own_d4_49) k) ?_
  refine own_step (g' := (mkF m 52 #[.val (.long x0), .second, .val (.long u3), .second] [(.long ((u3.toUInt64 >>> ((60 : Int32) &&& 0x3f).toInt64.toUInt64).toInt64)), (.long (u3 ^^^ ((u3.toUInt64 >>> ((30 : Int32) &&& 0x3f).toInt64.toUInt64).toInt64)))])) (fun _ k => XS.lushr X2.here hx rfl (hb hby own_d4_51) rfl k) ?_
  refine own_step (g' := (mkF m 53 #[.val (.long x0), .second, .val (.long u3), .second] [(.long ((u3 ^^^ ((u3.toUInt64 >>> ((30 : Int32) &&& 0x3f).toInt64.toUInt64).toInt64)) ^^^ ((u3.toUInt64 >>> ((60 : Int32) &&& 0x3f).toInt64.toUInt64).toInt64)))])) (fun _ k => XS.lxor X2.here hx rfl (hb hby own_d4_52) rfl k) ?_
  exact own_retJ X2 hx hlk hret (hb hby own_d4_53) (by decide) (by decide) (by show own_Q4 Z x0 h0 n0 (some (.long ((u3 ^^^ ((u3.toUInt64 >>> ((30 : Int32) &&& 0x3f).toInt64.toUInt64).toInt64)) ^^^ ((u3.toUInt64 >>> ((60 : Int32) &&& 0x3f).toInt64.toUInt64).toInt64)))) T2.heap _; rw [e2]; exact ⟨by subst hu3; subst hu2; subst hu1; subst hu0; rfl, N2, rfl⟩)
theorem own_ef0 (m : MethodId) (x0 : Int64) : entryFrame m #[(.long x0)] maxLocals = mkF m 0 #[.val (.long x0), .second, .unset, .unset, .unset, .unset, .unset] [] := by first | (simp [entryFrame, mkF, argsToLocals, Value.category, maxLocals]; done) | rfl
def own_Q0 (Z : State) (x0 : Int64) (h0 : Heap) (n0 : Nat) (v : Option Value) (h : Heap) (L : List Loc) : Prop := v = some (.int 1) ∧ Fr n0 L
theorem own_pn_0 : plainName "com/example/triplesmith/triplesmith/engine/SeededRandomNextLongPinLaw" = true := by first | (simp [plainName, overriddenIn]; done) | decide +kernel
theorem own_pd__28J_29V : parseMethodDescriptor "(J)V" = some ⟨[.long], none⟩ := by decide +kernel
theorem own_pd__28_29J : parseMethodDescriptor "()J" = some ⟨[], some .long⟩ := by decide +kernel
set_option maxRecDepth 65536 in
set_option maxHeartbeats 40000000 in
theorem own_rm0 (l : Launch) (Z : State) (a0 : Array Value) (hw : ∀ d ∈ tables_1, d.before a0 Z = true) (ws : List Jvm.Cond) (x0 : Int64) (h0 : Heap) (n0 : Nat) (Z0 : n0 ≤ h0.size)  :
    MetFree l x (head1 (Jvm.Cond.code x code maxLocals ret :: ws) room_1) (fun aU U => aU = #[(.long x0)] ∧ Z.Warmed39 U.vm ∧ U.heap = h0) (fun _ _ _ _ _ => True) (fun _ U o U' => ∃ v L, o = .returned v ∧ own_Q0 Z x0 h0 n0 v U'.heap L ∧ FrameEnd U o U' L 16 128) := by
  refine MetFree.of_bodySF (plainFor_of_name own_pn_0) hisR ?_
  intro p e s m args below meth c s₁ Bd hml0 hP hK
  obtain ⟨rfl, hZ, hh⟩ := hP
  have hx := Bd.exec
  have hby := Bd.bytes
  have hml : c.maxLocals = 7 := hml0
  have hown : s.vm.findClass "com/example/triplesmith/triplesmith/engine/SeededRandomNextLongPinLaw" = some m.cls := findClass_of_methodNamed Bd.named
  have hnm := (name_of_methodNamed Bd.named Bd.method).1
  have hlk : meth.locks = false := Bd.notSynchronized
  have hret := Bd.returns
  have X0 : Stand p l e room_1 s m #[(.long x0)] below meth c s₁ [] 0 0 := Stand.of_body Bd
  have e0 : s₁.heap = h0 := by rw [← hh, Bd.state]; rfl
  have N0 := Fr.nil n0
  have K0 := Keep.refl h0 ([] : List Addr)
  show own_E p e below (own_F s 16 128) (own_Q0 Z x0 h0 n0) s₁ (entryFrame m #[(.long x0)] maxLocals)
  refine own_cast (own_ef0 m x0) ?_
  obtain ⟨T1, h1, X1, e1, E1, A1, D1, -, st1⟩ := newO X0 hx hZ hown (hw _ (List.mem_of_getElem? (i := 0) rfl)) (hw _ (List.mem_of_getElem? (i := 1) rfl)) (hw _ (List.mem_of_getElem? (i := 2) rfl)) e0 (g := (mkF m 0 #[.val (.long x0), .second, .unset, .unset, .unset, .unset, .unset] [])) rfl (hb hby at_0) (by decide) (by decide)
  obtain ⟨b1, g1⟩ : ∃ z, z = h0.size := ⟨_, rfl⟩
  rw [← g1] at A1 D1 st1
  have le_b1 : n0 ≤ b1 := Nat.le_trans Z0 (Nat.le_of_eq g1.symm)
  have sz_b1 : h0.size ≤ b1 := Nat.le_trans K0.1 (Nat.le_of_eq g1.symm)
  have Fstate_b1 : Fld Z h1 b1 "com/example/triplesmith/triplesmith/engine/SeededRandom" "state" "J" (.long (0 : Int64)) := D1 (Or.inl (hw _ (List.mem_of_getElem? (i := 10) rfl))) (ty := .long) (by decide)
  have K1 := K0.ext E1
  have Z1 := Nat.le_trans Z0 E1.1
  refine own_step (g' := (mkF m 3 #[.val (.long x0), .second, .unset, .unset, .unset, .unset, .unset] [(.ref b1)])) st1 ?_
  refine own_step (g' := (mkF m 4 #[.val (.long x0), .second, .unset, .unset, .unset, .unset, .unset] [(.ref b1), (.ref b1)])) (fun _ k => XS.dup X1.here hx rfl (hb hby at_3) rfl rfl k) ?_
  refine own_step (g' := (mkF m 5 #[.val (.long x0), .second, .unset, .unset, .unset, .unset, .unset] [(.long x0), (.ref b1), (.ref b1)])) (fun _ k => XS.lloadN X1.here hx rfl (hb hby at_4) rfl k) ?_
  obtain ⟨_, _, ⟨T2, L2, k2, n2⟩, -, X2, ⟨Lc2, hQ2, l2, y2, z2⟩, st2⟩ := X1.specialBack hx (y := (⟨"com/example/triplesmith/triplesmith/engine/SeededRandom", "<init>", "(J)V"⟩ : MethodName)) rfl hown (mvT hZ (hw _ (List.mem_of_getElem? (i := 3) rfl))) (mvT hZ (hw _ (List.mem_of_getElem? (i := 4) rfl))) (mvT hZ (hw _ (List.mem_of_getElem? (i := 5) rfl))) (by decide) (backOf (W := 1) (own_rm1 l Z a0 hw [] b1 x0 h1 n0 Z1 A1 le_b1 Fstate_b1) hZ (hw _ (List.mem_of_getElem? (i := 5) rfl)) (hw _ (List.mem_of_getElem? (i := 2) rfl)) (by decide) (by decide)) (g := (mkF m 5 #[.val (.long x0), .second, .unset, .unset, .unset, .unset, .unset] [(.long x0), (.ref b1), (.ref b1)])) rfl (by rw [hml]; rfl) (Steps.refl _) (a := b1) (argsL := [(.long x0)]) (rest := [(.ref b1)]) (lenOf own_pd__28J_29V rfl) rfl (by show 2 * 0 + _ ≤ _; exact Nat.le_of_eq rfl) (hb hby at_5) (fun _ _ => ⟨rfl, e1, (by decide : 1 + 0 ≤ _), (by decide : 1 + 0 ≤ _)⟩)
  dsimp only [Pt.U, Pt.locs, Pt.cells, Pt.slots] at X2 l2 y2 z2 st2 hQ2
  subst l2 y2 z2
  obtain ⟨rfl, Nq2, Kc2, Q2_0, Q2_1⟩ := hQ2
  have N2 := Fr.app N0 Nq2
  have A1_2 := A1.keep Kc2
  have K2 := K1.trans Kc2 (allS (Or.inr sz_b1) all0)
  have Z2 := Nat.le_trans Z1 Kc2.1
  refine own_step (g' := (mkF m 8 #[.val (.long x0), .second, .unset, .unset, .unset, .unset, .unset] [(.ref b1)])) (fun _ k => st2.trans k) ?_
  refine own_step (g' := (mkF m 9 #[.val (.long x0), .second, .val (.ref b1), .unset, .unset, .unset, .unset] [])) (fun _ k => XS.astoreN X2.here hx rfl (hb hby at_8) rfl rfl (l' := #[.val (.long x0), .second, .val (.ref b1), .unset, .unset, .unset, .unset]) rfl k) ?_
  refine own_step (g' := (mkF m 10 #[.val (.long x0), .second, .val (.ref b1), .unset, .unset, .unset, .unset] [(.ref b1)])) (fun _ k => XS.aloadN X2.here hx rfl (hb hby at_9) rfl rfl k) ?_
  obtain ⟨cq3, kq3, q3a, q3b, q3c⟩ := isOf hZ rfl Q2_0
  obtain ⟨_, _, ⟨T3, L3, k3, n3⟩, -, X3, ⟨Lc3, hQ3, l3, y3, z3⟩, st3⟩ := X2.virtualBack hx (y := (⟨"com/example/triplesmith/triplesmith/engine/SeededRandom", "nextLong", "()J"⟩ : MethodName)) (z := (⟨"com/example/triplesmith/triplesmith/engine/SeededRandom", "nextLong", "()J"⟩ : MethodName)) hown (mvT hZ (hw _ (List.mem_of_getElem? (i := 11) rfl))) (mvT hZ (hw _ (List.mem_of_getElem? (i := 12) rfl))) (notFace_of_selects (args := #[]) (mvT hZ (hw _ (List.mem_of_getElem? (i := 14) rfl)))) (mvT hZ (hw _ (List.mem_of_getElem? (i := 14) rfl))) (mvT hZ (hw _ (List.mem_of_getElem? (i := 13) rfl))) (by decide) (backOf (W := 0) (own_rm3 l Z a0 hw [] b1 x0 T2.heap n0 Z2 Q2_0 le_b1 Q2_1) hZ (hw _ (List.mem_of_getElem? (i := 15) rfl)) (hw _ (List.mem_of_getElem? (i := 2) rfl)) (by decide) (by decide)) q3a q3c (g := (mkF m 10 #[.val (.long x0), .second, .val (.ref b1), .unset, .unset, .unset, .unset] [(.ref b1)])) rfl (by rw [hml]; rfl) (Steps.refl _) (argsL := []) (rest := []) (lenOf own_pd__28_29J rfl) rfl (by show 2 * 0 + _ ≤ _; exact Nat.le_of_eq rfl) (hb hby at_10) (fun _ _ => ⟨rfl, rfl, (by decide : 1 + 0 ≤ _), (by decide : 1 + 0 ≤ _)⟩)
  dsimp only [Pt.U, Pt.locs, Pt.cells, Pt.slots] at X3 l3 y3 z3 st3 hQ3
  subst l3 y3 z3
  obtain ⟨rfl, Nq3, Kc3, Q3_0, Q3_1⟩ := hQ3
  have N3 := Fr.app N2 Nq3
  have Q2_0_3 := Q2_0.keep Kc3
  have K3 := K2.trans Kc3 (allS (Or.inr sz_b1) all0)
  have Z3 := Nat.le_trans Z2 Kc3.1
  refine own_step (g' := (mkF m 13 #[.val (.long x0), .second, .val (.ref b1), .unset, .unset, .unset, .unset] [(.long (own_mix (x0 + (-7046029254386353131 : Int64))))])) (fun _ k => st3.trans k) ?_
  refine own_step (g' := (mkF m 14 #[.val (.long x0), .second, .val (.ref b1), .val (.long (own_mix (x0 + (-7046029254386353131 : Int64)))), .second, .unset, .unset] [])) (fun _ k => XS.lstoreN X3.here hx rfl (hb hby at_13) rfl (l' := #[.val (.long x0), .second, .val (.ref b1), .val (.long (own_mix (x0 + (-7046029254386353131 : Int64)))), .second, .unset, .unset]) rfl k) ?_
  refine own_step (g' := (mkF m 15 #[.val (.long x0), .second, .val (.ref b1), .val (.long (own_mix (x0 + (-7046029254386353131 : Int64)))), .second, .unset, .unset] [(.ref b1)])) (fun _ k => XS.aloadN X3.here hx rfl (hb hby at_14) rfl rfl k) ?_
  obtain ⟨cq4, kq4, q4a, q4b, q4c⟩ := isOf hZ rfl Q3_0
  obtain ⟨_, _, ⟨T4, L4, k4, n4⟩, -, X4, ⟨Lc4, hQ4, l4, y4, z4⟩, st4⟩ := X3.virtualBack hx (y := (⟨"com/example/triplesmith/triplesmith/engine/SeededRandom", "nextLong", "()J"⟩ : MethodName)) (z := (⟨"com/example/triplesmith/triplesmith/engine/SeededRandom", "nextLong", "()J"⟩ : MethodName)) hown (mvT hZ (hw _ (List.mem_of_getElem? (i := 11) rfl))) (mvT hZ (hw _ (List.mem_of_getElem? (i := 12) rfl))) (notFace_of_selects (args := #[]) (mvT hZ (hw _ (List.mem_of_getElem? (i := 14) rfl)))) (mvT hZ (hw _ (List.mem_of_getElem? (i := 14) rfl))) (mvT hZ (hw _ (List.mem_of_getElem? (i := 13) rfl))) (by decide) (backOf (W := 0) (own_rm3 l Z a0 hw [] b1 (x0 + (-7046029254386353131 : Int64)) T3.heap n0 Z3 Q3_0 le_b1 Q3_1) hZ (hw _ (List.mem_of_getElem? (i := 15) rfl)) (hw _ (List.mem_of_getElem? (i := 2) rfl)) (by decide) (by decide)) q4a q4c (g := (mkF m 15 #[.val (.long x0), .second, .val (.ref b1), .val (.long (own_mix (x0 + (-7046029254386353131 : Int64)))), .second, .unset, .unset] [(.ref b1)])) rfl (by rw [hml]; rfl) (Steps.refl _) (argsL := []) (rest := []) (lenOf own_pd__28_29J rfl) rfl (by show 2 * 0 + _ ≤ _; exact Nat.le_of_eq rfl) (hb hby at_15) (fun _ _ => ⟨rfl, rfl, (by decide : 1 + 0 ≤ _), (by decide : 1 + 0 ≤ _)⟩)
  dsimp only [Pt.U, Pt.locs, Pt.cells, Pt.slots] at X4 l4 y4 z4 st4 hQ4
  subst l4 y4 z4
  obtain ⟨rfl, Nq4, Kc4, Q4_0, Q4_1⟩ := hQ4
  have N4 := Fr.app N3 Nq4
  have Q3_0_4 := Q3_0.keep Kc4
  have K4 := K3.trans Kc4 (allS (Or.inr sz_b1) all0)
  have Z4 := Nat.le_trans Z3 Kc4.1
  refine own_step (g' := (mkF m 18 #[.val (.long x0), .second, .val (.ref b1), .val (.long (own_mix (x0 + (-7046029254386353131 : Int64)))), .second, .unset, .unset] [(.long (own_mix ((x0 + (-7046029254386353131 : Int64)) + (-7046029254386353131 : Int64))))])) (fun _ k => st4.trans k) ?_
  refine own_step (g' := (mkF m 20 #[.val (.long x0), .second, .val (.ref b1), .val (.long (own_mix (x0 + (-7046029254386353131 : Int64)))), .second, .val (.long (own_mix ((x0 + (-7046029254386353131 : Int64)) + (-7046029254386353131 : Int64)))), .second] [])) (fun _ k => XS.lstore X4.here hx rfl (hb hby at_18) rfl (l' := #[.val (.long x0), .second, .val (.ref b1), .val (.long (own_mix (x0 + (-7046029254386353131 : Int64)))), .second, .val (.long (own_mix ((x0 + (-7046029254386353131 : Int64)) + (-7046029254386353131 : Int64)))), .second]) rfl k) ?_
  refine own_step (g' := (mkF m 21 #[.val (.long x0), .second, .val (.ref b1), .val (.long (own_mix (x0 + (-7046029254386353131 : Int64)))), .second, .val (.long (own_mix ((x0 + (-7046029254386353131 : Int64)) + (-7046029254386353131 : Int64)))), .second] [(.long (own_mix (x0 + (-7046029254386353131 : Int64))))])) (fun _ k => XS.lloadN X4.here hx rfl (hb hby at_20) rfl k) ?_
  obtain ⟨_, _, ⟨T5, L5, k5, n5⟩, -, X5, ⟨Lc5, hQ5, l5, y5, z5⟩, st5⟩ := Jvm.LawKit.callS X4 hx (y := (⟨"com/example/triplesmith/triplesmith/engine/SeededRandomNextLongPinLaw", "unmix", "(J)J"⟩ : MethodName)) hown (mvT hZ (hw _ (List.mem_of_getElem? (i := 19) rfl))) (mvT hZ (hw _ (List.mem_of_getElem? (i := 20) rfl))) (mvT hZ (hw _ (List.mem_of_getElem? (i := 21) rfl))) (mvT hZ (hw _ (List.mem_of_getElem? (i := 22) rfl))) (by decide) (backOf (W := 0) (own_rm4 l Z a0 hw [] (own_mix (x0 + (-7046029254386353131 : Int64))) T4.heap n0 Z4 ) hZ (hw _ (List.mem_of_getElem? (i := 22) rfl)) (hw _ (List.mem_of_getElem? (i := 21) rfl)) (by decide) (by decide)) (g := (mkF m 21 #[.val (.long x0), .second, .val (.ref b1), .val (.long (own_mix (x0 + (-7046029254386353131 : Int64)))), .second, .val (.long (own_mix ((x0 + (-7046029254386353131 : Int64)) + (-7046029254386353131 : Int64)))), .second] [(.long (own_mix (x0 + (-7046029254386353131 : Int64))))])) rfl (by rw [hml]; rfl) (argsL := [(.long (own_mix (x0 + (-7046029254386353131 : Int64))))]) (rest := []) (lenOf own_pd__28J_29J rfl) rfl (by show 2 * 0 + _ ≤ _; exact Nat.le_of_eq rfl) (hb hby at_21) (fun _ _ => ⟨rfl, rfl, (by decide : 1 + 0 ≤ _), (by decide : 1 + 0 ≤ _)⟩)
  dsimp only [Pt.U, Pt.locs, Pt.cells, Pt.slots] at X5 l5 y5 z5 st5 hQ5
  subst l5 y5 z5
  obtain ⟨rfl, Nq5, e5⟩ := hQ5
  have N5 := Fr.app N4 Nq5
  refine own_step (g' := (mkF m 24 #[.val (.long x0), .second, .val (.ref b1), .val (.long (own_mix (x0 + (-7046029254386353131 : Int64)))), .second, .val (.long (own_mix ((x0 + (-7046029254386353131 : Int64)) + (-7046029254386353131 : Int64)))), .second] [(.long (own_unmix (own_mix (x0 + (-7046029254386353131 : Int64)))))])) (fun _ k => st5 _ k) ?_
  refine own_step (g' := (mkF m 25 #[.val (.long x0), .second, .val (.ref b1), .val (.long (own_mix (x0 + (-7046029254386353131 : Int64)))), .second, .val (.long (own_mix ((x0 + (-7046029254386353131 : Int64)) + (-7046029254386353131 : Int64)))), .second] [(.long x0), (.long (own_unmix (own_mix (x0 + (-7046029254386353131 : Int64)))))])) (fun _ k => XS.lloadN X5.here hx rfl (hb hby at_24) rfl k) ?_
  refine own_step (g' := (mkF m 28 #[.val (.long x0), .second, .val (.ref b1), .val (.long (own_mix (x0 + (-7046029254386353131 : Int64)))), .second, .val (.long (own_mix ((x0 + (-7046029254386353131 : Int64)) + (-7046029254386353131 : Int64)))), .second] [(.long (-7046029254386353131 : Int64)), (.long x0), (.long (own_unmix (own_mix (x0 + (-7046029254386353131 : Int64)))))])) (fun _ k => X5.ldc2Long hx hown (mvT hZ (hw _ (List.mem_of_getElem? (i := 29) rfl))) (g := (mkF m 25 #[.val (.long x0), .second, .val (.ref b1), .val (.long (own_mix (x0 + (-7046029254386353131 : Int64)))), .second, .val (.long (own_mix ((x0 + (-7046029254386353131 : Int64)) + (-7046029254386353131 : Int64)))), .second] [(.long x0), (.long (own_unmix (own_mix (x0 + (-7046029254386353131 : Int64)))))])) rfl (hb hby at_25) _ k) ?_
  refine own_step (g' := (mkF m 29 #[.val (.long x0), .second, .val (.ref b1), .val (.long (own_mix (x0 + (-7046029254386353131 : Int64)))), .second, .val (.long (own_mix ((x0 + (-7046029254386353131 : Int64)) + (-7046029254386353131 : Int64)))), .second] [(.long (x0 + (-7046029254386353131 : Int64))), (.long (own_unmix (own_mix (x0 + (-7046029254386353131 : Int64)))))])) (fun _ k => XS.ladd X5.here hx rfl (hb hby at_28) rfl k) ?_
  refine own_step (g' := (mkF m 30 #[.val (.long x0), .second, .val (.ref b1), .val (.long (own_mix (x0 + (-7046029254386353131 : Int64)))), .second, .val (.long (own_mix ((x0 + (-7046029254386353131 : Int64)) + (-7046029254386353131 : Int64)))), .second] [(.int (lcmpW (own_unmix (own_mix (x0 + (-7046029254386353131 : Int64)))) (x0 + (-7046029254386353131 : Int64))))])) (fun _ k => XS.lcmp X5.here hx rfl (hb hby at_29) rfl k) ?_
  refine own_ifN X5 hx (P := ((own_unmix (own_mix (x0 + (-7046029254386353131 : Int64)))) = (x0 + (-7046029254386353131 : Int64)))) (hb hby at_30) (own_l_ne (own_unmix (own_mix (x0 + (-7046029254386353131 : Int64)))) (x0 + (-7046029254386353131 : Int64))) (by decide) (pc1 := 55) (by decide) (fun hc30 => ?_) (fun hc30 => ?_)
  · show own_E p e below (own_F s 16 128) (own_Q0 Z x0 h0 n0) T5 (mkF m 33 #[.val (.long x0), .second, .val (.ref b1), .val (.long (own_mix (x0 + (-7046029254386353131 : Int64)))), .second, .val (.long (own_mix ((x0 + (-7046029254386353131 : Int64)) + (-7046029254386353131 : Int64)))), .second] [])
    refine own_step (g' := (mkF m 35 #[.val (.long x0), .second, .val (.ref b1), .val (.long (own_mix (x0 + (-7046029254386353131 : Int64)))), .second, .val (.long (own_mix ((x0 + (-7046029254386353131 : Int64)) + (-7046029254386353131 : Int64)))), .second] [(.long (own_mix ((x0 + (-7046029254386353131 : Int64)) + (-7046029254386353131 : Int64))))])) (fun _ k => XS.lload X5.here hx rfl (hb hby at_33) rfl k) ?_
    obtain ⟨_, _, ⟨T6, L6, k6, n6⟩, -, X6, ⟨Lc6, hQ6, l6, y6, z6⟩, st6⟩ := Jvm.LawKit.callS X5 hx (y := (⟨"com/example/triplesmith/triplesmith/engine/SeededRandomNextLongPinLaw", "unmix", "(J)J"⟩ : MethodName)) hown (mvT hZ (hw _ (List.mem_of_getElem? (i := 19) rfl))) (mvT hZ (hw _ (List.mem_of_getElem? (i := 20) rfl))) (mvT hZ (hw _ (List.mem_of_getElem? (i := 21) rfl))) (mvT hZ (hw _ (List.mem_of_getElem? (i := 22) rfl))) (by decide) (backOf (W := 0) (own_rm4 l Z a0 hw [] (own_mix ((x0 + (-7046029254386353131 : Int64)) + (-7046029254386353131 : Int64))) T4.heap n0 Z4 ) hZ (hw _ (List.mem_of_getElem? (i := 22) rfl)) (hw _ (List.mem_of_getElem? (i := 21) rfl)) (by decide) (by decide)) (g := (mkF m 35 #[.val (.long x0), .second, .val (.ref b1), .val (.long (own_mix (x0 + (-7046029254386353131 : Int64)))), .second, .val (.long (own_mix ((x0 + (-7046029254386353131 : Int64)) + (-7046029254386353131 : Int64)))), .second] [(.long (own_mix ((x0 + (-7046029254386353131 : Int64)) + (-7046029254386353131 : Int64))))])) rfl (by rw [hml]; rfl) (argsL := [(.long (own_mix ((x0 + (-7046029254386353131 : Int64)) + (-7046029254386353131 : Int64))))]) (rest := []) (lenOf own_pd__28J_29J rfl) rfl (by show 2 * 0 + _ ≤ _; exact Nat.le_of_eq rfl) (hb hby at_35) (fun _ _ => ⟨rfl, e5, (by decide : 1 + 0 ≤ _), (by decide : 1 + 0 ≤ _)⟩)
    dsimp only [Pt.U, Pt.locs, Pt.cells, Pt.slots] at X6 l6 y6 z6 st6 hQ6
    subst l6 y6 z6
    obtain ⟨rfl, Nq6, e6⟩ := hQ6
    have N6 := Fr.app N5 Nq6
    refine own_step (g' := (mkF m 38 #[.val (.long x0), .second, .val (.ref b1), .val (.long (own_mix (x0 + (-7046029254386353131 : Int64)))), .second, .val (.long (own_mix ((x0 + (-7046029254386353131 : Int64)) + (-7046029254386353131 : Int64)))), .second] [(.long (own_unmix (own_mix ((x0 + (-7046029254386353131 : Int64)) + (-7046029254386353131 : Int64)))))])) (fun _ k => st6 _ k) ?_
    refine own_step (g' := (mkF m 39 #[.val (.long x0), .second, .val (.ref b1), .val (.long (own_mix (x0 + (-7046029254386353131 : Int64)))), .second, .val (.long (own_mix ((x0 + (-7046029254386353131 : Int64)) + (-7046029254386353131 : Int64)))), .second] [(.long x0), (.long (own_unmix (own_mix ((x0 + (-7046029254386353131 : Int64)) + (-7046029254386353131 : Int64)))))])) (fun _ k => XS.lloadN X6.here hx rfl (hb hby at_38) rfl k) ?_
    refine own_step (g' := (mkF m 42 #[.val (.long x0), .second, .val (.ref b1), .val (.long (own_mix (x0 + (-7046029254386353131 : Int64)))), .second, .val (.long (own_mix ((x0 + (-7046029254386353131 : Int64)) + (-7046029254386353131 : Int64)))), .second] [(.long (-7046029254386353131 : Int64)), (.long x0), (.long (own_unmix (own_mix ((x0 + (-7046029254386353131 : Int64)) + (-7046029254386353131 : Int64)))))])) (fun _ k => X6.ldc2Long hx hown (mvT hZ (hw _ (List.mem_of_getElem? (i := 29) rfl))) (g := (mkF m 39 #[.val (.long x0), .second, .val (.ref b1), .val (.long (own_mix (x0 + (-7046029254386353131 : Int64)))), .second, .val (.long (own_mix ((x0 + (-7046029254386353131 : Int64)) + (-7046029254386353131 : Int64)))), .second] [(.long x0), (.long (own_unmix (own_mix ((x0 + (-7046029254386353131 : Int64)) + (-7046029254386353131 : Int64)))))])) rfl (hb hby at_39) _ k) ?_
    refine own_step (g' := (mkF m 43 #[.val (.long x0), .second, .val (.ref b1), .val (.long (own_mix (x0 + (-7046029254386353131 : Int64)))), .second, .val (.long (own_mix ((x0 + (-7046029254386353131 : Int64)) + (-7046029254386353131 : Int64)))), .second] [(.long (x0 + (-7046029254386353131 : Int64))), (.long (own_unmix (own_mix ((x0 + (-7046029254386353131 : Int64)) + (-7046029254386353131 : Int64)))))])) (fun _ k => XS.ladd X6.here hx rfl (hb hby at_42) rfl k) ?_
    refine own_step (g' := (mkF m 46 #[.val (.long x0), .second, .val (.ref b1), .val (.long (own_mix (x0 + (-7046029254386353131 : Int64)))), .second, .val (.long (own_mix ((x0 + (-7046029254386353131 : Int64)) + (-7046029254386353131 : Int64)))), .second] [(.long (-7046029254386353131 : Int64)), (.long (x0 + (-7046029254386353131 : Int64))), (.long (own_unmix (own_mix ((x0 + (-7046029254386353131 : Int64)) + (-7046029254386353131 : Int64)))))])) (fun _ k => X6.ldc2Long hx hown (mvT hZ (hw _ (List.mem_of_getElem? (i := 29) rfl))) (g := (mkF m 43 #[.val (.long x0), .second, .val (.ref b1), .val (.long (own_mix (x0 + (-7046029254386353131 : Int64)))), .second, .val (.long (own_mix ((x0 + (-7046029254386353131 : Int64)) + (-7046029254386353131 : Int64)))), .second] [(.long (x0 + (-7046029254386353131 : Int64))), (.long (own_unmix (own_mix ((x0 + (-7046029254386353131 : Int64)) + (-7046029254386353131 : Int64)))))])) rfl (hb hby at_43) _ k) ?_
    refine own_step (g' := (mkF m 47 #[.val (.long x0), .second, .val (.ref b1), .val (.long (own_mix (x0 + (-7046029254386353131 : Int64)))), .second, .val (.long (own_mix ((x0 + (-7046029254386353131 : Int64)) + (-7046029254386353131 : Int64)))), .second] [(.long ((x0 + (-7046029254386353131 : Int64)) + (-7046029254386353131 : Int64))), (.long (own_unmix (own_mix ((x0 + (-7046029254386353131 : Int64)) + (-7046029254386353131 : Int64)))))])) (fun _ k => XS.ladd X6.here hx rfl (hb hby at_46) rfl k) ?_
    refine own_step (g' := (mkF m 48 #[.val (.long x0), .second, .val (.ref b1), .val (.long (own_mix (x0 + (-7046029254386353131 : Int64)))), .second, .val (.long (own_mix ((x0 + (-7046029254386353131 : Int64)) + (-7046029254386353131 : Int64)))), .second] [(.int (lcmpW (own_unmix (own_mix ((x0 + (-7046029254386353131 : Int64)) + (-7046029254386353131 : Int64)))) ((x0 + (-7046029254386353131 : Int64)) + (-7046029254386353131 : Int64))))])) (fun _ k => XS.lcmp X6.here hx rfl (hb hby at_47) rfl k) ?_
    refine own_ifN X6 hx (P := ((own_unmix (own_mix ((x0 + (-7046029254386353131 : Int64)) + (-7046029254386353131 : Int64)))) = ((x0 + (-7046029254386353131 : Int64)) + (-7046029254386353131 : Int64)))) (hb hby at_48) (own_l_ne (own_unmix (own_mix ((x0 + (-7046029254386353131 : Int64)) + (-7046029254386353131 : Int64)))) ((x0 + (-7046029254386353131 : Int64)) + (-7046029254386353131 : Int64))) (by decide) (pc1 := 55) (by decide) (fun hc48 => ?_) (fun hc48 => ?_)
    · show own_E p e below (own_F s 16 128) (own_Q0 Z x0 h0 n0) T6 (mkF m 51 #[.val (.long x0), .second, .val (.ref b1), .val (.long (own_mix (x0 + (-7046029254386353131 : Int64)))), .second, .val (.long (own_mix ((x0 + (-7046029254386353131 : Int64)) + (-7046029254386353131 : Int64)))), .second] [])
      refine own_step (g' := (mkF m 52 #[.val (.long x0), .second, .val (.ref b1), .val (.long (own_mix (x0 + (-7046029254386353131 : Int64)))), .second, .val (.long (own_mix ((x0 + (-7046029254386353131 : Int64)) + (-7046029254386353131 : Int64)))), .second] [(.int (1 : Int32))])) (fun _ k => XS.iconst X6.here hx rfl (hb hby at_51) k) ?_
      refine own_step (g' := (mkF m 56 #[.val (.long x0), .second, .val (.ref b1), .val (.long (own_mix (x0 + (-7046029254386353131 : Int64)))), .second, .val (.long (own_mix ((x0 + (-7046029254386353131 : Int64)) + (-7046029254386353131 : Int64)))), .second] [(.int (1 : Int32))])) (fun _ k => XS.goto X6.here hx rfl (pc0 := 52) (pc' := 56) rfl (hb hby at_52) (by decide) (by decide) k) ?_
      exact own_retI X6 hx hlk hret (by simp) (hb hby at_56) rfl (by decide) (by decide) (by show own_Q0 Z x0 h0 n0 (some (.int (1 : Int32))) T6.heap _; rw [e6]; exact ⟨rfl, N6⟩)
    · show own_E p e below (own_F s 16 128) (own_Q0 Z x0 h0 n0) T6 (mkF m 55 #[.val (.long x0), .second, .val (.ref b1), .val (.long (own_mix (x0 + (-7046029254386353131 : Int64)))), .second, .val (.long (own_mix ((x0 + (-7046029254386353131 : Int64)) + (-7046029254386353131 : Int64)))), .second] [])
      exact absurd (own_unmix_mix _) hc48
  · show own_E p e below (own_F s 16 128) (own_Q0 Z x0 h0 n0) T5 (mkF m 55 #[.val (.long x0), .second, .val (.ref b1), .val (.long (own_mix (x0 + (-7046029254386353131 : Int64)))), .second, .val (.long (own_mix ((x0 + (-7046029254386353131 : Int64)) + (-7046029254386353131 : Int64)))), .second] [])
    exact absurd (own_unmix_mix _) hc30
set_option maxRecDepth 65536 in
set_option maxHeartbeats 40000000 in
theorem own_comes {Post : Tables → Env → Array Value → State → Outcome → State → Prop} (hpost : ∀ tb e args s v u, (limb_1_1.after args s (.returned v) u = true ∧ limb_1_2.after args s (.returned v) u = true ∧ True) → FrameEnd s (.returned v) u (Jvm.fieldLocs frame_1_writes args s ++ Jvm.arrayLocs frame_1_arrays args s ++ Jvm.staticLocs frame_1_statics s) 16 128 → Post tb e args s (.returned v) u) :
    ArmFor flags0 classFile x code maxLocals ret World_1 tables_1 room_1 Calls_1 rest_1 Pre_1 Post := by
  intro l hfl _ _ p e ha hc hk s m args below hf hA hF happ hP
  obtain ⟨hcalls, hrest, hpre⟩ := hP
  obtain ⟨-, -, -, hnamed, -, -, -, hat⟩ := (Spec.applies_iff hf).mp happ
  obtain ⟨hg, hn⟩ := and_e (Cond.before_iff.mp (show (Jvm.Cond.and given_1 narrow_1).before args s = true from hpre))
  obtain ⟨q0, r0⟩ := and_e hg
  obtain ⟨w0, rfl⟩ : ∃ w0 : Value, args = #[w0] := by
    have hs : args.size = 1 := by simpa [Cond.value, given_1] using q0
    obtain ⟨L⟩ := args
    match L, hs with
    | [w0], _ => exact ⟨w0, rfl⟩
  have hw := fun d (hd : d ∈ tables_1) => atoms_spec (ws := Jvm.Cond.code x code maxLocals ret :: tables_1) hat d (List.mem_cons_of_mem _ hd)
  obtain ⟨i0, ei0⟩ := isL_v r0
  obtain rfl : w0 = (.long i0) := Option.some.inj ei0
  obtain ⟨n, o, h1, h2, h3, _, L, rfl, ⟨rfl, N⟩, hq⟩ := own_rm0 l s _ hw tables_1 i0 s.heap s.heap.size (Nat.le_refl _) p e ha hc hk s m _ below hf ((Spec.applies_iff_loose hf).mp happ).1 ⟨rfl, State.Warmed39.refl s, rfl⟩ trivial
  refine ⟨n, _, h1, h2, h3, hpost _ _ _ _ _ _ ⟨Cond.after_iff.mpr rfl, Cond.after_iff.mpr (eq_i res_at (Term.int_eval (1)) rfl), trivial⟩ ⟨hq.1, hq.2.1, (hq.2.2.sift fun y hy => Or.inr (N y hy)).mono (by decide) (by decide)⟩⟩
theorem main_1_1 : Claimed_1_1 := own_comes fun _ _ _ _ _ _ h hF => ⟨h.1, hF⟩
theorem main_1_2 : Claimed_1_2 := own_comes fun _ _ _ _ _ _ h hF => ⟨h.2.1, hF⟩
end Jvm.Pilot.@@N@@
namespace Jvm.Pilot.@@N@@
open Jvm Jvm.ClassFile Sem Op Lib Jvm.Free Jvm.Stand Jvm.Pilot.@@N@@.Jvm.D
/-! MADE BY PROGRAM (witnessworld.py) out of the Statement's table words and the real class files: 9 classes; the members and pool entries that the words name. The judged class is class 1, her method 3. -/
namespace start1
open Jvm.ClassFile
def u (s : String) : CpInfo := .utf8 (stringToUtf16 s)
/-- a pool by its gaps: so many unusable entries, then the entry; so many at the end -/
def gap : Nat → List CpInfo → List CpInfo
  | 0, r => r
  | n + 1, r => .unusable :: gap n r
def poolList (es : List (Nat × CpInfo)) (last : Nat) : List CpInfo := es.foldr (fun e r => gap e.1 (e.2 :: r)) (gap last [])
def pool (es : List (Nat × CpInfo)) (last : Nat) : Array CpInfo := ⟨poolList es last⟩
def fileOf (pool : Array CpInfo) (this : Nat) (attrs : Array Attribute := #[]) (ms : Array MethodInfo := #[]) (fl : Nat := 33) (sup : Nat := 0) (ifs : Array Nat := #[]) (fds : Array FieldInfo := #[]) : ClassFile where
  minorVersion := 0
  majorVersion := 65
  constantPool := pool
  accessFlags := fl
  thisClass := this
  superClass := sup
  interfaces := ifs
  fields := fds
  methods := ms
  attributes := attrs
def plain (name : String) (sup : Option ClassId) : Class where
  name := name
  kind := .ordinary
  loader := none
  accessFlags := 33
  super := sup
  interfaces := #[]
  cf := none
  fields := #[]
  methods := #[]
  instanceTypes := #[]
  staticTypes := #[]
  resolved := #[]
  callSites := []
  init := .initialized
  statics := none
  mirror := none

def pool0 : Array CpInfo := pool [(5, u "<init>"), (0, u "()V"), (1, .class_ 10), (1, u "java/lang/Object")] 113

def k0c0 : Code := { maxStack := 0, maxLocals := 1, code := object_method_1_code, exceptionTable := #[], attributes := #[] }
def k0m0 : Method := { name := "<init>", desc := "()V", sig := { parameters := [], returnType := none }, accessFlags := 1, code := some k0c0 }
/-- java/lang/Object -/
def k0 : Class := { plain "java/lang/Object" none with
  accessFlags := 33
  interfaces := #[]
  cf := some (fileOf pool0 8 #[] #[{ accessFlags := 1, nameIndex := 5, descriptorIndex := 6, attributes := #[] }] 33 0 #[] #[])
  fields := #[]
  methods := #[k0m0]
  instanceTypes := #[]
  staticTypes := #[]
  resolved := Array.replicate 124 none
  statics := none }

def pool1 : Array CpInfo := pool [(2, .class_ 4), (1, u "java/lang/Object"), (0, u "<init>"), (0, u "()V"), (0, .long 2), (1, .long 10723151780598845931), (1, .methodref 12 13), (0, .class_ 14), (0, .nameAndType 15 16), (0, u "com/example/triplesmith/triplesmith/engine/SeededRandomNextLongPinLaw"), (0, u "inverse"), (0, u "(J)J"), (0, .long 13787848793156543929), (1, .class_ 20), (0, u "com/example/triplesmith/triplesmith/engine/SeededRandom"), (0, .methodref 19 22), (0, .nameAndType 5 23), (0, u "(J)V"), (0, .methodref 19 25), (0, .nameAndType 26 27), (0, u "nextLong"), (0, u "()J"), (0, .methodref 12 29), (0, .nameAndType 30 16), (0, u "unmix"), (0, .long 11400714819323198485), (3, u "law"), (0, u "(J)Z")] 3

def k1m0 : Method := { name := "<init>", desc := "()V", sig := { parameters := [], returnType := none }, accessFlags := 2, code := none }
def k1c1 : Code := { maxStack := 8, maxLocals := 4, code := method_2_code, exceptionTable := #[], attributes := #[] }
def k1m1 : Method := { name := "inverse", desc := "(J)J", sig := { parameters := [.long], returnType := some .long }, accessFlags := 10, code := some k1c1 }
def k1c2 : Code := { maxStack := 5, maxLocals := 4, code := method_3_code, exceptionTable := #[], attributes := #[] }
def k1m2 : Method := { name := "unmix", desc := "(J)J", sig := { parameters := [.long], returnType := some .long }, accessFlags := 10, code := some k1c2 }
def k1c3 : Code := { maxStack := 6, maxLocals := 7, code := code, exceptionTable := #[], attributes := #[] }
def k1m3 : Method := { name := "law", desc := "(J)Z", sig := { parameters := [.long], returnType := some .boolean }, accessFlags := 9, code := some k1c3 }
/-- com/example/triplesmith/triplesmith/engine/SeededRandomNextLongPinLaw -/
def k1 : Class := { plain "com/example/triplesmith/triplesmith/engine/SeededRandomNextLongPinLaw" (some 0) with
  accessFlags := 49
  interfaces := #[]
  cf := some (fileOf pool1 12 #[] #[{ accessFlags := 2, nameIndex := 5, descriptorIndex := 6, attributes := #[] }, { accessFlags := 10, nameIndex := 15, descriptorIndex := 16, attributes := #[] }, { accessFlags := 10, nameIndex := 30, descriptorIndex := 16, attributes := #[] }, { accessFlags := 9, nameIndex := 35, descriptorIndex := 36, attributes := #[] }] 49 2 #[] #[])
  fields := #[]
  methods := #[k1m0, k1m1, k1m2, k1m3]
  instanceTypes := #[]
  staticTypes := #[]
  resolved := Array.replicate 40 none
  statics := none }

def pool2 : Array CpInfo := pool [(1, .methodref 2 3), (0, .class_ 4), (0, .nameAndType 5 6), (0, u "java/lang/Object"), (0, u "<init>"), (0, u "()V"), (0, .fieldref 8 9), (0, .class_ 10), (0, .nameAndType 11 12), (0, u "com/example/triplesmith/triplesmith/engine/SeededRandom"), (0, u "state"), (0, u "J"), (0, .long 11400714819323198485), (1, .long 13787848793156543929), (1, .long 10723151780598845931), (12, u "nextLong"), (0, u "()J"), (123, u "GAMMA"), (1, u "UNIT"), (0, u "D"), (0, u "(J)V")] 34

def k2c0 : Code := { maxStack := 3, maxLocals := 3, code := prog_9_method_1_code, exceptionTable := #[], attributes := #[] }
def k2m0 : Method := { name := "<init>", desc := "(J)V", sig := { parameters := [.long], returnType := none }, accessFlags := 1, code := some k2c0 }
def k2c1 : Code := { maxStack := 5, maxLocals := 3, code := prog_9_method_2_code, exceptionTable := #[], attributes := #[] }
def k2m1 : Method := { name := "nextLong", desc := "()J", sig := { parameters := [], returnType := some .long }, accessFlags := 1, code := some k2c1 }
/-- com/example/triplesmith/triplesmith/engine/SeededRandom -/
def k2 : Class := { plain "com/example/triplesmith/triplesmith/engine/SeededRandom" (some 0) with
  accessFlags := 49
  interfaces := #[]
  cf := some (fileOf pool2 8 #[] #[{ accessFlags := 1, nameIndex := 5, descriptorIndex := 159, attributes := #[] }, { accessFlags := 1, nameIndex := 30, descriptorIndex := 31, attributes := #[] }] 49 2 #[] #[{ accessFlags := 26, nameIndex := 155, descriptorIndex := 12, attributes := #[] }, { accessFlags := 26, nameIndex := 157, descriptorIndex := 158, attributes := #[] }, { accessFlags := 2, nameIndex := 11, descriptorIndex := 12, attributes := #[] }])
  fields := #[{ name := "GAMMA", type := .long, accessFlags := 26, slot := 0, constantValue := 0 }, { name := "UNIT", type := .double, accessFlags := 26, slot := 1, constantValue := 0 }, { name := "state", type := .long, accessFlags := 2, slot := 0, constantValue := 0 }]
  methods := #[k2m0, k2m1]
  instanceTypes := #[.long]
  staticTypes := #[.long, .double]
  resolved := Array.replicate 194 none
  statics := none }

def pool3 : Array CpInfo := pool [(1, u "java/lang/Cloneable"), (0, .class_ 1), (0, u "java/lang/Object"), (0, .class_ 3)] 3

/-- java/lang/Cloneable -/
def k3 : Class := { plain "java/lang/Cloneable" (some 0) with
  accessFlags := 1537
  interfaces := #[]
  cf := some (fileOf pool3 2 #[] #[] 1537 4 #[] #[])
  fields := #[]
  methods := #[]
  instanceTypes := #[]
  staticTypes := #[]
  resolved := Array.replicate 8 none
  statics := none }

def pool4 : Array CpInfo := pool [(1, u "java/io/Serializable"), (0, .class_ 1), (0, u "java/lang/Object"), (0, .class_ 3)] 3

/-- java/io/Serializable -/
def k4 : Class := { plain "java/io/Serializable" (some 0) with
  accessFlags := 1537
  interfaces := #[]
  cf := some (fileOf pool4 2 #[] #[] 1537 4 #[] #[])
  fields := #[]
  methods := #[]
  instanceTypes := #[]
  staticTypes := #[]
  resolved := Array.replicate 8 none
  statics := none }

/-- the primitive byte -/
def k5 : Class := { plain "byte" none with kind := .primitive 'B', accessFlags := 0x411 }
/-- [B -/
def k6 : Class := { plain "[B" (some 0) with kind := .array 5 .byte, interfaces := #[3, 4], accessFlags := 1041 }

/-- the primitive int -/
def k7 : Class := { plain "int" none with kind := .primitive 'I', accessFlags := 0x411 }
/-- [I -/
def k8 : Class := { plain "[I" (some 0) with kind := .array 7 .int, interfaces := #[3, 4], accessFlags := 1041 }

def heap : Heap := #[]
def classes : Array Class := #[k0, k1, k2, k3, k4, k5, k6, k7, k8]
def interned : List (Array UInt16 × Addr) := []
def slotsUsed : Nat := 0
def theMethod : MethodId := ⟨1, 3⟩
def args0 : Array Value := #[.long 5]
def aboutOver (below : List Frame) : State where
  vm := { classes := classes, interned := interned.toArray }
  heap := heap
  slotsUsed := slotsUsed
  threads := #[{ frames := .invoking theMethod args0 :: below }]
def below0 : List Frame := [.native { method := ⟨0, 0⟩, args := #[] }]
def about1 : State := aboutOver below0
def p0 : Program := .bare "" "" ""
def e0 : Env := launch0.env 0 0 0
theorem w_frames : about1.frames = Frame.invoking theMethod args0 :: below0 := rfl
set_option maxRecDepth 65536 in
theorem w_args : argsFit about1.vm theMethod args0 = true := by decide +kernel
set_option maxRecDepth 65536 in
theorem w_heap : heapFits about1 = true := by decide +kernel
set_option maxRecDepth 65536 in
theorem w_runnable : about1.curStatus? = some .runnable := by decide +kernel
set_option maxRecDepth 65536 in
theorem w_alone : about1.alone = true := by decide +kernel
set_option maxRecDepth 65536 in
theorem w_named : about1.methodNamed? x = some theMethod := by decide +kernel
set_option maxRecDepth 65536 in
theorem w_hears : about1.hears theMethod below0 = true := by decide +kernel
set_option maxRecDepth 65536 in
theorem w_ripe : about1.ripe theMethod args0 below0 = true := by decide +kernel
theorem w_running : about1.status = .running := rfl
set_option maxRecDepth 65536 in
theorem w_room : about1.hasRoom e0.platform room_1 = true :=
  launch0.hasRoom_least _ room_1 (by decide +kernel) (by decide +kernel) (by decide +kernel) (by decide +kernel) (by decide +kernel) (by decide +kernel)
theorem allAtoms_all (ts : List Jvm.Cond) (a : Array Jvm.Value) (st : Jvm.State) : (allAtoms ts).before a st = ts.all (fun c => c.before a st) := by
  induction ts with
  | nil => rfl
  | cons c t ih =>
    show (Jvm.Cond.and c (allAtoms t)).before a st = _
    rw [Jvm.Cond.before_and, ih, List.all_cons]
def words1 : List Jvm.Cond := Jvm.Cond.code x code maxLocals ret :: tables_1
/-- a 'code' word, met by the world's own term for the bytes: nothing is compared byte by byte -/
theorem code_word {y : MethodName} {bytes : ByteArray} {mx : Nat} {rt : Option FieldType} {a : Array Value} {s : State} {m : MethodId} {meth : Method} {c : Code} (h1 : s.methodNamed? y = some m) (h2 : s.vm.method? m = some meth) (h3 : meth.code = some c) (h4 : c.code = bytes)
    (h5 : (c.maxLocals == mx && c.exceptionTable.isEmpty && decide (c.maxStack ≤ mostOperands) && decide (meth.sig.returnType = rt) && !meth.locks && decide (parseMethodDescriptor y.desc = some meth.sig)) = true) : (Jvm.Cond.code y bytes mx rt).before a s = true := by
  simp only [Bool.and_eq_true, beq_iff_eq, Bool.not_eq_true', decide_eq_true_eq] at h5
  obtain ⟨⟨⟨⟨⟨g1, g2⟩, g3⟩, g4⟩, g5⟩, g6⟩ := h5
  simp [Cond.before, Cond.holds, Cond.value, h1, h2, h3, h4, g1, g2, g3, g4, g5, g6]
def isCode : Jvm.Cond → Bool
  | .code _ _ _ _ => true
  | _ => false
theorem all_split {L : List Jvm.Cond} {P : Jvm.Cond → Bool} (h1 : L.all (fun c => isCode c || P c) = true) (h2 : ∀ c ∈ L.filter isCode, P c = true) : L.all P = true := by
  refine List.all_eq_true.mpr fun c hc => ?_
  have h := List.all_eq_true.mp h1 c hc
  rcases Bool.eq_false_or_eq_true (isCode c) with hi | hi
  · exact h2 c (List.mem_filter.mpr ⟨hc, hi⟩)
  · simpa [hi] using h
set_option maxRecDepth 65536 in
theorem w_c0 : (Jvm.Cond.code x code maxLocals ret).before args0 about1 = true := code_word (m := ⟨1, 3⟩) (meth := k1m3) (c := k1c3) (by decide +kernel) rfl rfl rfl (by decide +kernel)
set_option maxRecDepth 65536 in
theorem w_c1 : (Jvm.Cond.code ({ cls := "com/example/triplesmith/triplesmith/engine/SeededRandom", name := "<init>", desc := "(J)V" } : Jvm.MethodName) prog_9_method_1_code (3 : Nat) (Option.none : Option Jvm.ClassFile.FieldType)).before args0 about1 = true := code_word (m := ⟨2, 0⟩) (meth := k2m0) (c := k2c0) (by decide +kernel) rfl rfl rfl (by decide +kernel)
set_option maxRecDepth 65536 in
theorem w_c2 : (Jvm.Cond.code ({ cls := "java/lang/Object", name := "<init>", desc := "()V" } : Jvm.MethodName) object_method_1_code (1 : Nat) (Option.none : Option Jvm.ClassFile.FieldType)).before args0 about1 = true := code_word (m := ⟨0, 0⟩) (meth := k0m0) (c := k0c0) (by decide +kernel) rfl rfl rfl (by decide +kernel)
set_option maxRecDepth 65536 in
theorem w_c3 : (Jvm.Cond.code ({ cls := "com/example/triplesmith/triplesmith/engine/SeededRandom", name := "nextLong", desc := "()J" } : Jvm.MethodName) prog_9_method_2_code (3 : Nat) (Option.some Jvm.ClassFile.FieldType.long)).before args0 about1 = true := code_word (m := ⟨2, 1⟩) (meth := k2m1) (c := k2c1) (by decide +kernel) rfl rfl rfl (by decide +kernel)
set_option maxRecDepth 65536 in
theorem w_c4 : (Jvm.Cond.code ({ cls := "com/example/triplesmith/triplesmith/engine/SeededRandomNextLongPinLaw", name := "unmix", desc := "(J)J" } : Jvm.MethodName) method_3_code (4 : Nat) (Option.some Jvm.ClassFile.FieldType.long)).before args0 about1 = true := code_word (m := ⟨1, 2⟩) (meth := k1m2) (c := k1c2) (by decide +kernel) rfl rfl rfl (by decide +kernel)
set_option maxRecDepth 65536 in
theorem w_c5 : (Jvm.Cond.code ({ cls := "com/example/triplesmith/triplesmith/engine/SeededRandomNextLongPinLaw", name := "inverse", desc := "(J)J" } : Jvm.MethodName) method_2_code (4 : Nat) (Option.some Jvm.ClassFile.FieldType.long)).before args0 about1 = true := code_word (m := ⟨1, 1⟩) (meth := k1m1) (c := k1c1) (by decide +kernel) rfl rfl rfl (by decide +kernel)
def codes1 : List Jvm.Cond := [Jvm.Cond.code x code maxLocals ret, Jvm.Cond.code ({ cls := "com/example/triplesmith/triplesmith/engine/SeededRandom", name := "<init>", desc := "(J)V" } : Jvm.MethodName) prog_9_method_1_code (3 : Nat) (Option.none : Option Jvm.ClassFile.FieldType), Jvm.Cond.code ({ cls := "java/lang/Object", name := "<init>", desc := "()V" } : Jvm.MethodName) object_method_1_code (1 : Nat) (Option.none : Option Jvm.ClassFile.FieldType), Jvm.Cond.code ({ cls := "com/example/triplesmith/triplesmith/engine/SeededRandom", name := "nextLong", desc := "()J" } : Jvm.MethodName) prog_9_method_2_code (3 : Nat) (Option.some Jvm.ClassFile.FieldType.long), Jvm.Cond.code ({ cls := "com/example/triplesmith/triplesmith/engine/SeededRandomNextLongPinLaw", name := "unmix", desc := "(J)J" } : Jvm.MethodName) method_3_code (4 : Nat) (Option.some Jvm.ClassFile.FieldType.long), Jvm.Cond.code ({ cls := "com/example/triplesmith/triplesmith/engine/SeededRandomNextLongPinLaw", name := "inverse", desc := "(J)J" } : Jvm.MethodName) method_2_code (4 : Nat) (Option.some Jvm.ClassFile.FieldType.long)]
set_option maxRecDepth 65536 in
theorem codes_eq : words1.filter isCode = codes1 := rfl
theorem w_codes : ∀ c ∈ words1.filter isCode, c.before args0 about1 = true := by
  rw [codes_eq]
  intro c hc
  simp only [codes1, List.mem_cons, List.not_mem_nil, or_false] at hc
  rcases hc with rfl | rfl | rfl | rfl | rfl | rfl
  · exact w_c0
  · exact w_c1
  · exact w_c2
  · exact w_c3
  · exact w_c4
  · exact w_c5
set_option maxRecDepth 65536 in
theorem w_t1 : (words1.take 24).all (fun c => isCode c || c.before args0 about1) = true := by decide +kernel
set_option maxRecDepth 65536 in
theorem w_t2 : (words1.drop 24).all (fun c => isCode c || c.before args0 about1) = true := by decide +kernel
theorem w_tables : (allAtoms (Jvm.Cond.code x code maxLocals ret :: tables_1)).before args0 about1 = true := by
  rw [allAtoms_all]
  show words1.all (fun c => c.before args0 about1) = true
  refine all_split ?_ w_codes
  rw [← List.take_append_drop 24 words1, List.all_append, w_t1, w_t2]
  rfl
set_option maxRecDepth 65536 in
theorem w_case : (Jvm.Cond.and given_1 narrow_1).before args0 about1 = true := by decide +kernel
theorem w_applies : (headSpec (Jvm.Cond.code x code maxLocals ret :: tables_1) room_1).applies x e0.platform about1 = true :=
  (Spec.applies_iff w_frames).mpr ⟨w_running, w_runnable, w_alone, w_named, w_hears, w_ripe, w_room, w_tables⟩
theorem atStart : AtStart classFile x code maxLocals ret World_1 tables_1 room_1 Calls_1 rest_1 Pre_1 launch0 p0 e0 about1 theMethod args0 below0 :=
  ⟨lists_1, trivial, launch0.admits_env _ _ _, launch0.least_env, fairChoices_fair.cas, fairChoices_fair.clock, w_frames, w_args, w_heap, w_applies, trivial, trivial, w_case⟩
end start1
theorem witness_1 : WitnessClaimed_1 := ⟨start1.p0, start1.e0, start1.about1, start1.theMethod, start1.args0, start1.below0, start1.atStart⟩
end Jvm.Pilot.@@N@@
