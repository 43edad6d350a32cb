import JvmDerived
import JvmDerived.Pilot.@@N@@Statement
import JvmDerived.Pilot.@@N@@Code
set_option linter.unusedVariables false
set_option linter.unusedSimpArgs false
namespace Jvm.Pilot.@@N@@
open Jvm Jvm.ClassFile Sem Op Lib Jvm.Free Jvm.Stand Jvm.LawKit Jvm.RoadKit Bundle Jvm.Pilot.@@N@@.Jvm.D
section Own
variable {p : Program} {l : Launch} {e : Env} {R : Room} {s : State} {m : MethodId} {args : Array Value} {below : List Frame} {meth : Method} {c : Code} {T T' : State} {locs : List Loc} {cells slots : Nat}
variable {F : Outcome → State → List Loc → Prop} {Q : Option Value → Heap → List Loc → Prop} {ck sk : Nat} {g g' : JFrame}
def own_F (s : State) (ck sk : Nat) (o : Outcome) (t : State) (L : List Loc) : Prop := FrameEnd s o t L ck sk
/-- from the state T with the frame g on top the method comes to its end, and Q holds of what it returns, of the heap and of the places written -/
def own_E (p : Program) (e : Env) (below : List Frame) (F : Outcome → State → List Loc → Prop) (Q : Option Value → Heap → List Loc → Prop) (T : State) (g : JFrame) : Prop :=
  ∃ s₂ o, Steps p.tables e below (T.setTop g) s₂ ∧ s₂.status = .running ∧ Ended s₂ below o ∧ ∃ v L, o = .returned v ∧ Q v s₂.heap L ∧ F o s₂ L
theorem own_step (st : ∀ t, Steps p.tables e below (T'.setTop g') t → Steps p.tables e below (T.setTop g) t) (k : own_E p e below F Q T' g') : own_E p e below F Q T g := by
  obtain ⟨s2, o, h, r⟩ := k
  exact ⟨s2, o, st _ h, r⟩
theorem own_cast (q : g = g') (k : own_E p e below F Q T g') : own_E p e below F Q T g := q ▸ k
theorem own_ret (X : Stand p l e R s m args below meth c T locs cells slots) (hx : p.tables.exec = Jvm.exec) (hlk : meth.locks = false) {pc : Nat} {Ls : Array Slot} {w : Value} {t : FieldType} {i : Instr} {rest : List Value} (hret : meth.sig.returnType = some t)
    (hi : (i = .ireturn ∧ (t = .int ∨ t = .boolean ∨ t = .byte ∨ t = .char ∨ t = .short) ∧ ∃ z, w = .int z) ∨ (i = .lreturn ∧ t = .long ∧ ∃ z, w = .long z) ∨ (i = .dreturn ∧ t = .double ∧ ∃ z, w = .double z) ∨ (i = .freturn ∧ t = .float ∧ ∃ z, w = .float z) ∨ (i = .areturn ∧ t.isReference = true ∧ w.isRef = true))
    (hd : decode c.code pc = .ok (i, 1)) (hn : narrow t w = w) (hc : cells ≤ ck) (hs : slots ≤ sk) (hQ : Q (some w) T.heap locs) : own_E p e below (own_F s ck sk) Q T (mkF m pc Ls (w :: rest)) := by
  obtain ⟨fs, hr, hrun, hended, hW, hsame⟩ := X.leave (v := some w) (fun h => by rw [hret] at h; cases h) hlk
  exact ⟨_, _, retOut X hx hret hn hi hd hr, hrun, hended, _, _, rfl, hQ, ⟨_, rfl⟩, hW, hsame.mono hc hs⟩
theorem own_retI (X : Stand p l e R s m args below meth c T locs cells slots) (hx : p.tables.exec = Jvm.exec) (hlk : meth.locks = false) {pc : Nat} {Ls : Array Slot} {z : Int32} {t : FieldType} {rest : List Value} (hret : meth.sig.returnType = some t)
    (ht : t = .int ∨ t = .boolean ∨ t = .byte ∨ t = .char ∨ t = .short) (hd : decode c.code pc = .ok (.ireturn, 1)) (hn : narrow t (.int z) = .int z) (hc : cells ≤ ck) (hs : slots ≤ sk) (hQ : Q (some (.int z)) T.heap locs) : own_E p e below (own_F s ck sk) Q T (mkF m pc Ls (.int z :: rest)) :=
  own_ret X hx hlk hret (Or.inl ⟨rfl, ht, z, rfl⟩) hd hn hc hs hQ
theorem own_retJ (X : Stand p l e R s m args below meth c T locs cells slots) (hx : p.tables.exec = Jvm.exec) (hlk : meth.locks = false) {pc : Nat} {Ls : Array Slot} {z : Int64} {rest : List Value} (hret : meth.sig.returnType = some .long)
    (hd : decode c.code pc = .ok (.lreturn, 1)) (hc : cells ≤ ck) (hs : slots ≤ sk) (hQ : Q (some (.long z)) T.heap locs) : own_E p e below (own_F s ck sk) Q T (mkF m pc Ls (.long z :: rest)) :=
  own_ret X hx hlk hret (Or.inr (Or.inl ⟨rfl, rfl, z, rfl⟩)) hd rfl hc hs hQ
theorem own_retA (X : Stand p l e R s m args below meth c T locs cells slots) (hx : p.tables.exec = Jvm.exec) (hlk : meth.locks = false) {pc : Nat} {Ls : Array Slot} {a : Addr} {C : String} {rest : List Value} (hret : meth.sig.returnType = some (.object C))
    (hd : decode c.code pc = .ok (.areturn, 1)) (hc : cells ≤ ck) (hs : slots ≤ sk) (hQ : Q (some (.ref a)) T.heap locs) : own_E p e below (own_F s ck sk) Q T (mkF m pc Ls (.ref a :: rest)) :=
  own_ret X hx hlk hret (Or.inr (Or.inr (Or.inr (Or.inr ⟨rfl, rfl, rfl⟩)))) hd rfl hc hs hQ
theorem own_retV (X : Stand p l e R s m args below meth c T locs cells slots) (hx : p.tables.exec = Jvm.exec) (hlk : meth.locks = false) {pc : Nat} {Ls : Array Slot} (hret : meth.sig.returnType = none)
    (hd : decode c.code pc = .ok (.return_, 1)) (hc : cells ≤ ck) (hs : slots ≤ sk) (hQ : Q none T.heap locs) : own_E p e below (own_F s ck sk) Q T (mkF m pc Ls []) := by
  obtain ⟨fs, hr, hrun, hended, hW, hsame⟩ := X.leave (v := none) (fun _ => rfl) hlk
  exact ⟨_, _, X.returnOut hx hret hd hr, hrun, hended, _, _, rfl, hQ, ⟨_, rfl⟩, hW, hsame.mono hc hs⟩
/-- forks: P first, its denial second -/
theorem own_ifY (X : Stand p l e R s m args below meth c T locs cells slots) (hx : p.tables.exec = Jvm.exec) {cd : ClassFile.Cond} {x : Int32} {rest : List Value} {o : Int} {pc0 pc1 : Nat} {Ls : Array Slot} {P : Prop} [Decidable P] (hd : decode c.code pc0 = .ok (.ifCond cd o, 3)) (hP : ifCond.holds cd x = decide P)
    (ho : 0 ≤ (pc0 : Int) + o) (hp : ((pc0 : Int) + o).toNat = pc1) (hy : P → own_E p e below F Q T (mkF m pc1 Ls rest)) (hn : ¬ P → own_E p e below F Q T (mkF m (pc0 + 3) Ls rest)) : own_E p e below F Q T (mkF m pc0 Ls (.int x :: rest)) := by
  by_cases h : P
  · exact own_step (fun t k => XS.ifYes X.here hx rfl (pc0 := pc0) (pc' := pc1) rfl hd rfl (by rw [hP]; exact decide_eq_true h) ho hp k) (hy h)
  · exact own_step (fun t k => XS.ifNo X.here hx rfl hd rfl (by rw [hP]; exact decide_eq_false h) k) (hn h)
theorem own_ifN (X : Stand p l e R s m args below meth c T locs cells slots) (hx : p.tables.exec = Jvm.exec) {cd : ClassFile.Cond} {x : Int32} {rest : List Value} {o : Int} {pc0 pc1 : Nat} {Ls : Array Slot} {P : Prop} [Decidable P] (hd : decode c.code pc0 = .ok (.ifCond cd o, 3)) (hP : ifCond.holds cd x = !decide P)
    (ho : 0 ≤ (pc0 : Int) + o) (hp : ((pc0 : Int) + o).toNat = pc1) (hy : P → own_E p e below F Q T (mkF m (pc0 + 3) Ls rest)) (hn : ¬ P → own_E p e below F Q T (mkF m pc1 Ls rest)) : own_E p e below F Q T (mkF m pc0 Ls (.int x :: rest)) :=
  own_ifY X hx (P := ¬ P) hd (by rw [hP, decide_not]) ho hp hn (fun h => hy (Decidable.of_not_not h))
theorem own_icY (X : Stand p l e R s m args below meth c T locs cells slots) (hx : p.tables.exec = Jvm.exec) {cd : ClassFile.Cond} {x y : Int32} {rest : List Value} {o : Int} {pc0 pc1 : Nat} {Ls : Array Slot} {P : Prop} [Decidable P] (hd : decode c.code pc0 = .ok (.if_icmp cd o, 3)) (hP : if_icmp.holds cd x y = decide P)
    (ho : 0 ≤ (pc0 : Int) + o) (hp : ((pc0 : Int) + o).toNat = pc1) (hy : P → own_E p e below F Q T (mkF m pc1 Ls rest)) (hn : ¬ P → own_E p e below F Q T (mkF m (pc0 + 3) Ls rest)) : own_E p e below F Q T (mkF m pc0 Ls (.int y :: .int x :: rest)) := by
  by_cases h : P
  · exact own_step (fun t k => XS.icmpYes X.here hx rfl (pc0 := pc0) (pc' := pc1) rfl hd rfl (by rw [hP]; exact decide_eq_true h) ho hp k) (hy h)
  · exact own_step (fun t k => XS.icmpNo X.here hx rfl hd rfl (by rw [hP]; exact decide_eq_false h) k) (hn h)
theorem own_icN (X : Stand p l e R s m args below meth c T locs cells slots) (hx : p.tables.exec = Jvm.exec) {cd : ClassFile.Cond} {x y : Int32} {rest : List Value} {o : Int} {pc0 pc1 : Nat} {Ls : Array Slot} {P : Prop} [Decidable P] (hd : decode c.code pc0 = .ok (.if_icmp cd o, 3)) (hP : if_icmp.holds cd x y = !decide P)
    (ho : 0 ≤ (pc0 : Int) + o) (hp : ((pc0 : Int) + o).toNat = pc1) (hy : P → own_E p e below F Q T (mkF m (pc0 + 3) Ls rest)) (hn : ¬ P → own_E p e below F Q T (mkF m pc1 Ls rest)) : own_E p e below F Q T (mkF m pc0 Ls (.int y :: .int x :: rest)) :=
  own_icY X hx (P := ¬ P) hd (by rw [hP, decide_not]) ho hp hn (fun h => hy (Decidable.of_not_not h))
theorem own_i_eq (x y : Int32) : if_icmp.holds .eq x y = decide (x = y) := by
  by_cases h : x = y
  · rw [(teq h).1, decide_eq_true h]
  · rw [(feq h).1, decide_eq_false h]
theorem own_i_ne (x y : Int32) : if_icmp.holds .ne x y = !decide (x = y) := by
  by_cases h : x = y
  · rw [(teq h).2, decide_eq_true h]; rfl
  · rw [(feq h).2, decide_eq_false h]; rfl
theorem own_i_lt (x y : Int32) : if_icmp.holds .lt x y = decide (x < y) := by
  by_cases h : x < y
  · rw [(tlt h).1, decide_eq_true h]
  · rw [(flt h).1, decide_eq_false h]
theorem own_i_ge (x y : Int32) : if_icmp.holds .ge x y = !decide (x < y) := by
  by_cases h : x < y
  · rw [(tlt h).2.1, decide_eq_true h]; rfl
  · rw [(flt h).2.1, decide_eq_false h]; rfl
theorem own_i_gt (x y : Int32) : if_icmp.holds .gt x y = decide (y < x) := by
  by_cases h : y < x
  · rw [(tlt h).2.2.1, decide_eq_true h]
  · rw [(flt h).2.2.1, decide_eq_false h]
theorem own_i_le (x y : Int32) : if_icmp.holds .le x y = !decide (y < x) := by
  by_cases h : y < x
  · rw [(tlt h).2.2.2, decide_eq_true h]; rfl
  · rw [(flt h).2.2.2, decide_eq_false h]; rfl
theorem own_z_eq (x : Int32) : ifCond.holds .eq x = decide (x = 0) := (if0 _ _).trans (own_i_eq x 0)
theorem own_z_ne (x : Int32) : ifCond.holds .ne x = !decide (x = 0) := (if0 _ _).trans (own_i_ne x 0)
theorem own_z_lt (x : Int32) : ifCond.holds .lt x = decide (x < 0) := (if0 _ _).trans (own_i_lt x 0)
theorem own_z_ge (x : Int32) : ifCond.holds .ge x = !decide (x < 0) := (if0 _ _).trans (own_i_ge x 0)
theorem own_z_gt (x : Int32) : ifCond.holds .gt x = decide (0 < x) := (if0 _ _).trans (own_i_gt x 0)
theorem own_z_le (x : Int32) : ifCond.holds .le x = !decide (0 < x) := (if0 _ _).trans (own_i_le x 0)
theorem own_l_eq (x y : Int64) : ifCond.holds .eq (lcmpW x y) = decide (x = y) := (own_z_eq _).trans (decide_eq_decide.mpr (lw_eq x y))
theorem own_l_ne (x y : Int64) : ifCond.holds .ne (lcmpW x y) = !decide (x = y) := (own_z_ne _).trans (congrArg not (decide_eq_decide.mpr (lw_eq x y)))
theorem own_l_lt (x y : Int64) : ifCond.holds .lt (lcmpW x y) = decide (x < y) := (own_z_lt _).trans (decide_eq_decide.mpr (lw_lt x y))
theorem own_l_ge (x y : Int64) : ifCond.holds .ge (lcmpW x y) = !decide (x < y) := (own_z_ge _).trans (congrArg not (decide_eq_decide.mpr (lw_lt x y)))
theorem own_l_gt (x y : Int64) : ifCond.holds .gt (lcmpW x y) = decide (y < x) := (own_z_gt _).trans (decide_eq_decide.mpr (lw_gt x y))
theorem own_l_le (x y : Int64) : ifCond.holds .le (lcmpW x y) = !decide (y < x) := (own_z_le _).trans (congrArg not (decide_eq_decide.mpr (lw_gt x y)))
/-- a condition as Java's int: 1 or 0 -/
def own_b (P : Prop) [Decidable P] : Int32 := if P then 1 else 0
theorem own_b1 {P : Prop} [Decidable P] (h : P) : own_b P = 1 := if_pos h
theorem own_b0 {P : Prop} [Decidable P] (h : ¬ P) : own_b P = 0 := if_neg h
theorem own_b_ne (P : Prop) [Decidable P] : ifCond.holds .ne (own_b P) = decide P := by
  by_cases h : P
  · rw [own_b1 h, decide_eq_true h]; rfl
  · rw [own_b0 h, decide_eq_false h]; rfl
theorem own_b_eq (P : Prop) [Decidable P] : ifCond.holds .eq (own_b P) = !decide P := by
  by_cases h : P
  · rw [own_b1 h, decide_eq_true h]; rfl
  · rw [own_b0 h, decide_eq_false h]; rfl
theorem own_bn (P : Prop) [Decidable P] : narrow .boolean (.int (own_b P)) = .int (own_b P) := by
  by_cases h : P
  · rw [own_b1 h]; rfl
  · rw [own_b0 h]; rfl
end Own
section OwnWide
variable {p : Program} {l : Launch} {e : Env} {R : Room} {s : State} {m : MethodId} {args : Array Value} {below : List Frame} {meth : Method} {c : Code} {T : State} {locs : List Loc} {cells slots : Nat}
variable {Q : Option Value → Heap → List Loc → Prop} {ck sk : Nat}
def own_FW (s : State) (ck sk : Nat) (o : Outcome) (t : State) (L : List Loc) : Prop := ReturnedEndW s o t L ck sk
theorem own_retIW {vm₁ : Vm} (X : Stand p l e R (s.setVm vm₁) m args below meth c T locs cells slots) (hx : p.tables.exec = Jvm.exec) (hlk : meth.locks = false) {n : Nat} (hS : s.Since vm₁ n) (hk : n ≤ T.heap.size) {pc : Nat} {Ls : Array Slot} {z : Int32} {t : FieldType} {rest : List Value} (hret : meth.sig.returnType = some t)
    (ht : t = .int ∨ t = .boolean ∨ t = .byte ∨ t = .char ∨ t = .short) (hd : decode c.code pc = .ok (.ireturn, 1)) (hn : narrow t (.int z) = .int z) (hc : cells ≤ ck) (hs : slots ≤ sk) (hQ : Q (some (.int z)) T.heap locs) : own_E p e below (own_FW s ck sk) Q T (mkF m pc Ls (.int z :: rest)) := by
  obtain ⟨fs, hr, hrun, hended, h1, h2, h3, h4⟩ := X.leaveW hS hk (v := some (.int z)) (fun h => by rw [hret] at h; cases h) hlk
  exact ⟨_, _, retOut X hx hret hn (Or.inl ⟨rfl, ht, z, rfl⟩) hd hr, hrun, hended, _, _, rfl, hQ, h1, h2, h3, h4.mono hc hs⟩
theorem own_all7 {P : Jvm.Cond → Prop} {c1 c2 c3 c4 c5 c6 c7 : Jvm.Cond} (h1 : P c1) (h2 : P c2) (h3 : P c3) (h4 : P c4) (h5 : P c5) (h6 : P c6) (h7 : P c7) : ∀ a ∈ [c1, c2, c3, c4, c5, c6, c7], P a := by
  intro a ha
  simp only [List.mem_cons, List.not_mem_nil, or_false] at ha
  rcases ha with rfl | rfl | rfl | rfl | rfl | rfl | rfl <;> assumption
end OwnWide
def own_min (x y : Int32) : Int32 := if y < x then y else x
abbrev own_vs (x0 : Int32) : List Value := [(.int ((x0.toInt8.toInt32).toInt8.toInt32)), (.int ((((x0.toUInt32 >>> ((8 : Int32) &&& 31).toUInt32).toInt32).toInt8.toInt32).toInt8.toInt32)), (.int ((((x0.toUInt32 >>> ((16 : Int32) &&& 31).toUInt32).toInt32).toInt8.toInt32).toInt8.toInt32)), (.int ((((x0.toUInt32 >>> ((24 : Int32) &&& 31).toUInt32).toInt32).toInt8.toInt32).toInt8.toInt32))]
theorem own_bb (x : Int32) : (x.toInt8.toInt32).toInt8.toInt32 = x.toInt8.toInt32 := by simp
theorem own_at (x0 j : Int32) (h : j = 0 ∨ j = 1 ∨ j = 2 ∨ j = 3) : (own_vs x0).getD j.toNatClampNeg (.int (0 : Int32)) = .int (((x0.toUInt32 >>> (((8 : Int32) * j) &&& 31).toUInt32).toInt32).toInt8.toInt32) := by
  rcases h with rfl | rfl | rfl | rfl
  · show Value.int _ = _
    rw [own_bb, show (((8 : Int32) * 0) &&& 31).toUInt32 = 0 by decide]; simp
  · show Value.int _ = _
    rw [own_bb, show (((8 : Int32) * 1) &&& 31).toUInt32 = ((8 : Int32) &&& 31).toUInt32 by decide]
  · show Value.int _ = _
    rw [own_bb, show (((8 : Int32) * 2) &&& 31).toUInt32 = ((16 : Int32) &&& 31).toUInt32 by decide]
  · show Value.int _ = _
    rw [own_bb, show (((8 : Int32) * 3) &&& 31).toUInt32 = ((24 : Int32) &&& 31).toUInt32 by decide]
theorem own_off (x : Int32) : 0 ≤ (x &&& (3 : Int32)).toInt ∧ (x &&& (3 : Int32)).toInt ≤ 3 := by
  have h := c_and x 3 (by decide)
  have k : (3 : Int32).toInt = 3 := by decide
  omega
theorem own_five (f : Int32) (h : 0 ≤ f.toInt ∧ f.toInt ≤ 3) : ((5 : Int32) - f).toInt = 5 - f.toInt := by
  have e := c_isub 5 f
  have k : (5 : Int32).toInt = 5 := by decide
  have g1 := ((5 : Int32) - f).toInt_lt; have g2 := ((5 : Int32) - f).le_toInt
  omega
theorem own_five0 (f : Int32) (h : 0 ≤ f.toInt ∧ f.toInt ≤ 3) : ((5 : Int32) - f) ≠ 0 := by
  have e := own_five f h
  have k : (0 : Int32).toInt = 0 := by decide
  intro q
  rw [q] at e
  omega
theorem own_len (x f : Int32) (h : 0 ≤ f.toInt ∧ f.toInt ≤ 3) : 0 ≤ ((x &&& (2147483647 : Int32)) % ((5 : Int32) - f)).toInt ∧ f.toInt + ((x &&& (2147483647 : Int32)) % ((5 : Int32) - f)).toInt ≤ 4 := by
  have h1 := (c_andS x 2147483647).2.2 (by decide)
  have e := own_five f h
  have h2 := (c_iremV (x &&& 2147483647) ((5 : Int32) - f)).1 h1 (by omega)
  omega
theorem own_rd (x y : Int32) : (own_min x y).toInt ≤ y.toInt := by
  unfold own_min; simp only [Int32.lt_iff_toInt_lt]; split <;> omega
theorem own_ltno {a b r : Int32} (h : ¬ a < r) (q : a.toInt ≤ b.toInt) : ¬ b < r := by
  rw [Int32.lt_iff_toInt_lt] at *; omega
theorem own_sub (f : Int32) : (f - f).toInt64 = (0 : Int64) := by
  have e := c_isub f f
  have g1 := (f - f).toInt_lt; have g2 := (f - f).le_toInt
  have k : (0 : Int64).toInt = 0 := by decide
  rw [← Int64.toInt_inj, c_i2l, k]; omega
theorem own_s0 (x0 f0 n1 rd : Int32) (h1 : 0 ≤ f0.toInt ∧ f0.toInt ≤ 3) (h2 : 0 ≤ n1.toInt ∧ f0.toInt + n1.toInt ≤ 4) (h3 : rd.toInt ≤ n1.toInt) (h4 : 0 < rd) : f0 < (f0 + n1) ∧ (¬ f0 < 0 ∧ f0 < (4 : Int32)) ∧ (own_vs x0).getD f0.toNatClampNeg (.int (0 : Int32)) = .int (((x0.toUInt32 >>> (((8 : Int32) * f0) &&& 31).toUInt32).toInt32).toInt8.toInt32) ∧ narrow .byte (.int (((x0.toUInt32 >>> (((8 : Int32) * f0) &&& 31).toUInt32).toInt32).toInt8.toInt32)) = .int (((x0.toUInt32 >>> (((8 : Int32) * f0) &&& 31).toUInt32).toInt32).toInt8.toInt32) ∧ ((f0 + (1 : Int32)) - f0).toInt64 = (1 : Int64) := by
  have z0 : (0 : Int32).toInt = 0 := by decide
  have z1 : (1 : Int32).toInt = 1 := by decide
  have z2 : (2 : Int32).toInt = 2 := by decide
  have z3 : (3 : Int32).toInt = 3 := by decide
  have z4 : (4 : Int32).toInt = 4 := by decide
  have z5 : (1 : Int64).toInt = 1 := by decide
  rw [Int32.lt_iff_toInt_lt] at h4
  have eq : f0 = f0 := by rfl
  have ep : f0.toInt = f0.toInt + 0 := by omega
  have el := c_iadd f0 n1; have gl := (f0 + n1).toInt_lt; have gl' := (f0 + n1).le_toInt
  have en := c_iadd f0 1; have gn := (f0 + 1).toInt_lt; have gn' := (f0 + 1).le_toInt
  have es := c_isub (f0 + 1) f0; have gs := ((f0 + 1) - f0).toInt_lt; have gs' := ((f0 + 1) - f0).le_toInt
  refine ⟨by rw [Int32.lt_iff_toInt_lt]; omega, ⟨by rw [Int32.lt_iff_toInt_lt]; omega, by rw [Int32.lt_iff_toInt_lt]; omega⟩, ?_, congrArg Value.int (own_bb _), by rw [← Int64.toInt_inj, c_i2l, z5]; omega⟩
  rw [eq]
  refine own_at x0 _ ?_
  rw [← eq]
  simp only [← Int32.toInt_inj, z0, z1, z2, z3]
  omega
theorem own_s1 (x0 f0 n1 rd : Int32) (h1 : 0 ≤ f0.toInt ∧ f0.toInt ≤ 3) (h2 : 0 ≤ n1.toInt ∧ f0.toInt + n1.toInt ≤ 4) (h3 : rd.toInt ≤ n1.toInt) (h4 : (1 : Int32) < rd) : (f0 + (1 : Int32)) < (f0 + n1) ∧ (¬ (f0 + (1 : Int32)) < 0 ∧ (f0 + (1 : Int32)) < (4 : Int32)) ∧ (own_vs x0).getD (f0 + (1 : Int32)).toNatClampNeg (.int (0 : Int32)) = .int (((x0.toUInt32 >>> (((8 : Int32) * (f0 + (1 : Int32))) &&& 31).toUInt32).toInt32).toInt8.toInt32) ∧ narrow .byte (.int (((x0.toUInt32 >>> (((8 : Int32) * (f0 + (1 : Int32))) &&& 31).toUInt32).toInt32).toInt8.toInt32)) = .int (((x0.toUInt32 >>> (((8 : Int32) * (f0 + (1 : Int32))) &&& 31).toUInt32).toInt32).toInt8.toInt32) ∧ (((f0 + (1 : Int32)) + (1 : Int32)) - f0).toInt64 = (2 : Int64) := by
  have z0 : (0 : Int32).toInt = 0 := by decide
  have z1 : (1 : Int32).toInt = 1 := by decide
  have z2 : (2 : Int32).toInt = 2 := by decide
  have z3 : (3 : Int32).toInt = 3 := by decide
  have z4 : (4 : Int32).toInt = 4 := by decide
  have z5 : (2 : Int64).toInt = 2 := by decide
  rw [Int32.lt_iff_toInt_lt] at h4
  have e1 := c_iadd f0 1
  have g1 := (f0 + (1 : Int32)).toInt_lt; have g1' := (f0 + (1 : Int32)).le_toInt
  have eq : (f0 + (1 : Int32)) = (f0 + (1 : Int32)) := by rfl
  have ep : (f0 + (1 : Int32)).toInt = f0.toInt + 1 := by omega
  have el := c_iadd f0 n1; have gl := (f0 + n1).toInt_lt; have gl' := (f0 + n1).le_toInt
  have en := c_iadd (f0 + (1 : Int32)) 1; have gn := ((f0 + (1 : Int32)) + 1).toInt_lt; have gn' := ((f0 + (1 : Int32)) + 1).le_toInt
  have es := c_isub ((f0 + (1 : Int32)) + 1) f0; have gs := (((f0 + (1 : Int32)) + 1) - f0).toInt_lt; have gs' := (((f0 + (1 : Int32)) + 1) - f0).le_toInt
  refine ⟨by rw [Int32.lt_iff_toInt_lt]; omega, ⟨by rw [Int32.lt_iff_toInt_lt]; omega, by rw [Int32.lt_iff_toInt_lt]; omega⟩, ?_, congrArg Value.int (own_bb _), by rw [← Int64.toInt_inj, c_i2l, z5]; omega⟩
  rw [eq]
  refine own_at x0 _ ?_
  rw [← eq]
  simp only [← Int32.toInt_inj, z0, z1, z2, z3]
  omega
theorem own_s2 (x0 f0 n1 rd : Int32) (h1 : 0 ≤ f0.toInt ∧ f0.toInt ≤ 3) (h2 : 0 ≤ n1.toInt ∧ f0.toInt + n1.toInt ≤ 4) (h3 : rd.toInt ≤ n1.toInt) (h4 : (2 : Int32) < rd) : ((f0 + (1 : Int32)) + (1 : Int32)) < (f0 + n1) ∧ (¬ ((f0 + (1 : Int32)) + (1 : Int32)) < 0 ∧ ((f0 + (1 : Int32)) + (1 : Int32)) < (4 : Int32)) ∧ (own_vs x0).getD ((f0 + (1 : Int32)) + (1 : Int32)).toNatClampNeg (.int (0 : Int32)) = .int (((x0.toUInt32 >>> (((8 : Int32) * (f0 + (2 : Int32))) &&& 31).toUInt32).toInt32).toInt8.toInt32) ∧ narrow .byte (.int (((x0.toUInt32 >>> (((8 : Int32) * (f0 + (2 : Int32))) &&& 31).toUInt32).toInt32).toInt8.toInt32)) = .int (((x0.toUInt32 >>> (((8 : Int32) * (f0 + (2 : Int32))) &&& 31).toUInt32).toInt32).toInt8.toInt32) ∧ ((((f0 + (1 : Int32)) + (1 : Int32)) + (1 : Int32)) - f0).toInt64 = (3 : Int64) := by
  have z0 : (0 : Int32).toInt = 0 := by decide
  have z1 : (1 : Int32).toInt = 1 := by decide
  have z2 : (2 : Int32).toInt = 2 := by decide
  have z3 : (3 : Int32).toInt = 3 := by decide
  have z4 : (4 : Int32).toInt = 4 := by decide
  have z5 : (3 : Int64).toInt = 3 := by decide
  rw [Int32.lt_iff_toInt_lt] at h4
  have e1 := c_iadd f0 1
  have g1 := (f0 + (1 : Int32)).toInt_lt; have g1' := (f0 + (1 : Int32)).le_toInt
  have e2 := c_iadd (f0 + (1 : Int32)) 1
  have g2 := ((f0 + (1 : Int32)) + (1 : Int32)).toInt_lt; have g2' := ((f0 + (1 : Int32)) + (1 : Int32)).le_toInt
  have eq : ((f0 + (1 : Int32)) + (1 : Int32)) = (f0 + (2 : Int32)) := by rw [Int32.add_assoc]; rfl
  have ep : ((f0 + (1 : Int32)) + (1 : Int32)).toInt = f0.toInt + 2 := by omega
  have el := c_iadd f0 n1; have gl := (f0 + n1).toInt_lt; have gl' := (f0 + n1).le_toInt
  have en := c_iadd ((f0 + (1 : Int32)) + (1 : Int32)) 1; have gn := (((f0 + (1 : Int32)) + (1 : Int32)) + 1).toInt_lt; have gn' := (((f0 + (1 : Int32)) + (1 : Int32)) + 1).le_toInt
  have es := c_isub (((f0 + (1 : Int32)) + (1 : Int32)) + 1) f0; have gs := ((((f0 + (1 : Int32)) + (1 : Int32)) + 1) - f0).toInt_lt; have gs' := ((((f0 + (1 : Int32)) + (1 : Int32)) + 1) - f0).le_toInt
  refine ⟨by rw [Int32.lt_iff_toInt_lt]; omega, ⟨by rw [Int32.lt_iff_toInt_lt]; omega, by rw [Int32.lt_iff_toInt_lt]; omega⟩, ?_, congrArg Value.int (own_bb _), by rw [← Int64.toInt_inj, c_i2l, z5]; omega⟩
  rw [eq]
  refine own_at x0 _ ?_
  rw [← eq]
  simp only [← Int32.toInt_inj, z0, z1, z2, z3]
  omega
theorem own_s3 (x0 f0 n1 rd : Int32) (h1 : 0 ≤ f0.toInt ∧ f0.toInt ≤ 3) (h2 : 0 ≤ n1.toInt ∧ f0.toInt + n1.toInt ≤ 4) (h3 : rd.toInt ≤ n1.toInt) (h4 : (3 : Int32) < rd) : (((f0 + (1 : Int32)) + (1 : Int32)) + (1 : Int32)) < (f0 + n1) ∧ (¬ (((f0 + (1 : Int32)) + (1 : Int32)) + (1 : Int32)) < 0 ∧ (((f0 + (1 : Int32)) + (1 : Int32)) + (1 : Int32)) < (4 : Int32)) ∧ (own_vs x0).getD (((f0 + (1 : Int32)) + (1 : Int32)) + (1 : Int32)).toNatClampNeg (.int (0 : Int32)) = .int (((x0.toUInt32 >>> (((8 : Int32) * (f0 + (3 : Int32))) &&& 31).toUInt32).toInt32).toInt8.toInt32) ∧ narrow .byte (.int (((x0.toUInt32 >>> (((8 : Int32) * (f0 + (3 : Int32))) &&& 31).toUInt32).toInt32).toInt8.toInt32)) = .int (((x0.toUInt32 >>> (((8 : Int32) * (f0 + (3 : Int32))) &&& 31).toUInt32).toInt32).toInt8.toInt32) ∧ (((((f0 + (1 : Int32)) + (1 : Int32)) + (1 : Int32)) + (1 : Int32)) - f0).toInt64 = (4 : Int64) := by
  have z0 : (0 : Int32).toInt = 0 := by decide
  have z1 : (1 : Int32).toInt = 1 := by decide
  have z2 : (2 : Int32).toInt = 2 := by decide
  have z3 : (3 : Int32).toInt = 3 := by decide
  have z4 : (4 : Int32).toInt = 4 := by decide
  have z5 : (4 : Int64).toInt = 4 := by decide
  rw [Int32.lt_iff_toInt_lt] at h4
  have e1 := c_iadd f0 1
  have g1 := (f0 + (1 : Int32)).toInt_lt; have g1' := (f0 + (1 : Int32)).le_toInt
  have e2 := c_iadd (f0 + (1 : Int32)) 1
  have g2 := ((f0 + (1 : Int32)) + (1 : Int32)).toInt_lt; have g2' := ((f0 + (1 : Int32)) + (1 : Int32)).le_toInt
  have e3 := c_iadd ((f0 + (1 : Int32)) + (1 : Int32)) 1
  have g3 := (((f0 + (1 : Int32)) + (1 : Int32)) + (1 : Int32)).toInt_lt; have g3' := (((f0 + (1 : Int32)) + (1 : Int32)) + (1 : Int32)).le_toInt
  have eq : (((f0 + (1 : Int32)) + (1 : Int32)) + (1 : Int32)) = (f0 + (3 : Int32)) := by rw [Int32.add_assoc, Int32.add_assoc]; rfl
  have ep : (((f0 + (1 : Int32)) + (1 : Int32)) + (1 : Int32)).toInt = f0.toInt + 3 := by omega
  have el := c_iadd f0 n1; have gl := (f0 + n1).toInt_lt; have gl' := (f0 + n1).le_toInt
  have en := c_iadd (((f0 + (1 : Int32)) + (1 : Int32)) + (1 : Int32)) 1; have gn := ((((f0 + (1 : Int32)) + (1 : Int32)) + (1 : Int32)) + 1).toInt_lt; have gn' := ((((f0 + (1 : Int32)) + (1 : Int32)) + (1 : Int32)) + 1).le_toInt
  have es := c_isub ((((f0 + (1 : Int32)) + (1 : Int32)) + (1 : Int32)) + 1) f0; have gs := (((((f0 + (1 : Int32)) + (1 : Int32)) + (1 : Int32)) + 1) - f0).toInt_lt; have gs' := (((((f0 + (1 : Int32)) + (1 : Int32)) + (1 : Int32)) + 1) - f0).le_toInt
  refine ⟨by rw [Int32.lt_iff_toInt_lt]; omega, ⟨by rw [Int32.lt_iff_toInt_lt]; omega, by rw [Int32.lt_iff_toInt_lt]; omega⟩, ?_, congrArg Value.int (own_bb _), by rw [← Int64.toInt_inj, c_i2l, z5]; omega⟩
  rw [eq]
  refine own_at x0 _ ?_
  rw [← eq]
  simp only [← Int32.toInt_inj, z0, z1, z2, z3]
  omega
theorem own_ef3 (m : MethodId) (x0 : Addr) : entryFrame m #[(.ref x0)] 1 = mkF m 0 #[.val (.ref x0)] [] := by first | (simp [entryFrame, mkF, argsToLocals, Value.category]; done) | rfl
def own_Q3 (Z : State) (a1 : Addr) (h0 : Heap) (n0 : Nat) (v : Option Value) (h : Heap) (L : List Loc) : Prop := v = none ∧ Fr n0 L ∧ h = h0
theorem own_pn_3 : plainName "com/example/quern/quern/store/DataInput" = true := by first | (simp [plainName, overriddenIn]; done) | decide +kernel
theorem own_d3_0 : decode prog_132_method_1_code 0 = .ok (.aload_n 0, 1) := by decide +kernel
theorem own_d3_1 : decode prog_132_method_1_code 1 = .ok (.invokespecial 1, 3) := by decide +kernel
theorem own_d3_4 : decode prog_132_method_1_code 4 = .ok (.return_, 1) := by decide +kernel
set_option maxRecDepth 65536 in
set_option maxHeartbeats 40000000 in
theorem own_rm3 (l : Launch) (Z : State) (a0 : Array Value) (hw : ∀ d ∈ tables_1, d.before a0 Z = true) (ws : List Jvm.Cond) (a1 : Addr) (h0 : Heap) (n0 : Nat) (Z0 : n0 ≤ h0.size)  :
    MetFree l (⟨"com/example/quern/quern/store/DataInput", "<init>", "()V"⟩ : MethodName) (head1 (Jvm.Cond.code (⟨"com/example/quern/quern/store/DataInput", "<init>", "()V"⟩ : MethodName) prog_132_method_1_code 1 none :: ws) ({ frames := 1, cells := 0, slots := 0, locals := 12 } : Room)) (fun aU U => aU = #[(.ref a1)] ∧ Z.Warmed39 U.vm ∧ U.heap = h0) (fun _ _ _ _ _ => True) (fun _ U o U' => ∃ v L, o = .returned v ∧ own_Q3 Z a1 h0 n0 v U'.heap L ∧ FrameEnd U o U' L 0 0) := by
  refine MetFree.of_bodySF (plainFor_of_name own_pn_3) hisR ?_
  intro p e s m args below meth c s₁ Bd hml0 hP hK
  obtain ⟨rfl, hZ, hh⟩ := hP
  have hx := Bd.exec
  have hby := Bd.bytes
  have hml : c.maxLocals = 1 := hml0
  have hown : s.vm.findClass "com/example/quern/quern/store/DataInput" = some m.cls := findClass_of_methodNamed Bd.named
  have hnm := (name_of_methodNamed Bd.named Bd.method).1
  have hlk : meth.locks = false := Bd.notSynchronized
  have hret := Bd.returns
  have X0 : Stand p l e ({ frames := 1, cells := 0, slots := 0, locals := 12 } : Room) s m #[(.ref a1)] below meth c s₁ [] 0 0 := Stand.of_body Bd
  have e0 : s₁.heap = h0 := by rw [← hh, Bd.state]; rfl
  have N0 := Fr.nil n0
  have K0 := Keep.refl h0 ([] : List Addr)
  show own_E p e below (own_F s 0 0) (own_Q3 Z a1 h0 n0) s₁ (entryFrame m #[(.ref a1)] 1)
  refine own_cast (own_ef3 m a1) ?_
  refine own_step (g' := (mkF m 1 #[.val (.ref a1)] [(.ref a1)])) (fun _ k => XS.aloadN X0.here hx rfl (hb hby own_d3_0) rfl rfl k) ?_
  obtain ⟨T1, X1, e1, st1⟩ := initO X0 hx hZ hown (hw _ (List.mem_of_getElem? (i := 24) rfl)) (hw _ (List.mem_of_getElem? (i := 25) rfl)) (hw _ (List.mem_of_getElem? (i := 26) rfl)) e0 (g := (mkF m 1 #[.val (.ref a1)] [(.ref a1)])) rfl (by rw [hml]; rfl) rfl (hb hby own_d3_1) (by decide) (W := 0) (by show 2 * 0 + _ ≤ _; exact Nat.le_of_eq rfl) (by decide)
  refine own_step (g' := (mkF m 4 #[.val (.ref a1)] [])) st1 ?_
  exact own_retV X1 hx hlk hret (hb hby own_d3_4) (by decide) (by decide) (by show own_Q3 Z a1 h0 n0 none T1.heap _; rw [e1]; exact ⟨rfl, N0, rfl⟩)
theorem own_ef1 (m : MethodId) (x0 : Int32) (x1 : Int32) : entryFrame m #[(.int x0), (.int x1)] 2 = mkF m 0 #[.val (.int x0), .val (.int x1)] [] := by first | (simp [entryFrame, mkF, argsToLocals, Value.category]; done) | rfl
def own_Q1 (Z : State) (x0 : Int32) (x1 : Int32) (h0 : Heap) (n0 : Nat) (v : Option Value) (h : Heap) (L : List Loc) : Prop := v = some (.int (own_min x0 x1)) ∧ Fr n0 L ∧ h = h0
theorem own_pn_1 : plainFor (⟨"java/lang/Math", "min", "(II)I"⟩ : MethodName) = true := by decide +kernel
theorem own_d1_0 : decode jdk_29_method_69_code 0 = .ok (.iload_n 0, 1) := by decide +kernel
theorem own_d1_1 : decode jdk_29_method_69_code 1 = .ok (.iload_n 1, 1) := by decide +kernel
theorem own_d1_2 : decode jdk_29_method_69_code 2 = .ok (.if_icmp .gt 7, 3) := by decide +kernel
theorem own_d1_9 : decode jdk_29_method_69_code 9 = .ok (.iload_n 1, 1) := by decide +kernel
theorem own_d1_10 : decode jdk_29_method_69_code 10 = .ok (.ireturn, 1) := by decide +kernel
theorem own_d1_5 : decode jdk_29_method_69_code 5 = .ok (.iload_n 0, 1) := by decide +kernel
theorem own_d1_6 : decode jdk_29_method_69_code 6 = .ok (.goto 4, 3) := by decide +kernel
set_option maxRecDepth 65536 in
set_option maxHeartbeats 40000000 in
theorem own_rm1 (l : Launch) (Z : State) (a0 : Array Value) (hw : ∀ d ∈ tables_1, d.before a0 Z = true) (ws : List Jvm.Cond) (x0 : Int32) (x1 : Int32) (h0 : Heap) (n0 : Nat) (Z0 : n0 ≤ h0.size)  :
    MetFree l (⟨"java/lang/Math", "min", "(II)I"⟩ : MethodName) (head1 (Jvm.Cond.code (⟨"java/lang/Math", "min", "(II)I"⟩ : MethodName) jdk_29_method_69_code 2 (some .int) :: ws) ({ frames := 0, cells := 0, slots := 0, locals := 0 } : Room)) (fun aU U => aU = #[(.int x0), (.int x1)] ∧ Z.Warmed39 U.vm ∧ U.heap = h0) (fun _ _ _ _ _ => True) (fun _ U o U' => ∃ v L, o = .returned v ∧ own_Q1 Z x0 x1 h0 n0 v U'.heap L ∧ FrameEnd U o U' L 0 0) := by
  refine MetFree.of_bodySF own_pn_1 hisR ?_
  intro p e s m args below meth c s₁ Bd hml0 hP hK
  obtain ⟨rfl, hZ, hh⟩ := hP
  have hx := Bd.exec
  have hby := Bd.bytes
  have hml : c.maxLocals = 2 := hml0
  have hown : s.vm.findClass "java/lang/Math" = some m.cls := findClass_of_methodNamed Bd.named
  have hnm := (name_of_methodNamed Bd.named Bd.method).1
  have hlk : meth.locks = false := Bd.notSynchronized
  have hret := Bd.returns
  have X0 : Stand p l e ({ frames := 0, cells := 0, slots := 0, locals := 0 } : Room) s m #[(.int x0), (.int x1)] below meth c s₁ [] 0 0 := Stand.of_body Bd
  have e0 : s₁.heap = h0 := by rw [← hh, Bd.state]; rfl
  have N0 := Fr.nil n0
  have K0 := Keep.refl h0 ([] : List Addr)
  show own_E p e below (own_F s 0 0) (own_Q1 Z x0 x1 h0 n0) s₁ (entryFrame m #[(.int x0), (.int x1)] 2)
  refine own_cast (own_ef1 m x0 x1) ?_
  refine own_step (g' := (mkF m 1 #[.val (.int x0), .val (.int x1)] [(.int x0)])) (fun _ k => XS.iloadN X0.here hx rfl (hb hby own_d1_0) rfl k) ?_
  refine own_step (g' := (mkF m 2 #[.val (.int x0), .val (.int x1)] [(.int x1), (.int x0)])) (fun _ k => XS.iloadN X0.here hx rfl (hb hby own_d1_1) rfl k) ?_
  refine own_icY X0 hx (P := (x1 < x0)) (hb hby own_d1_2) (own_i_gt x0 x1) (by decide) (pc1 := 9) (by decide) (fun hc2 => ?_) (fun hc2 => ?_)
  · show own_E p e below (own_F s 0 0) (own_Q1 Z x0 x1 h0 n0) s₁ (mkF m 9 #[.val (.int x0), .val (.int x1)] [])
    refine own_step (g' := (mkF m 10 #[.val (.int x0), .val (.int x1)] [(.int x1)])) (fun _ k => XS.iloadN X0.here hx rfl (hb hby own_d1_9) rfl k) ?_
    exact own_retI X0 hx hlk hret (by simp) (hb hby own_d1_10) rfl (by decide) (by decide) (by show own_Q1 Z x0 x1 h0 n0 (some (.int x1)) s₁.heap _; rw [e0]; exact ⟨by simp only [own_min, if_pos hc2], N0, rfl⟩)
  · show own_E p e below (own_F s 0 0) (own_Q1 Z x0 x1 h0 n0) s₁ (mkF m 5 #[.val (.int x0), .val (.int x1)] [])
    refine own_step (g' := (mkF m 6 #[.val (.int x0), .val (.int x1)] [(.int x0)])) (fun _ k => XS.iloadN X0.here hx rfl (hb hby own_d1_5) rfl k) ?_
    refine own_step (g' := (mkF m 10 #[.val (.int x0), .val (.int x1)] [(.int x0)])) (fun _ k => XS.goto X0.here hx rfl (pc0 := 6) (pc' := 10) rfl (hb hby own_d1_6) (by decide) (by decide) k) ?_
    exact own_retI X0 hx hlk hret (by simp) (hb hby own_d1_10) rfl (by decide) (by decide) (by show own_Q1 Z x0 x1 h0 n0 (some (.int x0)) s₁.heap _; rw [e0]; exact ⟨by simp only [own_min, if_neg hc2], N0, rfl⟩)
theorem own_ef2 (m : MethodId) (x0 : Addr) (x1 : Addr) (x2 : Addr) (x3 : Int32) (x4 : Int32) : entryFrame m #[(.ref x0), (.ref x1), (.ref x2), (.int x3), (.int x4)] 5 = mkF m 0 #[.val (.ref x0), .val (.ref x1), .val (.ref x2), .val (.int x3), .val (.int x4)] [] := by first | (simp [entryFrame, mkF, argsToLocals, Value.category]; done) | rfl
def own_Q2 (Z : State) (a1 : Addr) (c1 : Addr) (a2 : Addr) (f0 : Int32) (n1 : Int32) (k1 : ClassId) (vs : List Value) (h0 : Heap) (n0 : Nat) (v : Option Value) (h : Heap) (L : List Loc) : Prop := v = none ∧ Fr n0 L ∧ Keep h0 h [a1] ∧ Exa Z h a1 "com/example/quern/quern/store/BytesInput" ∧ Fld Z h a1 "com/example/quern/quern/store/BytesInput" "name" "Ljava/lang/String;" (.ref c1) ∧ Fld Z h a1 "com/example/quern/quern/store/BytesInput" "bytes" "[B" (.ref a2) ∧ Fld Z h a1 "com/example/quern/quern/store/BytesInput" "start" "I" (.int f0) ∧ Fld Z h a1 "com/example/quern/quern/store/BytesInput" "end" "I" (.int (f0 + n1)) ∧ Fld Z h a1 "com/example/quern/quern/store/BytesInput" "position" "I" (.int f0)
theorem own_pn_2 : plainName "com/example/quern/quern/store/BytesInput" = true := by first | (simp [plainName, overriddenIn]; done) | decide +kernel
theorem own_d2_0 : decode prog_128_method_1_code 0 = .ok (.aload_n 0, 1) := by decide +kernel
theorem own_d2_1 : decode prog_128_method_1_code 1 = .ok (.invokespecial 1, 3) := by decide +kernel
theorem own_pd__28_29V : parseMethodDescriptor "()V" = some ⟨[], none⟩ := by decide +kernel
theorem own_d2_4 : decode prog_128_method_1_code 4 = .ok (.iload_n 3, 1) := by decide +kernel
theorem own_d2_5 : decode prog_128_method_1_code 5 = .ok (.ifCond .lt 17, 3) := by decide +kernel
theorem own_d2_8 : decode prog_128_method_1_code 8 = .ok (.iload 4, 2) := by decide +kernel
theorem own_d2_10 : decode prog_128_method_1_code 10 = .ok (.ifCond .lt 12, 3) := by decide +kernel
theorem own_d2_13 : decode prog_128_method_1_code 13 = .ok (.iload 4, 2) := by decide +kernel
theorem own_d2_15 : decode prog_128_method_1_code 15 = .ok (.aload_n 2, 1) := by decide +kernel
theorem own_d2_16 : decode prog_128_method_1_code 16 = .ok (.arraylength, 1) := by decide +kernel
theorem own_d2_17 : decode prog_128_method_1_code 17 = .ok (.iload_n 3, 1) := by decide +kernel
theorem own_d2_18 : decode prog_128_method_1_code 18 = .ok (.isub, 1) := by decide +kernel
theorem own_d2_19 : decode prog_128_method_1_code 19 = .ok (.if_icmp .le 21, 3) := by decide +kernel
theorem own_d2_40 : decode prog_128_method_1_code 40 = .ok (.aload_n 0, 1) := by decide +kernel
theorem own_d2_41 : decode prog_128_method_1_code 41 = .ok (.aload_n 1, 1) := by decide +kernel
theorem own_d2_42 : decode prog_128_method_1_code 42 = .ok (.putfield 16, 3) := by decide +kernel
theorem own_d2_45 : decode prog_128_method_1_code 45 = .ok (.aload_n 0, 1) := by decide +kernel
theorem own_d2_46 : decode prog_128_method_1_code 46 = .ok (.aload_n 2, 1) := by decide +kernel
theorem own_d2_47 : decode prog_128_method_1_code 47 = .ok (.putfield 22, 3) := by decide +kernel
theorem own_d2_50 : decode prog_128_method_1_code 50 = .ok (.aload_n 0, 1) := by decide +kernel
theorem own_d2_51 : decode prog_128_method_1_code 51 = .ok (.iload_n 3, 1) := by decide +kernel
theorem own_d2_52 : decode prog_128_method_1_code 52 = .ok (.putfield 26, 3) := by decide +kernel
theorem own_d2_55 : decode prog_128_method_1_code 55 = .ok (.aload_n 0, 1) := by decide +kernel
theorem own_d2_56 : decode prog_128_method_1_code 56 = .ok (.iload_n 3, 1) := by decide +kernel
theorem own_d2_57 : decode prog_128_method_1_code 57 = .ok (.iload 4, 2) := by decide +kernel
theorem own_d2_59 : decode prog_128_method_1_code 59 = .ok (.iadd, 1) := by decide +kernel
theorem own_d2_60 : decode prog_128_method_1_code 60 = .ok (.putfield 30, 3) := by decide +kernel
theorem own_d2_63 : decode prog_128_method_1_code 63 = .ok (.aload_n 0, 1) := by decide +kernel
theorem own_d2_64 : decode prog_128_method_1_code 64 = .ok (.iload_n 3, 1) := by decide +kernel
theorem own_d2_65 : decode prog_128_method_1_code 65 = .ok (.putfield 33, 3) := by decide +kernel
theorem own_d2_68 : decode prog_128_method_1_code 68 = .ok (.return_, 1) := by decide +kernel
set_option maxRecDepth 65536 in
set_option maxHeartbeats 40000000 in
theorem own_rm2 (l : Launch) (Z : State) (a0 : Array Value) (hw : ∀ d ∈ tables_1, d.before a0 Z = true) (ws : List Jvm.Cond) (a1 : Addr) (c1 : Addr) (a2 : Addr) (f0 : Int32) (n1 : Int32) (k1 : ClassId) (vs : List Value) (h0 : Heap) (n0 : Nat) (Z0 : n0 ≤ h0.size) (Ea : Exa Z h0 a1 "com/example/quern/quern/store/BytesInput") (ga : n0 ≤ a1) (nea : a2 ≠ a1) (Fname : Fld Z h0 a1 "com/example/quern/quern/store/BytesInput" "name" "Ljava/lang/String;" .null) (Fbytes : Fld Z h0 a1 "com/example/quern/quern/store/BytesInput" "bytes" "[B" .null) (Fstart : Fld Z h0 a1 "com/example/quern/quern/store/BytesInput" "start" "I" (.int (0 : Int32))) (Fend : Fld Z h0 a1 "com/example/quern/quern/store/BytesInput" "end" "I" (.int (0 : Int32))) (Fposition : Fld Z h0 a1 "com/example/quern/quern/store/BytesInput" "position" "I" (.int (0 : Int32))) (V : Arv Z h0 a2 k1 .byte (4 : Int32) vs (.int (0 : Int32))) (hf : ¬ f0 < 0) (hl : ¬ n1 < 0) (hs : ¬ ((4 : Int32) - f0) < n1) :
    MetFree l (⟨"com/example/quern/quern/store/BytesInput", "<init>", "(Ljava/lang/String;[BII)V"⟩ : MethodName) (head1 (Jvm.Cond.code (⟨"com/example/quern/quern/store/BytesInput", "<init>", "(Ljava/lang/String;[BII)V"⟩ : MethodName) prog_128_method_1_code 5 none :: ws) ({ frames := 2, cells := 0, slots := 0, locals := 24 } : Room)) (fun aU U => aU = #[(.ref a1), (.ref c1), (.ref a2), (.int f0), (.int n1)] ∧ Z.Warmed39 U.vm ∧ U.heap = h0) (fun _ _ _ _ _ => True) (fun _ U o U' => ∃ v L, o = .returned v ∧ own_Q2 Z a1 c1 a2 f0 n1 k1 vs h0 n0 v U'.heap L ∧ FrameEnd U o U' L 0 0) := by
  refine MetFree.of_bodySF (plainFor_of_name own_pn_2) hisR ?_
  intro p e s m args below meth c s₁ Bd hml0 hP hK
  obtain ⟨rfl, hZ, hh⟩ := hP
  have hx := Bd.exec
  have hby := Bd.bytes
  have hml : c.maxLocals = 5 := hml0
  have hown : s.vm.findClass "com/example/quern/quern/store/BytesInput" = some m.cls := findClass_of_methodNamed Bd.named
  have hnm := (name_of_methodNamed Bd.named Bd.method).1
  have hlk : meth.locks = false := Bd.notSynchronized
  have hret := Bd.returns
  have X0 : Stand p l e ({ frames := 2, cells := 0, slots := 0, locals := 24 } : Room) s m #[(.ref a1), (.ref c1), (.ref a2), (.int f0), (.int n1)] below meth c s₁ [] 0 0 := Stand.of_body Bd
  have e0 : s₁.heap = h0 := by rw [← hh, Bd.state]; rfl
  have N0 := Fr.nil n0
  have K0 := Keep.refl h0 [a1]
  show own_E p e below (own_F s 0 0) (own_Q2 Z a1 c1 a2 f0 n1 k1 vs h0 n0) s₁ (entryFrame m #[(.ref a1), (.ref c1), (.ref a2), (.int f0), (.int n1)] 5)
  refine own_cast (own_ef2 m a1 c1 a2 f0 n1) ?_
  refine own_step (g' := (mkF m 1 #[.val (.ref a1), .val (.ref c1), .val (.ref a2), .val (.int f0), .val (.int n1)] [(.ref a1)])) (fun _ k => XS.aloadN X0.here hx rfl (hb hby own_d2_0) rfl rfl k) ?_
  obtain ⟨_, _, ⟨T1, L1, kk_1, nn_1⟩, -, X1, ⟨Lc1, hQ1, l1, y1, z1⟩, st1⟩ := X0.specialBack hx (y := (⟨"com/example/quern/quern/store/DataInput", "<init>", "()V"⟩ : MethodName)) rfl hown (mvT hZ (hw _ (List.mem_of_getElem? (i := 19) rfl))) (mvT hZ (hw _ (List.mem_of_getElem? (i := 20) rfl))) (mvT hZ (hw _ (List.mem_of_getElem? (i := 23) rfl))) (by decide) (backOf (W := 0) (own_rm3 l Z a0 hw [] a1 h0 n0 Z0 ) hZ (hw _ (List.mem_of_getElem? (i := 23) rfl)) (hw _ (List.mem_of_getElem? (i := 22) rfl)) (by decide) (by decide)) (g := (mkF m 1 #[.val (.ref a1), .val (.ref c1), .val (.ref a2), .val (.int f0), .val (.int n1)] [(.ref a1)])) rfl (by rw [hml]; rfl) (Steps.refl _) (a := a1) (argsL := []) (rest := []) (lenOf own_pd__28_29V rfl) rfl (by show 2 * 0 + _ ≤ _; exact Nat.le_of_eq rfl) (hb hby own_d2_1) (fun _ _ => ⟨rfl, e0, (by decide : 0 + 0 ≤ _), (by decide : 0 + 0 ≤ _)⟩)
  dsimp only [Pt.U, Pt.locs, Pt.cells, Pt.slots] at X1 l1 y1 z1 st1 hQ1
  subst l1 y1 z1
  obtain ⟨rfl, Nq1, e1⟩ := hQ1
  have N1 := Fr.app N0 Nq1
  refine own_step (g' := (mkF m 4 #[.val (.ref a1), .val (.ref c1), .val (.ref a2), .val (.int f0), .val (.int n1)] [])) (fun _ k => st1.trans k) ?_
  refine own_step (g' := (mkF m 5 #[.val (.ref a1), .val (.ref c1), .val (.ref a2), .val (.int f0), .val (.int n1)] [(.int f0)])) (fun _ k => XS.iloadN X1.here hx rfl (hb hby own_d2_4) rfl k) ?_
  refine own_ifY X1 hx (P := (f0 < 0)) (hb hby own_d2_5) (own_z_lt f0) (by decide) (pc1 := 22) (by decide) (fun hc5 => ?_) (fun hc5 => ?_)
  · show own_E p e below (own_F s 0 0) (own_Q2 Z a1 c1 a2 f0 n1 k1 vs h0 n0) T1 (mkF m 22 #[.val (.ref a1), .val (.ref c1), .val (.ref a2), .val (.int f0), .val (.int n1)] [])
    exact absurd hc5 hf
  · show own_E p e below (own_F s 0 0) (own_Q2 Z a1 c1 a2 f0 n1 k1 vs h0 n0) T1 (mkF m 8 #[.val (.ref a1), .val (.ref c1), .val (.ref a2), .val (.int f0), .val (.int n1)] [])
    refine own_step (g' := (mkF m 10 #[.val (.ref a1), .val (.ref c1), .val (.ref a2), .val (.int f0), .val (.int n1)] [(.int n1)])) (fun _ k => XS.iload X1.here hx rfl (hb hby own_d2_8) rfl k) ?_
    refine own_ifY X1 hx (P := (n1 < 0)) (hb hby own_d2_10) (own_z_lt n1) (by decide) (pc1 := 22) (by decide) (fun hc10 => ?_) (fun hc10 => ?_)
    · show own_E p e below (own_F s 0 0) (own_Q2 Z a1 c1 a2 f0 n1 k1 vs h0 n0) T1 (mkF m 22 #[.val (.ref a1), .val (.ref c1), .val (.ref a2), .val (.int f0), .val (.int n1)] [])
      exact absurd hc10 hl
    · show own_E p e below (own_F s 0 0) (own_Q2 Z a1 c1 a2 f0 n1 k1 vs h0 n0) T1 (mkF m 13 #[.val (.ref a1), .val (.ref c1), .val (.ref a2), .val (.int f0), .val (.int n1)] [])
      refine own_step (g' := (mkF m 15 #[.val (.ref a1), .val (.ref c1), .val (.ref a2), .val (.int f0), .val (.int n1)] [(.int n1)])) (fun _ k => XS.iload X1.here hx rfl (hb hby own_d2_13) rfl k) ?_
      refine own_step (g' := (mkF m 16 #[.val (.ref a1), .val (.ref c1), .val (.ref a2), .val (.int f0), .val (.int n1)] [(.ref a2), (.int n1)])) (fun _ k => XS.aloadN X1.here hx rfl (hb hby own_d2_15) rfl rfl k) ?_
      obtain ⟨cl2, Ar2, -, S2, G2, -, -⟩ := id V
      have al2 := X1.arraylength hx (by rw [e1]; exact Ar2.1) (State.isArrayOf_alike hZ.alike Ar2.2.1) (g := (mkF m 16 #[.val (.ref a1), .val (.ref c1), .val (.ref a2), .val (.int f0), .val (.int n1)] [(.ref a2), (.int n1)])) rfl rfl (hb hby own_d2_16)
      rw [len_of S2 G2] at al2
      refine own_step (g' := (mkF m 17 #[.val (.ref a1), .val (.ref c1), .val (.ref a2), .val (.int f0), .val (.int n1)] [(.int (4 : Int32)), (.int n1)])) (fun _ k => al2 _ k) ?_
      refine own_step (g' := (mkF m 18 #[.val (.ref a1), .val (.ref c1), .val (.ref a2), .val (.int f0), .val (.int n1)] [(.int f0), (.int (4 : Int32)), (.int n1)])) (fun _ k => XS.iloadN X1.here hx rfl (hb hby own_d2_17) rfl k) ?_
      refine own_step (g' := (mkF m 19 #[.val (.ref a1), .val (.ref c1), .val (.ref a2), .val (.int f0), .val (.int n1)] [(.int ((4 : Int32) - f0)), (.int n1)])) (fun _ k => XS.isub X1.here hx rfl (hb hby own_d2_18) rfl k) ?_
      refine own_icN X1 hx (P := (((4 : Int32) - f0) < n1)) (hb hby own_d2_19) (own_i_le n1 ((4 : Int32) - f0)) (by decide) (pc1 := 40) (by decide) (fun hc19 => ?_) (fun hc19 => ?_)
      · show own_E p e below (own_F s 0 0) (own_Q2 Z a1 c1 a2 f0 n1 k1 vs h0 n0) T1 (mkF m 22 #[.val (.ref a1), .val (.ref c1), .val (.ref a2), .val (.int f0), .val (.int n1)] [])
        exact absurd hc19 hs
      · show own_E p e below (own_F s 0 0) (own_Q2 Z a1 c1 a2 f0 n1 k1 vs h0 n0) T1 (mkF m 40 #[.val (.ref a1), .val (.ref c1), .val (.ref a2), .val (.int f0), .val (.int n1)] [])
        refine own_step (g' := (mkF m 41 #[.val (.ref a1), .val (.ref c1), .val (.ref a2), .val (.int f0), .val (.int n1)] [(.ref a1)])) (fun _ k => XS.aloadN X1.here hx rfl (hb hby own_d2_40) rfl rfl k) ?_
        refine own_step (g' := (mkF m 42 #[.val (.ref a1), .val (.ref c1), .val (.ref a2), .val (.int f0), .val (.int n1)] [(.ref c1), (.ref a1)])) (fun _ k => XS.aloadN X1.here hx rfl (hb hby own_d2_41) rfl rfl k) ?_
        obtain ⟨T3, h3, X3, e3, W3, st3⟩ := putF X1 hx hZ hown (host := "") (Or.inl (hw _ (List.mem_of_getElem? (i := 27) rfl))) Via.refl e1 Fname Ea (Or.inr ⟨(hw _ (List.mem_of_getElem? (i := 28) rfl)), rfl, hnm⟩) (hw _ (List.mem_of_getElem? (i := 7) rfl)) (ty := (.object "java/lang/String")) (by decide) rfl rfl (g := (mkF m 42 #[.val (.ref a1), .val (.ref c1), .val (.ref a2), .val (.int f0), .val (.int n1)] [(.ref c1), (.ref a1)])) rfl rfl (hb hby own_d2_42)
        have Fname_3 := Fname.same W3
        have Ea_3 := Ea.wr W3
        have V_3 := V.other W3 nea
        have Fbytes_3 := Fbytes.other W3 (Or.inr (slot_ne (Or.inr (hw _ (List.mem_of_getElem? (i := 30) rfl))) (Or.inr (hw _ (List.mem_of_getElem? (i := 28) rfl))) (by decide) (t := (.array .byte)) (t' := (.object "java/lang/String")) (by decide) (by decide)))
        have Fstart_3 := Fstart.other W3 (Or.inr (slot_ne (Or.inr (hw _ (List.mem_of_getElem? (i := 32) rfl))) (Or.inr (hw _ (List.mem_of_getElem? (i := 28) rfl))) (by decide) (t := .int) (t' := (.object "java/lang/String")) (by decide) (by decide)))
        have Fend_3 := Fend.other W3 (Or.inr (slot_ne (Or.inr (hw _ (List.mem_of_getElem? (i := 34) rfl))) (Or.inr (hw _ (List.mem_of_getElem? (i := 28) rfl))) (by decide) (t := .int) (t' := (.object "java/lang/String")) (by decide) (by decide)))
        have Fposition_3 := Fposition.other W3 (Or.inr (slot_ne (Or.inl (hw _ (List.mem_of_getElem? (i := 36) rfl))) (Or.inr (hw _ (List.mem_of_getElem? (i := 28) rfl))) (by decide) (t := .int) (t' := (.object "java/lang/String")) (by decide) (by decide)))
        have K3 := K0.wr W3 (Or.inl (List.mem_of_getElem? (i := 0) rfl))
        have Z3 := Nat.le_trans Z0 (Keep.of_wr W3).1
        have N3 := Fr.snoc X3 N1 ga
        refine own_step (g' := (mkF m 45 #[.val (.ref a1), .val (.ref c1), .val (.ref a2), .val (.int f0), .val (.int n1)] [])) st3 ?_
        refine own_step (g' := (mkF m 46 #[.val (.ref a1), .val (.ref c1), .val (.ref a2), .val (.int f0), .val (.int n1)] [(.ref a1)])) (fun _ k => XS.aloadN X3.here hx rfl (hb hby own_d2_45) rfl rfl k) ?_
        refine own_step (g' := (mkF m 47 #[.val (.ref a1), .val (.ref c1), .val (.ref a2), .val (.int f0), .val (.int n1)] [(.ref a2), (.ref a1)])) (fun _ k => XS.aloadN X3.here hx rfl (hb hby own_d2_46) rfl rfl k) ?_
        obtain ⟨T4, h4, X4, e4, W4, st4⟩ := putF X3 hx hZ hown (host := "") (Or.inl (hw _ (List.mem_of_getElem? (i := 29) rfl))) Via.refl e3 Fbytes_3 Ea_3 (Or.inr ⟨(hw _ (List.mem_of_getElem? (i := 30) rfl)), rfl, hnm⟩) (hw _ (List.mem_of_getElem? (i := 7) rfl)) (ty := (.array .byte)) (by decide) rfl rfl (g := (mkF m 47 #[.val (.ref a1), .val (.ref c1), .val (.ref a2), .val (.int f0), .val (.int n1)] [(.ref a2), (.ref a1)])) rfl rfl (hb hby own_d2_47)
        have Fbytes_4 := Fbytes_3.same W4
        have Ea_4 := Ea_3.wr W4
        have V_4 := V_3.other W4 nea
        have Fname_3_4 := Fname_3.other W4 (Or.inr (slot_ne (Or.inr (hw _ (List.mem_of_getElem? (i := 28) rfl))) (Or.inr (hw _ (List.mem_of_getElem? (i := 30) rfl))) (by decide) (t := (.object "java/lang/String")) (t' := (.array .byte)) (by decide) (by decide)))
        have Fstart_4 := Fstart_3.other W4 (Or.inr (slot_ne (Or.inr (hw _ (List.mem_of_getElem? (i := 32) rfl))) (Or.inr (hw _ (List.mem_of_getElem? (i := 30) rfl))) (by decide) (t := .int) (t' := (.array .byte)) (by decide) (by decide)))
        have Fend_4 := Fend_3.other W4 (Or.inr (slot_ne (Or.inr (hw _ (List.mem_of_getElem? (i := 34) rfl))) (Or.inr (hw _ (List.mem_of_getElem? (i := 30) rfl))) (by decide) (t := .int) (t' := (.array .byte)) (by decide) (by decide)))
        have Fposition_4 := Fposition_3.other W4 (Or.inr (slot_ne (Or.inl (hw _ (List.mem_of_getElem? (i := 36) rfl))) (Or.inr (hw _ (List.mem_of_getElem? (i := 30) rfl))) (by decide) (t := .int) (t' := (.array .byte)) (by decide) (by decide)))
        have K4 := K3.wr W4 (Or.inl (List.mem_of_getElem? (i := 0) rfl))
        have Z4 := Nat.le_trans Z3 (Keep.of_wr W4).1
        have N4 := Fr.snoc X4 N3 ga
        refine own_step (g' := (mkF m 50 #[.val (.ref a1), .val (.ref c1), .val (.ref a2), .val (.int f0), .val (.int n1)] [])) st4 ?_
        refine own_step (g' := (mkF m 51 #[.val (.ref a1), .val (.ref c1), .val (.ref a2), .val (.int f0), .val (.int n1)] [(.ref a1)])) (fun _ k => XS.aloadN X4.here hx rfl (hb hby own_d2_50) rfl rfl k) ?_
        refine own_step (g' := (mkF m 52 #[.val (.ref a1), .val (.ref c1), .val (.ref a2), .val (.int f0), .val (.int n1)] [(.int f0), (.ref a1)])) (fun _ k => XS.iloadN X4.here hx rfl (hb hby own_d2_51) rfl k) ?_
        obtain ⟨T5, h5, X5, e5, W5, st5⟩ := putF X4 hx hZ hown (host := "") (Or.inl (hw _ (List.mem_of_getElem? (i := 31) rfl))) Via.refl e4 Fstart_4 Ea_4 (Or.inr ⟨(hw _ (List.mem_of_getElem? (i := 32) rfl)), rfl, hnm⟩) (hw _ (List.mem_of_getElem? (i := 7) rfl)) (ty := .int) (by decide) rfl rfl (g := (mkF m 52 #[.val (.ref a1), .val (.ref c1), .val (.ref a2), .val (.int f0), .val (.int n1)] [(.int f0), (.ref a1)])) rfl rfl (hb hby own_d2_52)
        have Fstart_5 := Fstart_4.same W5
        have Ea_5 := Ea_4.wr W5
        have V_5 := V_4.other W5 nea
        have Fname_3_5 := Fname_3_4.other W5 (Or.inr (slot_ne (Or.inr (hw _ (List.mem_of_getElem? (i := 28) rfl))) (Or.inr (hw _ (List.mem_of_getElem? (i := 32) rfl))) (by decide) (t := (.object "java/lang/String")) (t' := .int) (by decide) (by decide)))
        have Fbytes_4_5 := Fbytes_4.other W5 (Or.inr (slot_ne (Or.inr (hw _ (List.mem_of_getElem? (i := 30) rfl))) (Or.inr (hw _ (List.mem_of_getElem? (i := 32) rfl))) (by decide) (t := (.array .byte)) (t' := .int) (by decide) (by decide)))
        have Fend_5 := Fend_4.other W5 (Or.inr (slot_ne (Or.inr (hw _ (List.mem_of_getElem? (i := 34) rfl))) (Or.inr (hw _ (List.mem_of_getElem? (i := 32) rfl))) (by decide) (t := .int) (t' := .int) (by decide) (by decide)))
        have Fposition_5 := Fposition_4.other W5 (Or.inr (slot_ne (Or.inl (hw _ (List.mem_of_getElem? (i := 36) rfl))) (Or.inr (hw _ (List.mem_of_getElem? (i := 32) rfl))) (by decide) (t := .int) (t' := .int) (by decide) (by decide)))
        have K5 := K4.wr W5 (Or.inl (List.mem_of_getElem? (i := 0) rfl))
        have Z5 := Nat.le_trans Z4 (Keep.of_wr W5).1
        have N5 := Fr.snoc X5 N4 ga
        refine own_step (g' := (mkF m 55 #[.val (.ref a1), .val (.ref c1), .val (.ref a2), .val (.int f0), .val (.int n1)] [])) st5 ?_
        refine own_step (g' := (mkF m 56 #[.val (.ref a1), .val (.ref c1), .val (.ref a2), .val (.int f0), .val (.int n1)] [(.ref a1)])) (fun _ k => XS.aloadN X5.here hx rfl (hb hby own_d2_55) rfl rfl k) ?_
        refine own_step (g' := (mkF m 57 #[.val (.ref a1), .val (.ref c1), .val (.ref a2), .val (.int f0), .val (.int n1)] [(.int f0), (.ref a1)])) (fun _ k => XS.iloadN X5.here hx rfl (hb hby own_d2_56) rfl k) ?_
        refine own_step (g' := (mkF m 59 #[.val (.ref a1), .val (.ref c1), .val (.ref a2), .val (.int f0), .val (.int n1)] [(.int n1), (.int f0), (.ref a1)])) (fun _ k => XS.iload X5.here hx rfl (hb hby own_d2_57) rfl k) ?_
        refine own_step (g' := (mkF m 60 #[.val (.ref a1), .val (.ref c1), .val (.ref a2), .val (.int f0), .val (.int n1)] [(.int (f0 + n1)), (.ref a1)])) (fun _ k => XS.iadd X5.here hx rfl (hb hby own_d2_59) rfl k) ?_
        obtain ⟨T6, h6, X6, e6, W6, st6⟩ := putF X5 hx hZ hown (host := "") (Or.inl (hw _ (List.mem_of_getElem? (i := 33) rfl))) Via.refl e5 Fend_5 Ea_5 (Or.inr ⟨(hw _ (List.mem_of_getElem? (i := 34) rfl)), rfl, hnm⟩) (hw _ (List.mem_of_getElem? (i := 7) rfl)) (ty := .int) (by decide) rfl rfl (g := (mkF m 60 #[.val (.ref a1), .val (.ref c1), .val (.ref a2), .val (.int f0), .val (.int n1)] [(.int (f0 + n1)), (.ref a1)])) rfl rfl (hb hby own_d2_60)
        have Fend_6 := Fend_5.same W6
        have Ea_6 := Ea_5.wr W6
        have V_6 := V_5.other W6 nea
        have Fname_3_6 := Fname_3_5.other W6 (Or.inr (slot_ne (Or.inr (hw _ (List.mem_of_getElem? (i := 28) rfl))) (Or.inr (hw _ (List.mem_of_getElem? (i := 34) rfl))) (by decide) (t := (.object "java/lang/String")) (t' := .int) (by decide) (by decide)))
        have Fbytes_4_6 := Fbytes_4_5.other W6 (Or.inr (slot_ne (Or.inr (hw _ (List.mem_of_getElem? (i := 30) rfl))) (Or.inr (hw _ (List.mem_of_getElem? (i := 34) rfl))) (by decide) (t := (.array .byte)) (t' := .int) (by decide) (by decide)))
        have Fstart_5_6 := Fstart_5.other W6 (Or.inr (slot_ne (Or.inr (hw _ (List.mem_of_getElem? (i := 32) rfl))) (Or.inr (hw _ (List.mem_of_getElem? (i := 34) rfl))) (by decide) (t := .int) (t' := .int) (by decide) (by decide)))
        have Fposition_6 := Fposition_5.other W6 (Or.inr (slot_ne (Or.inl (hw _ (List.mem_of_getElem? (i := 36) rfl))) (Or.inr (hw _ (List.mem_of_getElem? (i := 34) rfl))) (by decide) (t := .int) (t' := .int) (by decide) (by decide)))
        have K6 := K5.wr W6 (Or.inl (List.mem_of_getElem? (i := 0) rfl))
        have Z6 := Nat.le_trans Z5 (Keep.of_wr W6).1
        have N6 := Fr.snoc X6 N5 ga
        refine own_step (g' := (mkF m 63 #[.val (.ref a1), .val (.ref c1), .val (.ref a2), .val (.int f0), .val (.int n1)] [])) st6 ?_
        refine own_step (g' := (mkF m 64 #[.val (.ref a1), .val (.ref c1), .val (.ref a2), .val (.int f0), .val (.int n1)] [(.ref a1)])) (fun _ k => XS.aloadN X6.here hx rfl (hb hby own_d2_63) rfl rfl k) ?_
        refine own_step (g' := (mkF m 65 #[.val (.ref a1), .val (.ref c1), .val (.ref a2), .val (.int f0), .val (.int n1)] [(.int f0), (.ref a1)])) (fun _ k => XS.iloadN X6.here hx rfl (hb hby own_d2_64) rfl k) ?_
        obtain ⟨T7, h7, X7, e7, W7, st7⟩ := putF X6 hx hZ hown (host := "") (Or.inl (hw _ (List.mem_of_getElem? (i := 35) rfl))) Via.refl e6 Fposition_6 Ea_6 (Or.inl (hw _ (List.mem_of_getElem? (i := 36) rfl))) (hw _ (List.mem_of_getElem? (i := 7) rfl)) (ty := .int) (by decide) rfl rfl (g := (mkF m 65 #[.val (.ref a1), .val (.ref c1), .val (.ref a2), .val (.int f0), .val (.int n1)] [(.int f0), (.ref a1)])) rfl rfl (hb hby own_d2_65)
        have Fposition_7 := Fposition_6.same W7
        have Ea_7 := Ea_6.wr W7
        have V_7 := V_6.other W7 nea
        have Fname_3_7 := Fname_3_6.other W7 (Or.inr (slot_ne (Or.inr (hw _ (List.mem_of_getElem? (i := 28) rfl))) (Or.inl (hw _ (List.mem_of_getElem? (i := 36) rfl))) (by decide) (t := (.object "java/lang/String")) (t' := .int) (by decide) (by decide)))
        have Fbytes_4_7 := Fbytes_4_6.other W7 (Or.inr (slot_ne (Or.inr (hw _ (List.mem_of_getElem? (i := 30) rfl))) (Or.inl (hw _ (List.mem_of_getElem? (i := 36) rfl))) (by decide) (t := (.array .byte)) (t' := .int) (by decide) (by decide)))
        have Fstart_5_7 := Fstart_5_6.other W7 (Or.inr (slot_ne (Or.inr (hw _ (List.mem_of_getElem? (i := 32) rfl))) (Or.inl (hw _ (List.mem_of_getElem? (i := 36) rfl))) (by decide) (t := .int) (t' := .int) (by decide) (by decide)))
        have Fend_6_7 := Fend_6.other W7 (Or.inr (slot_ne (Or.inr (hw _ (List.mem_of_getElem? (i := 34) rfl))) (Or.inl (hw _ (List.mem_of_getElem? (i := 36) rfl))) (by decide) (t := .int) (t' := .int) (by decide) (by decide)))
        have K7 := K6.wr W7 (Or.inl (List.mem_of_getElem? (i := 0) rfl))
        have Z7 := Nat.le_trans Z6 (Keep.of_wr W7).1
        have N7 := Fr.snoc X7 N6 ga
        refine own_step (g' := (mkF m 68 #[.val (.ref a1), .val (.ref c1), .val (.ref a2), .val (.int f0), .val (.int n1)] [])) st7 ?_
        exact own_retV X7 hx hlk hret (hb hby own_d2_68) (by decide) (by decide) (by show own_Q2 Z a1 c1 a2 f0 n1 k1 vs h0 n0 none T7.heap _; rw [e7]; exact ⟨rfl, N7, K7, Ea_7, Fname_3_7, Fbytes_4_7, Fstart_5_7, Fend_6_7, Fposition_7⟩)
theorem own_ef5 (m : MethodId) (x0 : Addr) : entryFrame m #[(.ref x0)] 1 = mkF m 0 #[.val (.ref x0)] [] := by first | (simp [entryFrame, mkF, argsToLocals, Value.category]; done) | rfl
def own_Q5 (Z : State) (a1 : Addr) (v1 : Int32) (v2 : Int32) (h0 : Heap) (n0 : Nat) (v : Option Value) (h : Heap) (L : List Loc) : Prop := v = some (.long ((v1 - v2).toInt64)) ∧ Fr n0 L ∧ h = h0
theorem own_pn_5 : plainName "com/example/quern/quern/store/BytesInput" = true := by first | (simp [plainName, overriddenIn]; done) | decide +kernel
theorem own_d5_0 : decode prog_128_method_5_code 0 = .ok (.aload_n 0, 1) := by decide +kernel
theorem own_d5_1 : decode prog_128_method_5_code 1 = .ok (.getfield 33, 3) := by decide +kernel
theorem own_d5_4 : decode prog_128_method_5_code 4 = .ok (.aload_n 0, 1) := by decide +kernel
theorem own_d5_5 : decode prog_128_method_5_code 5 = .ok (.getfield 26, 3) := by decide +kernel
theorem own_d5_8 : decode prog_128_method_5_code 8 = .ok (.isub, 1) := by decide +kernel
theorem own_d5_9 : decode prog_128_method_5_code 9 = .ok (.i2l, 1) := by decide +kernel
theorem own_d5_10 : decode prog_128_method_5_code 10 = .ok (.lreturn, 1) := by decide +kernel
set_option maxRecDepth 65536 in
set_option maxHeartbeats 40000000 in
theorem own_rm5 (l : Launch) (Z : State) (a0 : Array Value) (hw : ∀ d ∈ tables_1, d.before a0 Z = true) (ws : List Jvm.Cond) (a1 : Addr) (v1 : Int32) (v2 : Int32) (h0 : Heap) (n0 : Nat) (Z0 : n0 ≤ h0.size) (Fposition_a1 : Fld Z h0 a1 "com/example/quern/quern/store/BytesInput" "position" "I" (.int v1)) (Fstart_a1 : Fld Z h0 a1 "com/example/quern/quern/store/BytesInput" "start" "I" (.int v2)) :
    MetFree l (⟨"com/example/quern/quern/store/BytesInput", "getFilePointer", "()J"⟩ : MethodName) (head1 (Jvm.Cond.code (⟨"com/example/quern/quern/store/BytesInput", "getFilePointer", "()J"⟩ : MethodName) prog_128_method_5_code 1 (some .long) :: ws) ({ frames := 0, cells := 0, slots := 0, locals := 0 } : Room)) (fun aU U => aU = #[(.ref a1)] ∧ Z.Warmed39 U.vm ∧ U.heap = h0) (fun _ _ _ _ _ => True) (fun _ U o U' => ∃ v L, o = .returned v ∧ own_Q5 Z a1 v1 v2 h0 n0 v U'.heap L ∧ FrameEnd U o U' L 0 0) := by
  refine MetFree.of_bodySF (plainFor_of_name own_pn_5) hisR ?_
  intro p e s m args below meth c s₁ Bd hml0 hP hK
  obtain ⟨rfl, hZ, hh⟩ := hP
  have hx := Bd.exec
  have hby := Bd.bytes
  have hml : c.maxLocals = 1 := hml0
  have hown : s.vm.findClass "com/example/quern/quern/store/BytesInput" = some m.cls := findClass_of_methodNamed Bd.named
  have hnm := (name_of_methodNamed Bd.named Bd.method).1
  have hlk : meth.locks = false := Bd.notSynchronized
  have hret := Bd.returns
  have X0 : Stand p l e ({ frames := 0, cells := 0, slots := 0, locals := 0 } : Room) s m #[(.ref a1)] below meth c s₁ [] 0 0 := Stand.of_body Bd
  have e0 : s₁.heap = h0 := by rw [← hh, Bd.state]; rfl
  have N0 := Fr.nil n0
  have K0 := Keep.refl h0 ([] : List Addr)
  show own_E p e below (own_F s 0 0) (own_Q5 Z a1 v1 v2 h0 n0) s₁ (entryFrame m #[(.ref a1)] 1)
  refine own_cast (own_ef5 m a1) ?_
  refine own_step (g' := (mkF m 1 #[.val (.ref a1)] [(.ref a1)])) (fun _ k => XS.aloadN X0.here hx rfl (hb hby own_d5_0) rfl rfl k) ?_
  obtain ⟨T1, X1, e1, st1⟩ := getF X0 hx hZ hown (host := "") (Or.inl (hw _ (List.mem_of_getElem? (i := 35) rfl))) Via.refl e0 Fposition_a1 (g := (mkF m 1 #[.val (.ref a1)] [(.ref a1)])) rfl rfl (hb hby own_d5_1)
  refine own_step (g' := (mkF m 4 #[.val (.ref a1)] [(.int v1)])) st1 ?_
  refine own_step (g' := (mkF m 5 #[.val (.ref a1)] [(.ref a1), (.int v1)])) (fun _ k => XS.aloadN X1.here hx rfl (hb hby own_d5_4) rfl rfl k) ?_
  obtain ⟨T2, X2, e2, st2⟩ := getF X1 hx hZ hown (host := "") (Or.inl (hw _ (List.mem_of_getElem? (i := 31) rfl))) Via.refl e1 Fstart_a1 (g := (mkF m 5 #[.val (.ref a1)] [(.ref a1), (.int v1)])) rfl rfl (hb hby own_d5_5)
  refine own_step (g' := (mkF m 8 #[.val (.ref a1)] [(.int v2), (.int v1)])) st2 ?_
  refine own_step (g' := (mkF m 9 #[.val (.ref a1)] [(.int (v1 - v2))])) (fun _ k => XS.isub X2.here hx rfl (hb hby own_d5_8) rfl k) ?_
  refine own_step (g' := (mkF m 10 #[.val (.ref a1)] [(.long ((v1 - v2).toInt64))])) (fun _ k => XS.i2l X2.here hx rfl (hb hby own_d5_9) rfl k) ?_
  exact own_retJ X2 hx hlk hret (hb hby own_d5_10) (by decide) (by decide) (by show own_Q5 Z a1 v1 v2 h0 n0 (some (.long ((v1 - v2).toInt64))) T2.heap _; rw [e2]; exact ⟨rfl, N0, rfl⟩)
theorem own_ef7 (m : MethodId) (x0 : Addr) : entryFrame m #[(.ref x0)] 1 = mkF m 0 #[.val (.ref x0)] [] := by first | (simp [entryFrame, mkF, argsToLocals, Value.category]; done) | rfl
def own_Q7 (Z : State) (a1 : Addr) (a2 : Addr) (k1 : ClassId) (vs : List Value) (s0 : Int32) (y1 : Int32) (p0 : Int32) (bv : Int32) (h0 : Heap) (n0 : Nat) (v : Option Value) (h : Heap) (L : List Loc) : Prop := v = some (.int bv) ∧ Fr n0 L ∧ Keep h0 h [a1] ∧ Exa Z h a1 "com/example/quern/quern/store/BytesInput" ∧ Fld Z h a1 "com/example/quern/quern/store/BytesInput" "bytes" "[B" (.ref a2) ∧ Fld Z h a1 "com/example/quern/quern/store/BytesInput" "start" "I" (.int s0) ∧ Fld Z h a1 "com/example/quern/quern/store/BytesInput" "end" "I" (.int y1) ∧ Fld Z h a1 "com/example/quern/quern/store/BytesInput" "position" "I" (.int (p0 + (1 : Int32)))
theorem own_pn_7 : plainName "com/example/quern/quern/store/BytesInput" = true := by first | (simp [plainName, overriddenIn]; done) | decide +kernel
theorem own_d7_0 : decode prog_128_method_3_code 0 = .ok (.aload_n 0, 1) := by decide +kernel
theorem own_d7_1 : decode prog_128_method_3_code 1 = .ok (.getfield 33, 3) := by decide +kernel
theorem own_d7_4 : decode prog_128_method_3_code 4 = .ok (.aload_n 0, 1) := by decide +kernel
theorem own_d7_5 : decode prog_128_method_3_code 5 = .ok (.getfield 30, 3) := by decide +kernel
theorem own_d7_8 : decode prog_128_method_3_code 8 = .ok (.if_icmp .lt 20, 3) := by decide +kernel
theorem own_d7_28 : decode prog_128_method_3_code 28 = .ok (.aload_n 0, 1) := by decide +kernel
theorem own_d7_29 : decode prog_128_method_3_code 29 = .ok (.getfield 22, 3) := by decide +kernel
theorem own_d7_32 : decode prog_128_method_3_code 32 = .ok (.aload_n 0, 1) := by decide +kernel
theorem own_d7_33 : decode prog_128_method_3_code 33 = .ok (.dup, 1) := by decide +kernel
theorem own_d7_34 : decode prog_128_method_3_code 34 = .ok (.getfield 33, 3) := by decide +kernel
theorem own_d7_37 : decode prog_128_method_3_code 37 = .ok (.dup_x1, 1) := by decide +kernel
theorem own_d7_38 : decode prog_128_method_3_code 38 = .ok (.iconst 1, 1) := by decide +kernel
theorem own_d7_39 : decode prog_128_method_3_code 39 = .ok (.iadd, 1) := by decide +kernel
theorem own_d7_40 : decode prog_128_method_3_code 40 = .ok (.putfield 33, 3) := by decide +kernel
theorem own_d7_43 : decode prog_128_method_3_code 43 = .ok (.baload, 1) := by decide +kernel
theorem own_d7_44 : decode prog_128_method_3_code 44 = .ok (.ireturn, 1) := by decide +kernel
set_option maxRecDepth 65536 in
set_option maxHeartbeats 40000000 in
theorem own_rm7 (l : Launch) (Z : State) (a0 : Array Value) (hw : ∀ d ∈ tables_1, d.before a0 Z = true) (ws : List Jvm.Cond) (a1 : Addr) (a2 : Addr) (k1 : ClassId) (vs : List Value) (s0 : Int32) (y1 : Int32) (p0 : Int32) (bv : Int32) (h0 : Heap) (n0 : Nat) (Z0 : n0 ≤ h0.size) (Ea : Exa Z h0 a1 "com/example/quern/quern/store/BytesInput") (ga : n0 ≤ a1) (nea : a2 ≠ a1) (Fbytes : Fld Z h0 a1 "com/example/quern/quern/store/BytesInput" "bytes" "[B" (.ref a2)) (Fstart : Fld Z h0 a1 "com/example/quern/quern/store/BytesInput" "start" "I" (.int s0)) (Fend : Fld Z h0 a1 "com/example/quern/quern/store/BytesInput" "end" "I" (.int y1)) (Fposition : Fld Z h0 a1 "com/example/quern/quern/store/BytesInput" "position" "I" (.int p0)) (V : Arv Z h0 a2 k1 .byte (4 : Int32) vs (.int (0 : Int32))) (hlt : p0 < y1) (hin : ¬ p0 < 0 ∧ p0 < (4 : Int32)) (hat : vs.getD p0.toNatClampNeg (.int (0 : Int32)) = .int bv) (hbn : narrow .byte (.int bv) = .int bv) :
    MetFree l (⟨"com/example/quern/quern/store/BytesInput", "readByte", "()B"⟩ : MethodName) (head1 (Jvm.Cond.code (⟨"com/example/quern/quern/store/BytesInput", "readByte", "()B"⟩ : MethodName) prog_128_method_3_code 1 (some .byte) :: ws) ({ frames := 0, cells := 0, slots := 0, locals := 0 } : Room)) (fun aU U => aU = #[(.ref a1)] ∧ Z.Warmed39 U.vm ∧ U.heap = h0) (fun _ _ _ _ _ => True) (fun _ U o U' => ∃ v L, o = .returned v ∧ own_Q7 Z a1 a2 k1 vs s0 y1 p0 bv h0 n0 v U'.heap L ∧ FrameEnd U o U' L 0 0) := by
  refine MetFree.of_bodySF (plainFor_of_name own_pn_7) hisR ?_
  intro p e s m args below meth c s₁ Bd hml0 hP hK
  obtain ⟨rfl, hZ, hh⟩ := hP
  have hx := Bd.exec
  have hby := Bd.bytes
  have hml : c.maxLocals = 1 := hml0
  have hown : s.vm.findClass "com/example/quern/quern/store/BytesInput" = some m.cls := findClass_of_methodNamed Bd.named
  have hnm := (name_of_methodNamed Bd.named Bd.method).1
  have hlk : meth.locks = false := Bd.notSynchronized
  have hret := Bd.returns
  have X0 : Stand p l e ({ frames := 0, cells := 0, slots := 0, locals := 0 } : Room) s m #[(.ref a1)] below meth c s₁ [] 0 0 := Stand.of_body Bd
  have e0 : s₁.heap = h0 := by rw [← hh, Bd.state]; rfl
  have N0 := Fr.nil n0
  have K0 := Keep.refl h0 [a1]
  show own_E p e below (own_F s 0 0) (own_Q7 Z a1 a2 k1 vs s0 y1 p0 bv h0 n0) s₁ (entryFrame m #[(.ref a1)] 1)
  refine own_cast (own_ef7 m a1) ?_
  refine own_step (g' := (mkF m 1 #[.val (.ref a1)] [(.ref a1)])) (fun _ k => XS.aloadN X0.here hx rfl (hb hby own_d7_0) rfl rfl k) ?_
  obtain ⟨T1, X1, e1, st1⟩ := getF X0 hx hZ hown (host := "") (Or.inl (hw _ (List.mem_of_getElem? (i := 35) rfl))) Via.refl e0 Fposition (g := (mkF m 1 #[.val (.ref a1)] [(.ref a1)])) rfl rfl (hb hby own_d7_1)
  refine own_step (g' := (mkF m 4 #[.val (.ref a1)] [(.int p0)])) st1 ?_
  refine own_step (g' := (mkF m 5 #[.val (.ref a1)] [(.ref a1), (.int p0)])) (fun _ k => XS.aloadN X1.here hx rfl (hb hby own_d7_4) rfl rfl k) ?_
  obtain ⟨T2, X2, e2, st2⟩ := getF X1 hx hZ hown (host := "") (Or.inl (hw _ (List.mem_of_getElem? (i := 33) rfl))) Via.refl e1 Fend (g := (mkF m 5 #[.val (.ref a1)] [(.ref a1), (.int p0)])) rfl rfl (hb hby own_d7_5)
  refine own_step (g' := (mkF m 8 #[.val (.ref a1)] [(.int y1), (.int p0)])) st2 ?_
  refine own_icY X2 hx (P := (p0 < y1)) (hb hby own_d7_8) (own_i_lt p0 y1) (by decide) (pc1 := 28) (by decide) (fun hc8 => ?_) (fun hc8 => ?_)
  · show own_E p e below (own_F s 0 0) (own_Q7 Z a1 a2 k1 vs s0 y1 p0 bv h0 n0) T2 (mkF m 28 #[.val (.ref a1)] [])
    refine own_step (g' := (mkF m 29 #[.val (.ref a1)] [(.ref a1)])) (fun _ k => XS.aloadN X2.here hx rfl (hb hby own_d7_28) rfl rfl k) ?_
    obtain ⟨T3, X3, e3, st3⟩ := getF X2 hx hZ hown (host := "") (Or.inl (hw _ (List.mem_of_getElem? (i := 29) rfl))) Via.refl e2 Fbytes (g := (mkF m 29 #[.val (.ref a1)] [(.ref a1)])) rfl rfl (hb hby own_d7_29)
    refine own_step (g' := (mkF m 32 #[.val (.ref a1)] [(.ref a2)])) st3 ?_
    refine own_step (g' := (mkF m 33 #[.val (.ref a1)] [(.ref a1), (.ref a2)])) (fun _ k => XS.aloadN X3.here hx rfl (hb hby own_d7_32) rfl rfl k) ?_
    refine own_step (g' := (mkF m 34 #[.val (.ref a1)] [(.ref a1), (.ref a1), (.ref a2)])) (fun _ k => XS.dup X3.here hx rfl (hb hby own_d7_33) rfl rfl k) ?_
    obtain ⟨T4, X4, e4, st4⟩ := getF X3 hx hZ hown (host := "") (Or.inl (hw _ (List.mem_of_getElem? (i := 35) rfl))) Via.refl e3 Fposition (g := (mkF m 34 #[.val (.ref a1)] [(.ref a1), (.ref a1), (.ref a2)])) rfl rfl (hb hby own_d7_34)
    refine own_step (g' := (mkF m 37 #[.val (.ref a1)] [(.int p0), (.ref a1), (.ref a2)])) st4 ?_
    refine own_step (g' := (mkF m 38 #[.val (.ref a1)] [(.int p0), (.ref a1), (.int p0), (.ref a2)])) (fun _ k => XS.dupX1 X4.here hx rfl (hb hby own_d7_37) rfl rfl rfl k) ?_
    refine own_step (g' := (mkF m 39 #[.val (.ref a1)] [(.int (1 : Int32)), (.int p0), (.ref a1), (.int p0), (.ref a2)])) (fun _ k => XS.iconst X4.here hx rfl (hb hby own_d7_38) k) ?_
    refine own_step (g' := (mkF m 40 #[.val (.ref a1)] [(.int (p0 + (1 : Int32))), (.ref a1), (.int p0), (.ref a2)])) (fun _ k => XS.iadd X4.here hx rfl (hb hby own_d7_39) rfl k) ?_
    obtain ⟨T5, h5, X5, e5, W5, st5⟩ := putF X4 hx hZ hown (host := "") (Or.inl (hw _ (List.mem_of_getElem? (i := 35) rfl))) Via.refl e4 Fposition Ea (Or.inl (hw _ (List.mem_of_getElem? (i := 36) rfl))) (hw _ (List.mem_of_getElem? (i := 7) rfl)) (ty := .int) (by decide) rfl rfl (g := (mkF m 40 #[.val (.ref a1)] [(.int (p0 + (1 : Int32))), (.ref a1), (.int p0), (.ref a2)])) rfl rfl (hb hby own_d7_40)
    have Fposition_5 := Fposition.same W5
    have Ea_5 := Ea.wr W5
    have V_5 := V.other W5 nea
    have Fbytes_5 := Fbytes.other W5 (Or.inr (slot_ne (Or.inr (hw _ (List.mem_of_getElem? (i := 30) rfl))) (Or.inl (hw _ (List.mem_of_getElem? (i := 36) rfl))) (by decide) (t := (.array .byte)) (t' := .int) (by decide) (by decide)))
    have Fstart_5 := Fstart.other W5 (Or.inr (slot_ne (Or.inr (hw _ (List.mem_of_getElem? (i := 32) rfl))) (Or.inl (hw _ (List.mem_of_getElem? (i := 36) rfl))) (by decide) (t := .int) (t' := .int) (by decide) (by decide)))
    have Fend_5 := Fend.other W5 (Or.inr (slot_ne (Or.inr (hw _ (List.mem_of_getElem? (i := 34) rfl))) (Or.inl (hw _ (List.mem_of_getElem? (i := 36) rfl))) (by decide) (t := .int) (t' := .int) (by decide) (by decide)))
    have K5 := K0.wr W5 (Or.inl (List.mem_of_getElem? (i := 0) rfl))
    have Z5 := Nat.le_trans Z0 (Keep.of_wr W5).1
    have N5 := Fr.snoc X5 N0 ga
    refine own_step (g' := (mkF m 43 #[.val (.ref a1)] [(.int p0), (.ref a2)])) st5 ?_
    obtain ⟨cl6, Ar6, -, S6, -, H6, -⟩ := id V_5
    have in6 := inb_of (j := p0) S6 hin
    refine own_step (g' := (mkF m 44 #[.val (.ref a1)] [(.int bv)])) (fun _ k => X5.baloadBytes hx (j := p0) (v := (.int bv)) (by rw [e5]; exact Ar6.1) (State.isArrayOf_alike hZ.alike Ar6.2.1) Ar6.2.2 in6 (Has.at H6 in6 hat) (g := (mkF m 43 #[.val (.ref a1)] [(.int p0), (.ref a2)])) rfl rfl (hb hby own_d7_43) _ k) ?_
    exact own_retI X5 hx hlk hret (by simp) (hb hby own_d7_44) hbn (by decide) (by decide) (by show own_Q7 Z a1 a2 k1 vs s0 y1 p0 bv h0 n0 (some (.int bv)) T5.heap _; rw [e5]; exact ⟨rfl, N5, K5, Ea_5, Fbytes_5, Fstart_5, Fend_5, Fposition_5⟩)
  · show own_E p e below (own_F s 0 0) (own_Q7 Z a1 a2 k1 vs s0 y1 p0 bv h0 n0) T2 (mkF m 11 #[.val (.ref a1)] [])
    exact absurd hlt hc8
theorem own_ef6 (m : MethodId) (x0 : Addr) (x1 : Int32) (x2 : Int32) (x3 : Int64) : entryFrame m #[(.ref x0), (.int x1), (.int x2), (.long x3)] 7 = mkF m 0 #[.val (.ref x0), .val (.int x1), .val (.int x2), .val (.long x3), .second, .unset, .unset] [] := by first | (simp [entryFrame, mkF, argsToLocals, Value.category]; done) | rfl
def own_Q6 (Z : State) (a1 : Addr) (w0 : Int32) (i0 : Int32) (t0 : Int64) (a2 : Addr) (k1 : ClassId) (vs : List Value) (s0 : Int32) (y1 : Int32) (p0 : Int32) (bv : Int32) (h0 : Heap) (n0 : Nat) (v : Option Value) (h : Heap) (L : List Loc) : Prop := v = some (.int 1) ∧ Fr n0 L ∧ Keep h0 h [a1] ∧ Exa Z h a1 "com/example/quern/quern/store/BytesInput" ∧ Fld Z h a1 "com/example/quern/quern/store/BytesInput" "bytes" "[B" (.ref a2) ∧ Fld Z h a1 "com/example/quern/quern/store/BytesInput" "start" "I" (.int s0) ∧ Fld Z h a1 "com/example/quern/quern/store/BytesInput" "end" "I" (.int y1) ∧ Fld Z h a1 "com/example/quern/quern/store/BytesInput" "position" "I" (.int (p0 + (1 : Int32)))
theorem own_pn_6 : plainName "com/example/quern/quern/store/BytesInputReadBytePinLaw" = true := by first | (simp [plainName, overriddenIn]; done) | decide +kernel
theorem own_d6_0 : decode method_2_code 0 = .ok (.aload_n 0, 1) := by decide +kernel
theorem own_d6_1 : decode method_2_code 1 = .ok (.invokevirtual 7, 3) := by decide +kernel
theorem own_pd__28_29B : parseMethodDescriptor "()B" = some ⟨[], some .byte⟩ := by decide +kernel
theorem own_d6_4 : decode method_2_code 4 = .ok (.istore 5, 2) := by decide +kernel
theorem own_d6_6 : decode method_2_code 6 = .ok (.iload_n 1, 1) := by decide +kernel
theorem own_d6_7 : decode method_2_code 7 = .ok (.bipush 8, 2) := by decide +kernel
theorem own_d6_9 : decode method_2_code 9 = .ok (.iload_n 2, 1) := by decide +kernel
theorem own_d6_10 : decode method_2_code 10 = .ok (.imul, 1) := by decide +kernel
theorem own_d6_11 : decode method_2_code 11 = .ok (.iushr, 1) := by decide +kernel
theorem own_d6_12 : decode method_2_code 12 = .ok (.i2b, 1) := by decide +kernel
theorem own_d6_13 : decode method_2_code 13 = .ok (.istore 6, 2) := by decide +kernel
theorem own_d6_15 : decode method_2_code 15 = .ok (.iload 5, 2) := by decide +kernel
theorem own_d6_17 : decode method_2_code 17 = .ok (.iload 6, 2) := by decide +kernel
theorem own_d6_19 : decode method_2_code 19 = .ok (.if_icmp .ne 16, 3) := by decide +kernel
theorem own_d6_22 : decode method_2_code 22 = .ok (.aload_n 0, 1) := by decide +kernel
theorem own_d6_23 : decode method_2_code 23 = .ok (.invokevirtual 13, 3) := by decide +kernel
theorem own_pd__28_29J : parseMethodDescriptor "()J" = some ⟨[], some .long⟩ := by decide +kernel
theorem own_d6_26 : decode method_2_code 26 = .ok (.lload_n 3, 1) := by decide +kernel
theorem own_d6_27 : decode method_2_code 27 = .ok (.lcmp, 1) := by decide +kernel
theorem own_d6_28 : decode method_2_code 28 = .ok (.ifCond .ne 7, 3) := by decide +kernel
theorem own_d6_31 : decode method_2_code 31 = .ok (.iconst 1, 1) := by decide +kernel
theorem own_d6_32 : decode method_2_code 32 = .ok (.goto 4, 3) := by decide +kernel
theorem own_d6_36 : decode method_2_code 36 = .ok (.ireturn, 1) := by decide +kernel
set_option maxRecDepth 65536 in
set_option maxHeartbeats 40000000 in
theorem own_rm6 (l : Launch) (Z : State) (a0 : Array Value) (hw : ∀ d ∈ tables_1, d.before a0 Z = true) (ws : List Jvm.Cond) (a1 : Addr) (w0 : Int32) (i0 : Int32) (t0 : Int64) (a2 : Addr) (k1 : ClassId) (vs : List Value) (s0 : Int32) (y1 : Int32) (p0 : Int32) (bv : Int32) (h0 : Heap) (n0 : Nat) (Z0 : n0 ≤ h0.size) (Ea : Exa Z h0 a1 "com/example/quern/quern/store/BytesInput") (ga : n0 ≤ a1) (nea : a2 ≠ a1) (Fbytes : Fld Z h0 a1 "com/example/quern/quern/store/BytesInput" "bytes" "[B" (.ref a2)) (Fstart : Fld Z h0 a1 "com/example/quern/quern/store/BytesInput" "start" "I" (.int s0)) (Fend : Fld Z h0 a1 "com/example/quern/quern/store/BytesInput" "end" "I" (.int y1)) (Fposition : Fld Z h0 a1 "com/example/quern/quern/store/BytesInput" "position" "I" (.int p0)) (V : Arv Z h0 a2 k1 .byte (4 : Int32) vs (.int (0 : Int32))) (hlt : p0 < y1) (hin : ¬ p0 < 0 ∧ p0 < (4 : Int32)) (hat : vs.getD p0.toNatClampNeg (.int (0 : Int32)) = .int bv) (hbn : narrow .byte (.int bv) = .int bv) (hex : bv = (((w0.toUInt32 >>> (((8 : Int32) * i0) &&& 31).toUInt32).toInt32).toInt8.toInt32)) (hpt : ((p0 + (1 : Int32)) - s0).toInt64 = t0) :
    MetFree l (⟨"com/example/quern/quern/store/BytesInputReadBytePinLaw", "step", "(Lcom/example/quern/quern/store/BytesInput;IIJ)Z"⟩ : MethodName) (head1 (Jvm.Cond.code (⟨"com/example/quern/quern/store/BytesInputReadBytePinLaw", "step", "(Lcom/example/quern/quern/store/BytesInput;IIJ)Z"⟩ : MethodName) method_2_code 7 (some .boolean) :: ws) ({ frames := 1, cells := 0, slots := 0, locals := 12 } : Room)) (fun aU U => aU = #[(.ref a1), (.int w0), (.int i0), (.long t0)] ∧ Z.Warmed39 U.vm ∧ U.heap = h0) (fun _ _ _ _ _ => True) (fun _ U o U' => ∃ v L, o = .returned v ∧ own_Q6 Z a1 w0 i0 t0 a2 k1 vs s0 y1 p0 bv h0 n0 v U'.heap L ∧ FrameEnd U o U' L 0 0) := by
  refine MetFree.of_bodySF (plainFor_of_name own_pn_6) hisR ?_
  intro p e s m args below meth c s₁ Bd hml0 hP hK
  obtain ⟨rfl, hZ, hh⟩ := hP
  have hx := Bd.exec
  have hby := Bd.bytes
  have hml : c.maxLocals = 7 := hml0
  have hown : s.vm.findClass "com/example/quern/quern/store/BytesInputReadBytePinLaw" = some m.cls := findClass_of_methodNamed Bd.named
  have hnm := (name_of_methodNamed Bd.named Bd.method).1
  have hlk : meth.locks = false := Bd.notSynchronized
  have hret := Bd.returns
  have X0 : Stand p l e ({ frames := 1, cells := 0, slots := 0, locals := 12 } : Room) s m #[(.ref a1), (.int w0), (.int i0), (.long t0)] below meth c s₁ [] 0 0 := Stand.of_body Bd
  have e0 : s₁.heap = h0 := by rw [← hh, Bd.state]; rfl
  have N0 := Fr.nil n0
  have K0 := Keep.refl h0 [a1]
  show own_E p e below (own_F s 0 0) (own_Q6 Z a1 w0 i0 t0 a2 k1 vs s0 y1 p0 bv h0 n0) s₁ (entryFrame m #[(.ref a1), (.int w0), (.int i0), (.long t0)] 7)
  refine own_cast (own_ef6 m a1 w0 i0 t0) ?_
  refine own_step (g' := (mkF m 1 #[.val (.ref a1), .val (.int w0), .val (.int i0), .val (.long t0), .second, .unset, .unset] [(.ref a1)])) (fun _ k => XS.aloadN X0.here hx rfl (hb hby own_d6_0) rfl rfl k) ?_
  obtain ⟨cq1, kq1, q1a, q1b, q1c⟩ := isOf hZ e0 Ea
  obtain ⟨_, _, ⟨T1, L1, kk_1, nn_1⟩, -, X1, ⟨Lc1, hQ1, l1, y1, z1⟩, st1⟩ := X0.virtualBack hx (y := (⟨"com/example/quern/quern/store/BytesInput", "readByte", "()B"⟩ : MethodName)) (z := (⟨"com/example/quern/quern/store/BytesInput", "readByte", "()B"⟩ : MethodName)) hown (mvT hZ (hw _ (List.mem_of_getElem? (i := 46) rfl))) (mvT hZ (hw _ (List.mem_of_getElem? (i := 47) rfl))) (notFace_of_selects (args := #[]) (mvT hZ (hw _ (List.mem_of_getElem? (i := 49) rfl)))) (mvT hZ (hw _ (List.mem_of_getElem? (i := 49) rfl))) (mvT hZ (hw _ (List.mem_of_getElem? (i := 48) rfl))) (by decide) (backOf (W := 0) (own_rm7 l Z a0 hw [] a1 a2 k1 vs s0 y1 p0 bv h0 n0 Z0 Ea ga nea Fbytes Fstart Fend Fposition V hlt hin hat hbn) hZ (hw _ (List.mem_of_getElem? (i := 50) rfl)) (hw _ (List.mem_of_getElem? (i := 8) rfl)) (by decide) (by decide)) q1a q1c (g := (mkF m 1 #[.val (.ref a1), .val (.int w0), .val (.int i0), .val (.long t0), .second, .unset, .unset] [(.ref a1)])) rfl (by rw [hml]; rfl) (Steps.refl _) (argsL := []) (rest := []) (lenOf own_pd__28_29B rfl) rfl (by show 2 * 0 + _ ≤ _; exact Nat.le_of_eq rfl) (hb hby own_d6_1) (fun _ _ => ⟨rfl, e0, (by decide : 0 + 0 ≤ _), (by decide : 0 + 0 ≤ _)⟩)
  dsimp only [Pt.U, Pt.locs, Pt.cells, Pt.slots] at X1 l1 y1 z1 st1 hQ1
  subst l1 y1 z1
  obtain ⟨rfl, Nq1, Kc1, Q1_0, Q1_1, Q1_2, Q1_3, Q1_4⟩ := hQ1
  have N1 := Fr.app N0 Nq1
  have Ea_1 := Ea.keep Kc1
  have V_1 := V.keep Kc1 (ninS nea nin0)
  have K1 := K0.trans Kc1 (allS (Or.inl (List.mem_of_getElem? (i := 0) rfl)) all0)
  have Z1 := Nat.le_trans Z0 Kc1.1
  refine own_step (g' := (mkF m 4 #[.val (.ref a1), .val (.int w0), .val (.int i0), .val (.long t0), .second, .unset, .unset] [(.int bv)])) (fun _ k => st1.trans k) ?_
  refine own_step (g' := (mkF m 6 #[.val (.ref a1), .val (.int w0), .val (.int i0), .val (.long t0), .second, .val (.int bv), .unset] [])) (fun _ k => XS.istore X1.here hx rfl (hb hby own_d6_4) rfl (l' := #[.val (.ref a1), .val (.int w0), .val (.int i0), .val (.long t0), .second, .val (.int bv), .unset]) rfl k) ?_
  refine own_step (g' := (mkF m 7 #[.val (.ref a1), .val (.int w0), .val (.int i0), .val (.long t0), .second, .val (.int bv), .unset] [(.int w0)])) (fun _ k => XS.iloadN X1.here hx rfl (hb hby own_d6_6) rfl k) ?_
  refine own_step (g' := (mkF m 9 #[.val (.ref a1), .val (.int w0), .val (.int i0), .val (.long t0), .second, .val (.int bv), .unset] [(.int (8 : Int32)), (.int w0)])) (fun _ k => XS.bipush X1.here hx rfl (hb hby own_d6_7) k) ?_
  refine own_step (g' := (mkF m 10 #[.val (.ref a1), .val (.int w0), .val (.int i0), .val (.long t0), .second, .val (.int bv), .unset] [(.int i0), (.int (8 : Int32)), (.int w0)])) (fun _ k => XS.iloadN X1.here hx rfl (hb hby own_d6_9) rfl k) ?_
  refine own_step (g' := (mkF m 11 #[.val (.ref a1), .val (.int w0), .val (.int i0), .val (.long t0), .second, .val (.int bv), .unset] [(.int ((8 : Int32) * i0)), (.int w0)])) (fun _ k => XS.imul X1.here hx rfl (hb hby own_d6_10) rfl k) ?_
  refine own_step (g' := (mkF m 12 #[.val (.ref a1), .val (.int w0), .val (.int i0), .val (.long t0), .second, .val (.int bv), .unset] [(.int ((w0.toUInt32 >>> (((8 : Int32) * i0) &&& 31).toUInt32).toInt32))])) (fun _ k => XS.iushr X1.here hx rfl (hb hby own_d6_11) rfl k) ?_
  refine own_step (g' := (mkF m 13 #[.val (.ref a1), .val (.int w0), .val (.int i0), .val (.long t0), .second, .val (.int bv), .unset] [(.int (((w0.toUInt32 >>> (((8 : Int32) * i0) &&& 31).toUInt32).toInt32).toInt8.toInt32))])) (fun _ k => XS.i2b X1.here hx rfl (hb hby own_d6_12) rfl k) ?_
  refine own_step (g' := (mkF m 15 #[.val (.ref a1), .val (.int w0), .val (.int i0), .val (.long t0), .second, .val (.int bv), .val (.int (((w0.toUInt32 >>> (((8 : Int32) * i0) &&& 31).toUInt32).toInt32).toInt8.toInt32))] [])) (fun _ k => XS.istore X1.here hx rfl (hb hby own_d6_13) rfl (l' := #[.val (.ref a1), .val (.int w0), .val (.int i0), .val (.long t0), .second, .val (.int bv), .val (.int (((w0.toUInt32 >>> (((8 : Int32) * i0) &&& 31).toUInt32).toInt32).toInt8.toInt32))]) rfl k) ?_
  refine own_step (g' := (mkF m 17 #[.val (.ref a1), .val (.int w0), .val (.int i0), .val (.long t0), .second, .val (.int bv), .val (.int (((w0.toUInt32 >>> (((8 : Int32) * i0) &&& 31).toUInt32).toInt32).toInt8.toInt32))] [(.int bv)])) (fun _ k => XS.iload X1.here hx rfl (hb hby own_d6_15) rfl k) ?_
  refine own_step (g' := (mkF m 19 #[.val (.ref a1), .val (.int w0), .val (.int i0), .val (.long t0), .second, .val (.int bv), .val (.int (((w0.toUInt32 >>> (((8 : Int32) * i0) &&& 31).toUInt32).toInt32).toInt8.toInt32))] [(.int (((w0.toUInt32 >>> (((8 : Int32) * i0) &&& 31).toUInt32).toInt32).toInt8.toInt32)), (.int bv)])) (fun _ k => XS.iload X1.here hx rfl (hb hby own_d6_17) rfl k) ?_
  refine own_icN X1 hx (P := (bv = (((w0.toUInt32 >>> (((8 : Int32) * i0) &&& 31).toUInt32).toInt32).toInt8.toInt32))) (hb hby own_d6_19) (own_i_ne bv (((w0.toUInt32 >>> (((8 : Int32) * i0) &&& 31).toUInt32).toInt32).toInt8.toInt32)) (by decide) (pc1 := 35) (by decide) (fun hc19 => ?_) (fun hc19 => ?_)
  · show own_E p e below (own_F s 0 0) (own_Q6 Z a1 w0 i0 t0 a2 k1 vs s0 y1 p0 bv h0 n0) T1 (mkF m 22 #[.val (.ref a1), .val (.int w0), .val (.int i0), .val (.long t0), .second, .val (.int bv), .val (.int (((w0.toUInt32 >>> (((8 : Int32) * i0) &&& 31).toUInt32).toInt32).toInt8.toInt32))] [])
    refine own_step (g' := (mkF m 23 #[.val (.ref a1), .val (.int w0), .val (.int i0), .val (.long t0), .second, .val (.int bv), .val (.int (((w0.toUInt32 >>> (((8 : Int32) * i0) &&& 31).toUInt32).toInt32).toInt8.toInt32))] [(.ref a1)])) (fun _ k => XS.aloadN X1.here hx rfl (hb hby own_d6_22) rfl rfl k) ?_
    obtain ⟨cq2, kq2, q2a, q2b, q2c⟩ := isOf hZ rfl Q1_0
    obtain ⟨_, _, ⟨T2, L2, kk_2, nn_2⟩, -, X2, ⟨Lc2, hQ2, l2, y2, z2⟩, st2⟩ := X1.virtualBack hx (y := (⟨"com/example/quern/quern/store/BytesInput", "getFilePointer", "()J"⟩ : MethodName)) (z := (⟨"com/example/quern/quern/store/BytesInput", "getFilePointer", "()J"⟩ : MethodName)) hown (mvT hZ (hw _ (List.mem_of_getElem? (i := 37) rfl))) (mvT hZ (hw _ (List.mem_of_getElem? (i := 38) rfl))) (notFace_of_selects (args := #[]) (mvT hZ (hw _ (List.mem_of_getElem? (i := 40) rfl)))) (mvT hZ (hw _ (List.mem_of_getElem? (i := 40) rfl))) (mvT hZ (hw _ (List.mem_of_getElem? (i := 39) rfl))) (by decide) (backOf (W := 0) (own_rm5 l Z a0 hw [] a1 (p0 + (1 : Int32)) s0 T1.heap n0 Z1 Q1_4 Q1_2) hZ (hw _ (List.mem_of_getElem? (i := 41) rfl)) (hw _ (List.mem_of_getElem? (i := 8) rfl)) (by decide) (by decide)) q2a q2c (g := (mkF m 23 #[.val (.ref a1), .val (.int w0), .val (.int i0), .val (.long t0), .second, .val (.int bv), .val (.int (((w0.toUInt32 >>> (((8 : Int32) * i0) &&& 31).toUInt32).toInt32).toInt8.toInt32))] [(.ref a1)])) rfl (by rw [hml]; rfl) (Steps.refl _) (argsL := []) (rest := []) (lenOf own_pd__28_29J rfl) rfl (by show 2 * 0 + _ ≤ _; exact Nat.le_of_eq rfl) (hb hby own_d6_23) (fun _ _ => ⟨rfl, rfl, (by decide : 0 + 0 ≤ _), (by decide : 0 + 0 ≤ _)⟩)
    dsimp only [Pt.U, Pt.locs, Pt.cells, Pt.slots] at X2 l2 y2 z2 st2 hQ2
    subst l2 y2 z2
    obtain ⟨rfl, Nq2, e2⟩ := hQ2
    have N2 := Fr.app N1 Nq2
    refine own_step (g' := (mkF m 26 #[.val (.ref a1), .val (.int w0), .val (.int i0), .val (.long t0), .second, .val (.int bv), .val (.int (((w0.toUInt32 >>> (((8 : Int32) * i0) &&& 31).toUInt32).toInt32).toInt8.toInt32))] [(.long (((p0 + (1 : Int32)) - s0).toInt64))])) (fun _ k => st2.trans k) ?_
    refine own_step (g' := (mkF m 27 #[.val (.ref a1), .val (.int w0), .val (.int i0), .val (.long t0), .second, .val (.int bv), .val (.int (((w0.toUInt32 >>> (((8 : Int32) * i0) &&& 31).toUInt32).toInt32).toInt8.toInt32))] [(.long t0), (.long (((p0 + (1 : Int32)) - s0).toInt64))])) (fun _ k => XS.lloadN X2.here hx rfl (hb hby own_d6_26) rfl k) ?_
    refine own_step (g' := (mkF m 28 #[.val (.ref a1), .val (.int w0), .val (.int i0), .val (.long t0), .second, .val (.int bv), .val (.int (((w0.toUInt32 >>> (((8 : Int32) * i0) &&& 31).toUInt32).toInt32).toInt8.toInt32))] [(.int (lcmpW (((p0 + (1 : Int32)) - s0).toInt64) t0))])) (fun _ k => XS.lcmp X2.here hx rfl (hb hby own_d6_27) rfl k) ?_
    refine own_ifN X2 hx (P := ((((p0 + (1 : Int32)) - s0).toInt64) = t0)) (hb hby own_d6_28) (own_l_ne (((p0 + (1 : Int32)) - s0).toInt64) t0) (by decide) (pc1 := 35) (by decide) (fun hc28 => ?_) (fun hc28 => ?_)
    · show own_E p e below (own_F s 0 0) (own_Q6 Z a1 w0 i0 t0 a2 k1 vs s0 y1 p0 bv h0 n0) T2 (mkF m 31 #[.val (.ref a1), .val (.int w0), .val (.int i0), .val (.long t0), .second, .val (.int bv), .val (.int (((w0.toUInt32 >>> (((8 : Int32) * i0) &&& 31).toUInt32).toInt32).toInt8.toInt32))] [])
      refine own_step (g' := (mkF m 32 #[.val (.ref a1), .val (.int w0), .val (.int i0), .val (.long t0), .second, .val (.int bv), .val (.int (((w0.toUInt32 >>> (((8 : Int32) * i0) &&& 31).toUInt32).toInt32).toInt8.toInt32))] [(.int (1 : Int32))])) (fun _ k => XS.iconst X2.here hx rfl (hb hby own_d6_31) k) ?_
      refine own_step (g' := (mkF m 36 #[.val (.ref a1), .val (.int w0), .val (.int i0), .val (.long t0), .second, .val (.int bv), .val (.int (((w0.toUInt32 >>> (((8 : Int32) * i0) &&& 31).toUInt32).toInt32).toInt8.toInt32))] [(.int (1 : Int32))])) (fun _ k => XS.goto X2.here hx rfl (pc0 := 32) (pc' := 36) rfl (hb hby own_d6_32) (by decide) (by decide) k) ?_
      exact own_retI X2 hx hlk hret (by simp) (hb hby own_d6_36) rfl (by decide) (by decide) (by show own_Q6 Z a1 w0 i0 t0 a2 k1 vs s0 y1 p0 bv h0 n0 (some (.int (1 : Int32))) T2.heap _; rw [e2]; exact ⟨rfl, N2, K1, Q1_0, Q1_1, Q1_2, Q1_3, Q1_4⟩)
    · show own_E p e below (own_F s 0 0) (own_Q6 Z a1 w0 i0 t0 a2 k1 vs s0 y1 p0 bv h0 n0) T2 (mkF m 35 #[.val (.ref a1), .val (.int w0), .val (.int i0), .val (.long t0), .second, .val (.int bv), .val (.int (((w0.toUInt32 >>> (((8 : Int32) * i0) &&& 31).toUInt32).toInt32).toInt8.toInt32))] [])
      exact absurd hpt hc28
  · show own_E p e below (own_F s 0 0) (own_Q6 Z a1 w0 i0 t0 a2 k1 vs s0 y1 p0 bv h0 n0) T1 (mkF m 35 #[.val (.ref a1), .val (.int w0), .val (.int i0), .val (.long t0), .second, .val (.int bv), .val (.int (((w0.toUInt32 >>> (((8 : Int32) * i0) &&& 31).toUInt32).toInt32).toInt8.toInt32))] [])
    exact absurd hex hc19
theorem own_ef0 (m : MethodId) (x0 : Int32) (x1 : Int32) (x2 : Int32) (x3 : Int32) : entryFrame m #[(.int x0), (.int x1), (.int x2), (.int x3)] maxLocals = mkF m 0 #[.val (.int x0), .val (.int x1), .val (.int x2), .val (.int x3), .unset, .unset, .unset, .unset, .unset, .unset] [] := by first | (simp [entryFrame, mkF, argsToLocals, Value.category, maxLocals]; done) | rfl
def own_Q0 (Z : State) (x0 : Int32) (x1 : Int32) (x2 : Int32) (x3 : Int32) (h0 : Heap) (n0 : Nat) (v : Option Value) (h : Heap) (L : List Loc) : Prop := v = some (.int 1) ∧ Fr n0 L
theorem own_pn_0 : plainName "com/example/quern/quern/store/BytesInputReadBytePinLaw" = true := by first | (simp [plainName, overriddenIn]; done) | decide +kernel
theorem own_pd__28II_29I : parseMethodDescriptor "(II)I" = some ⟨[.int, .int], some .int⟩ := by decide +kernel
theorem own_pd__28Ljava_2flang_2fString_3b_5bBII_29V : parseMethodDescriptor "(Ljava/lang/String;[BII)V" = some ⟨[(.object "java/lang/String"), (.array .byte), .int, .int], none⟩ := by decide +kernel
theorem own_pd__28Lcom_2fexample_2fquern_2fquern_2fstore_2fBytesInput_3bIIJ_29Z : parseMethodDescriptor "(Lcom/example/quern/quern/store/BytesInput;IIJ)Z" = some ⟨[(.object "com/example/quern/quern/store/BytesInput"), .int, .int, .long], some .boolean⟩ := by decide +kernel
set_option maxRecDepth 65536 in
set_option maxHeartbeats 40000000 in
theorem own_rm0 (l : Launch) (Z : State) (a0 : Array Value) (hw : ∀ d ∈ tables_1, d.before a0 Z = true) (ws : List Jvm.Cond) (x0 : Int32) (x1 : Int32) (x2 : Int32) (x3 : Int32) (h0 : Heap) (n0 : Nat) (Z0 : n0 ≤ h0.size)  :
    MetFree l x (head1 (Jvm.Cond.code x code maxLocals ret :: ws) room_1) (fun aU U => aU = #[(.int x0), (.int x1), (.int x2), (.int x3)] ∧ Z.Warmed39 U.vm ∧ U.heap = h0) (fun _ _ _ _ _ => True) (fun _ U o U' => ∃ v L, o = .returned v ∧ own_Q0 Z x0 x1 x2 x3 h0 n0 v U'.heap L ∧ ReturnedEndW U o U' L 16 1152) := by
  refine MetFree.of_bodySF (plainFor_of_name own_pn_0) hisR ?_
  intro p e s m args below meth c s₁ Bd hml0 hP hK
  obtain ⟨rfl, hZ, hh⟩ := hP
  have hx := Bd.exec
  have hby := Bd.bytes
  have hml : c.maxLocals = 10 := hml0
  have hown : s.vm.findClass "com/example/quern/quern/store/BytesInputReadBytePinLaw" = some m.cls := findClass_of_methodNamed Bd.named
  have hnm := (name_of_methodNamed Bd.named Bd.method).1
  have hlk : meth.locks = false := Bd.notSynchronized
  have hret := Bd.returns
  have X0 : Stand p l e room_1 s m #[(.int x0), (.int x1), (.int x2), (.int x3)] below meth c s₁ [] 0 0 := Stand.of_body Bd
  have e0 : s₁.heap = h0 := by rw [← hh, Bd.state]; rfl
  have N0 := Fr.nil n0
  have K0 := Keep.refl h0 ([] : List Addr)
  show own_E p e below (own_FW s 16 1152) (own_Q0 Z x0 x1 x2 x3 h0 n0) s₁ (entryFrame m #[(.int x0), (.int x1), (.int x2), (.int x3)] maxLocals)
  refine own_cast (own_ef0 m x0 x1 x2 x3) ?_
  refine own_step (g' := (mkF m 1 #[.val (.int x0), .val (.int x1), .val (.int x2), .val (.int x3), .unset, .unset, .unset, .unset, .unset, .unset] [(.int (4 : Int32))])) (fun _ k => XS.iconst X0.here hx rfl (hb hby at_0) k) ?_
  obtain ⟨T1, h1, k1, X1, e1, E1, A1, st1⟩ := newP X0 hx hZ (hw _ (List.mem_of_getElem? (i := 0) rfl)) e0 (g := (mkF m 1 #[.val (.int x0), .val (.int x1), .val (.int x2), .val (.int x3), .unset, .unset, .unset, .unset, .unset, .unset] [(.int (4 : Int32))])) rfl (hb hby at_1) rfl (by decide) (cap := 4) (by decide) (by decide) (by decide) (by decide)
  obtain ⟨b1, g1⟩ : ∃ z, z = h0.size := ⟨_, rfl⟩
  rw [← g1] at A1 st1
  have le_b1 : n0 ≤ b1 := Nat.le_trans Z0 (Nat.le_of_eq g1.symm)
  have sz_b1 : h0.size ≤ b1 := Nat.le_trans K0.1 (Nat.le_of_eq g1.symm)
  have V_b1 : Arv Z h1 b1 k1 .byte (4 : Int32) [(.int (0 : Int32)), (.int (0 : Int32)), (.int (0 : Int32)), (.int (0 : Int32))] (.int (0 : Int32)) := (Arv.new A1 (by decide)).pad (pad_rep [] (.int (0 : Int32)) 4)
  have K1 := K0.ext E1
  have Z1 := Nat.le_trans Z0 E1.1
  refine own_step (g' := (mkF m 3 #[.val (.int x0), .val (.int x1), .val (.int x2), .val (.int x3), .unset, .unset, .unset, .unset, .unset, .unset] [(.ref b1)])) st1 ?_
  refine own_step (g' := (mkF m 5 #[.val (.int x0), .val (.int x1), .val (.int x2), .val (.int x3), .val (.ref b1), .unset, .unset, .unset, .unset, .unset] [])) (fun _ k => XS.astore X1.here hx rfl (hb hby at_3) rfl rfl (l' := #[.val (.int x0), .val (.int x1), .val (.int x2), .val (.int x3), .val (.ref b1), .unset, .unset, .unset, .unset, .unset]) rfl k) ?_
  refine own_step (g' := (mkF m 7 #[.val (.int x0), .val (.int x1), .val (.int x2), .val (.int x3), .val (.ref b1), .unset, .unset, .unset, .unset, .unset] [(.ref b1)])) (fun _ k => XS.aload X1.here hx rfl (hb hby at_5) rfl rfl k) ?_
  refine own_step (g' := (mkF m 8 #[.val (.int x0), .val (.int x1), .val (.int x2), .val (.int x3), .val (.ref b1), .unset, .unset, .unset, .unset, .unset] [(.int (0 : Int32)), (.ref b1)])) (fun _ k => XS.iconst X1.here hx rfl (hb hby at_7) k) ?_
  refine own_step (g' := (mkF m 9 #[.val (.int x0), .val (.int x1), .val (.int x2), .val (.int x3), .val (.ref b1), .unset, .unset, .unset, .unset, .unset] [(.int x0), (.int (0 : Int32)), (.ref b1)])) (fun _ k => XS.iloadN X1.here hx rfl (hb hby at_8) rfl k) ?_
  refine own_step (g' := (mkF m 10 #[.val (.int x0), .val (.int x1), .val (.int x2), .val (.int x3), .val (.ref b1), .unset, .unset, .unset, .unset, .unset] [(.int (x0.toInt8.toInt32)), (.int (0 : Int32)), (.ref b1)])) (fun _ k => XS.i2b X1.here hx rfl (hb hby at_9) rfl k) ?_
  obtain ⟨cl2, Ar2, q2, S2, G2, H2, F2⟩ := id V_b1
  have in2 := inb_of (j := (0 : Int32)) S2 ⟨by decide, by decide⟩
  obtain ⟨T2, h2, X2, e2, W2, st2⟩ := stB X1 hx hZ e1 Ar2 (j := (0 : Int32)) in2 (g := (mkF m 10 #[.val (.int x0), .val (.int x1), .val (.int x2), .val (.int x3), .val (.ref b1), .unset, .unset, .unset, .unset, .unset] [(.int (x0.toInt8.toInt32)), (.int (0 : Int32)), (.ref b1)])) rfl rfl (hb hby at_10)
  have V_b1_w2 : Arv Z h2 b1 k1 .byte (4 : Int32) [(.int ((x0.toInt8.toInt32).toInt8.toInt32)), (.int (0 : Int32)), (.int (0 : Int32)), (.int (0 : Int32))] (.int (0 : Int32)) := Arv.set Ar2 q2 S2 G2 H2 F2 (fits_nar_byte _) W2 0 rfl (Nat.le_of_ble_eq_true rfl)
  have K2 := K1.wr W2 (Or.inr sz_b1)
  have Z2 := Nat.le_trans Z1 (Keep.of_wr W2).1
  have N2 := Fr.snoc X2 N0 le_b1
  refine own_step (g' := (mkF m 11 #[.val (.int x0), .val (.int x1), .val (.int x2), .val (.int x3), .val (.ref b1), .unset, .unset, .unset, .unset, .unset] [])) st2 ?_
  refine own_step (g' := (mkF m 13 #[.val (.int x0), .val (.int x1), .val (.int x2), .val (.int x3), .val (.ref b1), .unset, .unset, .unset, .unset, .unset] [(.ref b1)])) (fun _ k => XS.aload X2.here hx rfl (hb hby at_11) rfl rfl k) ?_
  refine own_step (g' := (mkF m 14 #[.val (.int x0), .val (.int x1), .val (.int x2), .val (.int x3), .val (.ref b1), .unset, .unset, .unset, .unset, .unset] [(.int (1 : Int32)), (.ref b1)])) (fun _ k => XS.iconst X2.here hx rfl (hb hby at_13) k) ?_
  refine own_step (g' := (mkF m 15 #[.val (.int x0), .val (.int x1), .val (.int x2), .val (.int x3), .val (.ref b1), .unset, .unset, .unset, .unset, .unset] [(.int x0), (.int (1 : Int32)), (.ref b1)])) (fun _ k => XS.iloadN X2.here hx rfl (hb hby at_14) rfl k) ?_
  refine own_step (g' := (mkF m 17 #[.val (.int x0), .val (.int x1), .val (.int x2), .val (.int x3), .val (.ref b1), .unset, .unset, .unset, .unset, .unset] [(.int (8 : Int32)), (.int x0), (.int (1 : Int32)), (.ref b1)])) (fun _ k => XS.bipush X2.here hx rfl (hb hby at_15) k) ?_
  refine own_step (g' := (mkF m 18 #[.val (.int x0), .val (.int x1), .val (.int x2), .val (.int x3), .val (.ref b1), .unset, .unset, .unset, .unset, .unset] [(.int ((x0.toUInt32 >>> ((8 : Int32) &&& 31).toUInt32).toInt32)), (.int (1 : Int32)), (.ref b1)])) (fun _ k => XS.iushr X2.here hx rfl (hb hby at_17) rfl k) ?_
  refine own_step (g' := (mkF m 19 #[.val (.int x0), .val (.int x1), .val (.int x2), .val (.int x3), .val (.ref b1), .unset, .unset, .unset, .unset, .unset] [(.int (((x0.toUInt32 >>> ((8 : Int32) &&& 31).toUInt32).toInt32).toInt8.toInt32)), (.int (1 : Int32)), (.ref b1)])) (fun _ k => XS.i2b X2.here hx rfl (hb hby at_18) rfl k) ?_
  obtain ⟨cl3, Ar3, q3, S3, G3, H3, F3⟩ := id V_b1_w2
  have in3 := inb_of (j := (1 : Int32)) S3 ⟨by decide, by decide⟩
  obtain ⟨T3, h3, X3, e3, W3, st3⟩ := stB X2 hx hZ e2 Ar3 (j := (1 : Int32)) in3 (g := (mkF m 19 #[.val (.int x0), .val (.int x1), .val (.int x2), .val (.int x3), .val (.ref b1), .unset, .unset, .unset, .unset, .unset] [(.int (((x0.toUInt32 >>> ((8 : Int32) &&& 31).toUInt32).toInt32).toInt8.toInt32)), (.int (1 : Int32)), (.ref b1)])) rfl rfl (hb hby at_19)
  have V_b1_w3 : Arv Z h3 b1 k1 .byte (4 : Int32) [(.int ((x0.toInt8.toInt32).toInt8.toInt32)), (.int ((((x0.toUInt32 >>> ((8 : Int32) &&& 31).toUInt32).toInt32).toInt8.toInt32).toInt8.toInt32)), (.int (0 : Int32)), (.int (0 : Int32))] (.int (0 : Int32)) := Arv.set Ar3 q3 S3 G3 H3 F3 (fits_nar_byte _) W3 1 rfl (Nat.le_of_ble_eq_true rfl)
  have K3 := K2.wr W3 (Or.inr sz_b1)
  have Z3 := Nat.le_trans Z2 (Keep.of_wr W3).1
  have N3 := Fr.snoc X3 N2 le_b1
  refine own_step (g' := (mkF m 20 #[.val (.int x0), .val (.int x1), .val (.int x2), .val (.int x3), .val (.ref b1), .unset, .unset, .unset, .unset, .unset] [])) st3 ?_
  refine own_step (g' := (mkF m 22 #[.val (.int x0), .val (.int x1), .val (.int x2), .val (.int x3), .val (.ref b1), .unset, .unset, .unset, .unset, .unset] [(.ref b1)])) (fun _ k => XS.aload X3.here hx rfl (hb hby at_20) rfl rfl k) ?_
  refine own_step (g' := (mkF m 23 #[.val (.int x0), .val (.int x1), .val (.int x2), .val (.int x3), .val (.ref b1), .unset, .unset, .unset, .unset, .unset] [(.int (2 : Int32)), (.ref b1)])) (fun _ k => XS.iconst X3.here hx rfl (hb hby at_22) k) ?_
  refine own_step (g' := (mkF m 24 #[.val (.int x0), .val (.int x1), .val (.int x2), .val (.int x3), .val (.ref b1), .unset, .unset, .unset, .unset, .unset] [(.int x0), (.int (2 : Int32)), (.ref b1)])) (fun _ k => XS.iloadN X3.here hx rfl (hb hby at_23) rfl k) ?_
  refine own_step (g' := (mkF m 26 #[.val (.int x0), .val (.int x1), .val (.int x2), .val (.int x3), .val (.ref b1), .unset, .unset, .unset, .unset, .unset] [(.int (16 : Int32)), (.int x0), (.int (2 : Int32)), (.ref b1)])) (fun _ k => XS.bipush X3.here hx rfl (hb hby at_24) k) ?_
  refine own_step (g' := (mkF m 27 #[.val (.int x0), .val (.int x1), .val (.int x2), .val (.int x3), .val (.ref b1), .unset, .unset, .unset, .unset, .unset] [(.int ((x0.toUInt32 >>> ((16 : Int32) &&& 31).toUInt32).toInt32)), (.int (2 : Int32)), (.ref b1)])) (fun _ k => XS.iushr X3.here hx rfl (hb hby at_26) rfl k) ?_
  refine own_step (g' := (mkF m 28 #[.val (.int x0), .val (.int x1), .val (.int x2), .val (.int x3), .val (.ref b1), .unset, .unset, .unset, .unset, .unset] [(.int (((x0.toUInt32 >>> ((16 : Int32) &&& 31).toUInt32).toInt32).toInt8.toInt32)), (.int (2 : Int32)), (.ref b1)])) (fun _ k => XS.i2b X3.here hx rfl (hb hby at_27) rfl k) ?_
  obtain ⟨cl4, Ar4, q4, S4, G4, H4, F4⟩ := id V_b1_w3
  have in4 := inb_of (j := (2 : Int32)) S4 ⟨by decide, by decide⟩
  obtain ⟨T4, h4, X4, e4, W4, st4⟩ := stB X3 hx hZ e3 Ar4 (j := (2 : Int32)) in4 (g := (mkF m 28 #[.val (.int x0), .val (.int x1), .val (.int x2), .val (.int x3), .val (.ref b1), .unset, .unset, .unset, .unset, .unset] [(.int (((x0.toUInt32 >>> ((16 : Int32) &&& 31).toUInt32).toInt32).toInt8.toInt32)), (.int (2 : Int32)), (.ref b1)])) rfl rfl (hb hby at_28)
  have V_b1_w4 : Arv Z h4 b1 k1 .byte (4 : Int32) [(.int ((x0.toInt8.toInt32).toInt8.toInt32)), (.int ((((x0.toUInt32 >>> ((8 : Int32) &&& 31).toUInt32).toInt32).toInt8.toInt32).toInt8.toInt32)), (.int ((((x0.toUInt32 >>> ((16 : Int32) &&& 31).toUInt32).toInt32).toInt8.toInt32).toInt8.toInt32)), (.int (0 : Int32))] (.int (0 : Int32)) := Arv.set Ar4 q4 S4 G4 H4 F4 (fits_nar_byte _) W4 2 rfl (Nat.le_of_ble_eq_true rfl)
  have K4 := K3.wr W4 (Or.inr sz_b1)
  have Z4 := Nat.le_trans Z3 (Keep.of_wr W4).1
  have N4 := Fr.snoc X4 N3 le_b1
  refine own_step (g' := (mkF m 29 #[.val (.int x0), .val (.int x1), .val (.int x2), .val (.int x3), .val (.ref b1), .unset, .unset, .unset, .unset, .unset] [])) st4 ?_
  refine own_step (g' := (mkF m 31 #[.val (.int x0), .val (.int x1), .val (.int x2), .val (.int x3), .val (.ref b1), .unset, .unset, .unset, .unset, .unset] [(.ref b1)])) (fun _ k => XS.aload X4.here hx rfl (hb hby at_29) rfl rfl k) ?_
  refine own_step (g' := (mkF m 32 #[.val (.int x0), .val (.int x1), .val (.int x2), .val (.int x3), .val (.ref b1), .unset, .unset, .unset, .unset, .unset] [(.int (3 : Int32)), (.ref b1)])) (fun _ k => XS.iconst X4.here hx rfl (hb hby at_31) k) ?_
  refine own_step (g' := (mkF m 33 #[.val (.int x0), .val (.int x1), .val (.int x2), .val (.int x3), .val (.ref b1), .unset, .unset, .unset, .unset, .unset] [(.int x0), (.int (3 : Int32)), (.ref b1)])) (fun _ k => XS.iloadN X4.here hx rfl (hb hby at_32) rfl k) ?_
  refine own_step (g' := (mkF m 35 #[.val (.int x0), .val (.int x1), .val (.int x2), .val (.int x3), .val (.ref b1), .unset, .unset, .unset, .unset, .unset] [(.int (24 : Int32)), (.int x0), (.int (3 : Int32)), (.ref b1)])) (fun _ k => XS.bipush X4.here hx rfl (hb hby at_33) k) ?_
  refine own_step (g' := (mkF m 36 #[.val (.int x0), .val (.int x1), .val (.int x2), .val (.int x3), .val (.ref b1), .unset, .unset, .unset, .unset, .unset] [(.int ((x0.toUInt32 >>> ((24 : Int32) &&& 31).toUInt32).toInt32)), (.int (3 : Int32)), (.ref b1)])) (fun _ k => XS.iushr X4.here hx rfl (hb hby at_35) rfl k) ?_
  refine own_step (g' := (mkF m 37 #[.val (.int x0), .val (.int x1), .val (.int x2), .val (.int x3), .val (.ref b1), .unset, .unset, .unset, .unset, .unset] [(.int (((x0.toUInt32 >>> ((24 : Int32) &&& 31).toUInt32).toInt32).toInt8.toInt32)), (.int (3 : Int32)), (.ref b1)])) (fun _ k => XS.i2b X4.here hx rfl (hb hby at_36) rfl k) ?_
  obtain ⟨cl5, Ar5, q5, S5, G5, H5, F5⟩ := id V_b1_w4
  have in5 := inb_of (j := (3 : Int32)) S5 ⟨by decide, by decide⟩
  obtain ⟨T5, h5, X5, e5, W5, st5⟩ := stB X4 hx hZ e4 Ar5 (j := (3 : Int32)) in5 (g := (mkF m 37 #[.val (.int x0), .val (.int x1), .val (.int x2), .val (.int x3), .val (.ref b1), .unset, .unset, .unset, .unset, .unset] [(.int (((x0.toUInt32 >>> ((24 : Int32) &&& 31).toUInt32).toInt32).toInt8.toInt32)), (.int (3 : Int32)), (.ref b1)])) rfl rfl (hb hby at_37)
  have V_b1_w5 : Arv Z h5 b1 k1 .byte (4 : Int32) [(.int ((x0.toInt8.toInt32).toInt8.toInt32)), (.int ((((x0.toUInt32 >>> ((8 : Int32) &&& 31).toUInt32).toInt32).toInt8.toInt32).toInt8.toInt32)), (.int ((((x0.toUInt32 >>> ((16 : Int32) &&& 31).toUInt32).toInt32).toInt8.toInt32).toInt8.toInt32)), (.int ((((x0.toUInt32 >>> ((24 : Int32) &&& 31).toUInt32).toInt32).toInt8.toInt32).toInt8.toInt32))] (.int (0 : Int32)) := Arv.set Ar5 q5 S5 G5 H5 F5 (fits_nar_byte _) W5 3 rfl (Nat.le_of_ble_eq_true rfl)
  have K5 := K4.wr W5 (Or.inr sz_b1)
  have Z5 := Nat.le_trans Z4 (Keep.of_wr W5).1
  have N5 := Fr.snoc X5 N4 le_b1
  refine own_step (g' := (mkF m 38 #[.val (.int x0), .val (.int x1), .val (.int x2), .val (.int x3), .val (.ref b1), .unset, .unset, .unset, .unset, .unset] [])) st5 ?_
  refine own_step (g' := (mkF m 39 #[.val (.int x0), .val (.int x1), .val (.int x2), .val (.int x3), .val (.ref b1), .unset, .unset, .unset, .unset, .unset] [(.int x1)])) (fun _ k => XS.iloadN X5.here hx rfl (hb hby at_38) rfl k) ?_
  refine own_step (g' := (mkF m 40 #[.val (.int x0), .val (.int x1), .val (.int x2), .val (.int x3), .val (.ref b1), .unset, .unset, .unset, .unset, .unset] [(.int (3 : Int32)), (.int x1)])) (fun _ k => XS.iconst X5.here hx rfl (hb hby at_39) k) ?_
  refine own_step (g' := (mkF m 41 #[.val (.int x0), .val (.int x1), .val (.int x2), .val (.int x3), .val (.ref b1), .unset, .unset, .unset, .unset, .unset] [(.int (x1 &&& (3 : Int32)))])) (fun _ k => XS.iand X5.here hx rfl (hb hby at_40) rfl k) ?_
  refine own_step (g' := (mkF m 43 #[.val (.int x0), .val (.int x1), .val (.int x2), .val (.int x3), .val (.ref b1), .val (.int (x1 &&& (3 : Int32))), .unset, .unset, .unset, .unset] [])) (fun _ k => XS.istore X5.here hx rfl (hb hby at_41) rfl (l' := #[.val (.int x0), .val (.int x1), .val (.int x2), .val (.int x3), .val (.ref b1), .val (.int (x1 &&& (3 : Int32))), .unset, .unset, .unset, .unset]) rfl k) ?_
  have hof := own_off x1
  generalize hf0 : (x1 &&& (3 : Int32)) = f0
  show own_E p e below (own_FW s 16 1152) (own_Q0 Z x0 x1 x2 x3 h0 n0) T5 (mkF m 43 #[.val (.int x0), .val (.int x1), .val (.int x2), .val (.int x3), .val (.ref b1), .val (.int f0), .unset, .unset, .unset, .unset] [])
  rw [hf0] at hof
  refine own_step (g' := (mkF m 44 #[.val (.int x0), .val (.int x1), .val (.int x2), .val (.int x3), .val (.ref b1), .val (.int f0), .unset, .unset, .unset, .unset] [(.int x2)])) (fun _ k => XS.iloadN X5.here hx rfl (hb hby at_43) rfl k) ?_
  refine own_step (g' := (mkF m 46 #[.val (.int x0), .val (.int x1), .val (.int x2), .val (.int x3), .val (.ref b1), .val (.int f0), .unset, .unset, .unset, .unset] [(.int (2147483647 : Int32)), (.int x2)])) (fun _ k => X5.ldcInt hx hown (mvT hZ (hw _ (List.mem_of_getElem? (i := 1) rfl))) (g := (mkF m 44 #[.val (.int x0), .val (.int x1), .val (.int x2), .val (.int x3), .val (.ref b1), .val (.int f0), .unset, .unset, .unset, .unset] [(.int x2)])) rfl (hb hby at_44) _ k) ?_
  refine own_step (g' := (mkF m 47 #[.val (.int x0), .val (.int x1), .val (.int x2), .val (.int x3), .val (.ref b1), .val (.int f0), .unset, .unset, .unset, .unset] [(.int (x2 &&& (2147483647 : Int32)))])) (fun _ k => XS.iand X5.here hx rfl (hb hby at_46) rfl k) ?_
  refine own_step (g' := (mkF m 48 #[.val (.int x0), .val (.int x1), .val (.int x2), .val (.int x3), .val (.ref b1), .val (.int f0), .unset, .unset, .unset, .unset] [(.int (5 : Int32)), (.int (x2 &&& (2147483647 : Int32)))])) (fun _ k => XS.iconst X5.here hx rfl (hb hby at_47) k) ?_
  refine own_step (g' := (mkF m 50 #[.val (.int x0), .val (.int x1), .val (.int x2), .val (.int x3), .val (.ref b1), .val (.int f0), .unset, .unset, .unset, .unset] [(.int f0), (.int (5 : Int32)), (.int (x2 &&& (2147483647 : Int32)))])) (fun _ k => XS.iload X5.here hx rfl (hb hby at_48) rfl k) ?_
  refine own_step (g' := (mkF m 51 #[.val (.int x0), .val (.int x1), .val (.int x2), .val (.int x3), .val (.ref b1), .val (.int f0), .unset, .unset, .unset, .unset] [(.int ((5 : Int32) - f0)), (.int (x2 &&& (2147483647 : Int32)))])) (fun _ k => XS.isub X5.here hx rfl (hb hby at_50) rfl k) ?_
  refine own_step (g' := (mkF m 52 #[.val (.int x0), .val (.int x1), .val (.int x2), .val (.int x3), .val (.ref b1), .val (.int f0), .unset, .unset, .unset, .unset] [(.int ((x2 &&& (2147483647 : Int32)) % ((5 : Int32) - f0)))])) (fun _ k => iremM X5 hx rfl (hb hby at_51) rfl (own_five0 f0 hof) k) ?_
  refine own_step (g' := (mkF m 54 #[.val (.int x0), .val (.int x1), .val (.int x2), .val (.int x3), .val (.ref b1), .val (.int f0), .val (.int ((x2 &&& (2147483647 : Int32)) % ((5 : Int32) - f0))), .unset, .unset, .unset] [])) (fun _ k => XS.istore X5.here hx rfl (hb hby at_52) rfl (l' := #[.val (.int x0), .val (.int x1), .val (.int x2), .val (.int x3), .val (.ref b1), .val (.int f0), .val (.int ((x2 &&& (2147483647 : Int32)) % ((5 : Int32) - f0))), .unset, .unset, .unset]) rfl k) ?_
  have hle := own_len x2 f0 hof
  generalize hn1 : ((x2 &&& (2147483647 : Int32)) % ((5 : Int32) - f0)) = n1
  show own_E p e below (own_FW s 16 1152) (own_Q0 Z x0 x1 x2 x3 h0 n0) T5 (mkF m 54 #[.val (.int x0), .val (.int x1), .val (.int x2), .val (.int x3), .val (.ref b1), .val (.int f0), .val (.int n1), .unset, .unset, .unset] [])
  rw [hn1] at hle
  refine own_step (g' := (mkF m 55 #[.val (.int x0), .val (.int x1), .val (.int x2), .val (.int x3), .val (.ref b1), .val (.int f0), .val (.int n1), .unset, .unset, .unset] [(.int x3)])) (fun _ k => XS.iloadN X5.here hx rfl (hb hby at_54) rfl k) ?_
  refine own_step (g' := (mkF m 57 #[.val (.int x0), .val (.int x1), .val (.int x2), .val (.int x3), .val (.ref b1), .val (.int f0), .val (.int n1), .unset, .unset, .unset] [(.int (7 : Int32)), (.int x3)])) (fun _ k => XS.bipush X5.here hx rfl (hb hby at_55) k) ?_
  refine own_step (g' := (mkF m 58 #[.val (.int x0), .val (.int x1), .val (.int x2), .val (.int x3), .val (.ref b1), .val (.int f0), .val (.int n1), .unset, .unset, .unset] [(.int (x3 &&& (7 : Int32)))])) (fun _ k => XS.iand X5.here hx rfl (hb hby at_57) rfl k) ?_
  refine own_step (g' := (mkF m 60 #[.val (.int x0), .val (.int x1), .val (.int x2), .val (.int x3), .val (.ref b1), .val (.int f0), .val (.int n1), .unset, .unset, .unset] [(.int n1), (.int (x3 &&& (7 : Int32)))])) (fun _ k => XS.iload X5.here hx rfl (hb hby at_58) rfl k) ?_
  obtain ⟨_, _, ⟨T6, L6, kk_6, nn_6⟩, -, X6, ⟨Lc6, hQ6, l6, y6, z6⟩, st6⟩ := Jvm.LawKit.callS X5 hx (y := (⟨"java/lang/Math", "min", "(II)I"⟩ : MethodName)) hown (mvT hZ (hw _ (List.mem_of_getElem? (i := 2) rfl))) (mvT hZ (hw _ (List.mem_of_getElem? (i := 3) rfl))) (mvT hZ (hw _ (List.mem_of_getElem? (i := 4) rfl))) (mvT hZ (hw _ (List.mem_of_getElem? (i := 5) rfl))) (by decide) (backOf (W := 0) (own_rm1 l Z a0 hw [] (x3 &&& (7 : Int32)) n1 h5 n0 Z5 ) hZ (hw _ (List.mem_of_getElem? (i := 5) rfl)) (hw _ (List.mem_of_getElem? (i := 4) rfl)) (by decide) (by decide)) (g := (mkF m 60 #[.val (.int x0), .val (.int x1), .val (.int x2), .val (.int x3), .val (.ref b1), .val (.int f0), .val (.int n1), .unset, .unset, .unset] [(.int n1), (.int (x3 &&& (7 : Int32)))])) rfl (by rw [hml]; rfl) (argsL := [(.int (x3 &&& (7 : Int32))), (.int n1)]) (rest := []) (lenOf own_pd__28II_29I rfl) rfl (by show 2 * 0 + _ ≤ _; exact Nat.le_of_eq rfl) (hb hby at_60) (fun _ _ => ⟨rfl, e5, (by decide : 1 + 0 ≤ _), (by decide : 4 + 0 ≤ _)⟩)
  dsimp only [Pt.U, Pt.locs, Pt.cells, Pt.slots] at X6 l6 y6 z6 st6 hQ6
  subst l6 y6 z6
  obtain ⟨rfl, Nq6, e6⟩ := hQ6
  have N6 := Fr.app N5 Nq6
  refine own_step (g' := (mkF m 63 #[.val (.int x0), .val (.int x1), .val (.int x2), .val (.int x3), .val (.ref b1), .val (.int f0), .val (.int n1), .unset, .unset, .unset] [(.int (own_min (x3 &&& (7 : Int32)) n1))])) (fun _ k => st6 _ k) ?_
  refine own_step (g' := (mkF m 65 #[.val (.int x0), .val (.int x1), .val (.int x2), .val (.int x3), .val (.ref b1), .val (.int f0), .val (.int n1), .val (.int (own_min (x3 &&& (7 : Int32)) n1)), .unset, .unset] [])) (fun _ k => XS.istore X6.here hx rfl (hb hby at_63) rfl (l' := #[.val (.int x0), .val (.int x1), .val (.int x2), .val (.int x3), .val (.ref b1), .val (.int f0), .val (.int n1), .val (.int (own_min (x3 &&& (7 : Int32)) n1)), .unset, .unset]) rfl k) ?_
  have hrd := own_rd (x3 &&& (7 : Int32)) n1
  generalize hrq : (own_min (x3 &&& (7 : Int32)) n1) = rd
  show own_E p e below (own_FW s 16 1152) (own_Q0 Z x0 x1 x2 x3 h0 n0) T6 (mkF m 65 #[.val (.int x0), .val (.int x1), .val (.int x2), .val (.int x3), .val (.ref b1), .val (.int f0), .val (.int n1), .val (.int rd), .unset, .unset] [])
  rw [hrq] at hrd
  obtain ⟨T7, h7, X7, e7, E7, A7, D7, -, st7⟩ := newO X6 hx hZ hown (hw _ (List.mem_of_getElem? (i := 6) rfl)) (hw _ (List.mem_of_getElem? (i := 7) rfl)) (hw _ (List.mem_of_getElem? (i := 8) rfl)) e6 (g := (mkF m 65 #[.val (.int x0), .val (.int x1), .val (.int x2), .val (.int x3), .val (.ref b1), .val (.int f0), .val (.int n1), .val (.int rd), .unset, .unset] [])) rfl (hb hby at_65) (by decide) (by decide)
  obtain ⟨b7, g7⟩ : ∃ z, z = h5.size := ⟨_, rfl⟩
  rw [← g7] at A7 D7 st7
  have ne_b1_b7 : b1 ≠ b7 := Nat.ne_of_lt (Nat.lt_of_lt_of_le V_b1_w5.lt (Nat.le_of_eq g7.symm))
  have le_b7 : n0 ≤ b7 := Nat.le_trans Z5 (Nat.le_of_eq g7.symm)
  have sz_b7 : h0.size ≤ b7 := Nat.le_trans K5.1 (Nat.le_of_eq g7.symm)
  have V_b1_w5_7 := V_b1_w5.ext E7
  have Fname_b7 : Fld Z h7 b7 "com/example/quern/quern/store/BytesInput" "name" "Ljava/lang/String;" .null := D7 (Or.inr (hw _ (List.mem_of_getElem? (i := 28) rfl))) (ty := (.object "java/lang/String")) (by decide)
  have Fbytes_b7 : Fld Z h7 b7 "com/example/quern/quern/store/BytesInput" "bytes" "[B" .null := D7 (Or.inr (hw _ (List.mem_of_getElem? (i := 30) rfl))) (ty := (.array .byte)) (by decide)
  have Fstart_b7 : Fld Z h7 b7 "com/example/quern/quern/store/BytesInput" "start" "I" (.int (0 : Int32)) := D7 (Or.inr (hw _ (List.mem_of_getElem? (i := 32) rfl))) (ty := .int) (by decide)
  have Fend_b7 : Fld Z h7 b7 "com/example/quern/quern/store/BytesInput" "end" "I" (.int (0 : Int32)) := D7 (Or.inr (hw _ (List.mem_of_getElem? (i := 34) rfl))) (ty := .int) (by decide)
  have Fposition_b7 : Fld Z h7 b7 "com/example/quern/quern/store/BytesInput" "position" "I" (.int (0 : Int32)) := D7 (Or.inl (hw _ (List.mem_of_getElem? (i := 36) rfl))) (ty := .int) (by decide)
  have K7 := K5.ext E7
  have Z7 := Nat.le_trans Z5 E7.1
  refine own_step (g' := (mkF m 68 #[.val (.int x0), .val (.int x1), .val (.int x2), .val (.int x3), .val (.ref b1), .val (.int f0), .val (.int n1), .val (.int rd), .unset, .unset] [(.ref b7)])) st7 ?_
  refine own_step (g' := (mkF m 69 #[.val (.int x0), .val (.int x1), .val (.int x2), .val (.int x3), .val (.ref b1), .val (.int f0), .val (.int n1), .val (.int rd), .unset, .unset] [(.ref b7), (.ref b7)])) (fun _ k => XS.dup X7.here hx rfl (hb hby at_68) rfl rfl k) ?_
  have wS : ∀ a ∈ Bundle.stringAtoms, a.before a0 Z = true := own_all7 (P := fun a => a.before a0 Z = true) (hw _ (List.mem_of_getElem? (i := 10) rfl)) (hw _ (List.mem_of_getElem? (i := 11) rfl)) (hw _ (List.mem_of_getElem? (i := 0) rfl)) (hw _ (List.mem_of_getElem? (i := 12) rfl)) (hw _ (List.mem_of_getElem? (i := 13) rfl)) (hw _ (List.mem_of_getElem? (i := 14) rfl)) (hw _ (List.mem_of_getElem? (i := 15) rfl))
  obtain ⟨c8, T8, h8, k8, X8, e8, E8, hS, Y8, hZ, hown, st8⟩ := ldcS (s := s) (vm0 := s.vm) X7 hx hZ hown (hw _ (List.mem_of_getElem? (i := 9) rfl)) wS e7 ((State.WarmedH.refl s).since h7.size) (Nat.le_refl _) (g := (mkF m 69 #[.val (.int x0), .val (.int x1), .val (.int x2), .val (.int x3), .val (.ref b1), .val (.int f0), .val (.int n1), .val (.int rd), .unset, .unset] [(.ref b7), (.ref b7)])) rfl (hb hby at_69) (n := 4) (by decide) (by decide) (by decide) (by decide)
  have V_b1_w5_8 := V_b1_w5_7.ext E8
  have A7_8 := A7.ext E8
  have Fname_b7_8 := Fname_b7.ext E8
  have Fbytes_b7_8 := Fbytes_b7.ext E8
  have Fstart_b7_8 := Fstart_b7.ext E8
  have Fend_b7_8 := Fend_b7.ext E8
  have Fposition_b7_8 := Fposition_b7.ext E8
  have K8 := K7.ext E8
  have Z8 := Nat.le_trans Z7 E8.1
  refine own_step (g' := (mkF m 71 #[.val (.int x0), .val (.int x1), .val (.int x2), .val (.int x3), .val (.ref b1), .val (.int f0), .val (.int n1), .val (.int rd), .unset, .unset] [(.ref c8), (.ref b7), (.ref b7)])) st8 ?_
  refine own_step (g' := (mkF m 73 #[.val (.int x0), .val (.int x1), .val (.int x2), .val (.int x3), .val (.ref b1), .val (.int f0), .val (.int n1), .val (.int rd), .unset, .unset] [(.ref b1), (.ref c8), (.ref b7), (.ref b7)])) (fun _ k => XS.aload X8.here hx rfl (hb hby at_71) rfl rfl k) ?_
  refine own_step (g' := (mkF m 75 #[.val (.int x0), .val (.int x1), .val (.int x2), .val (.int x3), .val (.ref b1), .val (.int f0), .val (.int n1), .val (.int rd), .unset, .unset] [(.int f0), (.ref b1), (.ref c8), (.ref b7), (.ref b7)])) (fun _ k => XS.iload X8.here hx rfl (hb hby at_73) rfl k) ?_
  refine own_step (g' := (mkF m 77 #[.val (.int x0), .val (.int x1), .val (.int x2), .val (.int x3), .val (.ref b1), .val (.int f0), .val (.int n1), .val (.int rd), .unset, .unset] [(.int n1), (.int f0), (.ref b1), (.ref c8), (.ref b7), (.ref b7)])) (fun _ k => XS.iload X8.here hx rfl (hb hby at_75) rfl k) ?_
  obtain ⟨_, _, ⟨T9, L9, kk_9, nn_9⟩, -, X9, ⟨Lc9, hQ9, l9, y9, z9⟩, st9⟩ := X8.specialBack hx (y := (⟨"com/example/quern/quern/store/BytesInput", "<init>", "(Ljava/lang/String;[BII)V"⟩ : MethodName)) rfl hown (mvT hZ (hw _ (List.mem_of_getElem? (i := 16) rfl))) (mvT hZ (hw _ (List.mem_of_getElem? (i := 17) rfl))) (mvT hZ (hw _ (List.mem_of_getElem? (i := 18) rfl))) (by decide) (backOf (W := 1) (own_rm2 l Z a0 hw [] b7 c8 b1 f0 n1 k1 ([(.int ((x0.toInt8.toInt32).toInt8.toInt32)), (.int ((((x0.toUInt32 >>> ((8 : Int32) &&& 31).toUInt32).toInt32).toInt8.toInt32).toInt8.toInt32)), (.int ((((x0.toUInt32 >>> ((16 : Int32) &&& 31).toUInt32).toInt32).toInt8.toInt32).toInt8.toInt32)), (.int ((((x0.toUInt32 >>> ((24 : Int32) &&& 31).toUInt32).toInt32).toInt8.toInt32).toInt8.toInt32))]) h8 n0 Z8 A7_8 le_b7 ne_b1_b7 Fname_b7_8 Fbytes_b7_8 Fstart_b7_8 Fend_b7_8 Fposition_b7_8 V_b1_w5_8 (by rw [Int32.lt_iff_toInt_lt]; have : (0 : Int32).toInt = 0 := (by decide); omega) (by rw [Int32.lt_iff_toInt_lt]; have : (0 : Int32).toInt = 0 := (by decide); omega) (by rw [Int32.lt_iff_toInt_lt]; have := c_isub 4 f0; have : (4 : Int32).toInt = 4 := (by decide); have := ((4 : Int32) - f0).toInt_lt; have := ((4 : Int32) - f0).le_toInt; omega)) hZ (hw _ (List.mem_of_getElem? (i := 18) rfl)) (hw _ (List.mem_of_getElem? (i := 8) rfl)) (by decide) (by decide)) (g := (mkF m 77 #[.val (.int x0), .val (.int x1), .val (.int x2), .val (.int x3), .val (.ref b1), .val (.int f0), .val (.int n1), .val (.int rd), .unset, .unset] [(.int n1), (.int f0), (.ref b1), (.ref c8), (.ref b7), (.ref b7)])) rfl (by rw [hml]; rfl) (Steps.refl _) (a := b7) (argsL := [(.ref c8), (.ref b1), (.int f0), (.int n1)]) (rest := [(.ref b7)]) (lenOf own_pd__28Ljava_2flang_2fString_3b_5bBII_29V rfl) rfl (by show 2 * 0 + _ ≤ _; exact Nat.le_of_eq rfl) (hb hby at_77) (fun _ _ => ⟨rfl, e8, (by decide : 4 + 0 ≤ _), (by decide : 17 + 0 ≤ _)⟩)
  dsimp only [Pt.U, Pt.locs, Pt.cells, Pt.slots] at X9 l9 y9 z9 st9 hQ9
  subst l9 y9 z9
  obtain ⟨rfl, Nq9, Kc9, Q9_0, Q9_1, Q9_2, Q9_3, Q9_4, Q9_5⟩ := hQ9
  have N9 := Fr.app N6 Nq9
  have V_b1_w5_9 := V_b1_w5_8.keep Kc9 (ninS ne_b1_b7 nin0)
  have A7_9 := A7_8.keep Kc9
  have K9 := K8.trans Kc9 (allS (Or.inr sz_b7) all0)
  have Z9 := Nat.le_trans Z8 Kc9.1
  have Y9 := Nat.le_trans Y8 Kc9.1
  refine own_step (g' := (mkF m 80 #[.val (.int x0), .val (.int x1), .val (.int x2), .val (.int x3), .val (.ref b1), .val (.int f0), .val (.int n1), .val (.int rd), .unset, .unset] [(.ref b7)])) (fun _ k => st9.trans k) ?_
  refine own_step (g' := (mkF m 82 #[.val (.int x0), .val (.int x1), .val (.int x2), .val (.int x3), .val (.ref b1), .val (.int f0), .val (.int n1), .val (.int rd), .val (.ref b7), .unset] [])) (fun _ k => XS.astore X9.here hx rfl (hb hby at_80) rfl rfl (l' := #[.val (.int x0), .val (.int x1), .val (.int x2), .val (.int x3), .val (.ref b1), .val (.int f0), .val (.int n1), .val (.int rd), .val (.ref b7), .unset]) rfl k) ?_
  refine own_step (g' := (mkF m 84 #[.val (.int x0), .val (.int x1), .val (.int x2), .val (.int x3), .val (.ref b1), .val (.int f0), .val (.int n1), .val (.int rd), .val (.ref b7), .unset] [(.ref b7)])) (fun _ k => XS.aload X9.here hx rfl (hb hby at_82) rfl rfl k) ?_
  obtain ⟨cq10, kq10, q10a, q10b, q10c⟩ := isOf hZ rfl Q9_0
  obtain ⟨_, _, ⟨T10, L10, kk_10, nn_10⟩, -, X10, ⟨Lc10, hQ10, l10, y10, z10⟩, st10⟩ := X9.virtualBack hx (y := (⟨"com/example/quern/quern/store/BytesInput", "getFilePointer", "()J"⟩ : MethodName)) (z := (⟨"com/example/quern/quern/store/BytesInput", "getFilePointer", "()J"⟩ : MethodName)) hown (mvT hZ (hw _ (List.mem_of_getElem? (i := 37) rfl))) (mvT hZ (hw _ (List.mem_of_getElem? (i := 38) rfl))) (notFace_of_selects (args := #[]) (mvT hZ (hw _ (List.mem_of_getElem? (i := 40) rfl)))) (mvT hZ (hw _ (List.mem_of_getElem? (i := 40) rfl))) (mvT hZ (hw _ (List.mem_of_getElem? (i := 39) rfl))) (by decide) (backOf (W := 0) (own_rm5 l Z a0 hw [] b7 f0 f0 T9.heap n0 Z9 Q9_5 Q9_3) hZ (hw _ (List.mem_of_getElem? (i := 41) rfl)) (hw _ (List.mem_of_getElem? (i := 8) rfl)) (by decide) (by decide)) q10a q10c (g := (mkF m 84 #[.val (.int x0), .val (.int x1), .val (.int x2), .val (.int x3), .val (.ref b1), .val (.int f0), .val (.int n1), .val (.int rd), .val (.ref b7), .unset] [(.ref b7)])) rfl (by rw [hml]; rfl) (Steps.refl _) (argsL := []) (rest := []) (lenOf own_pd__28_29J rfl) rfl (by show 2 * 0 + _ ≤ _; exact Nat.le_of_eq rfl) (hb hby at_84) (fun _ _ => ⟨rfl, rfl, (by decide : 4 + 0 ≤ _), (by decide : 17 + 0 ≤ _)⟩)
  dsimp only [Pt.U, Pt.locs, Pt.cells, Pt.slots] at X10 l10 y10 z10 st10 hQ10
  subst l10 y10 z10
  obtain ⟨rfl, Nq10, e10⟩ := hQ10
  have N10 := Fr.app N9 Nq10
  refine own_step (g' := (mkF m 87 #[.val (.int x0), .val (.int x1), .val (.int x2), .val (.int x3), .val (.ref b1), .val (.int f0), .val (.int n1), .val (.int rd), .val (.ref b7), .unset] [(.long ((f0 - f0).toInt64))])) (fun _ k => st10.trans k) ?_
  refine own_step (g' := (mkF m 88 #[.val (.int x0), .val (.int x1), .val (.int x2), .val (.int x3), .val (.ref b1), .val (.int f0), .val (.int n1), .val (.int rd), .val (.ref b7), .unset] [(.long (0 : Int64)), (.long ((f0 - f0).toInt64))])) (fun _ k => XS.lconst X10.here hx rfl (hb hby at_87) k) ?_
  refine own_step (g' := (mkF m 89 #[.val (.int x0), .val (.int x1), .val (.int x2), .val (.int x3), .val (.ref b1), .val (.int f0), .val (.int n1), .val (.int rd), .val (.ref b7), .unset] [(.int (lcmpW ((f0 - f0).toInt64) (0 : Int64)))])) (fun _ k => XS.lcmp X10.here hx rfl (hb hby at_88) rfl k) ?_
  refine own_ifN X10 hx (P := (((f0 - f0).toInt64) = (0 : Int64))) (hb hby at_89) (own_l_ne ((f0 - f0).toInt64) (0 : Int64)) (by decide) (pc1 := 96) (by decide) (fun hc89 => ?_) (fun hc89 => ?_)
  · show own_E p e below (own_FW s 16 1152) (own_Q0 Z x0 x1 x2 x3 h0 n0) T10 (mkF m 92 #[.val (.int x0), .val (.int x1), .val (.int x2), .val (.int x3), .val (.ref b1), .val (.int f0), .val (.int n1), .val (.int rd), .val (.ref b7), .unset] [])
    refine own_step (g' := (mkF m 93 #[.val (.int x0), .val (.int x1), .val (.int x2), .val (.int x3), .val (.ref b1), .val (.int f0), .val (.int n1), .val (.int rd), .val (.ref b7), .unset] [(.int (1 : Int32))])) (fun _ k => XS.iconst X10.here hx rfl (hb hby at_92) k) ?_
    refine own_step (g' := (mkF m 97 #[.val (.int x0), .val (.int x1), .val (.int x2), .val (.int x3), .val (.ref b1), .val (.int f0), .val (.int n1), .val (.int rd), .val (.ref b7), .unset] [(.int (1 : Int32))])) (fun _ k => XS.goto X10.here hx rfl (pc0 := 93) (pc' := 97) rfl (hb hby at_93) (by decide) (by decide) k) ?_
    refine own_step (g' := (mkF m 99 #[.val (.int x0), .val (.int x1), .val (.int x2), .val (.int x3), .val (.ref b1), .val (.int f0), .val (.int n1), .val (.int rd), .val (.ref b7), .val (.int (1 : Int32))] [])) (fun _ k => XS.istore X10.here hx rfl (hb hby at_97) rfl (l' := #[.val (.int x0), .val (.int x1), .val (.int x2), .val (.int x3), .val (.ref b1), .val (.int f0), .val (.int n1), .val (.int rd), .val (.ref b7), .val (.int (1 : Int32))]) rfl k) ?_
    refine own_step (g' := (mkF m 101 #[.val (.int x0), .val (.int x1), .val (.int x2), .val (.int x3), .val (.ref b1), .val (.int f0), .val (.int n1), .val (.int rd), .val (.ref b7), .val (.int (1 : Int32))] [(.int rd)])) (fun _ k => XS.iload X10.here hx rfl (hb hby at_99) rfl k) ?_
    refine own_ifN X10 hx (P := (0 < rd)) (hb hby at_101) (own_z_le rd) (by decide) (pc1 := 128) (by decide) (fun hc101 => ?_) (fun hc101 => ?_)
    · show own_E p e below (own_FW s 16 1152) (own_Q0 Z x0 x1 x2 x3 h0 n0) T10 (mkF m 104 #[.val (.int x0), .val (.int x1), .val (.int x2), .val (.int x3), .val (.ref b1), .val (.int f0), .val (.int n1), .val (.int rd), .val (.ref b7), .val (.int (1 : Int32))] [])
      refine own_step (g' := (mkF m 106 #[.val (.int x0), .val (.int x1), .val (.int x2), .val (.int x3), .val (.ref b1), .val (.int f0), .val (.int n1), .val (.int rd), .val (.ref b7), .val (.int (1 : Int32))] [(.int (1 : Int32))])) (fun _ k => XS.iload X10.here hx rfl (hb hby at_104) rfl k) ?_
      refine own_ifY X10 hx (P := ((1 : Int32) = 0)) (hb hby at_106) (own_z_eq (1 : Int32)) (by decide) (pc1 := 125) (by decide) (fun h => absurd h (by decide)) (fun _ => ?_)
      show own_E p e below (own_FW s 16 1152) (own_Q0 Z x0 x1 x2 x3 h0 n0) T10 (mkF m 109 #[.val (.int x0), .val (.int x1), .val (.int x2), .val (.int x3), .val (.ref b1), .val (.int f0), .val (.int n1), .val (.int rd), .val (.ref b7), .val (.int (1 : Int32))] [])
      obtain ⟨u1, u2, u3, u4, u5⟩ := own_s0 x0 f0 n1 rd hof hle hrd hc101
      refine own_step (g' := (mkF m 111 #[.val (.int x0), .val (.int x1), .val (.int x2), .val (.int x3), .val (.ref b1), .val (.int f0), .val (.int n1), .val (.int rd), .val (.ref b7), .val (.int (1 : Int32))] [(.ref b7)])) (fun _ k => XS.aload X10.here hx rfl (hb hby at_109) rfl rfl k) ?_
      refine own_step (g' := (mkF m 112 #[.val (.int x0), .val (.int x1), .val (.int x2), .val (.int x3), .val (.ref b1), .val (.int f0), .val (.int n1), .val (.int rd), .val (.ref b7), .val (.int (1 : Int32))] [(.int x0), (.ref b7)])) (fun _ k => XS.iloadN X10.here hx rfl (hb hby at_111) rfl k) ?_
      refine own_step (g' := (mkF m 114 #[.val (.int x0), .val (.int x1), .val (.int x2), .val (.int x3), .val (.ref b1), .val (.int f0), .val (.int n1), .val (.int rd), .val (.ref b7), .val (.int (1 : Int32))] [(.int f0), (.int x0), (.ref b7)])) (fun _ k => XS.iload X10.here hx rfl (hb hby at_112) rfl k) ?_
      refine own_step (g' := (mkF m 115 #[.val (.int x0), .val (.int x1), .val (.int x2), .val (.int x3), .val (.ref b1), .val (.int f0), .val (.int n1), .val (.int rd), .val (.ref b7), .val (.int (1 : Int32))] [(.long (1 : Int64)), (.int f0), (.int x0), (.ref b7)])) (fun _ k => XS.lconst X10.here hx rfl (hb hby at_114) k) ?_
      obtain ⟨_, _, ⟨T11, L11, kk_11, nn_11⟩, -, X11, ⟨Lc11, hQ11, l11, y11, z11⟩, st11⟩ := Jvm.LawKit.callS X10 hx (y := (⟨"com/example/quern/quern/store/BytesInputReadBytePinLaw", "step", "(Lcom/example/quern/quern/store/BytesInput;IIJ)Z"⟩ : MethodName)) hown (mvT hZ (hw _ (List.mem_of_getElem? (i := 42) rfl))) (mvT hZ (hw _ (List.mem_of_getElem? (i := 43) rfl))) (mvT hZ (hw _ (List.mem_of_getElem? (i := 44) rfl))) (mvT hZ (hw _ (List.mem_of_getElem? (i := 45) rfl))) (by decide) (backOf (W := 0) (own_rm6 l Z a0 hw [] b7 x0 f0 (1 : Int64) b1 k1 ([(.int ((x0.toInt8.toInt32).toInt8.toInt32)), (.int ((((x0.toUInt32 >>> ((8 : Int32) &&& 31).toUInt32).toInt32).toInt8.toInt32).toInt8.toInt32)), (.int ((((x0.toUInt32 >>> ((16 : Int32) &&& 31).toUInt32).toInt32).toInt8.toInt32).toInt8.toInt32)), (.int ((((x0.toUInt32 >>> ((24 : Int32) &&& 31).toUInt32).toInt32).toInt8.toInt32).toInt8.toInt32))]) f0 (f0 + n1) f0 (((x0.toUInt32 >>> (((8 : Int32) * f0) &&& 31).toUInt32).toInt32).toInt8.toInt32) T9.heap n0 Z9 Q9_0 le_b7 ne_b1_b7 Q9_2 Q9_3 Q9_4 Q9_5 V_b1_w5_9 u1 u2 u3 u4 rfl u5) hZ (hw _ (List.mem_of_getElem? (i := 45) rfl)) (hw _ (List.mem_of_getElem? (i := 44) rfl)) (by decide) (by decide)) (g := (mkF m 115 #[.val (.int x0), .val (.int x1), .val (.int x2), .val (.int x3), .val (.ref b1), .val (.int f0), .val (.int n1), .val (.int rd), .val (.ref b7), .val (.int (1 : Int32))] [(.long (1 : Int64)), (.int f0), (.int x0), (.ref b7)])) rfl (by rw [hml]; rfl) (argsL := [(.ref b7), (.int x0), (.int f0), (.long (1 : Int64))]) (rest := []) (lenOf own_pd__28Lcom_2fexample_2fquern_2fquern_2fstore_2fBytesInput_3bIIJ_29Z rfl) rfl (by show 2 * 0 + _ ≤ _; exact Nat.le_of_eq rfl) (hb hby at_115) (fun _ _ => ⟨rfl, e10, (by decide : 4 + 0 ≤ _), (by decide : 17 + 0 ≤ _)⟩)
      dsimp only [Pt.U, Pt.locs, Pt.cells, Pt.slots] at X11 l11 y11 z11 st11 hQ11
      subst l11 y11 z11
      obtain ⟨rfl, Nq11, Kc11, Q11_0, Q11_1, Q11_2, Q11_3, Q11_4⟩ := hQ11
      have N11 := Fr.app N10 Nq11
      have V_b1_w5_11 := V_b1_w5_9.keep Kc11 (ninS ne_b1_b7 nin0)
      have Q9_0_11 := Q9_0.keep Kc11
      have K11 := K9.trans Kc11 (allS (Or.inr sz_b7) all0)
      have Z11 := Nat.le_trans Z9 Kc11.1
      have Y11 := Nat.le_trans Y9 Kc11.1
      refine own_step (g' := (mkF m 118 #[.val (.int x0), .val (.int x1), .val (.int x2), .val (.int x3), .val (.ref b1), .val (.int f0), .val (.int n1), .val (.int rd), .val (.ref b7), .val (.int (1 : Int32))] [(.int (1 : Int32))])) (fun _ k => st11 _ k) ?_
      refine own_ifY X11 hx (P := ((1 : Int32) = 0)) (hb hby at_118) (own_z_eq (1 : Int32)) (by decide) (pc1 := 125) (by decide) (fun h => absurd h (by decide)) (fun _ => ?_)
      show own_E p e below (own_FW s 16 1152) (own_Q0 Z x0 x1 x2 x3 h0 n0) T11 (mkF m 121 #[.val (.int x0), .val (.int x1), .val (.int x2), .val (.int x3), .val (.ref b1), .val (.int f0), .val (.int n1), .val (.int rd), .val (.ref b7), .val (.int (1 : Int32))] [])
      refine own_step (g' := (mkF m 122 #[.val (.int x0), .val (.int x1), .val (.int x2), .val (.int x3), .val (.ref b1), .val (.int f0), .val (.int n1), .val (.int rd), .val (.ref b7), .val (.int (1 : Int32))] [(.int (1 : Int32))])) (fun _ k => XS.iconst X11.here hx rfl (hb hby at_121) k) ?_
      refine own_step (g' := (mkF m 126 #[.val (.int x0), .val (.int x1), .val (.int x2), .val (.int x3), .val (.ref b1), .val (.int f0), .val (.int n1), .val (.int rd), .val (.ref b7), .val (.int (1 : Int32))] [(.int (1 : Int32))])) (fun _ k => XS.goto X11.here hx rfl (pc0 := 122) (pc' := 126) rfl (hb hby at_122) (by decide) (by decide) k) ?_
      refine own_step (g' := (mkF m 128 #[.val (.int x0), .val (.int x1), .val (.int x2), .val (.int x3), .val (.ref b1), .val (.int f0), .val (.int n1), .val (.int rd), .val (.ref b7), .val (.int (1 : Int32))] [])) (fun _ k => XS.istore X11.here hx rfl (hb hby at_126) rfl (l' := #[.val (.int x0), .val (.int x1), .val (.int x2), .val (.int x3), .val (.ref b1), .val (.int f0), .val (.int n1), .val (.int rd), .val (.ref b7), .val (.int (1 : Int32))]) rfl k) ?_
      refine own_step (g' := (mkF m 130 #[.val (.int x0), .val (.int x1), .val (.int x2), .val (.int x3), .val (.ref b1), .val (.int f0), .val (.int n1), .val (.int rd), .val (.ref b7), .val (.int (1 : Int32))] [(.int rd)])) (fun _ k => XS.iload X11.here hx rfl (hb hby at_128) rfl k) ?_
      refine own_step (g' := (mkF m 131 #[.val (.int x0), .val (.int x1), .val (.int x2), .val (.int x3), .val (.ref b1), .val (.int f0), .val (.int n1), .val (.int rd), .val (.ref b7), .val (.int (1 : Int32))] [(.int (1 : Int32)), (.int rd)])) (fun _ k => XS.iconst X11.here hx rfl (hb hby at_130) k) ?_
      refine own_icN X11 hx (P := ((1 : Int32) < rd)) (hb hby at_131) (own_i_le rd (1 : Int32)) (by decide) (pc1 := 162) (by decide) (fun hc131 => ?_) (fun hc131 => ?_)
      · show own_E p e below (own_FW s 16 1152) (own_Q0 Z x0 x1 x2 x3 h0 n0) T11 (mkF m 134 #[.val (.int x0), .val (.int x1), .val (.int x2), .val (.int x3), .val (.ref b1), .val (.int f0), .val (.int n1), .val (.int rd), .val (.ref b7), .val (.int (1 : Int32))] [])
        refine own_step (g' := (mkF m 136 #[.val (.int x0), .val (.int x1), .val (.int x2), .val (.int x3), .val (.ref b1), .val (.int f0), .val (.int n1), .val (.int rd), .val (.ref b7), .val (.int (1 : Int32))] [(.int (1 : Int32))])) (fun _ k => XS.iload X11.here hx rfl (hb hby at_134) rfl k) ?_
        refine own_ifY X11 hx (P := ((1 : Int32) = 0)) (hb hby at_136) (own_z_eq (1 : Int32)) (by decide) (pc1 := 159) (by decide) (fun h => absurd h (by decide)) (fun _ => ?_)
        show own_E p e below (own_FW s 16 1152) (own_Q0 Z x0 x1 x2 x3 h0 n0) T11 (mkF m 139 #[.val (.int x0), .val (.int x1), .val (.int x2), .val (.int x3), .val (.ref b1), .val (.int f0), .val (.int n1), .val (.int rd), .val (.ref b7), .val (.int (1 : Int32))] [])
        obtain ⟨u1, u2, u3, u4, u5⟩ := own_s1 x0 f0 n1 rd hof hle hrd hc131
        refine own_step (g' := (mkF m 141 #[.val (.int x0), .val (.int x1), .val (.int x2), .val (.int x3), .val (.ref b1), .val (.int f0), .val (.int n1), .val (.int rd), .val (.ref b7), .val (.int (1 : Int32))] [(.ref b7)])) (fun _ k => XS.aload X11.here hx rfl (hb hby at_139) rfl rfl k) ?_
        refine own_step (g' := (mkF m 142 #[.val (.int x0), .val (.int x1), .val (.int x2), .val (.int x3), .val (.ref b1), .val (.int f0), .val (.int n1), .val (.int rd), .val (.ref b7), .val (.int (1 : Int32))] [(.int x0), (.ref b7)])) (fun _ k => XS.iloadN X11.here hx rfl (hb hby at_141) rfl k) ?_
        refine own_step (g' := (mkF m 144 #[.val (.int x0), .val (.int x1), .val (.int x2), .val (.int x3), .val (.ref b1), .val (.int f0), .val (.int n1), .val (.int rd), .val (.ref b7), .val (.int (1 : Int32))] [(.int f0), (.int x0), (.ref b7)])) (fun _ k => XS.iload X11.here hx rfl (hb hby at_142) rfl k) ?_
        refine own_step (g' := (mkF m 145 #[.val (.int x0), .val (.int x1), .val (.int x2), .val (.int x3), .val (.ref b1), .val (.int f0), .val (.int n1), .val (.int rd), .val (.ref b7), .val (.int (1 : Int32))] [(.int (1 : Int32)), (.int f0), (.int x0), (.ref b7)])) (fun _ k => XS.iconst X11.here hx rfl (hb hby at_144) k) ?_
        refine own_step (g' := (mkF m 146 #[.val (.int x0), .val (.int x1), .val (.int x2), .val (.int x3), .val (.ref b1), .val (.int f0), .val (.int n1), .val (.int rd), .val (.ref b7), .val (.int (1 : Int32))] [(.int (f0 + (1 : Int32))), (.int x0), (.ref b7)])) (fun _ k => XS.iadd X11.here hx rfl (hb hby at_145) rfl k) ?_
        refine own_step (g' := (mkF m 149 #[.val (.int x0), .val (.int x1), .val (.int x2), .val (.int x3), .val (.ref b1), .val (.int f0), .val (.int n1), .val (.int rd), .val (.ref b7), .val (.int (1 : Int32))] [(.long (2 : Int64)), (.int (f0 + (1 : Int32))), (.int x0), (.ref b7)])) (fun _ k => X11.ldc2Long hx hown (mvT hZ (hw _ (List.mem_of_getElem? (i := 51) rfl))) (g := (mkF m 146 #[.val (.int x0), .val (.int x1), .val (.int x2), .val (.int x3), .val (.ref b1), .val (.int f0), .val (.int n1), .val (.int rd), .val (.ref b7), .val (.int (1 : Int32))] [(.int (f0 + (1 : Int32))), (.int x0), (.ref b7)])) rfl (hb hby at_146) _ k) ?_
        obtain ⟨_, _, ⟨T12, L12, kk_12, nn_12⟩, -, X12, ⟨Lc12, hQ12, l12, y12, z12⟩, st12⟩ := Jvm.LawKit.callS X11 hx (y := (⟨"com/example/quern/quern/store/BytesInputReadBytePinLaw", "step", "(Lcom/example/quern/quern/store/BytesInput;IIJ)Z"⟩ : MethodName)) hown (mvT hZ (hw _ (List.mem_of_getElem? (i := 42) rfl))) (mvT hZ (hw _ (List.mem_of_getElem? (i := 43) rfl))) (mvT hZ (hw _ (List.mem_of_getElem? (i := 44) rfl))) (mvT hZ (hw _ (List.mem_of_getElem? (i := 45) rfl))) (by decide) (backOf (W := 0) (own_rm6 l Z a0 hw [] b7 x0 (f0 + (1 : Int32)) (2 : Int64) b1 k1 ([(.int ((x0.toInt8.toInt32).toInt8.toInt32)), (.int ((((x0.toUInt32 >>> ((8 : Int32) &&& 31).toUInt32).toInt32).toInt8.toInt32).toInt8.toInt32)), (.int ((((x0.toUInt32 >>> ((16 : Int32) &&& 31).toUInt32).toInt32).toInt8.toInt32).toInt8.toInt32)), (.int ((((x0.toUInt32 >>> ((24 : Int32) &&& 31).toUInt32).toInt32).toInt8.toInt32).toInt8.toInt32))]) f0 (f0 + n1) (f0 + (1 : Int32)) (((x0.toUInt32 >>> (((8 : Int32) * (f0 + (1 : Int32))) &&& 31).toUInt32).toInt32).toInt8.toInt32) T11.heap n0 Z11 Q11_0 le_b7 ne_b1_b7 Q11_1 Q11_2 Q11_3 Q11_4 V_b1_w5_11 u1 u2 u3 u4 rfl u5) hZ (hw _ (List.mem_of_getElem? (i := 45) rfl)) (hw _ (List.mem_of_getElem? (i := 44) rfl)) (by decide) (by decide)) (g := (mkF m 149 #[.val (.int x0), .val (.int x1), .val (.int x2), .val (.int x3), .val (.ref b1), .val (.int f0), .val (.int n1), .val (.int rd), .val (.ref b7), .val (.int (1 : Int32))] [(.long (2 : Int64)), (.int (f0 + (1 : Int32))), (.int x0), (.ref b7)])) rfl (by rw [hml]; rfl) (argsL := [(.ref b7), (.int x0), (.int (f0 + (1 : Int32))), (.long (2 : Int64))]) (rest := []) (lenOf own_pd__28Lcom_2fexample_2fquern_2fquern_2fstore_2fBytesInput_3bIIJ_29Z rfl) rfl (by show 2 * 0 + _ ≤ _; exact Nat.le_of_eq rfl) (hb hby at_149) (fun _ _ => ⟨rfl, rfl, (by decide : 4 + 0 ≤ _), (by decide : 17 + 0 ≤ _)⟩)
        dsimp only [Pt.U, Pt.locs, Pt.cells, Pt.slots] at X12 l12 y12 z12 st12 hQ12
        subst l12 y12 z12
        obtain ⟨rfl, Nq12, Kc12, Q12_0, Q12_1, Q12_2, Q12_3, Q12_4⟩ := hQ12
        have N12 := Fr.app N11 Nq12
        have V_b1_w5_12 := V_b1_w5_11.keep Kc12 (ninS ne_b1_b7 nin0)
        have Q11_0_12 := Q11_0.keep Kc12
        have K12 := K11.trans Kc12 (allS (Or.inr sz_b7) all0)
        have Z12 := Nat.le_trans Z11 Kc12.1
        have Y12 := Nat.le_trans Y11 Kc12.1
        refine own_step (g' := (mkF m 152 #[.val (.int x0), .val (.int x1), .val (.int x2), .val (.int x3), .val (.ref b1), .val (.int f0), .val (.int n1), .val (.int rd), .val (.ref b7), .val (.int (1 : Int32))] [(.int (1 : Int32))])) (fun _ k => st12 _ k) ?_
        refine own_ifY X12 hx (P := ((1 : Int32) = 0)) (hb hby at_152) (own_z_eq (1 : Int32)) (by decide) (pc1 := 159) (by decide) (fun h => absurd h (by decide)) (fun _ => ?_)
        show own_E p e below (own_FW s 16 1152) (own_Q0 Z x0 x1 x2 x3 h0 n0) T12 (mkF m 155 #[.val (.int x0), .val (.int x1), .val (.int x2), .val (.int x3), .val (.ref b1), .val (.int f0), .val (.int n1), .val (.int rd), .val (.ref b7), .val (.int (1 : Int32))] [])
        refine own_step (g' := (mkF m 156 #[.val (.int x0), .val (.int x1), .val (.int x2), .val (.int x3), .val (.ref b1), .val (.int f0), .val (.int n1), .val (.int rd), .val (.ref b7), .val (.int (1 : Int32))] [(.int (1 : Int32))])) (fun _ k => XS.iconst X12.here hx rfl (hb hby at_155) k) ?_
        refine own_step (g' := (mkF m 160 #[.val (.int x0), .val (.int x1), .val (.int x2), .val (.int x3), .val (.ref b1), .val (.int f0), .val (.int n1), .val (.int rd), .val (.ref b7), .val (.int (1 : Int32))] [(.int (1 : Int32))])) (fun _ k => XS.goto X12.here hx rfl (pc0 := 156) (pc' := 160) rfl (hb hby at_156) (by decide) (by decide) k) ?_
        refine own_step (g' := (mkF m 162 #[.val (.int x0), .val (.int x1), .val (.int x2), .val (.int x3), .val (.ref b1), .val (.int f0), .val (.int n1), .val (.int rd), .val (.ref b7), .val (.int (1 : Int32))] [])) (fun _ k => XS.istore X12.here hx rfl (hb hby at_160) rfl (l' := #[.val (.int x0), .val (.int x1), .val (.int x2), .val (.int x3), .val (.ref b1), .val (.int f0), .val (.int n1), .val (.int rd), .val (.ref b7), .val (.int (1 : Int32))]) rfl k) ?_
        refine own_step (g' := (mkF m 164 #[.val (.int x0), .val (.int x1), .val (.int x2), .val (.int x3), .val (.ref b1), .val (.int f0), .val (.int n1), .val (.int rd), .val (.ref b7), .val (.int (1 : Int32))] [(.int rd)])) (fun _ k => XS.iload X12.here hx rfl (hb hby at_162) rfl k) ?_
        refine own_step (g' := (mkF m 165 #[.val (.int x0), .val (.int x1), .val (.int x2), .val (.int x3), .val (.ref b1), .val (.int f0), .val (.int n1), .val (.int rd), .val (.ref b7), .val (.int (1 : Int32))] [(.int (2 : Int32)), (.int rd)])) (fun _ k => XS.iconst X12.here hx rfl (hb hby at_164) k) ?_
        refine own_icN X12 hx (P := ((2 : Int32) < rd)) (hb hby at_165) (own_i_le rd (2 : Int32)) (by decide) (pc1 := 196) (by decide) (fun hc165 => ?_) (fun hc165 => ?_)
        · show own_E p e below (own_FW s 16 1152) (own_Q0 Z x0 x1 x2 x3 h0 n0) T12 (mkF m 168 #[.val (.int x0), .val (.int x1), .val (.int x2), .val (.int x3), .val (.ref b1), .val (.int f0), .val (.int n1), .val (.int rd), .val (.ref b7), .val (.int (1 : Int32))] [])
          refine own_step (g' := (mkF m 170 #[.val (.int x0), .val (.int x1), .val (.int x2), .val (.int x3), .val (.ref b1), .val (.int f0), .val (.int n1), .val (.int rd), .val (.ref b7), .val (.int (1 : Int32))] [(.int (1 : Int32))])) (fun _ k => XS.iload X12.here hx rfl (hb hby at_168) rfl k) ?_
          refine own_ifY X12 hx (P := ((1 : Int32) = 0)) (hb hby at_170) (own_z_eq (1 : Int32)) (by decide) (pc1 := 193) (by decide) (fun h => absurd h (by decide)) (fun _ => ?_)
          show own_E p e below (own_FW s 16 1152) (own_Q0 Z x0 x1 x2 x3 h0 n0) T12 (mkF m 173 #[.val (.int x0), .val (.int x1), .val (.int x2), .val (.int x3), .val (.ref b1), .val (.int f0), .val (.int n1), .val (.int rd), .val (.ref b7), .val (.int (1 : Int32))] [])
          obtain ⟨u1, u2, u3, u4, u5⟩ := own_s2 x0 f0 n1 rd hof hle hrd hc165
          refine own_step (g' := (mkF m 175 #[.val (.int x0), .val (.int x1), .val (.int x2), .val (.int x3), .val (.ref b1), .val (.int f0), .val (.int n1), .val (.int rd), .val (.ref b7), .val (.int (1 : Int32))] [(.ref b7)])) (fun _ k => XS.aload X12.here hx rfl (hb hby at_173) rfl rfl k) ?_
          refine own_step (g' := (mkF m 176 #[.val (.int x0), .val (.int x1), .val (.int x2), .val (.int x3), .val (.ref b1), .val (.int f0), .val (.int n1), .val (.int rd), .val (.ref b7), .val (.int (1 : Int32))] [(.int x0), (.ref b7)])) (fun _ k => XS.iloadN X12.here hx rfl (hb hby at_175) rfl k) ?_
          refine own_step (g' := (mkF m 178 #[.val (.int x0), .val (.int x1), .val (.int x2), .val (.int x3), .val (.ref b1), .val (.int f0), .val (.int n1), .val (.int rd), .val (.ref b7), .val (.int (1 : Int32))] [(.int f0), (.int x0), (.ref b7)])) (fun _ k => XS.iload X12.here hx rfl (hb hby at_176) rfl k) ?_
          refine own_step (g' := (mkF m 179 #[.val (.int x0), .val (.int x1), .val (.int x2), .val (.int x3), .val (.ref b1), .val (.int f0), .val (.int n1), .val (.int rd), .val (.ref b7), .val (.int (1 : Int32))] [(.int (2 : Int32)), (.int f0), (.int x0), (.ref b7)])) (fun _ k => XS.iconst X12.here hx rfl (hb hby at_178) k) ?_
          refine own_step (g' := (mkF m 180 #[.val (.int x0), .val (.int x1), .val (.int x2), .val (.int x3), .val (.ref b1), .val (.int f0), .val (.int n1), .val (.int rd), .val (.ref b7), .val (.int (1 : Int32))] [(.int (f0 + (2 : Int32))), (.int x0), (.ref b7)])) (fun _ k => XS.iadd X12.here hx rfl (hb hby at_179) rfl k) ?_
          refine own_step (g' := (mkF m 183 #[.val (.int x0), .val (.int x1), .val (.int x2), .val (.int x3), .val (.ref b1), .val (.int f0), .val (.int n1), .val (.int rd), .val (.ref b7), .val (.int (1 : Int32))] [(.long (3 : Int64)), (.int (f0 + (2 : Int32))), (.int x0), (.ref b7)])) (fun _ k => X12.ldc2Long hx hown (mvT hZ (hw _ (List.mem_of_getElem? (i := 52) rfl))) (g := (mkF m 180 #[.val (.int x0), .val (.int x1), .val (.int x2), .val (.int x3), .val (.ref b1), .val (.int f0), .val (.int n1), .val (.int rd), .val (.ref b7), .val (.int (1 : Int32))] [(.int (f0 + (2 : Int32))), (.int x0), (.ref b7)])) rfl (hb hby at_180) _ k) ?_
          obtain ⟨_, _, ⟨T13, L13, kk_13, nn_13⟩, -, X13, ⟨Lc13, hQ13, l13, y13, z13⟩, st13⟩ := Jvm.LawKit.callS X12 hx (y := (⟨"com/example/quern/quern/store/BytesInputReadBytePinLaw", "step", "(Lcom/example/quern/quern/store/BytesInput;IIJ)Z"⟩ : MethodName)) hown (mvT hZ (hw _ (List.mem_of_getElem? (i := 42) rfl))) (mvT hZ (hw _ (List.mem_of_getElem? (i := 43) rfl))) (mvT hZ (hw _ (List.mem_of_getElem? (i := 44) rfl))) (mvT hZ (hw _ (List.mem_of_getElem? (i := 45) rfl))) (by decide) (backOf (W := 0) (own_rm6 l Z a0 hw [] b7 x0 (f0 + (2 : Int32)) (3 : Int64) b1 k1 ([(.int ((x0.toInt8.toInt32).toInt8.toInt32)), (.int ((((x0.toUInt32 >>> ((8 : Int32) &&& 31).toUInt32).toInt32).toInt8.toInt32).toInt8.toInt32)), (.int ((((x0.toUInt32 >>> ((16 : Int32) &&& 31).toUInt32).toInt32).toInt8.toInt32).toInt8.toInt32)), (.int ((((x0.toUInt32 >>> ((24 : Int32) &&& 31).toUInt32).toInt32).toInt8.toInt32).toInt8.toInt32))]) f0 (f0 + n1) ((f0 + (1 : Int32)) + (1 : Int32)) (((x0.toUInt32 >>> (((8 : Int32) * (f0 + (2 : Int32))) &&& 31).toUInt32).toInt32).toInt8.toInt32) T12.heap n0 Z12 Q12_0 le_b7 ne_b1_b7 Q12_1 Q12_2 Q12_3 Q12_4 V_b1_w5_12 u1 u2 u3 u4 rfl u5) hZ (hw _ (List.mem_of_getElem? (i := 45) rfl)) (hw _ (List.mem_of_getElem? (i := 44) rfl)) (by decide) (by decide)) (g := (mkF m 183 #[.val (.int x0), .val (.int x1), .val (.int x2), .val (.int x3), .val (.ref b1), .val (.int f0), .val (.int n1), .val (.int rd), .val (.ref b7), .val (.int (1 : Int32))] [(.long (3 : Int64)), (.int (f0 + (2 : Int32))), (.int x0), (.ref b7)])) rfl (by rw [hml]; rfl) (argsL := [(.ref b7), (.int x0), (.int (f0 + (2 : Int32))), (.long (3 : Int64))]) (rest := []) (lenOf own_pd__28Lcom_2fexample_2fquern_2fquern_2fstore_2fBytesInput_3bIIJ_29Z rfl) rfl (by show 2 * 0 + _ ≤ _; exact Nat.le_of_eq rfl) (hb hby at_183) (fun _ _ => ⟨rfl, rfl, (by decide : 4 + 0 ≤ _), (by decide : 17 + 0 ≤ _)⟩)
          dsimp only [Pt.U, Pt.locs, Pt.cells, Pt.slots] at X13 l13 y13 z13 st13 hQ13
          subst l13 y13 z13
          obtain ⟨rfl, Nq13, Kc13, Q13_0, Q13_1, Q13_2, Q13_3, Q13_4⟩ := hQ13
          have N13 := Fr.app N12 Nq13
          have V_b1_w5_13 := V_b1_w5_12.keep Kc13 (ninS ne_b1_b7 nin0)
          have Q12_0_13 := Q12_0.keep Kc13
          have K13 := K12.trans Kc13 (allS (Or.inr sz_b7) all0)
          have Z13 := Nat.le_trans Z12 Kc13.1
          have Y13 := Nat.le_trans Y12 Kc13.1
          refine own_step (g' := (mkF m 186 #[.val (.int x0), .val (.int x1), .val (.int x2), .val (.int x3), .val (.ref b1), .val (.int f0), .val (.int n1), .val (.int rd), .val (.ref b7), .val (.int (1 : Int32))] [(.int (1 : Int32))])) (fun _ k => st13 _ k) ?_
          refine own_ifY X13 hx (P := ((1 : Int32) = 0)) (hb hby at_186) (own_z_eq (1 : Int32)) (by decide) (pc1 := 193) (by decide) (fun h => absurd h (by decide)) (fun _ => ?_)
          show own_E p e below (own_FW s 16 1152) (own_Q0 Z x0 x1 x2 x3 h0 n0) T13 (mkF m 189 #[.val (.int x0), .val (.int x1), .val (.int x2), .val (.int x3), .val (.ref b1), .val (.int f0), .val (.int n1), .val (.int rd), .val (.ref b7), .val (.int (1 : Int32))] [])
          refine own_step (g' := (mkF m 190 #[.val (.int x0), .val (.int x1), .val (.int x2), .val (.int x3), .val (.ref b1), .val (.int f0), .val (.int n1), .val (.int rd), .val (.ref b7), .val (.int (1 : Int32))] [(.int (1 : Int32))])) (fun _ k => XS.iconst X13.here hx rfl (hb hby at_189) k) ?_
          refine own_step (g' := (mkF m 194 #[.val (.int x0), .val (.int x1), .val (.int x2), .val (.int x3), .val (.ref b1), .val (.int f0), .val (.int n1), .val (.int rd), .val (.ref b7), .val (.int (1 : Int32))] [(.int (1 : Int32))])) (fun _ k => XS.goto X13.here hx rfl (pc0 := 190) (pc' := 194) rfl (hb hby at_190) (by decide) (by decide) k) ?_
          refine own_step (g' := (mkF m 196 #[.val (.int x0), .val (.int x1), .val (.int x2), .val (.int x3), .val (.ref b1), .val (.int f0), .val (.int n1), .val (.int rd), .val (.ref b7), .val (.int (1 : Int32))] [])) (fun _ k => XS.istore X13.here hx rfl (hb hby at_194) rfl (l' := #[.val (.int x0), .val (.int x1), .val (.int x2), .val (.int x3), .val (.ref b1), .val (.int f0), .val (.int n1), .val (.int rd), .val (.ref b7), .val (.int (1 : Int32))]) rfl k) ?_
          refine own_step (g' := (mkF m 198 #[.val (.int x0), .val (.int x1), .val (.int x2), .val (.int x3), .val (.ref b1), .val (.int f0), .val (.int n1), .val (.int rd), .val (.ref b7), .val (.int (1 : Int32))] [(.int rd)])) (fun _ k => XS.iload X13.here hx rfl (hb hby at_196) rfl k) ?_
          refine own_step (g' := (mkF m 199 #[.val (.int x0), .val (.int x1), .val (.int x2), .val (.int x3), .val (.ref b1), .val (.int f0), .val (.int n1), .val (.int rd), .val (.ref b7), .val (.int (1 : Int32))] [(.int (3 : Int32)), (.int rd)])) (fun _ k => XS.iconst X13.here hx rfl (hb hby at_198) k) ?_
          refine own_icN X13 hx (P := ((3 : Int32) < rd)) (hb hby at_199) (own_i_le rd (3 : Int32)) (by decide) (pc1 := 230) (by decide) (fun hc199 => ?_) (fun hc199 => ?_)
          · show own_E p e below (own_FW s 16 1152) (own_Q0 Z x0 x1 x2 x3 h0 n0) T13 (mkF m 202 #[.val (.int x0), .val (.int x1), .val (.int x2), .val (.int x3), .val (.ref b1), .val (.int f0), .val (.int n1), .val (.int rd), .val (.ref b7), .val (.int (1 : Int32))] [])
            refine own_step (g' := (mkF m 204 #[.val (.int x0), .val (.int x1), .val (.int x2), .val (.int x3), .val (.ref b1), .val (.int f0), .val (.int n1), .val (.int rd), .val (.ref b7), .val (.int (1 : Int32))] [(.int (1 : Int32))])) (fun _ k => XS.iload X13.here hx rfl (hb hby at_202) rfl k) ?_
            refine own_ifY X13 hx (P := ((1 : Int32) = 0)) (hb hby at_204) (own_z_eq (1 : Int32)) (by decide) (pc1 := 227) (by decide) (fun h => absurd h (by decide)) (fun _ => ?_)
            show own_E p e below (own_FW s 16 1152) (own_Q0 Z x0 x1 x2 x3 h0 n0) T13 (mkF m 207 #[.val (.int x0), .val (.int x1), .val (.int x2), .val (.int x3), .val (.ref b1), .val (.int f0), .val (.int n1), .val (.int rd), .val (.ref b7), .val (.int (1 : Int32))] [])
            obtain ⟨u1, u2, u3, u4, u5⟩ := own_s3 x0 f0 n1 rd hof hle hrd hc199
            refine own_step (g' := (mkF m 209 #[.val (.int x0), .val (.int x1), .val (.int x2), .val (.int x3), .val (.ref b1), .val (.int f0), .val (.int n1), .val (.int rd), .val (.ref b7), .val (.int (1 : Int32))] [(.ref b7)])) (fun _ k => XS.aload X13.here hx rfl (hb hby at_207) rfl rfl k) ?_
            refine own_step (g' := (mkF m 210 #[.val (.int x0), .val (.int x1), .val (.int x2), .val (.int x3), .val (.ref b1), .val (.int f0), .val (.int n1), .val (.int rd), .val (.ref b7), .val (.int (1 : Int32))] [(.int x0), (.ref b7)])) (fun _ k => XS.iloadN X13.here hx rfl (hb hby at_209) rfl k) ?_
            refine own_step (g' := (mkF m 212 #[.val (.int x0), .val (.int x1), .val (.int x2), .val (.int x3), .val (.ref b1), .val (.int f0), .val (.int n1), .val (.int rd), .val (.ref b7), .val (.int (1 : Int32))] [(.int f0), (.int x0), (.ref b7)])) (fun _ k => XS.iload X13.here hx rfl (hb hby at_210) rfl k) ?_
            refine own_step (g' := (mkF m 213 #[.val (.int x0), .val (.int x1), .val (.int x2), .val (.int x3), .val (.ref b1), .val (.int f0), .val (.int n1), .val (.int rd), .val (.ref b7), .val (.int (1 : Int32))] [(.int (3 : Int32)), (.int f0), (.int x0), (.ref b7)])) (fun _ k => XS.iconst X13.here hx rfl (hb hby at_212) k) ?_
            refine own_step (g' := (mkF m 214 #[.val (.int x0), .val (.int x1), .val (.int x2), .val (.int x3), .val (.ref b1), .val (.int f0), .val (.int n1), .val (.int rd), .val (.ref b7), .val (.int (1 : Int32))] [(.int (f0 + (3 : Int32))), (.int x0), (.ref b7)])) (fun _ k => XS.iadd X13.here hx rfl (hb hby at_213) rfl k) ?_
            refine own_step (g' := (mkF m 217 #[.val (.int x0), .val (.int x1), .val (.int x2), .val (.int x3), .val (.ref b1), .val (.int f0), .val (.int n1), .val (.int rd), .val (.ref b7), .val (.int (1 : Int32))] [(.long (4 : Int64)), (.int (f0 + (3 : Int32))), (.int x0), (.ref b7)])) (fun _ k => X13.ldc2Long hx hown (mvT hZ (hw _ (List.mem_of_getElem? (i := 53) rfl))) (g := (mkF m 214 #[.val (.int x0), .val (.int x1), .val (.int x2), .val (.int x3), .val (.ref b1), .val (.int f0), .val (.int n1), .val (.int rd), .val (.ref b7), .val (.int (1 : Int32))] [(.int (f0 + (3 : Int32))), (.int x0), (.ref b7)])) rfl (hb hby at_214) _ k) ?_
            obtain ⟨_, _, ⟨T14, L14, kk_14, nn_14⟩, -, X14, ⟨Lc14, hQ14, l14, y14, z14⟩, st14⟩ := Jvm.LawKit.callS X13 hx (y := (⟨"com/example/quern/quern/store/BytesInputReadBytePinLaw", "step", "(Lcom/example/quern/quern/store/BytesInput;IIJ)Z"⟩ : MethodName)) hown (mvT hZ (hw _ (List.mem_of_getElem? (i := 42) rfl))) (mvT hZ (hw _ (List.mem_of_getElem? (i := 43) rfl))) (mvT hZ (hw _ (List.mem_of_getElem? (i := 44) rfl))) (mvT hZ (hw _ (List.mem_of_getElem? (i := 45) rfl))) (by decide) (backOf (W := 0) (own_rm6 l Z a0 hw [] b7 x0 (f0 + (3 : Int32)) (4 : Int64) b1 k1 ([(.int ((x0.toInt8.toInt32).toInt8.toInt32)), (.int ((((x0.toUInt32 >>> ((8 : Int32) &&& 31).toUInt32).toInt32).toInt8.toInt32).toInt8.toInt32)), (.int ((((x0.toUInt32 >>> ((16 : Int32) &&& 31).toUInt32).toInt32).toInt8.toInt32).toInt8.toInt32)), (.int ((((x0.toUInt32 >>> ((24 : Int32) &&& 31).toUInt32).toInt32).toInt8.toInt32).toInt8.toInt32))]) f0 (f0 + n1) (((f0 + (1 : Int32)) + (1 : Int32)) + (1 : Int32)) (((x0.toUInt32 >>> (((8 : Int32) * (f0 + (3 : Int32))) &&& 31).toUInt32).toInt32).toInt8.toInt32) T13.heap n0 Z13 Q13_0 le_b7 ne_b1_b7 Q13_1 Q13_2 Q13_3 Q13_4 V_b1_w5_13 u1 u2 u3 u4 rfl u5) hZ (hw _ (List.mem_of_getElem? (i := 45) rfl)) (hw _ (List.mem_of_getElem? (i := 44) rfl)) (by decide) (by decide)) (g := (mkF m 217 #[.val (.int x0), .val (.int x1), .val (.int x2), .val (.int x3), .val (.ref b1), .val (.int f0), .val (.int n1), .val (.int rd), .val (.ref b7), .val (.int (1 : Int32))] [(.long (4 : Int64)), (.int (f0 + (3 : Int32))), (.int x0), (.ref b7)])) rfl (by rw [hml]; rfl) (argsL := [(.ref b7), (.int x0), (.int (f0 + (3 : Int32))), (.long (4 : Int64))]) (rest := []) (lenOf own_pd__28Lcom_2fexample_2fquern_2fquern_2fstore_2fBytesInput_3bIIJ_29Z rfl) rfl (by show 2 * 0 + _ ≤ _; exact Nat.le_of_eq rfl) (hb hby at_217) (fun _ _ => ⟨rfl, rfl, (by decide : 4 + 0 ≤ _), (by decide : 17 + 0 ≤ _)⟩)
            dsimp only [Pt.U, Pt.locs, Pt.cells, Pt.slots] at X14 l14 y14 z14 st14 hQ14
            subst l14 y14 z14
            obtain ⟨rfl, Nq14, Kc14, Q14_0, Q14_1, Q14_2, Q14_3, Q14_4⟩ := hQ14
            have N14 := Fr.app N13 Nq14
            have V_b1_w5_14 := V_b1_w5_13.keep Kc14 (ninS ne_b1_b7 nin0)
            have Q13_0_14 := Q13_0.keep Kc14
            have K14 := K13.trans Kc14 (allS (Or.inr sz_b7) all0)
            have Z14 := Nat.le_trans Z13 Kc14.1
            have Y14 := Nat.le_trans Y13 Kc14.1
            refine own_step (g' := (mkF m 220 #[.val (.int x0), .val (.int x1), .val (.int x2), .val (.int x3), .val (.ref b1), .val (.int f0), .val (.int n1), .val (.int rd), .val (.ref b7), .val (.int (1 : Int32))] [(.int (1 : Int32))])) (fun _ k => st14 _ k) ?_
            refine own_ifY X14 hx (P := ((1 : Int32) = 0)) (hb hby at_220) (own_z_eq (1 : Int32)) (by decide) (pc1 := 227) (by decide) (fun h => absurd h (by decide)) (fun _ => ?_)
            show own_E p e below (own_FW s 16 1152) (own_Q0 Z x0 x1 x2 x3 h0 n0) T14 (mkF m 223 #[.val (.int x0), .val (.int x1), .val (.int x2), .val (.int x3), .val (.ref b1), .val (.int f0), .val (.int n1), .val (.int rd), .val (.ref b7), .val (.int (1 : Int32))] [])
            refine own_step (g' := (mkF m 224 #[.val (.int x0), .val (.int x1), .val (.int x2), .val (.int x3), .val (.ref b1), .val (.int f0), .val (.int n1), .val (.int rd), .val (.ref b7), .val (.int (1 : Int32))] [(.int (1 : Int32))])) (fun _ k => XS.iconst X14.here hx rfl (hb hby at_223) k) ?_
            refine own_step (g' := (mkF m 228 #[.val (.int x0), .val (.int x1), .val (.int x2), .val (.int x3), .val (.ref b1), .val (.int f0), .val (.int n1), .val (.int rd), .val (.ref b7), .val (.int (1 : Int32))] [(.int (1 : Int32))])) (fun _ k => XS.goto X14.here hx rfl (pc0 := 224) (pc' := 228) rfl (hb hby at_224) (by decide) (by decide) k) ?_
            refine own_step (g' := (mkF m 230 #[.val (.int x0), .val (.int x1), .val (.int x2), .val (.int x3), .val (.ref b1), .val (.int f0), .val (.int n1), .val (.int rd), .val (.ref b7), .val (.int (1 : Int32))] [])) (fun _ k => XS.istore X14.here hx rfl (hb hby at_228) rfl (l' := #[.val (.int x0), .val (.int x1), .val (.int x2), .val (.int x3), .val (.ref b1), .val (.int f0), .val (.int n1), .val (.int rd), .val (.ref b7), .val (.int (1 : Int32))]) rfl k) ?_
            refine own_step (g' := (mkF m 232 #[.val (.int x0), .val (.int x1), .val (.int x2), .val (.int x3), .val (.ref b1), .val (.int f0), .val (.int n1), .val (.int rd), .val (.ref b7), .val (.int (1 : Int32))] [(.int (1 : Int32))])) (fun _ k => XS.iload X14.here hx rfl (hb hby at_230) rfl k) ?_
            exact own_retIW X14 hx hlk hS Y14 hret (by simp) (hb hby at_232) rfl (by decide) (by decide) (by show own_Q0 Z x0 x1 x2 x3 h0 n0 (some (.int (1 : Int32))) T14.heap _; exact ⟨rfl, N14⟩)
          · show own_E p e below (own_FW s 16 1152) (own_Q0 Z x0 x1 x2 x3 h0 n0) T13 (mkF m 230 #[.val (.int x0), .val (.int x1), .val (.int x2), .val (.int x3), .val (.ref b1), .val (.int f0), .val (.int n1), .val (.int rd), .val (.ref b7), .val (.int (1 : Int32))] [])
            refine own_step (g' := (mkF m 232 #[.val (.int x0), .val (.int x1), .val (.int x2), .val (.int x3), .val (.ref b1), .val (.int f0), .val (.int n1), .val (.int rd), .val (.ref b7), .val (.int (1 : Int32))] [(.int (1 : Int32))])) (fun _ k => XS.iload X13.here hx rfl (hb hby at_230) rfl k) ?_
            exact own_retIW X13 hx hlk hS Y13 hret (by simp) (hb hby at_232) rfl (by decide) (by decide) (by show own_Q0 Z x0 x1 x2 x3 h0 n0 (some (.int (1 : Int32))) T13.heap _; exact ⟨rfl, N13⟩)
        · show own_E p e below (own_FW s 16 1152) (own_Q0 Z x0 x1 x2 x3 h0 n0) T12 (mkF m 196 #[.val (.int x0), .val (.int x1), .val (.int x2), .val (.int x3), .val (.ref b1), .val (.int f0), .val (.int n1), .val (.int rd), .val (.ref b7), .val (.int (1 : Int32))] [])
          refine own_step (g' := (mkF m 198 #[.val (.int x0), .val (.int x1), .val (.int x2), .val (.int x3), .val (.ref b1), .val (.int f0), .val (.int n1), .val (.int rd), .val (.ref b7), .val (.int (1 : Int32))] [(.int rd)])) (fun _ k => XS.iload X12.here hx rfl (hb hby at_196) rfl k) ?_
          refine own_step (g' := (mkF m 199 #[.val (.int x0), .val (.int x1), .val (.int x2), .val (.int x3), .val (.ref b1), .val (.int f0), .val (.int n1), .val (.int rd), .val (.ref b7), .val (.int (1 : Int32))] [(.int (3 : Int32)), (.int rd)])) (fun _ k => XS.iconst X12.here hx rfl (hb hby at_198) k) ?_
          refine own_icN X12 hx (P := ((3 : Int32) < rd)) (hb hby at_199) (own_i_le rd (3 : Int32)) (by decide) (pc1 := 230) (by decide) (fun hc199 => ?_) (fun hc199 => ?_)
          · show own_E p e below (own_FW s 16 1152) (own_Q0 Z x0 x1 x2 x3 h0 n0) T12 (mkF m 202 #[.val (.int x0), .val (.int x1), .val (.int x2), .val (.int x3), .val (.ref b1), .val (.int f0), .val (.int n1), .val (.int rd), .val (.ref b7), .val (.int (1 : Int32))] [])
            exact absurd hc199 (own_ltno hc165 (by decide))
          · show own_E p e below (own_FW s 16 1152) (own_Q0 Z x0 x1 x2 x3 h0 n0) T12 (mkF m 230 #[.val (.int x0), .val (.int x1), .val (.int x2), .val (.int x3), .val (.ref b1), .val (.int f0), .val (.int n1), .val (.int rd), .val (.ref b7), .val (.int (1 : Int32))] [])
            refine own_step (g' := (mkF m 232 #[.val (.int x0), .val (.int x1), .val (.int x2), .val (.int x3), .val (.ref b1), .val (.int f0), .val (.int n1), .val (.int rd), .val (.ref b7), .val (.int (1 : Int32))] [(.int (1 : Int32))])) (fun _ k => XS.iload X12.here hx rfl (hb hby at_230) rfl k) ?_
            exact own_retIW X12 hx hlk hS Y12 hret (by simp) (hb hby at_232) rfl (by decide) (by decide) (by show own_Q0 Z x0 x1 x2 x3 h0 n0 (some (.int (1 : Int32))) T12.heap _; exact ⟨rfl, N12⟩)
      · show own_E p e below (own_FW s 16 1152) (own_Q0 Z x0 x1 x2 x3 h0 n0) T11 (mkF m 162 #[.val (.int x0), .val (.int x1), .val (.int x2), .val (.int x3), .val (.ref b1), .val (.int f0), .val (.int n1), .val (.int rd), .val (.ref b7), .val (.int (1 : Int32))] [])
        refine own_step (g' := (mkF m 164 #[.val (.int x0), .val (.int x1), .val (.int x2), .val (.int x3), .val (.ref b1), .val (.int f0), .val (.int n1), .val (.int rd), .val (.ref b7), .val (.int (1 : Int32))] [(.int rd)])) (fun _ k => XS.iload X11.here hx rfl (hb hby at_162) rfl k) ?_
        refine own_step (g' := (mkF m 165 #[.val (.int x0), .val (.int x1), .val (.int x2), .val (.int x3), .val (.ref b1), .val (.int f0), .val (.int n1), .val (.int rd), .val (.ref b7), .val (.int (1 : Int32))] [(.int (2 : Int32)), (.int rd)])) (fun _ k => XS.iconst X11.here hx rfl (hb hby at_164) k) ?_
        refine own_icN X11 hx (P := ((2 : Int32) < rd)) (hb hby at_165) (own_i_le rd (2 : Int32)) (by decide) (pc1 := 196) (by decide) (fun hc165 => ?_) (fun hc165 => ?_)
        · show own_E p e below (own_FW s 16 1152) (own_Q0 Z x0 x1 x2 x3 h0 n0) T11 (mkF m 168 #[.val (.int x0), .val (.int x1), .val (.int x2), .val (.int x3), .val (.ref b1), .val (.int f0), .val (.int n1), .val (.int rd), .val (.ref b7), .val (.int (1 : Int32))] [])
          exact absurd hc165 (own_ltno hc131 (by decide))
        · show own_E p e below (own_FW s 16 1152) (own_Q0 Z x0 x1 x2 x3 h0 n0) T11 (mkF m 196 #[.val (.int x0), .val (.int x1), .val (.int x2), .val (.int x3), .val (.ref b1), .val (.int f0), .val (.int n1), .val (.int rd), .val (.ref b7), .val (.int (1 : Int32))] [])
          refine own_step (g' := (mkF m 198 #[.val (.int x0), .val (.int x1), .val (.int x2), .val (.int x3), .val (.ref b1), .val (.int f0), .val (.int n1), .val (.int rd), .val (.ref b7), .val (.int (1 : Int32))] [(.int rd)])) (fun _ k => XS.iload X11.here hx rfl (hb hby at_196) rfl k) ?_
          refine own_step (g' := (mkF m 199 #[.val (.int x0), .val (.int x1), .val (.int x2), .val (.int x3), .val (.ref b1), .val (.int f0), .val (.int n1), .val (.int rd), .val (.ref b7), .val (.int (1 : Int32))] [(.int (3 : Int32)), (.int rd)])) (fun _ k => XS.iconst X11.here hx rfl (hb hby at_198) k) ?_
          refine own_icN X11 hx (P := ((3 : Int32) < rd)) (hb hby at_199) (own_i_le rd (3 : Int32)) (by decide) (pc1 := 230) (by decide) (fun hc199 => ?_) (fun hc199 => ?_)
          · show own_E p e below (own_FW s 16 1152) (own_Q0 Z x0 x1 x2 x3 h0 n0) T11 (mkF m 202 #[.val (.int x0), .val (.int x1), .val (.int x2), .val (.int x3), .val (.ref b1), .val (.int f0), .val (.int n1), .val (.int rd), .val (.ref b7), .val (.int (1 : Int32))] [])
            exact absurd hc199 (own_ltno hc131 (by decide))
          · show own_E p e below (own_FW s 16 1152) (own_Q0 Z x0 x1 x2 x3 h0 n0) T11 (mkF m 230 #[.val (.int x0), .val (.int x1), .val (.int x2), .val (.int x3), .val (.ref b1), .val (.int f0), .val (.int n1), .val (.int rd), .val (.ref b7), .val (.int (1 : Int32))] [])
            refine own_step (g' := (mkF m 232 #[.val (.int x0), .val (.int x1), .val (.int x2), .val (.int x3), .val (.ref b1), .val (.int f0), .val (.int n1), .val (.int rd), .val (.ref b7), .val (.int (1 : Int32))] [(.int (1 : Int32))])) (fun _ k => XS.iload X11.here hx rfl (hb hby at_230) rfl k) ?_
            exact own_retIW X11 hx hlk hS Y11 hret (by simp) (hb hby at_232) rfl (by decide) (by decide) (by show own_Q0 Z x0 x1 x2 x3 h0 n0 (some (.int (1 : Int32))) T11.heap _; exact ⟨rfl, N11⟩)
    · show own_E p e below (own_FW s 16 1152) (own_Q0 Z x0 x1 x2 x3 h0 n0) T10 (mkF m 128 #[.val (.int x0), .val (.int x1), .val (.int x2), .val (.int x3), .val (.ref b1), .val (.int f0), .val (.int n1), .val (.int rd), .val (.ref b7), .val (.int (1 : Int32))] [])
      refine own_step (g' := (mkF m 130 #[.val (.int x0), .val (.int x1), .val (.int x2), .val (.int x3), .val (.ref b1), .val (.int f0), .val (.int n1), .val (.int rd), .val (.ref b7), .val (.int (1 : Int32))] [(.int rd)])) (fun _ k => XS.iload X10.here hx rfl (hb hby at_128) rfl k) ?_
      refine own_step (g' := (mkF m 131 #[.val (.int x0), .val (.int x1), .val (.int x2), .val (.int x3), .val (.ref b1), .val (.int f0), .val (.int n1), .val (.int rd), .val (.ref b7), .val (.int (1 : Int32))] [(.int (1 : Int32)), (.int rd)])) (fun _ k => XS.iconst X10.here hx rfl (hb hby at_130) k) ?_
      refine own_icN X10 hx (P := ((1 : Int32) < rd)) (hb hby at_131) (own_i_le rd (1 : Int32)) (by decide) (pc1 := 162) (by decide) (fun hc131 => ?_) (fun hc131 => ?_)
      · show own_E p e below (own_FW s 16 1152) (own_Q0 Z x0 x1 x2 x3 h0 n0) T10 (mkF m 134 #[.val (.int x0), .val (.int x1), .val (.int x2), .val (.int x3), .val (.ref b1), .val (.int f0), .val (.int n1), .val (.int rd), .val (.ref b7), .val (.int (1 : Int32))] [])
        exact absurd hc131 (own_ltno hc101 (by decide))
      · show own_E p e below (own_FW s 16 1152) (own_Q0 Z x0 x1 x2 x3 h0 n0) T10 (mkF m 162 #[.val (.int x0), .val (.int x1), .val (.int x2), .val (.int x3), .val (.ref b1), .val (.int f0), .val (.int n1), .val (.int rd), .val (.ref b7), .val (.int (1 : Int32))] [])
        refine own_step (g' := (mkF m 164 #[.val (.int x0), .val (.int x1), .val (.int x2), .val (.int x3), .val (.ref b1), .val (.int f0), .val (.int n1), .val (.int rd), .val (.ref b7), .val (.int (1 : Int32))] [(.int rd)])) (fun _ k => XS.iload X10.here hx rfl (hb hby at_162) rfl k) ?_
        refine own_step (g' := (mkF m 165 #[.val (.int x0), .val (.int x1), .val (.int x2), .val (.int x3), .val (.ref b1), .val (.int f0), .val (.int n1), .val (.int rd), .val (.ref b7), .val (.int (1 : Int32))] [(.int (2 : Int32)), (.int rd)])) (fun _ k => XS.iconst X10.here hx rfl (hb hby at_164) k) ?_
        refine own_icN X10 hx (P := ((2 : Int32) < rd)) (hb hby at_165) (own_i_le rd (2 : Int32)) (by decide) (pc1 := 196) (by decide) (fun hc165 => ?_) (fun hc165 => ?_)
        · show own_E p e below (own_FW s 16 1152) (own_Q0 Z x0 x1 x2 x3 h0 n0) T10 (mkF m 168 #[.val (.int x0), .val (.int x1), .val (.int x2), .val (.int x3), .val (.ref b1), .val (.int f0), .val (.int n1), .val (.int rd), .val (.ref b7), .val (.int (1 : Int32))] [])
          exact absurd hc165 (own_ltno hc101 (by decide))
        · show own_E p e below (own_FW s 16 1152) (own_Q0 Z x0 x1 x2 x3 h0 n0) T10 (mkF m 196 #[.val (.int x0), .val (.int x1), .val (.int x2), .val (.int x3), .val (.ref b1), .val (.int f0), .val (.int n1), .val (.int rd), .val (.ref b7), .val (.int (1 : Int32))] [])
          refine own_step (g' := (mkF m 198 #[.val (.int x0), .val (.int x1), .val (.int x2), .val (.int x3), .val (.ref b1), .val (.int f0), .val (.int n1), .val (.int rd), .val (.ref b7), .val (.int (1 : Int32))] [(.int rd)])) (fun _ k => XS.iload X10.here hx rfl (hb hby at_196) rfl k) ?_
          refine own_step (g' := (mkF m 199 #[.val (.int x0), .val (.int x1), .val (.int x2), .val (.int x3), .val (.ref b1), .val (.int f0), .val (.int n1), .val (.int rd), .val (.ref b7), .val (.int (1 : Int32))] [(.int (3 : Int32)), (.int rd)])) (fun _ k => XS.iconst X10.here hx rfl (hb hby at_198) k) ?_
          refine own_icN X10 hx (P := ((3 : Int32) < rd)) (hb hby at_199) (own_i_le rd (3 : Int32)) (by decide) (pc1 := 230) (by decide) (fun hc199 => ?_) (fun hc199 => ?_)
          · show own_E p e below (own_FW s 16 1152) (own_Q0 Z x0 x1 x2 x3 h0 n0) T10 (mkF m 202 #[.val (.int x0), .val (.int x1), .val (.int x2), .val (.int x3), .val (.ref b1), .val (.int f0), .val (.int n1), .val (.int rd), .val (.ref b7), .val (.int (1 : Int32))] [])
            exact absurd hc199 (own_ltno hc101 (by decide))
          · show own_E p e below (own_FW s 16 1152) (own_Q0 Z x0 x1 x2 x3 h0 n0) T10 (mkF m 230 #[.val (.int x0), .val (.int x1), .val (.int x2), .val (.int x3), .val (.ref b1), .val (.int f0), .val (.int n1), .val (.int rd), .val (.ref b7), .val (.int (1 : Int32))] [])
            refine own_step (g' := (mkF m 232 #[.val (.int x0), .val (.int x1), .val (.int x2), .val (.int x3), .val (.ref b1), .val (.int f0), .val (.int n1), .val (.int rd), .val (.ref b7), .val (.int (1 : Int32))] [(.int (1 : Int32))])) (fun _ k => XS.iload X10.here hx rfl (hb hby at_230) rfl k) ?_
            exact own_retIW X10 hx hlk hS (by rw [e10]; exact Y9) hret (by simp) (hb hby at_232) rfl (by decide) (by decide) (by show own_Q0 Z x0 x1 x2 x3 h0 n0 (some (.int (1 : Int32))) T10.heap _; rw [e10]; exact ⟨rfl, N10⟩)
  · show own_E p e below (own_FW s 16 1152) (own_Q0 Z x0 x1 x2 x3 h0 n0) T10 (mkF m 96 #[.val (.int x0), .val (.int x1), .val (.int x2), .val (.int x3), .val (.ref b1), .val (.int f0), .val (.int n1), .val (.int rd), .val (.ref b7), .unset] [])
    exact absurd (own_sub f0) hc89
set_option maxRecDepth 65536 in
set_option maxHeartbeats 40000000 in
theorem own_comes {Post : Tables → Env → Array Value → State → Outcome → State → Prop} (hpost : ∀ tb e args s v u, (limb_1_1.after args s (.returned v) u = true ∧ limb_1_2.after args s (.returned v) u = true ∧ True) → ReturnedEndW s (.returned v) u (Jvm.fieldLocs frame_1_writes args s ++ Jvm.arrayLocs frame_1_arrays args s ++ Jvm.staticLocs frame_1_statics s) 16 1152 → Post tb e args s (.returned v) u) :
    ArmFor flags0 classFile x code maxLocals ret World_1 tables_1 room_1 Calls_1 rest_1 Pre_1 Post := by
  intro l hfl _ _ p e ha hc hk s m args below hf hA hF happ hP
  obtain ⟨hcalls, hrest, hpre⟩ := hP
  obtain ⟨-, -, -, hnamed, -, -, -, hat⟩ := (Spec.applies_iff hf).mp happ
  obtain ⟨hg, hn⟩ := and_e (Cond.before_iff.mp (show (Jvm.Cond.and given_1 narrow_1).before args s = true from hpre))
  obtain ⟨q0, r0⟩ := and_e hg
  obtain ⟨q1, r1⟩ := and_e r0
  obtain ⟨q2, r2⟩ := and_e r1
  obtain ⟨q3, r3⟩ := and_e r2
  obtain ⟨w0, w1, w2, w3, rfl⟩ : ∃ w0 w1 w2 w3 : Value, args = #[w0, w1, w2, w3] := by
    have hs : args.size = 4 := by simpa [Cond.value, given_1] using q0
    obtain ⟨L⟩ := args
    match L, hs with
    | [w0, w1, w2, w3], _ => exact ⟨w0, w1, w2, w3, rfl⟩
  have hw := fun d (hd : d ∈ tables_1) => atoms_spec (ws := Jvm.Cond.code x code maxLocals ret :: tables_1) hat d (List.mem_cons_of_mem _ hd)
  obtain ⟨i0, ei0⟩ := is_v q1
  obtain rfl : w0 = (.int i0) := Option.some.inj ei0
  obtain ⟨i1, ei1⟩ := is_v q2
  obtain rfl : w1 = (.int i1) := Option.some.inj ei1
  obtain ⟨i2, ei2⟩ := is_v q3
  obtain rfl : w2 = (.int i2) := Option.some.inj ei2
  obtain ⟨i3, ei3⟩ := is_v r3
  obtain rfl : w3 = (.int i3) := Option.some.inj ei3
  obtain ⟨n, o, h1, h2, h3, _, L, rfl, ⟨rfl, N⟩, hq⟩ := own_rm0 l s _ hw tables_1 i0 i1 i2 i3 s.heap s.heap.size (Nat.le_refl _) p e ha hc hk s m _ below hf ((Spec.applies_iff_loose hf).mp happ).1 ⟨rfl, State.Warmed39.refl s, rfl⟩ trivial
  refine ⟨n, _, h1, h2, h3, hpost _ _ _ _ _ _ ⟨Cond.after_iff.mpr rfl, Cond.after_iff.mpr (eq_i res_at (Term.int_eval (1)) rfl), trivial⟩ ⟨hq.1, hq.2.1, hq.2.2.1, (hq.2.2.2.sift fun y hy => Or.inr (N y hy)).mono (by decide) (by decide)⟩⟩
theorem main_1_1 : Claimed_1_1 := own_comes fun _ _ _ _ _ _ h hF => ⟨h.1, hF⟩
theorem main_1_2 : Claimed_1_2 := own_comes fun _ _ _ _ _ _ h hF => ⟨h.2.1, hF⟩
end Jvm.Pilot.@@N@@
namespace Jvm.Pilot.@@N@@
open Jvm Jvm.ClassFile Sem Op Lib Jvm.Free Jvm.Stand Jvm.Pilot.@@N@@.Jvm.D
/-! MADE BY PROGRAM (witnessworld.py) out of the Statement's table words and the real class files: 16 classes; the members and pool entries that the words name. The judged class is class 1, her method 2. -/
namespace start1
open Jvm.ClassFile
def u (s : String) : CpInfo := .utf8 (stringToUtf16 s)
/-- a pool by its gaps: so many unusable entries, then the entry; so many at the end -/
def gap : Nat → List CpInfo → List CpInfo
  | 0, r => r
  | n + 1, r => .unusable :: gap n r
def poolList (es : List (Nat × CpInfo)) (last : Nat) : List CpInfo := es.foldr (fun e r => gap e.1 (e.2 :: r)) (gap last [])
def pool (es : List (Nat × CpInfo)) (last : Nat) : Array CpInfo := ⟨poolList es last⟩
def fileOf (pool : Array CpInfo) (this : Nat) (attrs : Array Attribute := #[]) (ms : Array MethodInfo := #[]) (fl : Nat := 33) (sup : Nat := 0) (ifs : Array Nat := #[]) (fds : Array FieldInfo := #[]) : ClassFile where
  minorVersion := 0
  majorVersion := 65
  constantPool := pool
  accessFlags := fl
  thisClass := this
  superClass := sup
  interfaces := ifs
  fields := fds
  methods := ms
  attributes := attrs
def plain (name : String) (sup : Option ClassId) : Class where
  name := name
  kind := .ordinary
  loader := none
  accessFlags := 33
  super := sup
  interfaces := #[]
  cf := none
  fields := #[]
  methods := #[]
  instanceTypes := #[]
  staticTypes := #[]
  resolved := #[]
  callSites := []
  init := .initialized
  statics := none
  mirror := none

def pool0 : Array CpInfo := pool [(5, u "<init>"), (0, u "()V"), (1, .class_ 10), (1, u "java/lang/Object")] 113

def k0c0 : Code := { maxStack := 0, maxLocals := 1, code := object_method_1_code, exceptionTable := #[], attributes := #[] }
def k0m0 : Method := { name := "<init>", desc := "()V", sig := { parameters := [], returnType := none }, accessFlags := 1, code := some k0c0 }
/-- java/lang/Object -/
def k0 : Class := { plain "java/lang/Object" none with
  accessFlags := 33
  interfaces := #[]
  cf := some (fileOf pool0 8 #[] #[{ accessFlags := 1, nameIndex := 5, descriptorIndex := 6, attributes := #[] }] 33 0 #[] #[])
  fields := #[]
  methods := #[k0m0]
  instanceTypes := #[]
  staticTypes := #[]
  resolved := Array.replicate 124 none
  statics := none }

def pool1 : Array CpInfo := pool [(2, .class_ 4), (1, u "java/lang/Object"), (0, u "<init>"), (0, u "()V"), (0, .methodref 8 9), (0, .class_ 10), (0, .nameAndType 11 12), (0, u "com/example/quern/quern/store/BytesInput"), (0, u "readByte"), (0, u "()B"), (0, .methodref 8 14), (0, .nameAndType 15 16), (0, u "getFilePointer"), (0, u "()J"), (0, .integer 2147483647), (0, .methodref 19 20), (0, .class_ 21), (0, .nameAndType 22 23), (0, u "java/lang/Math"), (0, u "min"), (0, u "(II)I"), (0, .string 25), (0, u "b"), (0, .methodref 8 27), (0, .nameAndType 5 28), (0, u "(Ljava/lang/String;[BII)V"), (0, .methodref 30 31), (0, .class_ 32), (0, .nameAndType 33 34), (0, u "com/example/quern/quern/store/BytesInputReadBytePinLaw"), (0, u "step"), (0, u "(Lcom/example/quern/quern/store/BytesInput;IIJ)Z"), (0, .long 2), (1, .long 3), (1, .long 4), (7, u "law"), (0, u "(IIII)Z")] 4

def k1m0 : Method := { name := "<init>", desc := "()V", sig := { parameters := [], returnType := none }, accessFlags := 1, code := none }
def k1c1 : Code := { maxStack := 4, maxLocals := 7, code := method_2_code, exceptionTable := #[], attributes := #[] }
def k1m1 : Method := { name := "step", desc := "(Lcom/example/quern/quern/store/BytesInput;IIJ)Z", sig := { parameters := [(.object "com/example/quern/quern/store/BytesInput"), .int, .int, .long], returnType := some .boolean }, accessFlags := 10, code := some k1c1 }
def k1c2 : Code := { maxStack := 6, maxLocals := 10, code := code, exceptionTable := #[], attributes := #[] }
def k1m2 : Method := { name := "law", desc := "(IIII)Z", sig := { parameters := [.int, .int, .int, .int], returnType := some .boolean }, accessFlags := 9, code := some k1c2 }
/-- com/example/quern/quern/store/BytesInputReadBytePinLaw -/
def k1 : Class := { plain "com/example/quern/quern/store/BytesInputReadBytePinLaw" (some 0) with
  accessFlags := 49
  interfaces := #[]
  cf := some (fileOf pool1 30 #[] #[{ accessFlags := 1, nameIndex := 5, descriptorIndex := 6, attributes := #[] }, { accessFlags := 10, nameIndex := 33, descriptorIndex := 34, attributes := #[] }, { accessFlags := 9, nameIndex := 47, descriptorIndex := 48, attributes := #[] }] 49 2 #[] #[])
  fields := #[]
  methods := #[k1m0, k1m1, k1m2]
  instanceTypes := #[]
  staticTypes := #[]
  resolved := Array.replicate 53 none
  statics := none }

def pool2 : Array CpInfo := pool [(1, .class_ 2), (0, u "java/lang/Math"), (1, .class_ 6), (1, u "java/lang/Object"), (0, u "<init>"), (0, u "()V"), (89, .class_ 100), (1, u "java/lang/Math$RandomNumberGeneratorHolder"), (71, u "negativeZeroFloatBits"), (0, u "J"), (2, u "negativeZeroDoubleBits"), (24, u "min"), (43, u "$assertionsDisabled"), (0, u "Z"), (88, u "(II)I"), (2, u "twoToTheDoubleScaleDown"), (0, u "D"), (4, u "twoToTheDoubleScaleUp"), (9, u "E"), (3, u "PI"), (2, u "TAU"), (2, u "DEGREES_TO_RADIANS"), (0, u "RADIANS_TO_DEGREES")] 94

def k2m0 : Method := { name := "<init>", desc := "()V", sig := { parameters := [], returnType := none }, accessFlags := 2, code := none }
def k2c1 : Code := { maxStack := 2, maxLocals := 2, code := jdk_29_method_69_code, exceptionTable := #[], attributes := #[] }
def k2m1 : Method := { name := "min", desc := "(II)I", sig := { parameters := [.int, .int], returnType := some .int }, accessFlags := 9, code := some k2c1 }
/-- java/lang/Math -/
def k2 : Class := { plain "java/lang/Math" (some 0) with
  accessFlags := 49
  interfaces := #[]
  cf := some (fileOf pool2 1 #[.nestMembers #[98]] #[{ accessFlags := 2, nameIndex := 7, descriptorIndex := 8, attributes := #[] }, { accessFlags := 9, nameIndex := 201, descriptorIndex := 335, attributes := #[] }] 49 4 #[] #[{ accessFlags := 25, nameIndex := 354, descriptorIndex := 339, attributes := #[] }, { accessFlags := 25, nameIndex := 358, descriptorIndex := 339, attributes := #[] }, { accessFlags := 25, nameIndex := 361, descriptorIndex := 339, attributes := #[] }, { accessFlags := 26, nameIndex := 364, descriptorIndex := 339, attributes := #[] }, { accessFlags := 26, nameIndex := 365, descriptorIndex := 339, attributes := #[] }, { accessFlags := 26, nameIndex := 172, descriptorIndex := 173, attributes := #[] }, { accessFlags := 26, nameIndex := 176, descriptorIndex := 173, attributes := #[] }, { accessFlags := 8, nameIndex := 344, descriptorIndex := 339, attributes := #[] }, { accessFlags := 8, nameIndex := 338, descriptorIndex := 339, attributes := #[] }, { accessFlags := 4120, nameIndex := 245, descriptorIndex := 246, attributes := #[] }])
  fields := #[{ name := "E", type := .double, accessFlags := 25, slot := 0, constantValue := 0 }, { name := "PI", type := .double, accessFlags := 25, slot := 1, constantValue := 0 }, { name := "TAU", type := .double, accessFlags := 25, slot := 2, constantValue := 0 }, { name := "DEGREES_TO_RADIANS", type := .double, accessFlags := 26, slot := 3, constantValue := 0 }, { name := "RADIANS_TO_DEGREES", type := .double, accessFlags := 26, slot := 4, constantValue := 0 }, { name := "negativeZeroFloatBits", type := .long, accessFlags := 26, slot := 5, constantValue := 0 }, { name := "negativeZeroDoubleBits", type := .long, accessFlags := 26, slot := 6, constantValue := 0 }, { name := "twoToTheDoubleScaleUp", type := .double, accessFlags := 8, slot := 7, constantValue := 0 }, { name := "twoToTheDoubleScaleDown", type := .double, accessFlags := 8, slot := 8, constantValue := 0 }, { name := "$assertionsDisabled", type := .boolean, accessFlags := 4120, slot := 9, constantValue := 0 }]
  methods := #[k2m0, k2m1]
  instanceTypes := #[]
  staticTypes := #[.double, .double, .double, .double, .double, .long, .long, .double, .double, .boolean]
  resolved := Array.replicate 460 none
  statics := none }

def pool3 : Array CpInfo := pool [(1, .methodref 2 3), (0, .class_ 4), (0, .nameAndType 5 6), (0, u "java/lang/Object"), (0, u "<init>"), (0, u "()V"), (1, .class_ 10), (1, u "com/example/quern/quern/store/DataInput")] 127

def k3c0 : Code := { maxStack := 1, maxLocals := 1, code := prog_132_method_1_code, exceptionTable := #[], attributes := #[] }
def k3m0 : Method := { name := "<init>", desc := "()V", sig := { parameters := [], returnType := none }, accessFlags := 1, code := some k3c0 }
/-- com/example/quern/quern/store/DataInput -/
def k3 : Class := { plain "com/example/quern/quern/store/DataInput" (some 0) with
  accessFlags := 1057
  interfaces := #[]
  cf := some (fileOf pool3 8 #[] #[{ accessFlags := 1, nameIndex := 5, descriptorIndex := 6, attributes := #[] }] 1057 2 #[] #[])
  fields := #[]
  methods := #[k3m0]
  instanceTypes := #[]
  staticTypes := #[]
  resolved := Array.replicate 138 none
  statics := none }

def pool4 : Array CpInfo := pool [(1, .methodref 2 3), (0, .class_ 4), (0, .nameAndType 5 6), (0, u "com/example/quern/quern/store/DataInput"), (0, u "<init>"), (0, u "()V"), (9, .fieldref 17 18), (0, .class_ 19), (0, .nameAndType 20 21), (0, u "com/example/quern/quern/store/BytesInput"), (0, u "name"), (0, u "Ljava/lang/String;"), (0, .fieldref 17 23), (0, .nameAndType 24 25), (0, u "bytes"), (0, u "[B"), (0, .fieldref 17 27), (0, .nameAndType 28 29), (0, u "start"), (0, u "I"), (0, .fieldref 17 31), (0, .nameAndType 32 29), (0, u "end"), (0, .fieldref 17 34), (0, .nameAndType 35 29), (0, u "position"), (16, u "(Ljava/lang/String;[BII)V"), (7, u "readByte"), (0, u "()B"), (3, u "getFilePointer"), (0, u "()J")] 21

def k4c0 : Code := { maxStack := 5, maxLocals := 5, code := prog_128_method_1_code, exceptionTable := #[], attributes := #[] }
def k4m0 : Method := { name := "<init>", desc := "(Ljava/lang/String;[BII)V", sig := { parameters := [(.object "java/lang/String"), (.array .byte), .int, .int], returnType := none }, accessFlags := 1, code := some k4c0 }
def k4c1 : Code := { maxStack := 5, maxLocals := 1, code := prog_128_method_3_code, exceptionTable := #[], attributes := #[] }
def k4m1 : Method := { name := "readByte", desc := "()B", sig := { parameters := [], returnType := some .byte }, accessFlags := 1, code := some k4c1 }
def k4c2 : Code := { maxStack := 2, maxLocals := 1, code := prog_128_method_5_code, exceptionTable := #[], attributes := #[] }
def k4m2 : Method := { name := "getFilePointer", desc := "()J", sig := { parameters := [], returnType := some .long }, accessFlags := 1, code := some k4c2 }
/-- com/example/quern/quern/store/BytesInput -/
def k4 : Class := { plain "com/example/quern/quern/store/BytesInput" (some 3) with
  accessFlags := 49
  interfaces := #[]
  cf := some (fileOf pool4 17 #[] #[{ accessFlags := 1, nameIndex := 5, descriptorIndex := 52, attributes := #[] }, { accessFlags := 1, nameIndex := 60, descriptorIndex := 61, attributes := #[] }, { accessFlags := 1, nameIndex := 65, descriptorIndex := 66, attributes := #[] }] 49 2 #[] #[{ accessFlags := 18, nameIndex := 20, descriptorIndex := 21, attributes := #[] }, { accessFlags := 18, nameIndex := 24, descriptorIndex := 25, attributes := #[] }, { accessFlags := 18, nameIndex := 28, descriptorIndex := 29, attributes := #[] }, { accessFlags := 18, nameIndex := 32, descriptorIndex := 29, attributes := #[] }, { accessFlags := 2, nameIndex := 35, descriptorIndex := 29, attributes := #[] }])
  fields := #[{ name := "name", type := (.object "java/lang/String"), accessFlags := 18, slot := 0, constantValue := 0 }, { name := "bytes", type := (.array .byte), accessFlags := 18, slot := 1, constantValue := 0 }, { name := "start", type := .int, accessFlags := 18, slot := 2, constantValue := 0 }, { name := "end", type := .int, accessFlags := 18, slot := 3, constantValue := 0 }, { name := "position", type := .int, accessFlags := 2, slot := 4, constantValue := 0 }]
  methods := #[k4m0, k4m1, k4m2]
  instanceTypes := #[(.object "java/lang/String"), (.array .byte), .int, .int, .int]
  staticTypes := #[]
  resolved := Array.replicate 88 none
  statics := none }

def pool5 : Array CpInfo := pool [(1, .class_ 2), (0, u "java/io/Serializable"), (0, .class_ 4), (0, u "java/lang/Object")] 2

/-- java/io/Serializable -/
def k5 : Class := { plain "java/io/Serializable" (some 0) with
  accessFlags := 1537
  interfaces := #[]
  cf := some (fileOf pool5 1 #[] #[] 1537 3 #[] #[])
  fields := #[]
  methods := #[]
  instanceTypes := #[]
  staticTypes := #[]
  resolved := Array.replicate 7 none
  statics := none }

def pool6 : Array CpInfo := pool [(1, .class_ 2), (0, u "java/lang/Comparable"), (0, .class_ 4), (0, u "java/lang/Object")] 7

/-- java/lang/Comparable -/
def k6 : Class := { plain "java/lang/Comparable" (some 0) with
  accessFlags := 1537
  interfaces := #[]
  cf := some (fileOf pool6 1 #[] #[] 1537 3 #[] #[])
  fields := #[]
  methods := #[]
  instanceTypes := #[]
  staticTypes := #[]
  resolved := Array.replicate 12 none
  statics := none }

def pool7 : Array CpInfo := pool [(2, .class_ 4), (1, u "java/lang/CharSequence"), (42, .class_ 48), (0, u "java/lang/CharSequence$1CodePointIterator"), (10, .class_ 60), (0, u "java/lang/CharSequence$1CharIterator"), (5, .class_ 67), (0, u "java/lang/Object")] 63

/-- java/lang/CharSequence -/
def k7 : Class := { plain "java/lang/CharSequence" (some 0) with
  accessFlags := 1537
  interfaces := #[]
  cf := some (fileOf pool7 2 #[.nestMembers #[47, 59]] #[] 1537 66 #[] #[])
  fields := #[]
  methods := #[]
  instanceTypes := #[]
  staticTypes := #[]
  resolved := Array.replicate 131 none
  statics := none }

def pool8 : Array CpInfo := pool [(1, .class_ 2), (0, u "java/lang/constant/Constable"), (0, .class_ 4), (0, u "java/lang/Object")] 6

/-- java/lang/constant/Constable -/
def k8 : Class := { plain "java/lang/constant/Constable" (some 0) with
  accessFlags := 1537
  interfaces := #[]
  cf := some (fileOf pool8 1 #[] #[] 1537 3 #[] #[])
  fields := #[]
  methods := #[]
  instanceTypes := #[]
  staticTypes := #[]
  resolved := Array.replicate 11 none
  statics := none }

def pool9 : Array CpInfo := pool [(1, .class_ 2), (0, u "java/lang/constant/ConstantDesc"), (0, .class_ 4), (0, u "java/lang/Object")] 32

/-- java/lang/constant/ConstantDesc -/
def k9 : Class := { plain "java/lang/constant/ConstantDesc" (some 0) with
  accessFlags := 1537
  interfaces := #[]
  cf := some (fileOf pool9 1 #[] #[] 1537 3 #[] #[])
  fields := #[]
  methods := #[]
  instanceTypes := #[]
  staticTypes := #[]
  resolved := Array.replicate 37 none
  statics := none }

def pool10 : Array CpInfo := pool [(2, .class_ 4), (1, u "java/lang/Object"), (0, u "<init>"), (0, u "()V"), (3, .class_ 12), (1, u "java/lang/String"), (0, u "value"), (0, u "[B"), (2, u "coder"), (0, u "B"), (2, u "hash"), (0, u "I"), (2, u "hashIsZero"), (0, u "Z"), (13, u "COMPACT_STRINGS"), (534, .class_ 576), (0, u "java/lang/CharSequence"), (22, u "CASE_INSENSITIVE_ORDER"), (0, u "Ljava/util/Comparator;"), (500, u "serialPersistentFields"), (0, u "[Ljava/io/ObjectStreamField;"), (0, .class_ 1104), (0, u "java/lang/String$CaseInsensitiveComparator"), (1, .class_ 1107), (0, u "java/io/Serializable"), (0, .class_ 1109), (0, u "java/lang/Comparable"), (0, .class_ 1111), (0, u "java/lang/constant/Constable"), (0, .class_ 1113), (0, u "java/lang/constant/ConstantDesc"), (2, u "serialVersionUID"), (0, u "J"), (3, u "REPL"), (0, u "C"), (2, u "LATIN1"), (1, u "UTF16")] 323

def k10m0 : Method := { name := "<init>", desc := "()V", sig := { parameters := [], returnType := none }, accessFlags := 1, code := none }
/-- java/lang/String -/
def k10 : Class := { plain "java/lang/String" (some 0) with
  accessFlags := 49
  interfaces := #[5, 6, 7, 8, 9]
  cf := some (fileOf pool10 10 #[.nestMembers #[1103]] #[{ accessFlags := 1, nameIndex := 5, descriptorIndex := 6, attributes := #[] }] 49 2 #[1106, 1108, 575, 1110, 1112] #[{ accessFlags := 18, nameIndex := 13, descriptorIndex := 14, attributes := #[] }, { accessFlags := 18, nameIndex := 17, descriptorIndex := 18, attributes := #[] }, { accessFlags := 2, nameIndex := 21, descriptorIndex := 22, attributes := #[] }, { accessFlags := 2, nameIndex := 25, descriptorIndex := 26, attributes := #[] }, { accessFlags := 26, nameIndex := 1116, descriptorIndex := 1117, attributes := #[] }, { accessFlags := 24, nameIndex := 40, descriptorIndex := 26, attributes := #[] }, { accessFlags := 26, nameIndex := 1101, descriptorIndex := 1102, attributes := #[] }, { accessFlags := 26, nameIndex := 1121, descriptorIndex := 1122, attributes := #[] }, { accessFlags := 25, nameIndex := 599, descriptorIndex := 600, attributes := #[] }, { accessFlags := 24, nameIndex := 1125, descriptorIndex := 18, attributes := #[] }, { accessFlags := 24, nameIndex := 1127, descriptorIndex := 18, attributes := #[] }])
  fields := #[{ name := "value", type := (.array .byte), accessFlags := 18, slot := 0, constantValue := 0 }, { name := "coder", type := .byte, accessFlags := 18, slot := 1, constantValue := 0 }, { name := "hash", type := .int, accessFlags := 2, slot := 2, constantValue := 0 }, { name := "hashIsZero", type := .boolean, accessFlags := 2, slot := 3, constantValue := 0 }, { name := "serialVersionUID", type := .long, accessFlags := 26, slot := 0, constantValue := 0 }, { name := "COMPACT_STRINGS", type := .boolean, accessFlags := 24, slot := 1, constantValue := 0 }, { name := "serialPersistentFields", type := (.array (.object "java/io/ObjectStreamField")), accessFlags := 26, slot := 2, constantValue := 0 }, { name := "REPL", type := .char, accessFlags := 26, slot := 3, constantValue := 0 }, { name := "CASE_INSENSITIVE_ORDER", type := (.object "java/util/Comparator"), accessFlags := 25, slot := 4, constantValue := 0 }, { name := "LATIN1", type := .byte, accessFlags := 24, slot := 5, constantValue := 0 }, { name := "UTF16", type := .byte, accessFlags := 24, slot := 6, constantValue := 0 }]
  methods := #[k10m0]
  instanceTypes := #[(.array .byte), .byte, .int, .boolean]
  staticTypes := #[.long, .boolean, (.array (.object "java/io/ObjectStreamField")), .char, (.object "java/util/Comparator"), .byte, .byte]
  resolved := Array.replicate 1451 none
  statics := none }

def pool11 : Array CpInfo := pool [(1, u "java/lang/Cloneable"), (0, .class_ 1), (0, u "java/lang/Object"), (0, .class_ 3)] 3

/-- java/lang/Cloneable -/
def k11 : Class := { plain "java/lang/Cloneable" (some 0) with
  accessFlags := 1537
  interfaces := #[]
  cf := some (fileOf pool11 2 #[] #[] 1537 4 #[] #[])
  fields := #[]
  methods := #[]
  instanceTypes := #[]
  staticTypes := #[]
  resolved := Array.replicate 8 none
  statics := none }

/-- the primitive byte -/
def k12 : Class := { plain "byte" none with kind := .primitive 'B', accessFlags := 0x411 }
/-- [B -/
def k13 : Class := { plain "[B" (some 0) with kind := .array 12 .byte, interfaces := #[11, 5], accessFlags := 1041 }

/-- the primitive int -/
def k14 : Class := { plain "int" none with kind := .primitive 'I', accessFlags := 0x411 }
/-- [I -/
def k15 : Class := { plain "[I" (some 0) with kind := .array 14 .int, interfaces := #[11, 5], accessFlags := 1041 }

def heap : Heap := #[]
def classes : Array Class := #[k0, k1, k2, k3, k4, k5, k6, k7, k8, k9, k10, k11, k12, k13, k14, k15]
def interned : List (Array UInt16 × Addr) := []
def slotsUsed : Nat := 0
def theMethod : MethodId := ⟨1, 2⟩
def args0 : Array Value := #[.int 5, .int 7, .int 2, .int 3]
def aboutOver (below : List Frame) : State where
  vm := { classes := classes, interned := interned.toArray }
  heap := heap
  slotsUsed := slotsUsed
  threads := #[{ frames := .invoking theMethod args0 :: below }]
def below0 : List Frame := [.native { method := ⟨0, 0⟩, args := #[] }]
def about1 : State := aboutOver below0
def p0 : Program := .bare "" "" ""
def e0 : Env := launch0.env 0 0 0
theorem w_frames : about1.frames = Frame.invoking theMethod args0 :: below0 := rfl
set_option maxRecDepth 65536 in
theorem w_args : argsFit about1.vm theMethod args0 = true := by decide +kernel
set_option maxRecDepth 65536 in
theorem w_heap : heapFits about1 = true := by decide +kernel
set_option maxRecDepth 65536 in
theorem w_runnable : about1.curStatus? = some .runnable := by decide +kernel
set_option maxRecDepth 65536 in
theorem w_alone : about1.alone = true := by decide +kernel
set_option maxRecDepth 65536 in
theorem w_named : about1.methodNamed? x = some theMethod := by decide +kernel
set_option maxRecDepth 65536 in
theorem w_hears : about1.hears theMethod below0 = true := by decide +kernel
set_option maxRecDepth 65536 in
theorem w_ripe : about1.ripe theMethod args0 below0 = true := by decide +kernel
theorem w_running : about1.status = .running := rfl
set_option maxRecDepth 65536 in
theorem w_room : about1.hasRoom e0.platform room_1 = true :=
  launch0.hasRoom_least _ room_1 (by decide +kernel) (by decide +kernel) (by decide +kernel) (by decide +kernel) (by decide +kernel) (by decide +kernel)
theorem allAtoms_all (ts : List Jvm.Cond) (a : Array Jvm.Value) (st : Jvm.State) : (allAtoms ts).before a st = ts.all (fun c => c.before a st) := by
  induction ts with
  | nil => rfl
  | cons c t ih =>
    show (Jvm.Cond.and c (allAtoms t)).before a st = _
    rw [Jvm.Cond.before_and, ih, List.all_cons]
def words1 : List Jvm.Cond := Jvm.Cond.code x code maxLocals ret :: tables_1
/-- a 'code' word, met by the world's own term for the bytes: nothing is compared byte by byte -/
theorem code_word {y : MethodName} {bytes : ByteArray} {mx : Nat} {rt : Option FieldType} {a : Array Value} {s : State} {m : MethodId} {meth : Method} {c : Code} (h1 : s.methodNamed? y = some m) (h2 : s.vm.method? m = some meth) (h3 : meth.code = some c) (h4 : c.code = bytes)
    (h5 : (c.maxLocals == mx && c.exceptionTable.isEmpty && decide (c.maxStack ≤ mostOperands) && decide (meth.sig.returnType = rt) && !meth.locks && decide (parseMethodDescriptor y.desc = some meth.sig)) = true) : (Jvm.Cond.code y bytes mx rt).before a s = true := by
  simp only [Bool.and_eq_true, beq_iff_eq, Bool.not_eq_true', decide_eq_true_eq] at h5
  obtain ⟨⟨⟨⟨⟨g1, g2⟩, g3⟩, g4⟩, g5⟩, g6⟩ := h5
  simp [Cond.before, Cond.holds, Cond.value, h1, h2, h3, h4, g1, g2, g3, g4, g5, g6]
def isCode : Jvm.Cond → Bool
  | .code _ _ _ _ => true
  | _ => false
theorem all_split {L : List Jvm.Cond} {P : Jvm.Cond → Bool} (h1 : L.all (fun c => isCode c || P c) = true) (h2 : ∀ c ∈ L.filter isCode, P c = true) : L.all P = true := by
  refine List.all_eq_true.mpr fun c hc => ?_
  have h := List.all_eq_true.mp h1 c hc
  rcases Bool.eq_false_or_eq_true (isCode c) with hi | hi
  · exact h2 c (List.mem_filter.mpr ⟨hc, hi⟩)
  · simpa [hi] using h
set_option maxRecDepth 65536 in
theorem w_c0 : (Jvm.Cond.code x code maxLocals ret).before args0 about1 = true := code_word (m := ⟨1, 2⟩) (meth := k1m2) (c := k1c2) (by decide +kernel) rfl rfl rfl (by decide +kernel)
set_option maxRecDepth 65536 in
theorem w_c1 : (Jvm.Cond.code ({ cls := "java/lang/Math", name := "min", desc := "(II)I" } : Jvm.MethodName) jdk_29_method_69_code (2 : Nat) (Option.some Jvm.ClassFile.FieldType.int)).before args0 about1 = true := code_word (m := ⟨2, 1⟩) (meth := k2m1) (c := k2c1) (by decide +kernel) rfl rfl rfl (by decide +kernel)
set_option maxRecDepth 65536 in
theorem w_c2 : (Jvm.Cond.code ({ cls := "com/example/quern/quern/store/BytesInput", name := "<init>", desc := "(Ljava/lang/String;[BII)V" } : Jvm.MethodName) prog_128_method_1_code (5 : Nat) (Option.none : Option Jvm.ClassFile.FieldType)).before args0 about1 = true := code_word (m := ⟨4, 0⟩) (meth := k4m0) (c := k4c0) (by decide +kernel) rfl rfl rfl (by decide +kernel)
set_option maxRecDepth 65536 in
theorem w_c3 : (Jvm.Cond.code ({ cls := "com/example/quern/quern/store/DataInput", name := "<init>", desc := "()V" } : Jvm.MethodName) prog_132_method_1_code (1 : Nat) (Option.none : Option Jvm.ClassFile.FieldType)).before args0 about1 = true := code_word (m := ⟨3, 0⟩) (meth := k3m0) (c := k3c0) (by decide +kernel) rfl rfl rfl (by decide +kernel)
set_option maxRecDepth 65536 in
theorem w_c4 : (Jvm.Cond.code ({ cls := "java/lang/Object", name := "<init>", desc := "()V" } : Jvm.MethodName) object_method_1_code (1 : Nat) (Option.none : Option Jvm.ClassFile.FieldType)).before args0 about1 = true := code_word (m := ⟨0, 0⟩) (meth := k0m0) (c := k0c0) (by decide +kernel) rfl rfl rfl (by decide +kernel)
set_option maxRecDepth 65536 in
theorem w_c5 : (Jvm.Cond.code ({ cls := "com/example/quern/quern/store/BytesInput", name := "getFilePointer", desc := "()J" } : Jvm.MethodName) prog_128_method_5_code (1 : Nat) (Option.some Jvm.ClassFile.FieldType.long)).before args0 about1 = true := code_word (m := ⟨4, 2⟩) (meth := k4m2) (c := k4c2) (by decide +kernel) rfl rfl rfl (by decide +kernel)
set_option maxRecDepth 65536 in
theorem w_c6 : (Jvm.Cond.code ({ cls := "com/example/quern/quern/store/BytesInputReadBytePinLaw", name := "step", desc := "(Lcom/example/quern/quern/store/BytesInput;IIJ)Z" } : Jvm.MethodName) method_2_code (7 : Nat) (Option.some Jvm.ClassFile.FieldType.boolean)).before args0 about1 = true := code_word (m := ⟨1, 1⟩) (meth := k1m1) (c := k1c1) (by decide +kernel) rfl rfl rfl (by decide +kernel)
set_option maxRecDepth 65536 in
theorem w_c7 : (Jvm.Cond.code ({ cls := "com/example/quern/quern/store/BytesInput", name := "readByte", desc := "()B" } : Jvm.MethodName) prog_128_method_3_code (1 : Nat) (Option.some Jvm.ClassFile.FieldType.byte)).before args0 about1 = true := code_word (m := ⟨4, 1⟩) (meth := k4m1) (c := k4c1) (by decide +kernel) rfl rfl rfl (by decide +kernel)
def codes1 : List Jvm.Cond := [Jvm.Cond.code x code maxLocals ret, Jvm.Cond.code ({ cls := "java/lang/Math", name := "min", desc := "(II)I" } : Jvm.MethodName) jdk_29_method_69_code (2 : Nat) (Option.some Jvm.ClassFile.FieldType.int), Jvm.Cond.code ({ cls := "com/example/quern/quern/store/BytesInput", name := "<init>", desc := "(Ljava/lang/String;[BII)V" } : Jvm.MethodName) prog_128_method_1_code (5 : Nat) (Option.none : Option Jvm.ClassFile.FieldType), Jvm.Cond.code ({ cls := "com/example/quern/quern/store/DataInput", name := "<init>", desc := "()V" } : Jvm.MethodName) prog_132_method_1_code (1 : Nat) (Option.none : Option Jvm.ClassFile.FieldType), Jvm.Cond.code ({ cls := "java/lang/Object", name := "<init>", desc := "()V" } : Jvm.MethodName) object_method_1_code (1 : Nat) (Option.none : Option Jvm.ClassFile.FieldType), Jvm.Cond.code ({ cls := "com/example/quern/quern/store/BytesInput", name := "getFilePointer", desc := "()J" } : Jvm.MethodName) prog_128_method_5_code (1 : Nat) (Option.some Jvm.ClassFile.FieldType.long), Jvm.Cond.code ({ cls := "com/example/quern/quern/store/BytesInputReadBytePinLaw", name := "step", desc := "(Lcom/example/quern/quern/store/BytesInput;IIJ)Z" } : Jvm.MethodName) method_2_code (7 : Nat) (Option.some Jvm.ClassFile.FieldType.boolean), Jvm.Cond.code ({ cls := "com/example/quern/quern/store/BytesInput", name := "readByte", desc := "()B" } : Jvm.MethodName) prog_128_method_3_code (1 : Nat) (Option.some Jvm.ClassFile.FieldType.byte)]
set_option maxRecDepth 65536 in
theorem codes_eq : words1.filter isCode = codes1 := rfl
theorem w_codes : ∀ c ∈ words1.filter isCode, c.before args0 about1 = true := by
  rw [codes_eq]
  intro c hc
  simp only [codes1, List.mem_cons, List.not_mem_nil, or_false] at hc
  rcases hc with rfl | rfl | rfl | rfl | rfl | rfl | rfl | rfl
  · exact w_c0
  · exact w_c1
  · exact w_c2
  · exact w_c3
  · exact w_c4
  · exact w_c5
  · exact w_c6
  · exact w_c7
set_option maxRecDepth 65536 in
theorem w_t1 : (words1.take 24).all (fun c => isCode c || c.before args0 about1) = true := by decide +kernel
set_option maxRecDepth 65536 in
theorem w_t2 : ((words1.drop 24).take 24).all (fun c => isCode c || c.before args0 about1) = true := by decide +kernel
set_option maxRecDepth 65536 in
theorem w_t3 : ((words1.drop 24).drop 24).all (fun c => isCode c || c.before args0 about1) = true := by decide +kernel
theorem w_tables : (allAtoms (Jvm.Cond.code x code maxLocals ret :: tables_1)).before args0 about1 = true := by
  rw [allAtoms_all]
  show words1.all (fun c => c.before args0 about1) = true
  refine all_split ?_ w_codes
  rw [← List.take_append_drop 24 words1, List.all_append, w_t1, ← List.take_append_drop 24 (words1.drop 24), List.all_append, w_t2, w_t3]
  rfl
set_option maxRecDepth 65536 in
theorem w_case : (Jvm.Cond.and given_1 narrow_1).before args0 about1 = true := by decide +kernel
theorem w_applies : (headSpec (Jvm.Cond.code x code maxLocals ret :: tables_1) room_1).applies x e0.platform about1 = true :=
  (Spec.applies_iff w_frames).mpr ⟨w_running, w_runnable, w_alone, w_named, w_hears, w_ripe, w_room, w_tables⟩
theorem atStart : AtStart classFile x code maxLocals ret World_1 tables_1 room_1 Calls_1 rest_1 Pre_1 launch0 p0 e0 about1 theMethod args0 below0 :=
  ⟨lists_1, trivial, launch0.admits_env _ _ _, launch0.least_env, fairChoices_fair.cas, fairChoices_fair.clock, w_frames, w_args, w_heap, w_applies, trivial, trivial, w_case⟩
end start1
theorem witness_1 : WitnessClaimed_1 := ⟨start1.p0, start1.e0, start1.about1, start1.theMethod, start1.args0, start1.below0, start1.atStart⟩
end Jvm.Pilot.@@N@@
