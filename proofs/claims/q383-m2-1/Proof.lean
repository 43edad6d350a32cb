import JvmDerived
import JvmDerived.Pilot.@@N@@Statement
import JvmDerived.Pilot.@@N@@Code
set_option linter.unusedVariables false
set_option linter.unusedSimpArgs false
namespace Jvm.Pilot.@@N@@
open Jvm Jvm.ClassFile Sem Op Lib Jvm.Free Jvm.Stand Jvm.LawKit Jvm.RoadKit Bundle Jvm.Pilot.@@N@@.Jvm.D
section Own
variable {p : Program} {l : Launch} {e : Env} {R : Room} {s : State} {m : MethodId} {args : Array Value} {below : List Frame} {meth : Method} {c : Code} {T T' : State} {locs : List Loc} {cells slots : Nat}
variable {F : Outcome → State → List Loc → Prop} {Q : Option Value → Heap → List Loc → Prop} {ck sk : Nat} {g g' : JFrame}
def own_F (s : State) (ck sk : Nat) (o : Outcome) (t : State) (L : List Loc) : Prop := FrameEnd s o t L ck sk
/-- from the state T with the frame g on top the method comes to its end, and Q holds of what it returns, of the heap and of the places written -/
def own_E (p : Program) (e : Env) (below : List Frame) (F : Outcome → State → List Loc → Prop) (Q : Option Value → Heap → List Loc → Prop) (T : State) (g : JFrame) : Prop :=
  ∃ s₂ o, Steps p.tables e below (T.setTop g) s₂ ∧ s₂.status = .running ∧ Ended s₂ below o ∧ ∃ v L, o = .returned v ∧ Q v s₂.heap L ∧ F o s₂ L
theorem own_step (st : ∀ t, Steps p.tables e below (T'.setTop g') t → Steps p.tables e below (T.setTop g) t) (k : own_E p e below F Q T' g') : own_E p e below F Q T g := by
  obtain ⟨s2, o, h, r⟩ := k
  exact ⟨s2, o, st _ h, r⟩
theorem own_cast (q : g = g') (k : own_E p e below F Q T g') : own_E p e below F Q T g := q ▸ k
theorem own_ret (X : Stand p l e R s m args below meth c T locs cells slots) (hx : p.tables.exec = Jvm.exec) (hlk : meth.locks = false) {pc : Nat} {Ls : Array Slot} {w : Value} {t : FieldType} {i : Instr} {rest : List Value} (hret : meth.sig.returnType = some t)
    (hi : (i = .ireturn ∧ (t = .int ∨ t = .boolean ∨ t = .byte ∨ t = .char ∨ t = .short) ∧ ∃ z, w = .int z) ∨ (i = .lreturn ∧ t = .long ∧ ∃ z, w = .long z) ∨ (i = .dreturn ∧ t = .double ∧ ∃ z, w = .double z) ∨ (i = .freturn ∧ t = .float ∧ ∃ z, w = .float z) ∨ (i = .areturn ∧ t.isReference = true ∧ w.isRef = true))
    (hd : decode c.code pc = .ok (i, 1)) (hn : narrow t w = w) (hc : cells ≤ ck) (hs : slots ≤ sk) (hQ : Q (some w) T.heap locs) : own_E p e below (own_F s ck sk) Q T (mkF m pc Ls (w :: rest)) := by
  obtain ⟨fs, hr, hrun, hended, hW, hsame⟩ := X.leave (v := some w) (fun h => by rw [hret] at h; cases h) hlk
  exact ⟨_, _, retOut X hx hret hn hi hd hr, hrun, hended, _, _, rfl, hQ, ⟨_, rfl⟩, hW, hsame.mono hc hs⟩
theorem own_retI (X : Stand p l e R s m args below meth c T locs cells slots) (hx : p.tables.exec = Jvm.exec) (hlk : meth.locks = false) {pc : Nat} {Ls : Array Slot} {z : Int32} {t : FieldType} {rest : List Value} (hret : meth.sig.returnType = some t)
    (ht : t = .int ∨ t = .boolean ∨ t = .byte ∨ t = .char ∨ t = .short) (hd : decode c.code pc = .ok (.ireturn, 1)) (hn : narrow t (.int z) = .int z) (hc : cells ≤ ck) (hs : slots ≤ sk) (hQ : Q (some (.int z)) T.heap locs) : own_E p e below (own_F s ck sk) Q T (mkF m pc Ls (.int z :: rest)) :=
  own_ret X hx hlk hret (Or.inl ⟨rfl, ht, z, rfl⟩) hd hn hc hs hQ
theorem own_retJ (X : Stand p l e R s m args below meth c T locs cells slots) (hx : p.tables.exec = Jvm.exec) (hlk : meth.locks = false) {pc : Nat} {Ls : Array Slot} {z : Int64} {rest : List Value} (hret : meth.sig.returnType = some .long)
    (hd : decode c.code pc = .ok (.lreturn, 1)) (hc : cells ≤ ck) (hs : slots ≤ sk) (hQ : Q (some (.long z)) T.heap locs) : own_E p e below (own_F s ck sk) Q T (mkF m pc Ls (.long z :: rest)) :=
  own_ret X hx hlk hret (Or.inr (Or.inl ⟨rfl, rfl, z, rfl⟩)) hd rfl hc hs hQ
theorem own_retA (X : Stand p l e R s m args below meth c T locs cells slots) (hx : p.tables.exec = Jvm.exec) (hlk : meth.locks = false) {pc : Nat} {Ls : Array Slot} {a : Addr} {C : String} {rest : List Value} (hret : meth.sig.returnType = some (.object C))
    (hd : decode c.code pc = .ok (.areturn, 1)) (hc : cells ≤ ck) (hs : slots ≤ sk) (hQ : Q (some (.ref a)) T.heap locs) : own_E p e below (own_F s ck sk) Q T (mkF m pc Ls (.ref a :: rest)) :=
  own_ret X hx hlk hret (Or.inr (Or.inr (Or.inr (Or.inr ⟨rfl, rfl, rfl⟩)))) hd rfl hc hs hQ
theorem own_retV (X : Stand p l e R s m args below meth c T locs cells slots) (hx : p.tables.exec = Jvm.exec) (hlk : meth.locks = false) {pc : Nat} {Ls : Array Slot} (hret : meth.sig.returnType = none)
    (hd : decode c.code pc = .ok (.return_, 1)) (hc : cells ≤ ck) (hs : slots ≤ sk) (hQ : Q none T.heap locs) : own_E p e below (own_F s ck sk) Q T (mkF m pc Ls []) := by
  obtain ⟨fs, hr, hrun, hended, hW, hsame⟩ := X.leave (v := none) (fun _ => rfl) hlk
  exact ⟨_, _, X.returnOut hx hret hd hr, hrun, hended, _, _, rfl, hQ, ⟨_, rfl⟩, hW, hsame.mono hc hs⟩
/-- forks: P first, its denial second -/
theorem own_ifY (X : Stand p l e R s m args below meth c T locs cells slots) (hx : p.tables.exec = Jvm.exec) {cd : ClassFile.Cond} {x : Int32} {rest : List Value} {o : Int} {pc0 pc1 : Nat} {Ls : Array Slot} {P : Prop} [Decidable P] (hd : decode c.code pc0 = .ok (.ifCond cd o, 3)) (hP : ifCond.holds cd x = decide P)
    (ho : 0 ≤ (pc0 : Int) + o) (hp : ((pc0 : Int) + o).toNat = pc1) (hy : P → own_E p e below F Q T (mkF m pc1 Ls rest)) (hn : ¬ P → own_E p e below F Q T (mkF m (pc0 + 3) Ls rest)) : own_E p e below F Q T (mkF m pc0 Ls (.int x :: rest)) := by
  by_cases h : P
  · exact own_step (fun t k => XS.ifYes X.here hx rfl (pc0 := pc0) (pc' := pc1) rfl hd rfl (by rw [hP]; exact decide_eq_true h) ho hp k) (hy h)
  · exact own_step (fun t k => XS.ifNo X.here hx rfl hd rfl (by rw [hP]; exact decide_eq_false h) k) (hn h)
theorem own_ifN (X : Stand p l e R s m args below meth c T locs cells slots) (hx : p.tables.exec = Jvm.exec) {cd : ClassFile.Cond} {x : Int32} {rest : List Value} {o : Int} {pc0 pc1 : Nat} {Ls : Array Slot} {P : Prop} [Decidable P] (hd : decode c.code pc0 = .ok (.ifCond cd o, 3)) (hP : ifCond.holds cd x = !decide P)
    (ho : 0 ≤ (pc0 : Int) + o) (hp : ((pc0 : Int) + o).toNat = pc1) (hy : P → own_E p e below F Q T (mkF m (pc0 + 3) Ls rest)) (hn : ¬ P → own_E p e below F Q T (mkF m pc1 Ls rest)) : own_E p e below F Q T (mkF m pc0 Ls (.int x :: rest)) :=
  own_ifY X hx (P := ¬ P) hd (by rw [hP, decide_not]) ho hp hn (fun h => hy (Decidable.of_not_not h))
theorem own_icY (X : Stand p l e R s m args below meth c T locs cells slots) (hx : p.tables.exec = Jvm.exec) {cd : ClassFile.Cond} {x y : Int32} {rest : List Value} {o : Int} {pc0 pc1 : Nat} {Ls : Array Slot} {P : Prop} [Decidable P] (hd : decode c.code pc0 = .ok (.if_icmp cd o, 3)) (hP : if_icmp.holds cd x y = decide P)
    (ho : 0 ≤ (pc0 : Int) + o) (hp : ((pc0 : Int) + o).toNat = pc1) (hy : P → own_E p e below F Q T (mkF m pc1 Ls rest)) (hn : ¬ P → own_E p e below F Q T (mkF m (pc0 + 3) Ls rest)) : own_E p e below F Q T (mkF m pc0 Ls (.int y :: .int x :: rest)) := by
  by_cases h : P
  · exact own_step (fun t k => XS.icmpYes X.here hx rfl (pc0 := pc0) (pc' := pc1) rfl hd rfl (by rw [hP]; exact decide_eq_true h) ho hp k) (hy h)
  · exact own_step (fun t k => XS.icmpNo X.here hx rfl hd rfl (by rw [hP]; exact decide_eq_false h) k) (hn h)
theorem own_icN (X : Stand p l e R s m args below meth c T locs cells slots) (hx : p.tables.exec = Jvm.exec) {cd : ClassFile.Cond} {x y : Int32} {rest : List Value} {o : Int} {pc0 pc1 : Nat} {Ls : Array Slot} {P : Prop} [Decidable P] (hd : decode c.code pc0 = .ok (.if_icmp cd o, 3)) (hP : if_icmp.holds cd x y = !decide P)
    (ho : 0 ≤ (pc0 : Int) + o) (hp : ((pc0 : Int) + o).toNat = pc1) (hy : P → own_E p e below F Q T (mkF m (pc0 + 3) Ls rest)) (hn : ¬ P → own_E p e below F Q T (mkF m pc1 Ls rest)) : own_E p e below F Q T (mkF m pc0 Ls (.int y :: .int x :: rest)) :=
  own_icY X hx (P := ¬ P) hd (by rw [hP, decide_not]) ho hp hn (fun h => hy (Decidable.of_not_not h))
theorem own_i_eq (x y : Int32) : if_icmp.holds .eq x y = decide (x = y) := by
  by_cases h : x = y
  · rw [(teq h).1, decide_eq_true h]
  · rw [(feq h).1, decide_eq_false h]
theorem own_i_ne (x y : Int32) : if_icmp.holds .ne x y = !decide (x = y) := by
  by_cases h : x = y
  · rw [(teq h).2, decide_eq_true h]; rfl
  · rw [(feq h).2, decide_eq_false h]; rfl
theorem own_i_lt (x y : Int32) : if_icmp.holds .lt x y = decide (x < y) := by
  by_cases h : x < y
  · rw [(tlt h).1, decide_eq_true h]
  · rw [(flt h).1, decide_eq_false h]
theorem own_i_ge (x y : Int32) : if_icmp.holds .ge x y = !decide (x < y) := by
  by_cases h : x < y
  · rw [(tlt h).2.1, decide_eq_true h]; rfl
  · rw [(flt h).2.1, decide_eq_false h]; rfl
theorem own_i_gt (x y : Int32) : if_icmp.holds .gt x y = decide (y < x) := by
  by_cases h : y < x
  · rw [(tlt h).2.2.1, decide_eq_true h]
  · rw [(flt h).2.2.1, decide_eq_false h]
theorem own_i_le (x y : Int32) : if_icmp.holds .le x y = !decide (y < x) := by
  by_cases h : y < x
  · rw [(tlt h).2.2.2, decide_eq_true h]; rfl
  · rw [(flt h).2.2.2, decide_eq_false h]; rfl
theorem own_z_eq (x : Int32) : ifCond.holds .eq x = decide (x = 0) := (if0 _ _).trans (own_i_eq x 0)
theorem own_z_ne (x : Int32) : ifCond.holds .ne x = !decide (x = 0) := (if0 _ _).trans (own_i_ne x 0)
theorem own_z_lt (x : Int32) : ifCond.holds .lt x = decide (x < 0) := (if0 _ _).trans (own_i_lt x 0)
theorem own_z_ge (x : Int32) : ifCond.holds .ge x = !decide (x < 0) := (if0 _ _).trans (own_i_ge x 0)
theorem own_z_gt (x : Int32) : ifCond.holds .gt x = decide (0 < x) := (if0 _ _).trans (own_i_gt x 0)
theorem own_z_le (x : Int32) : ifCond.holds .le x = !decide (0 < x) := (if0 _ _).trans (own_i_le x 0)
theorem own_l_eq (x y : Int64) : ifCond.holds .eq (lcmpW x y) = decide (x = y) := (own_z_eq _).trans (decide_eq_decide.mpr (lw_eq x y))
theorem own_l_ne (x y : Int64) : ifCond.holds .ne (lcmpW x y) = !decide (x = y) := (own_z_ne _).trans (congrArg not (decide_eq_decide.mpr (lw_eq x y)))
theorem own_l_lt (x y : Int64) : ifCond.holds .lt (lcmpW x y) = decide (x < y) := (own_z_lt _).trans (decide_eq_decide.mpr (lw_lt x y))
theorem own_l_ge (x y : Int64) : ifCond.holds .ge (lcmpW x y) = !decide (x < y) := (own_z_ge _).trans (congrArg not (decide_eq_decide.mpr (lw_lt x y)))
theorem own_l_gt (x y : Int64) : ifCond.holds .gt (lcmpW x y) = decide (y < x) := (own_z_gt _).trans (decide_eq_decide.mpr (lw_gt x y))
theorem own_l_le (x y : Int64) : ifCond.holds .le (lcmpW x y) = !decide (y < x) := (own_z_le _).trans (congrArg not (decide_eq_decide.mpr (lw_gt x y)))
/-- a condition as Java's int: 1 or 0 -/
def own_b (P : Prop) [Decidable P] : Int32 := if P then 1 else 0
theorem own_b1 {P : Prop} [Decidable P] (h : P) : own_b P = 1 := if_pos h
theorem own_b0 {P : Prop} [Decidable P] (h : ¬ P) : own_b P = 0 := if_neg h
theorem own_b_ne (P : Prop) [Decidable P] : ifCond.holds .ne (own_b P) = decide P := by
  by_cases h : P
  · rw [own_b1 h, decide_eq_true h]; rfl
  · rw [own_b0 h, decide_eq_false h]; rfl
theorem own_b_eq (P : Prop) [Decidable P] : ifCond.holds .eq (own_b P) = !decide P := by
  by_cases h : P
  · rw [own_b1 h, decide_eq_true h]; rfl
  · rw [own_b0 h, decide_eq_false h]; rfl
theorem own_bn (P : Prop) [Decidable P] : narrow .boolean (.int (own_b P)) = .int (own_b P) := by
  by_cases h : P
  · rw [own_b1 h]; rfl
  · rw [own_b0 h]; rfl
end Own
def own_min (x y : Int64) : Int64 := if y < x then y else x
def own_max (x y : Int64) : Int64 := if x < y then y else x
def own_size (x y : Int64) : Int64 := if 0 < (y - x) + (1 : Int64) then (y - x) + (1 : Int64) else 9223372036854775807
def own_exp (x y : Int64) : Int64 := if x < 0 then (if x + (9223372036854775806 : Int64) < y then 9223372036854775807 else (y - x) + (1 : Int64)) else if x = 0 then (if y = 9223372036854775807 then 9223372036854775807 else (y - x) + (1 : Int64)) else (y - x) + (1 : Int64)
theorem own_mm (x y : Int64) : (own_min x y).toInt ≤ (own_max x y).toInt := by
  unfold own_min own_max; simp only [Int64.lt_iff_toInt_lt]
  split <;> split <;> omega
theorem own_near (x : Int64) (k : Int32) : (x ||| (-9223372036854775808 : Int64)).toInt ≤ (((x ||| (-9223372036854775808 : Int64)) + (9223372036854775805 : Int64)) + (k &&& (3 : Int32)).toInt64).toInt := by
  have h1 := (c_orSL x (-9223372036854775808 : Int64)).2.2 (by decide)
  generalize (x ||| (-9223372036854775808 : Int64)) = a at *
  have h2 := c_and k 3 (by decide)
  have k3 : (3 : Int32).toInt = 3 := by decide
  have k4 : (9223372036854775805 : Int64).toInt = 9223372036854775805 := by decide
  have d1 := c_ladd a 9223372036854775805
  have d2 := c_ladd (a + 9223372036854775805) (k &&& 3).toInt64
  rw [c_i2l] at d2
  have g1 := (a + 9223372036854775805).toInt_lt; have g2 := (a + 9223372036854775805).le_toInt
  have g3 := ((a + 9223372036854775805) + (k &&& 3).toInt64).toInt_lt; have g4 := ((a + 9223372036854775805) + (k &&& 3).toInt64).le_toInt
  have g5 := a.le_toInt
  omega
theorem own_law (x y : Int64) (h : x.toInt ≤ y.toInt) : own_size x y = own_exp x y := by
  have h1 := x.toInt_lt; have h2 := y.toInt_lt; have h3 := x.le_toInt; have h4 := y.le_toInt
  have a1 := c_lsub y x; have a2 := (y - x).toInt_lt; have a3 := (y - x).le_toInt
  have b1 := c_ladd (y - x) 1; have b2 := ((y - x) + 1).toInt_lt; have b3 := ((y - x) + 1).le_toInt
  have d1 := c_ladd x 9223372036854775806; have d2 := (x + 9223372036854775806).toInt_lt; have d3 := (x + 9223372036854775806).le_toInt
  have k1 : (1 : Int64).toInt = 1 := by decide
  have k0 : (0 : Int64).toInt = 0 := by decide
  have k2 : (9223372036854775806 : Int64).toInt = 9223372036854775806 := by decide
  have k3 : (9223372036854775807 : Int64).toInt = 9223372036854775807 := by decide
  unfold own_size own_exp
  simp only [Int64.lt_iff_toInt_lt, ← Int64.toInt_inj]
  repeat' split
  all_goals first | rfl | omega
theorem own_ef1 (m : MethodId) (x0 : Int64) (x1 : Int64) : entryFrame m #[(.long x0), (.long x1)] 4 = mkF m 0 #[.val (.long x0), .second, .val (.long x1), .second] [] := by first | (simp [entryFrame, mkF, argsToLocals, Value.category]; done) | rfl
def own_Q1 (Z : State) (x0 : Int64) (x1 : Int64) (h0 : Heap) (n0 : Nat) (v : Option Value) (h : Heap) (L : List Loc) : Prop := v = some (.long (own_min x0 x1)) ∧ Fr n0 L ∧ h = h0
theorem own_pn_1 : plainFor (⟨"java/lang/Math", "min", "(JJ)J"⟩ : MethodName) = true := by decide +kernel
theorem own_d1_0 : decode jdk_29_method_70_code 0 = .ok (.lload_n 0, 1) := by decide +kernel
theorem own_d1_1 : decode jdk_29_method_70_code 1 = .ok (.lload_n 2, 1) := by decide +kernel
theorem own_d1_2 : decode jdk_29_method_70_code 2 = .ok (.lcmp, 1) := by decide +kernel
theorem own_d1_3 : decode jdk_29_method_70_code 3 = .ok (.ifCond .gt 7, 3) := by decide +kernel
theorem own_d1_10 : decode jdk_29_method_70_code 10 = .ok (.lload_n 2, 1) := by decide +kernel
theorem own_d1_11 : decode jdk_29_method_70_code 11 = .ok (.lreturn, 1) := by decide +kernel
theorem own_d1_6 : decode jdk_29_method_70_code 6 = .ok (.lload_n 0, 1) := by decide +kernel
theorem own_d1_7 : decode jdk_29_method_70_code 7 = .ok (.goto 4, 3) := by decide +kernel
set_option maxRecDepth 65536 in
set_option maxHeartbeats 40000000 in
theorem own_rm1 (l : Launch) (Z : State) (a0 : Array Value) (hw : ∀ d ∈ tables_1, d.before a0 Z = true) (ws : List Jvm.Cond) (x0 : Int64) (x1 : Int64) (h0 : Heap) (n0 : Nat) (Z0 : n0 ≤ h0.size)  :
    MetFree l (⟨"java/lang/Math", "min", "(JJ)J"⟩ : MethodName) (head1 (Jvm.Cond.code (⟨"java/lang/Math", "min", "(JJ)J"⟩ : MethodName) jdk_29_method_70_code 4 (some .long) :: ws) ({ frames := 0, cells := 0, slots := 0, locals := 0 } : Room)) (fun aU U => aU = #[(.long x0), (.long x1)] ∧ Z.Warmed39 U.vm ∧ U.heap = h0) (fun _ _ _ _ _ => True) (fun _ U o U' => ∃ v L, o = .returned v ∧ own_Q1 Z x0 x1 h0 n0 v U'.heap L ∧ FrameEnd U o U' L 0 0) := by
  refine MetFree.of_bodySF own_pn_1 hisR ?_
  intro p e s m args below meth c s₁ Bd hml0 hP hK
  obtain ⟨rfl, hZ, hh⟩ := hP
  have hx := Bd.exec
  have hby := Bd.bytes
  have hml : c.maxLocals = 4 := hml0
  have hown : s.vm.findClass "java/lang/Math" = some m.cls := findClass_of_methodNamed Bd.named
  have hnm := (name_of_methodNamed Bd.named Bd.method).1
  have hlk : meth.locks = false := Bd.notSynchronized
  have hret := Bd.returns
  have X0 : Stand p l e ({ frames := 0, cells := 0, slots := 0, locals := 0 } : Room) s m #[(.long x0), (.long x1)] below meth c s₁ [] 0 0 := Stand.of_body Bd
  have e0 : s₁.heap = h0 := by rw [← hh, Bd.state]; rfl
  have N0 := Fr.nil n0
  have K0 := Keep.refl h0 ([] : List Addr)
  show own_E p e below (own_F s 0 0) (own_Q1 Z x0 x1 h0 n0) s₁ (entryFrame m #[(.long x0), (.long x1)] 4)
  refine own_cast (own_ef1 m x0 x1) ?_
  refine own_step (g' := (mkF m 1 #[.val (.long x0), .second, .val (.long x1), .second] [(.long x0)])) (fun _ k => XS.lloadN X0.here hx rfl (hb hby own_d1_0) rfl k) ?_
  refine own_step (g' := (mkF m 2 #[.val (.long x0), .second, .val (.long x1), .second] [(.long x1), (.long x0)])) (fun _ k => XS.lloadN X0.here hx rfl (hb hby own_d1_1) rfl k) ?_
  refine own_step (g' := (mkF m 3 #[.val (.long x0), .second, .val (.long x1), .second] [(.int (lcmpW x0 x1))])) (fun _ k => XS.lcmp X0.here hx rfl (hb hby own_d1_2) rfl k) ?_
  refine own_ifY X0 hx (P := (x1 < x0)) (hb hby own_d1_3) (own_l_gt x0 x1) (by decide) (pc1 := 10) (by decide) (fun hc3 => ?_) (fun hc3 => ?_)
  · show own_E p e below (own_F s 0 0) (own_Q1 Z x0 x1 h0 n0) s₁ (mkF m 10 #[.val (.long x0), .second, .val (.long x1), .second] [])
    refine own_step (g' := (mkF m 11 #[.val (.long x0), .second, .val (.long x1), .second] [(.long x1)])) (fun _ k => XS.lloadN X0.here hx rfl (hb hby own_d1_10) rfl k) ?_
    exact own_retJ X0 hx hlk hret (hb hby own_d1_11) (by decide) (by decide) (by show own_Q1 Z x0 x1 h0 n0 (some (.long x1)) s₁.heap _; rw [e0]; exact ⟨by simp only [own_min, if_pos hc3], N0, rfl⟩)
  · show own_E p e below (own_F s 0 0) (own_Q1 Z x0 x1 h0 n0) s₁ (mkF m 6 #[.val (.long x0), .second, .val (.long x1), .second] [])
    refine own_step (g' := (mkF m 7 #[.val (.long x0), .second, .val (.long x1), .second] [(.long x0)])) (fun _ k => XS.lloadN X0.here hx rfl (hb hby own_d1_6) rfl k) ?_
    refine own_step (g' := (mkF m 11 #[.val (.long x0), .second, .val (.long x1), .second] [(.long x0)])) (fun _ k => XS.goto X0.here hx rfl (pc0 := 7) (pc' := 11) rfl (hb hby own_d1_7) (by decide) (by decide) k) ?_
    exact own_retJ X0 hx hlk hret (hb hby own_d1_11) (by decide) (by decide) (by show own_Q1 Z x0 x1 h0 n0 (some (.long x0)) s₁.heap _; rw [e0]; exact ⟨by simp only [own_min, if_neg hc3], N0, rfl⟩)
theorem own_ef2 (m : MethodId) (x0 : Int64) (x1 : Int64) : entryFrame m #[(.long x0), (.long x1)] 4 = mkF m 0 #[.val (.long x0), .second, .val (.long x1), .second] [] := by first | (simp [entryFrame, mkF, argsToLocals, Value.category]; done) | rfl
def own_Q2 (Z : State) (x0 : Int64) (x1 : Int64) (h0 : Heap) (n0 : Nat) (v : Option Value) (h : Heap) (L : List Loc) : Prop := v = some (.long (own_max x0 x1)) ∧ Fr n0 L ∧ h = h0
theorem own_pn_2 : plainFor (⟨"java/lang/Math", "max", "(JJ)J"⟩ : MethodName) = true := by decide +kernel
theorem own_d2_0 : decode jdk_29_method_66_code 0 = .ok (.lload_n 0, 1) := by decide +kernel
theorem own_d2_1 : decode jdk_29_method_66_code 1 = .ok (.lload_n 2, 1) := by decide +kernel
theorem own_d2_2 : decode jdk_29_method_66_code 2 = .ok (.lcmp, 1) := by decide +kernel
theorem own_d2_3 : decode jdk_29_method_66_code 3 = .ok (.ifCond .lt 7, 3) := by decide +kernel
theorem own_d2_10 : decode jdk_29_method_66_code 10 = .ok (.lload_n 2, 1) := by decide +kernel
theorem own_d2_11 : decode jdk_29_method_66_code 11 = .ok (.lreturn, 1) := by decide +kernel
theorem own_d2_6 : decode jdk_29_method_66_code 6 = .ok (.lload_n 0, 1) := by decide +kernel
theorem own_d2_7 : decode jdk_29_method_66_code 7 = .ok (.goto 4, 3) := by decide +kernel
set_option maxRecDepth 65536 in
set_option maxHeartbeats 40000000 in
theorem own_rm2 (l : Launch) (Z : State) (a0 : Array Value) (hw : ∀ d ∈ tables_1, d.before a0 Z = true) (ws : List Jvm.Cond) (x0 : Int64) (x1 : Int64) (h0 : Heap) (n0 : Nat) (Z0 : n0 ≤ h0.size)  :
    MetFree l (⟨"java/lang/Math", "max", "(JJ)J"⟩ : MethodName) (head1 (Jvm.Cond.code (⟨"java/lang/Math", "max", "(JJ)J"⟩ : MethodName) jdk_29_method_66_code 4 (some .long) :: ws) ({ frames := 0, cells := 0, slots := 0, locals := 0 } : Room)) (fun aU U => aU = #[(.long x0), (.long x1)] ∧ Z.Warmed39 U.vm ∧ U.heap = h0) (fun _ _ _ _ _ => True) (fun _ U o U' => ∃ v L, o = .returned v ∧ own_Q2 Z x0 x1 h0 n0 v U'.heap L ∧ FrameEnd U o U' L 0 0) := by
  refine MetFree.of_bodySF own_pn_2 hisR ?_
  intro p e s m args below meth c s₁ Bd hml0 hP hK
  obtain ⟨rfl, hZ, hh⟩ := hP
  have hx := Bd.exec
  have hby := Bd.bytes
  have hml : c.maxLocals = 4 := hml0
  have hown : s.vm.findClass "java/lang/Math" = some m.cls := findClass_of_methodNamed Bd.named
  have hnm := (name_of_methodNamed Bd.named Bd.method).1
  have hlk : meth.locks = false := Bd.notSynchronized
  have hret := Bd.returns
  have X0 : Stand p l e ({ frames := 0, cells := 0, slots := 0, locals := 0 } : Room) s m #[(.long x0), (.long x1)] below meth c s₁ [] 0 0 := Stand.of_body Bd
  have e0 : s₁.heap = h0 := by rw [← hh, Bd.state]; rfl
  have N0 := Fr.nil n0
  have K0 := Keep.refl h0 ([] : List Addr)
  show own_E p e below (own_F s 0 0) (own_Q2 Z x0 x1 h0 n0) s₁ (entryFrame m #[(.long x0), (.long x1)] 4)
  refine own_cast (own_ef2 m x0 x1) ?_
  refine own_step (g' := (mkF m 1 #[.val (.long x0), .second, .val (.long x1), .second] [(.long x0)])) (fun _ k => XS.lloadN X0.here hx rfl (hb hby own_d2_0) rfl k) ?_
  refine own_step (g' := (mkF m 2 #[.val (.long x0), .second, .val (.long x1), .second] [(.long x1), (.long x0)])) (fun _ k => XS.lloadN X0.here hx rfl (hb hby own_d2_1) rfl k) ?_
  refine own_step (g' := (mkF m 3 #[.val (.long x0), .second, .val (.long x1), .second] [(.int (lcmpW x0 x1))])) (fun _ k => XS.lcmp X0.here hx rfl (hb hby own_d2_2) rfl k) ?_
  refine own_ifY X0 hx (P := (x0 < x1)) (hb hby own_d2_3) (own_l_lt x0 x1) (by decide) (pc1 := 10) (by decide) (fun hc3 => ?_) (fun hc3 => ?_)
  · show own_E p e below (own_F s 0 0) (own_Q2 Z x0 x1 h0 n0) s₁ (mkF m 10 #[.val (.long x0), .second, .val (.long x1), .second] [])
    refine own_step (g' := (mkF m 11 #[.val (.long x0), .second, .val (.long x1), .second] [(.long x1)])) (fun _ k => XS.lloadN X0.here hx rfl (hb hby own_d2_10) rfl k) ?_
    exact own_retJ X0 hx hlk hret (hb hby own_d2_11) (by decide) (by decide) (by show own_Q2 Z x0 x1 h0 n0 (some (.long x1)) s₁.heap _; rw [e0]; exact ⟨by simp only [own_max, if_pos hc3], N0, rfl⟩)
  · show own_E p e below (own_F s 0 0) (own_Q2 Z x0 x1 h0 n0) s₁ (mkF m 6 #[.val (.long x0), .second, .val (.long x1), .second] [])
    refine own_step (g' := (mkF m 7 #[.val (.long x0), .second, .val (.long x1), .second] [(.long x0)])) (fun _ k => XS.lloadN X0.here hx rfl (hb hby own_d2_6) rfl k) ?_
    refine own_step (g' := (mkF m 11 #[.val (.long x0), .second, .val (.long x1), .second] [(.long x0)])) (fun _ k => XS.goto X0.here hx rfl (pc0 := 7) (pc' := 11) rfl (hb hby own_d2_7) (by decide) (by decide) k) ?_
    exact own_retJ X0 hx hlk hret (hb hby own_d2_11) (by decide) (by decide) (by show own_Q2 Z x0 x1 h0 n0 (some (.long x0)) s₁.heap _; rw [e0]; exact ⟨by simp only [own_max, if_neg hc3], N0, rfl⟩)
theorem own_ef4 (m : MethodId) (x0 : Addr) : entryFrame m #[(.ref x0)] 1 = mkF m 0 #[.val (.ref x0)] [] := by first | (simp [entryFrame, mkF, argsToLocals, Value.category]; done) | rfl
def own_Q4 (Z : State) (a1 : Addr) (h0 : Heap) (n0 : Nat) (v : Option Value) (h : Heap) (L : List Loc) : Prop := v = none ∧ Fr n0 L ∧ h = h0
theorem own_pn_4 : plainName "java/lang/Record" = true := by first | (simp [plainName, overriddenIn]; done) | decide +kernel
theorem own_d4_0 : decode jdk_30_method_1_code 0 = .ok (.aload_n 0, 1) := by decide +kernel
theorem own_d4_1 : decode jdk_30_method_1_code 1 = .ok (.invokespecial 1, 3) := by decide +kernel
theorem own_d4_4 : decode jdk_30_method_1_code 4 = .ok (.return_, 1) := by decide +kernel
set_option maxRecDepth 65536 in
set_option maxHeartbeats 40000000 in
theorem own_rm4 (l : Launch) (Z : State) (a0 : Array Value) (hw : ∀ d ∈ tables_1, d.before a0 Z = true) (ws : List Jvm.Cond) (a1 : Addr) (h0 : Heap) (n0 : Nat) (Z0 : n0 ≤ h0.size)  :
    MetFree l (⟨"java/lang/Record", "<init>", "()V"⟩ : MethodName) (head1 (Jvm.Cond.code (⟨"java/lang/Record", "<init>", "()V"⟩ : MethodName) jdk_30_method_1_code 1 none :: ws) ({ frames := 1, cells := 0, slots := 0, locals := 12 } : Room)) (fun aU U => aU = #[(.ref a1)] ∧ Z.Warmed39 U.vm ∧ U.heap = h0) (fun _ _ _ _ _ => True) (fun _ U o U' => ∃ v L, o = .returned v ∧ own_Q4 Z a1 h0 n0 v U'.heap L ∧ FrameEnd U o U' L 0 0) := by
  refine MetFree.of_bodySF (plainFor_of_name own_pn_4) hisR ?_
  intro p e s m args below meth c s₁ Bd hml0 hP hK
  obtain ⟨rfl, hZ, hh⟩ := hP
  have hx := Bd.exec
  have hby := Bd.bytes
  have hml : c.maxLocals = 1 := hml0
  have hown : s.vm.findClass "java/lang/Record" = some m.cls := findClass_of_methodNamed Bd.named
  have hnm := (name_of_methodNamed Bd.named Bd.method).1
  have hlk : meth.locks = false := Bd.notSynchronized
  have hret := Bd.returns
  have X0 : Stand p l e ({ frames := 1, cells := 0, slots := 0, locals := 12 } : Room) s m #[(.ref a1)] below meth c s₁ [] 0 0 := Stand.of_body Bd
  have e0 : s₁.heap = h0 := by rw [← hh, Bd.state]; rfl
  have N0 := Fr.nil n0
  have K0 := Keep.refl h0 ([] : List Addr)
  show own_E p e below (own_F s 0 0) (own_Q4 Z a1 h0 n0) s₁ (entryFrame m #[(.ref a1)] 1)
  refine own_cast (own_ef4 m a1) ?_
  refine own_step (g' := (mkF m 1 #[.val (.ref a1)] [(.ref a1)])) (fun _ k => XS.aloadN X0.here hx rfl (hb hby own_d4_0) rfl rfl k) ?_
  obtain ⟨T1, X1, e1, st1⟩ := initO X0 hx hZ hown (hw _ (List.mem_of_getElem? (i := 18) rfl)) (hw _ (List.mem_of_getElem? (i := 19) rfl)) (hw _ (List.mem_of_getElem? (i := 20) rfl)) e0 (g := (mkF m 1 #[.val (.ref a1)] [(.ref a1)])) rfl (by rw [hml]; rfl) rfl (hb hby own_d4_1) (by decide) (W := 0) (by show 2 * 0 + _ ≤ _; exact Nat.le_of_eq rfl) (by decide)
  refine own_step (g' := (mkF m 4 #[.val (.ref a1)] [])) st1 ?_
  exact own_retV X1 hx hlk hret (hb hby own_d4_4) (by decide) (by decide) (by show own_Q4 Z a1 h0 n0 none T1.heap _; rw [e1]; exact ⟨rfl, N0, rfl⟩)
theorem own_ef3 (m : MethodId) (x0 : Addr) (x1 : Int64) (x2 : Int64) : entryFrame m #[(.ref x0), (.long x1), (.long x2)] 5 = mkF m 0 #[.val (.ref x0), .val (.long x1), .second, .val (.long x2), .second] [] := by first | (simp [entryFrame, mkF, argsToLocals, Value.category]; done) | rfl
def own_Q3 (Z : State) (a1 : Addr) (q0 : Int64) (q1 : Int64) (h0 : Heap) (n0 : Nat) (v : Option Value) (h : Heap) (L : List Loc) : Prop := v = none ∧ Fr n0 L ∧ Keep h0 h [a1] ∧ Exa Z h a1 "com/example/triplesmith/triplesmith/script/Sampler$UniformInteger" ∧ Fld Z h a1 "com/example/triplesmith/triplesmith/script/Sampler$UniformInteger" "low" "J" (.long q0) ∧ Fld Z h a1 "com/example/triplesmith/triplesmith/script/Sampler$UniformInteger" "high" "J" (.long q1)
theorem own_pn_3 : plainName "com/example/triplesmith/triplesmith/script/Sampler$UniformInteger" = true := by first | (simp [plainName, overriddenIn]; done) | decide +kernel
theorem own_d3_0 : decode prog_64_method_1_code 0 = .ok (.aload_n 0, 1) := by decide +kernel
theorem own_d3_1 : decode prog_64_method_1_code 1 = .ok (.invokespecial 1, 3) := by decide +kernel
theorem own_pd__28_29V : parseMethodDescriptor "()V" = some ⟨[], none⟩ := by decide +kernel
theorem own_d3_4 : decode prog_64_method_1_code 4 = .ok (.aload_n 0, 1) := by decide +kernel
theorem own_d3_5 : decode prog_64_method_1_code 5 = .ok (.lload_n 1, 1) := by decide +kernel
theorem own_d3_6 : decode prog_64_method_1_code 6 = .ok (.putfield 7, 3) := by decide +kernel
theorem own_d3_9 : decode prog_64_method_1_code 9 = .ok (.aload_n 0, 1) := by decide +kernel
theorem own_d3_10 : decode prog_64_method_1_code 10 = .ok (.lload_n 3, 1) := by decide +kernel
theorem own_d3_11 : decode prog_64_method_1_code 11 = .ok (.putfield 13, 3) := by decide +kernel
theorem own_d3_14 : decode prog_64_method_1_code 14 = .ok (.return_, 1) := by decide +kernel
set_option maxRecDepth 65536 in
set_option maxHeartbeats 40000000 in
theorem own_rm3 (l : Launch) (Z : State) (a0 : Array Value) (hw : ∀ d ∈ tables_1, d.before a0 Z = true) (ws : List Jvm.Cond) (a1 : Addr) (q0 : Int64) (q1 : Int64) (h0 : Heap) (n0 : Nat) (Z0 : n0 ≤ h0.size) (Ea : Exa Z h0 a1 "com/example/triplesmith/triplesmith/script/Sampler$UniformInteger") (ga : n0 ≤ a1) (Flow : Fld Z h0 a1 "com/example/triplesmith/triplesmith/script/Sampler$UniformInteger" "low" "J" (.long (0 : Int64))) (Fhigh : Fld Z h0 a1 "com/example/triplesmith/triplesmith/script/Sampler$UniformInteger" "high" "J" (.long (0 : Int64))) :
    MetFree l (⟨"com/example/triplesmith/triplesmith/script/Sampler$UniformInteger", "<init>", "(JJ)V"⟩ : MethodName) (head1 (Jvm.Cond.code (⟨"com/example/triplesmith/triplesmith/script/Sampler$UniformInteger", "<init>", "(JJ)V"⟩ : MethodName) prog_64_method_1_code 5 none :: ws) ({ frames := 2, cells := 0, slots := 0, locals := 24 } : Room)) (fun aU U => aU = #[(.ref a1), (.long q0), (.long q1)] ∧ Z.Warmed39 U.vm ∧ U.heap = h0) (fun _ _ _ _ _ => True) (fun _ U o U' => ∃ v L, o = .returned v ∧ own_Q3 Z a1 q0 q1 h0 n0 v U'.heap L ∧ FrameEnd U o U' L 0 0) := by
  refine MetFree.of_bodySF (plainFor_of_name own_pn_3) hisR ?_
  intro p e s m args below meth c s₁ Bd hml0 hP hK
  obtain ⟨rfl, hZ, hh⟩ := hP
  have hx := Bd.exec
  have hby := Bd.bytes
  have hml : c.maxLocals = 5 := hml0
  have hown : s.vm.findClass "com/example/triplesmith/triplesmith/script/Sampler$UniformInteger" = some m.cls := findClass_of_methodNamed Bd.named
  have hnm := (name_of_methodNamed Bd.named Bd.method).1
  have hlk : meth.locks = false := Bd.notSynchronized
  have hret := Bd.returns
  have X0 : Stand p l e ({ frames := 2, cells := 0, slots := 0, locals := 24 } : Room) s m #[(.ref a1), (.long q0), (.long q1)] below meth c s₁ [] 0 0 := Stand.of_body Bd
  have e0 : s₁.heap = h0 := by rw [← hh, Bd.state]; rfl
  have N0 := Fr.nil n0
  have K0 := Keep.refl h0 [a1]
  show own_E p e below (own_F s 0 0) (own_Q3 Z a1 q0 q1 h0 n0) s₁ (entryFrame m #[(.ref a1), (.long q0), (.long q1)] 5)
  refine own_cast (own_ef3 m a1 q0 q1) ?_
  refine own_step (g' := (mkF m 1 #[.val (.ref a1), .val (.long q0), .second, .val (.long q1), .second] [(.ref a1)])) (fun _ k => XS.aloadN X0.here hx rfl (hb hby own_d3_0) rfl rfl k) ?_
  obtain ⟨_, _, ⟨T1, L1, k1, n1⟩, -, X1, ⟨Lc1, hQ1, l1, y1, z1⟩, st1⟩ := X0.specialBack hx (y := (⟨"java/lang/Record", "<init>", "()V"⟩ : MethodName)) rfl hown (mvT hZ (hw _ (List.mem_of_getElem? (i := 13) rfl))) (mvT hZ (hw _ (List.mem_of_getElem? (i := 14) rfl))) (mvT hZ (hw _ (List.mem_of_getElem? (i := 17) rfl))) (by decide) (backOf (W := 0) (own_rm4 l Z a0 hw [] a1 h0 n0 Z0 ) hZ (hw _ (List.mem_of_getElem? (i := 17) rfl)) (hw _ (List.mem_of_getElem? (i := 16) rfl)) (by decide) (by decide)) (g := (mkF m 1 #[.val (.ref a1), .val (.long q0), .second, .val (.long q1), .second] [(.ref a1)])) rfl (by rw [hml]; rfl) (Steps.refl _) (a := a1) (argsL := []) (rest := []) (lenOf own_pd__28_29V rfl) rfl (by show 2 * 0 + _ ≤ _; exact Nat.le_of_eq rfl) (hb hby own_d3_1) (fun _ _ => ⟨rfl, e0, (by decide : 0 + 0 ≤ _), (by decide : 0 + 0 ≤ _)⟩)
  dsimp only [Pt.U, Pt.locs, Pt.cells, Pt.slots] at X1 l1 y1 z1 st1 hQ1
  subst l1 y1 z1
  obtain ⟨rfl, Nq1, e1⟩ := hQ1
  have N1 := Fr.app N0 Nq1
  refine own_step (g' := (mkF m 4 #[.val (.ref a1), .val (.long q0), .second, .val (.long q1), .second] [])) (fun _ k => st1.trans k) ?_
  refine own_step (g' := (mkF m 5 #[.val (.ref a1), .val (.long q0), .second, .val (.long q1), .second] [(.ref a1)])) (fun _ k => XS.aloadN X1.here hx rfl (hb hby own_d3_4) rfl rfl k) ?_
  refine own_step (g' := (mkF m 6 #[.val (.ref a1), .val (.long q0), .second, .val (.long q1), .second] [(.long q0), (.ref a1)])) (fun _ k => XS.lloadN X1.here hx rfl (hb hby own_d3_5) rfl k) ?_
  obtain ⟨T2, h2, X2, e2, W2, st2⟩ := putF X1 hx hZ hown (host := "") (Or.inl (hw _ (List.mem_of_getElem? (i := 21) rfl))) Via.refl e1 Flow Ea (Or.inr ⟨(hw _ (List.mem_of_getElem? (i := 22) rfl)), rfl, hnm⟩) (hw _ (List.mem_of_getElem? (i := 8) rfl)) (ty := .long) (by decide) rfl rfl (g := (mkF m 6 #[.val (.ref a1), .val (.long q0), .second, .val (.long q1), .second] [(.long q0), (.ref a1)])) rfl rfl (hb hby own_d3_6)
  have Flow_2 := Flow.same W2
  have Ea_2 := Ea.wr W2
  have Fhigh_2 := Fhigh.other W2 (Or.inr (slot_ne (Or.inr (hw _ (List.mem_of_getElem? (i := 24) rfl))) (Or.inr (hw _ (List.mem_of_getElem? (i := 22) rfl))) (by decide) (t := .long) (t' := .long) (by decide) (by decide)))
  have K2 := K0.wr W2 (Or.inl (List.mem_of_getElem? (i := 0) rfl))
  have Z2 := Nat.le_trans Z0 (Keep.of_wr W2).1
  have N2 := Fr.snoc X2 N1 ga
  refine own_step (g' := (mkF m 9 #[.val (.ref a1), .val (.long q0), .second, .val (.long q1), .second] [])) st2 ?_
  refine own_step (g' := (mkF m 10 #[.val (.ref a1), .val (.long q0), .second, .val (.long q1), .second] [(.ref a1)])) (fun _ k => XS.aloadN X2.here hx rfl (hb hby own_d3_9) rfl rfl k) ?_
  refine own_step (g' := (mkF m 11 #[.val (.ref a1), .val (.long q0), .second, .val (.long q1), .second] [(.long q1), (.ref a1)])) (fun _ k => XS.lloadN X2.here hx rfl (hb hby own_d3_10) rfl k) ?_
  obtain ⟨T3, h3, X3, e3, W3, st3⟩ := putF X2 hx hZ hown (host := "") (Or.inl (hw _ (List.mem_of_getElem? (i := 23) rfl))) Via.refl e2 Fhigh_2 Ea_2 (Or.inr ⟨(hw _ (List.mem_of_getElem? (i := 24) rfl)), rfl, hnm⟩) (hw _ (List.mem_of_getElem? (i := 8) rfl)) (ty := .long) (by decide) rfl rfl (g := (mkF m 11 #[.val (.ref a1), .val (.long q0), .second, .val (.long q1), .second] [(.long q1), (.ref a1)])) rfl rfl (hb hby own_d3_11)
  have Fhigh_3 := Fhigh_2.same W3
  have Ea_3 := Ea_2.wr W3
  have Flow_2_3 := Flow_2.other W3 (Or.inr (slot_ne (Or.inr (hw _ (List.mem_of_getElem? (i := 22) rfl))) (Or.inr (hw _ (List.mem_of_getElem? (i := 24) rfl))) (by decide) (t := .long) (t' := .long) (by decide) (by decide)))
  have K3 := K2.wr W3 (Or.inl (List.mem_of_getElem? (i := 0) rfl))
  have Z3 := Nat.le_trans Z2 (Keep.of_wr W3).1
  have N3 := Fr.snoc X3 N2 ga
  refine own_step (g' := (mkF m 14 #[.val (.ref a1), .val (.long q0), .second, .val (.long q1), .second] [])) st3 ?_
  exact own_retV X3 hx hlk hret (hb hby own_d3_14) (by decide) (by decide) (by show own_Q3 Z a1 q0 q1 h0 n0 none T3.heap _; rw [e3]; exact ⟨rfl, N3, K3, Ea_3, Flow_2_3, Fhigh_3⟩)
theorem own_ef6 (m : MethodId) (x0 : Addr) : entryFrame m #[(.ref x0)] 3 = mkF m 0 #[.val (.ref x0), .unset, .unset] [] := by first | (simp [entryFrame, mkF, argsToLocals, Value.category]; done) | rfl
def own_Q6 (Z : State) (a1 : Addr) (v1 : Int64) (v2 : Int64) (h0 : Heap) (n0 : Nat) (v : Option Value) (h : Heap) (L : List Loc) : Prop := v = some (.long (own_size v1 v2)) ∧ Fr n0 L ∧ h = h0
theorem own_pn_6 : plainName "com/example/triplesmith/triplesmith/script/Sampler$UniformInteger" = true := by first | (simp [plainName, overriddenIn]; done) | decide +kernel
theorem own_d6_0 : decode prog_64_method_3_code 0 = .ok (.aload_n 0, 1) := by decide +kernel
theorem own_d6_1 : decode prog_64_method_3_code 1 = .ok (.getfield 13, 3) := by decide +kernel
theorem own_d6_4 : decode prog_64_method_3_code 4 = .ok (.aload_n 0, 1) := by decide +kernel
theorem own_d6_5 : decode prog_64_method_3_code 5 = .ok (.getfield 7, 3) := by decide +kernel
theorem own_d6_8 : decode prog_64_method_3_code 8 = .ok (.lsub, 1) := by decide +kernel
theorem own_d6_9 : decode prog_64_method_3_code 9 = .ok (.lconst 1, 1) := by decide +kernel
theorem own_d6_10 : decode prog_64_method_3_code 10 = .ok (.ladd, 1) := by decide +kernel
theorem own_d6_11 : decode prog_64_method_3_code 11 = .ok (.lstore_n 1, 1) := by decide +kernel
theorem own_d6_12 : decode prog_64_method_3_code 12 = .ok (.lload_n 1, 1) := by decide +kernel
theorem own_d6_13 : decode prog_64_method_3_code 13 = .ok (.lconst 0, 1) := by decide +kernel
theorem own_d6_14 : decode prog_64_method_3_code 14 = .ok (.lcmp, 1) := by decide +kernel
theorem own_d6_15 : decode prog_64_method_3_code 15 = .ok (.ifCond .le 7, 3) := by decide +kernel
theorem own_d6_18 : decode prog_64_method_3_code 18 = .ok (.lload_n 1, 1) := by decide +kernel
theorem own_d6_19 : decode prog_64_method_3_code 19 = .ok (.goto 6, 3) := by decide +kernel
theorem own_d6_25 : decode prog_64_method_3_code 25 = .ok (.lreturn, 1) := by decide +kernel
theorem own_d6_22 : decode prog_64_method_3_code 22 = .ok (.ldc2_w 24, 3) := by decide +kernel
set_option maxRecDepth 65536 in
set_option maxHeartbeats 40000000 in
theorem own_rm6 (l : Launch) (Z : State) (a0 : Array Value) (hw : ∀ d ∈ tables_1, d.before a0 Z = true) (ws : List Jvm.Cond) (a1 : Addr) (v1 : Int64) (v2 : Int64) (h0 : Heap) (n0 : Nat) (Z0 : n0 ≤ h0.size) (Flow_a1 : Fld Z h0 a1 "com/example/triplesmith/triplesmith/script/Sampler$UniformInteger" "low" "J" (.long v1)) (Fhigh_a1 : Fld Z h0 a1 "com/example/triplesmith/triplesmith/script/Sampler$UniformInteger" "high" "J" (.long v2)) :
    MetFree l (⟨"com/example/triplesmith/triplesmith/script/Sampler$UniformInteger", "size", "()J"⟩ : MethodName) (head1 (Jvm.Cond.code (⟨"com/example/triplesmith/triplesmith/script/Sampler$UniformInteger", "size", "()J"⟩ : MethodName) prog_64_method_3_code 3 (some .long) :: ws) ({ frames := 0, cells := 0, slots := 0, locals := 0 } : Room)) (fun aU U => aU = #[(.ref a1)] ∧ Z.Warmed39 U.vm ∧ U.heap = h0) (fun _ _ _ _ _ => True) (fun _ U o U' => ∃ v L, o = .returned v ∧ own_Q6 Z a1 v1 v2 h0 n0 v U'.heap L ∧ FrameEnd U o U' L 0 0) := by
  refine MetFree.of_bodySF (plainFor_of_name own_pn_6) hisR ?_
  intro p e s m args below meth c s₁ Bd hml0 hP hK
  obtain ⟨rfl, hZ, hh⟩ := hP
  have hx := Bd.exec
  have hby := Bd.bytes
  have hml : c.maxLocals = 3 := hml0
  have hown : s.vm.findClass "com/example/triplesmith/triplesmith/script/Sampler$UniformInteger" = some m.cls := findClass_of_methodNamed Bd.named
  have hnm := (name_of_methodNamed Bd.named Bd.method).1
  have hlk : meth.locks = false := Bd.notSynchronized
  have hret := Bd.returns
  have X0 : Stand p l e ({ frames := 0, cells := 0, slots := 0, locals := 0 } : Room) s m #[(.ref a1)] below meth c s₁ [] 0 0 := Stand.of_body Bd
  have e0 : s₁.heap = h0 := by rw [← hh, Bd.state]; rfl
  have N0 := Fr.nil n0
  have K0 := Keep.refl h0 ([] : List Addr)
  show own_E p e below (own_F s 0 0) (own_Q6 Z a1 v1 v2 h0 n0) s₁ (entryFrame m #[(.ref a1)] 3)
  refine own_cast (own_ef6 m a1) ?_
  refine own_step (g' := (mkF m 1 #[.val (.ref a1), .unset, .unset] [(.ref a1)])) (fun _ k => XS.aloadN X0.here hx rfl (hb hby own_d6_0) rfl rfl k) ?_
  obtain ⟨T1, X1, e1, st1⟩ := getF X0 hx hZ hown (host := "") (Or.inl (hw _ (List.mem_of_getElem? (i := 23) rfl))) Via.refl e0 Fhigh_a1 (g := (mkF m 1 #[.val (.ref a1), .unset, .unset] [(.ref a1)])) rfl rfl (hb hby own_d6_1)
  refine own_step (g' := (mkF m 4 #[.val (.ref a1), .unset, .unset] [(.long v2)])) st1 ?_
  refine own_step (g' := (mkF m 5 #[.val (.ref a1), .unset, .unset] [(.ref a1), (.long v2)])) (fun _ k => XS.aloadN X1.here hx rfl (hb hby own_d6_4) rfl rfl k) ?_
  obtain ⟨T2, X2, e2, st2⟩ := getF X1 hx hZ hown (host := "") (Or.inl (hw _ (List.mem_of_getElem? (i := 21) rfl))) Via.refl e1 Flow_a1 (g := (mkF m 5 #[.val (.ref a1), .unset, .unset] [(.ref a1), (.long v2)])) rfl rfl (hb hby own_d6_5)
  refine own_step (g' := (mkF m 8 #[.val (.ref a1), .unset, .unset] [(.long v1), (.long v2)])) st2 ?_
  refine own_step (g' := (mkF m 9 #[.val (.ref a1), .unset, .unset] [(.long (v2 - v1))])) (fun _ k => XS.lsub X2.here hx rfl (hb hby own_d6_8) rfl k) ?_
  refine own_step (g' := (mkF m 10 #[.val (.ref a1), .unset, .unset] [(.long (1 : Int64)), (.long (v2 - v1))])) (fun _ k => XS.lconst X2.here hx rfl (hb hby own_d6_9) k) ?_
  refine own_step (g' := (mkF m 11 #[.val (.ref a1), .unset, .unset] [(.long ((v2 - v1) + (1 : Int64)))])) (fun _ k => XS.ladd X2.here hx rfl (hb hby own_d6_10) rfl k) ?_
  refine own_step (g' := (mkF m 12 #[.val (.ref a1), .val (.long ((v2 - v1) + (1 : Int64))), .second] [])) (fun _ k => XS.lstoreN X2.here hx rfl (hb hby own_d6_11) rfl (l' := #[.val (.ref a1), .val (.long ((v2 - v1) + (1 : Int64))), .second]) rfl k) ?_
  refine own_step (g' := (mkF m 13 #[.val (.ref a1), .val (.long ((v2 - v1) + (1 : Int64))), .second] [(.long ((v2 - v1) + (1 : Int64)))])) (fun _ k => XS.lloadN X2.here hx rfl (hb hby own_d6_12) rfl k) ?_
  refine own_step (g' := (mkF m 14 #[.val (.ref a1), .val (.long ((v2 - v1) + (1 : Int64))), .second] [(.long (0 : Int64)), (.long ((v2 - v1) + (1 : Int64)))])) (fun _ k => XS.lconst X2.here hx rfl (hb hby own_d6_13) k) ?_
  refine own_step (g' := (mkF m 15 #[.val (.ref a1), .val (.long ((v2 - v1) + (1 : Int64))), .second] [(.int (lcmpW ((v2 - v1) + (1 : Int64)) (0 : Int64)))])) (fun _ k => XS.lcmp X2.here hx rfl (hb hby own_d6_14) rfl k) ?_
  refine own_ifN X2 hx (P := ((0 : Int64) < ((v2 - v1) + (1 : Int64)))) (hb hby own_d6_15) (own_l_le ((v2 - v1) + (1 : Int64)) (0 : Int64)) (by decide) (pc1 := 22) (by decide) (fun hc15 => ?_) (fun hc15 => ?_)
  · show own_E p e below (own_F s 0 0) (own_Q6 Z a1 v1 v2 h0 n0) T2 (mkF m 18 #[.val (.ref a1), .val (.long ((v2 - v1) + (1 : Int64))), .second] [])
    refine own_step (g' := (mkF m 19 #[.val (.ref a1), .val (.long ((v2 - v1) + (1 : Int64))), .second] [(.long ((v2 - v1) + (1 : Int64)))])) (fun _ k => XS.lloadN X2.here hx rfl (hb hby own_d6_18) rfl k) ?_
    refine own_step (g' := (mkF m 25 #[.val (.ref a1), .val (.long ((v2 - v1) + (1 : Int64))), .second] [(.long ((v2 - v1) + (1 : Int64)))])) (fun _ k => XS.goto X2.here hx rfl (pc0 := 19) (pc' := 25) rfl (hb hby own_d6_19) (by decide) (by decide) k) ?_
    exact own_retJ X2 hx hlk hret (hb hby own_d6_25) (by decide) (by decide) (by show own_Q6 Z a1 v1 v2 h0 n0 (some (.long ((v2 - v1) + (1 : Int64)))) T2.heap _; rw [e2]; exact ⟨by simp only [own_size, if_pos hc15], N0, rfl⟩)
  · show own_E p e below (own_F s 0 0) (own_Q6 Z a1 v1 v2 h0 n0) T2 (mkF m 22 #[.val (.ref a1), .val (.long ((v2 - v1) + (1 : Int64))), .second] [])
    refine own_step (g' := (mkF m 25 #[.val (.ref a1), .val (.long ((v2 - v1) + (1 : Int64))), .second] [(.long (9223372036854775807 : Int64))])) (fun _ k => X2.ldc2Long hx hown (mvT hZ (hw _ (List.mem_of_getElem? (i := 34) rfl))) (g := (mkF m 22 #[.val (.ref a1), .val (.long ((v2 - v1) + (1 : Int64))), .second] [])) rfl (hb hby own_d6_22) _ k) ?_
    exact own_retJ X2 hx hlk hret (hb hby own_d6_25) (by decide) (by decide) (by show own_Q6 Z a1 v1 v2 h0 n0 (some (.long (9223372036854775807 : Int64))) T2.heap _; rw [e2]; exact ⟨by simp only [own_size, if_neg hc15], N0, rfl⟩)
theorem own_ef0 (m : MethodId) (x0 : Int64) (x1 : Int64) (x2 : Int32) : entryFrame m #[(.long x0), (.long x1), (.int x2)] maxLocals = mkF m 0 #[.val (.long x0), .second, .val (.long x1), .second, .val (.int x2), .unset, .unset, .unset, .unset, .unset, .unset] [] := by first | (simp [entryFrame, mkF, argsToLocals, Value.category, maxLocals]; done) | rfl
def own_Q0 (Z : State) (x0 : Int64) (x1 : Int64) (x2 : Int32) (h0 : Heap) (n0 : Nat) (v : Option Value) (h : Heap) (L : List Loc) : Prop := v = some (.int 1) ∧ Fr n0 L
theorem own_pn_0 : plainName "com/example/triplesmith/triplesmith/script/UniformIntegerSizePinLaw" = true := by first | (simp [plainName, overriddenIn]; done) | decide +kernel
theorem own_pd__28JJ_29J : parseMethodDescriptor "(JJ)J" = some ⟨[.long, .long], some .long⟩ := by decide +kernel
theorem own_pd__28JJ_29V : parseMethodDescriptor "(JJ)V" = some ⟨[.long, .long], none⟩ := by decide +kernel
theorem own_pd__28_29J : parseMethodDescriptor "()J" = some ⟨[], some .long⟩ := by decide +kernel
set_option maxRecDepth 65536 in
set_option maxHeartbeats 40000000 in
theorem own_rm0 (l : Launch) (Z : State) (a0 : Array Value) (hw : ∀ d ∈ tables_1, d.before a0 Z = true) (ws : List Jvm.Cond) (x0 : Int64) (x1 : Int64) (x2 : Int32) (h0 : Heap) (n0 : Nat) (Z0 : n0 ≤ h0.size)  :
    MetFree l x (head1 (Jvm.Cond.code x code maxLocals ret :: ws) room_1) (fun aU U => aU = #[(.long x0), (.long x1), (.int x2)] ∧ Z.Warmed39 U.vm ∧ U.heap = h0) (fun _ _ _ _ _ => True) (fun _ U o U' => ∃ v L, o = .returned v ∧ own_Q0 Z x0 x1 x2 h0 n0 v U'.heap L ∧ FrameEnd U o U' L 16 128) := by
  refine MetFree.of_bodySF (plainFor_of_name own_pn_0) hisR ?_
  intro p e s m args below meth c s₁ Bd hml0 hP hK
  obtain ⟨rfl, hZ, hh⟩ := hP
  have hx := Bd.exec
  have hby := Bd.bytes
  have hml : c.maxLocals = 11 := hml0
  have hown : s.vm.findClass "com/example/triplesmith/triplesmith/script/UniformIntegerSizePinLaw" = some m.cls := findClass_of_methodNamed Bd.named
  have hnm := (name_of_methodNamed Bd.named Bd.method).1
  have hlk : meth.locks = false := Bd.notSynchronized
  have hret := Bd.returns
  have X0 : Stand p l e room_1 s m #[(.long x0), (.long x1), (.int x2)] below meth c s₁ [] 0 0 := Stand.of_body Bd
  have e0 : s₁.heap = h0 := by rw [← hh, Bd.state]; rfl
  have N0 := Fr.nil n0
  have K0 := Keep.refl h0 ([] : List Addr)
  show own_E p e below (own_F s 16 128) (own_Q0 Z x0 x1 x2 h0 n0) s₁ (entryFrame m #[(.long x0), (.long x1), (.int x2)] maxLocals)
  refine own_cast (own_ef0 m x0 x1 x2) ?_
  refine own_step (g' := (mkF m 1 #[.val (.long x0), .second, .val (.long x1), .second, .val (.int x2), .unset, .unset, .unset, .unset, .unset, .unset] [(.long x0)])) (fun _ k => XS.lloadN X0.here hx rfl (hb hby at_0) rfl k) ?_
  refine own_step (g' := (mkF m 2 #[.val (.long x0), .second, .val (.long x1), .second, .val (.int x2), .unset, .unset, .unset, .unset, .unset, .unset] [(.long x1), (.long x0)])) (fun _ k => XS.lloadN X0.here hx rfl (hb hby at_1) rfl k) ?_
  obtain ⟨_, _, ⟨T1, L1, k1, n1⟩, -, X1, ⟨Lc1, hQ1, l1, y1, z1⟩, st1⟩ := Jvm.LawKit.callS X0 hx (y := (⟨"java/lang/Math", "min", "(JJ)J"⟩ : MethodName)) hown (mvT hZ (hw _ (List.mem_of_getElem? (i := 0) rfl))) (mvT hZ (hw _ (List.mem_of_getElem? (i := 1) rfl))) (mvT hZ (hw _ (List.mem_of_getElem? (i := 2) rfl))) (mvT hZ (hw _ (List.mem_of_getElem? (i := 3) rfl))) (by decide) (backOf (W := 0) (own_rm1 l Z a0 hw [] x0 x1 h0 n0 Z0 ) hZ (hw _ (List.mem_of_getElem? (i := 3) rfl)) (hw _ (List.mem_of_getElem? (i := 2) rfl)) (by decide) (by decide)) (g := (mkF m 2 #[.val (.long x0), .second, .val (.long x1), .second, .val (.int x2), .unset, .unset, .unset, .unset, .unset, .unset] [(.long x1), (.long x0)])) rfl (by rw [hml]; rfl) (argsL := [(.long x0), (.long x1)]) (rest := []) (lenOf own_pd__28JJ_29J rfl) rfl (by show 2 * 0 + _ ≤ _; exact Nat.le_of_eq rfl) (hb hby at_2) (fun _ _ => ⟨rfl, e0, (by decide : 0 + 0 ≤ _), (by decide : 0 + 0 ≤ _)⟩)
  dsimp only [Pt.U, Pt.locs, Pt.cells, Pt.slots] at X1 l1 y1 z1 st1 hQ1
  subst l1 y1 z1
  obtain ⟨rfl, Nq1, e1⟩ := hQ1
  have N1 := Fr.app N0 Nq1
  refine own_step (g' := (mkF m 5 #[.val (.long x0), .second, .val (.long x1), .second, .val (.int x2), .unset, .unset, .unset, .unset, .unset, .unset] [(.long (own_min x0 x1))])) (fun _ k => st1 _ k) ?_
  refine own_step (g' := (mkF m 7 #[.val (.long x0), .second, .val (.long x1), .second, .val (.int x2), .val (.long (own_min x0 x1)), .second, .unset, .unset, .unset, .unset] [])) (fun _ k => XS.lstore X1.here hx rfl (hb hby at_5) rfl (l' := #[.val (.long x0), .second, .val (.long x1), .second, .val (.int x2), .val (.long (own_min x0 x1)), .second, .unset, .unset, .unset, .unset]) rfl k) ?_
  refine own_step (g' := (mkF m 8 #[.val (.long x0), .second, .val (.long x1), .second, .val (.int x2), .val (.long (own_min x0 x1)), .second, .unset, .unset, .unset, .unset] [(.long x0)])) (fun _ k => XS.lloadN X1.here hx rfl (hb hby at_7) rfl k) ?_
  refine own_step (g' := (mkF m 9 #[.val (.long x0), .second, .val (.long x1), .second, .val (.int x2), .val (.long (own_min x0 x1)), .second, .unset, .unset, .unset, .unset] [(.long x1), (.long x0)])) (fun _ k => XS.lloadN X1.here hx rfl (hb hby at_8) rfl k) ?_
  obtain ⟨_, _, ⟨T2, L2, k2, n2⟩, -, X2, ⟨Lc2, hQ2, l2, y2, z2⟩, st2⟩ := Jvm.LawKit.callS X1 hx (y := (⟨"java/lang/Math", "max", "(JJ)J"⟩ : MethodName)) hown (mvT hZ (hw _ (List.mem_of_getElem? (i := 4) rfl))) (mvT hZ (hw _ (List.mem_of_getElem? (i := 5) rfl))) (mvT hZ (hw _ (List.mem_of_getElem? (i := 2) rfl))) (mvT hZ (hw _ (List.mem_of_getElem? (i := 6) rfl))) (by decide) (backOf (W := 0) (own_rm2 l Z a0 hw [] x0 x1 h0 n0 Z0 ) hZ (hw _ (List.mem_of_getElem? (i := 6) rfl)) (hw _ (List.mem_of_getElem? (i := 2) rfl)) (by decide) (by decide)) (g := (mkF m 9 #[.val (.long x0), .second, .val (.long x1), .second, .val (.int x2), .val (.long (own_min x0 x1)), .second, .unset, .unset, .unset, .unset] [(.long x1), (.long x0)])) rfl (by rw [hml]; rfl) (argsL := [(.long x0), (.long x1)]) (rest := []) (lenOf own_pd__28JJ_29J rfl) rfl (by show 2 * 0 + _ ≤ _; exact Nat.le_of_eq rfl) (hb hby at_9) (fun _ _ => ⟨rfl, e1, (by decide : 0 + 0 ≤ _), (by decide : 0 + 0 ≤ _)⟩)
  dsimp only [Pt.U, Pt.locs, Pt.cells, Pt.slots] at X2 l2 y2 z2 st2 hQ2
  subst l2 y2 z2
  obtain ⟨rfl, Nq2, e2⟩ := hQ2
  have N2 := Fr.app N1 Nq2
  refine own_step (g' := (mkF m 12 #[.val (.long x0), .second, .val (.long x1), .second, .val (.int x2), .val (.long (own_min x0 x1)), .second, .unset, .unset, .unset, .unset] [(.long (own_max x0 x1))])) (fun _ k => st2 _ k) ?_
  refine own_step (g' := (mkF m 14 #[.val (.long x0), .second, .val (.long x1), .second, .val (.int x2), .val (.long (own_min x0 x1)), .second, .val (.long (own_max x0 x1)), .second, .unset, .unset] [])) (fun _ k => XS.lstore X2.here hx rfl (hb hby at_12) rfl (l' := #[.val (.long x0), .second, .val (.long x1), .second, .val (.int x2), .val (.long (own_min x0 x1)), .second, .val (.long (own_max x0 x1)), .second, .unset, .unset]) rfl k) ?_
  refine own_step (g' := (mkF m 16 #[.val (.long x0), .second, .val (.long x1), .second, .val (.int x2), .val (.long (own_min x0 x1)), .second, .val (.long (own_max x0 x1)), .second, .unset, .unset] [(.int x2)])) (fun _ k => XS.iload X2.here hx rfl (hb hby at_14) rfl k) ?_
  refine own_step (g' := (mkF m 17 #[.val (.long x0), .second, .val (.long x1), .second, .val (.int x2), .val (.long (own_min x0 x1)), .second, .val (.long (own_max x0 x1)), .second, .unset, .unset] [(.int (1 : Int32)), (.int x2)])) (fun _ k => XS.iconst X2.here hx rfl (hb hby at_16) k) ?_
  refine own_step (g' := (mkF m 18 #[.val (.long x0), .second, .val (.long x1), .second, .val (.int x2), .val (.long (own_min x0 x1)), .second, .val (.long (own_max x0 x1)), .second, .unset, .unset] [(.int (x2 &&& (1 : Int32)))])) (fun _ k => XS.iand X2.here hx rfl (hb hby at_17) rfl k) ?_
  have kj3 : (∀ (z3_0 : Int64) (z3_1 : Int64), z3_0.toInt ≤ z3_1.toInt → own_E p e below (own_F s 16 128) (own_Q0 Z x0 x1 x2 h0 n0) T2 (mkF m 44 #[.val (.long x0), .second, .val (.long x1), .second, .val (.int x2), .val (.long z3_0), .second, .val (.long z3_1), .second, .unset, .unset] [])) → own_E p e below (own_F s 16 128) (own_Q0 Z x0 x1 x2 h0 n0) T2 (mkF m 18 #[.val (.long x0), .second, .val (.long x1), .second, .val (.int x2), .val (.long (own_min x0 x1)), .second, .val (.long (own_max x0 x1)), .second, .unset, .unset] [(.int (x2 &&& (1 : Int32)))]) := by
    intro kj
    refine own_ifY X2 hx (P := ((x2 &&& (1 : Int32)) = 0)) (hb hby at_18) (own_z_eq (x2 &&& (1 : Int32))) (by decide) (pc1 := 44) (by decide) (fun hc18 => ?_) (fun hc18 => ?_)
    · show own_E p e below (own_F s 16 128) (own_Q0 Z x0 x1 x2 h0 n0) T2 (mkF m 44 #[.val (.long x0), .second, .val (.long x1), .second, .val (.int x2), .val (.long (own_min x0 x1)), .second, .val (.long (own_max x0 x1)), .second, .unset, .unset] [])
      exact kj (own_min x0 x1) (own_max x0 x1) (own_mm x0 x1)
    · show own_E p e below (own_F s 16 128) (own_Q0 Z x0 x1 x2 h0 n0) T2 (mkF m 21 #[.val (.long x0), .second, .val (.long x1), .second, .val (.int x2), .val (.long (own_min x0 x1)), .second, .val (.long (own_max x0 x1)), .second, .unset, .unset] [])
      refine own_step (g' := (mkF m 22 #[.val (.long x0), .second, .val (.long x1), .second, .val (.int x2), .val (.long (own_min x0 x1)), .second, .val (.long (own_max x0 x1)), .second, .unset, .unset] [(.long x0)])) (fun _ k => XS.lloadN X2.here hx rfl (hb hby at_21) rfl k) ?_
      refine own_step (g' := (mkF m 25 #[.val (.long x0), .second, .val (.long x1), .second, .val (.int x2), .val (.long (own_min x0 x1)), .second, .val (.long (own_max x0 x1)), .second, .unset, .unset] [(.long (-9223372036854775808 : Int64)), (.long x0)])) (fun _ k => X2.ldc2Long hx hown (mvT hZ (hw _ (List.mem_of_getElem? (i := 30) rfl))) (g := (mkF m 22 #[.val (.long x0), .second, .val (.long x1), .second, .val (.int x2), .val (.long (own_min x0 x1)), .second, .val (.long (own_max x0 x1)), .second, .unset, .unset] [(.long x0)])) rfl (hb hby at_22) _ k) ?_
      refine own_step (g' := (mkF m 26 #[.val (.long x0), .second, .val (.long x1), .second, .val (.int x2), .val (.long (own_min x0 x1)), .second, .val (.long (own_max x0 x1)), .second, .unset, .unset] [(.long (x0 ||| (-9223372036854775808 : Int64)))])) (fun _ k => XS.lor X2.here hx rfl (hb hby at_25) rfl k) ?_
      refine own_step (g' := (mkF m 28 #[.val (.long x0), .second, .val (.long x1), .second, .val (.int x2), .val (.long (x0 ||| (-9223372036854775808 : Int64))), .second, .val (.long (own_max x0 x1)), .second, .unset, .unset] [])) (fun _ k => XS.lstore X2.here hx rfl (hb hby at_26) rfl (l' := #[.val (.long x0), .second, .val (.long x1), .second, .val (.int x2), .val (.long (x0 ||| (-9223372036854775808 : Int64))), .second, .val (.long (own_max x0 x1)), .second, .unset, .unset]) rfl k) ?_
      refine own_step (g' := (mkF m 30 #[.val (.long x0), .second, .val (.long x1), .second, .val (.int x2), .val (.long (x0 ||| (-9223372036854775808 : Int64))), .second, .val (.long (own_max x0 x1)), .second, .unset, .unset] [(.long (x0 ||| (-9223372036854775808 : Int64)))])) (fun _ k => XS.lload X2.here hx rfl (hb hby at_28) rfl k) ?_
      refine own_step (g' := (mkF m 33 #[.val (.long x0), .second, .val (.long x1), .second, .val (.int x2), .val (.long (x0 ||| (-9223372036854775808 : Int64))), .second, .val (.long (own_max x0 x1)), .second, .unset, .unset] [(.long (9223372036854775805 : Int64)), (.long (x0 ||| (-9223372036854775808 : Int64)))])) (fun _ k => X2.ldc2Long hx hown (mvT hZ (hw _ (List.mem_of_getElem? (i := 31) rfl))) (g := (mkF m 30 #[.val (.long x0), .second, .val (.long x1), .second, .val (.int x2), .val (.long (x0 ||| (-9223372036854775808 : Int64))), .second, .val (.long (own_max x0 x1)), .second, .unset, .unset] [(.long (x0 ||| (-9223372036854775808 : Int64)))])) rfl (hb hby at_30) _ k) ?_
      refine own_step (g' := (mkF m 34 #[.val (.long x0), .second, .val (.long x1), .second, .val (.int x2), .val (.long (x0 ||| (-9223372036854775808 : Int64))), .second, .val (.long (own_max x0 x1)), .second, .unset, .unset] [(.long ((x0 ||| (-9223372036854775808 : Int64)) + (9223372036854775805 : Int64)))])) (fun _ k => XS.ladd X2.here hx rfl (hb hby at_33) rfl k) ?_
      refine own_step (g' := (mkF m 36 #[.val (.long x0), .second, .val (.long x1), .second, .val (.int x2), .val (.long (x0 ||| (-9223372036854775808 : Int64))), .second, .val (.long (own_max x0 x1)), .second, .unset, .unset] [(.int x2), (.long ((x0 ||| (-9223372036854775808 : Int64)) + (9223372036854775805 : Int64)))])) (fun _ k => XS.iload X2.here hx rfl (hb hby at_34) rfl k) ?_
      refine own_step (g' := (mkF m 37 #[.val (.long x0), .second, .val (.long x1), .second, .val (.int x2), .val (.long (x0 ||| (-9223372036854775808 : Int64))), .second, .val (.long (own_max x0 x1)), .second, .unset, .unset] [(.int (1 : Int32)), (.int x2), (.long ((x0 ||| (-9223372036854775808 : Int64)) + (9223372036854775805 : Int64)))])) (fun _ k => XS.iconst X2.here hx rfl (hb hby at_36) k) ?_
      refine own_step (g' := (mkF m 38 #[.val (.long x0), .second, .val (.long x1), .second, .val (.int x2), .val (.long (x0 ||| (-9223372036854775808 : Int64))), .second, .val (.long (own_max x0 x1)), .second, .unset, .unset] [(.int ((x2.toUInt32 >>> ((1 : Int32) &&& 31).toUInt32).toInt32)), (.long ((x0 ||| (-9223372036854775808 : Int64)) + (9223372036854775805 : Int64)))])) (fun _ k => XS.iushr X2.here hx rfl (hb hby at_37) rfl k) ?_
      refine own_step (g' := (mkF m 39 #[.val (.long x0), .second, .val (.long x1), .second, .val (.int x2), .val (.long (x0 ||| (-9223372036854775808 : Int64))), .second, .val (.long (own_max x0 x1)), .second, .unset, .unset] [(.int (3 : Int32)), (.int ((x2.toUInt32 >>> ((1 : Int32) &&& 31).toUInt32).toInt32)), (.long ((x0 ||| (-9223372036854775808 : Int64)) + (9223372036854775805 : Int64)))])) (fun _ k => XS.iconst X2.here hx rfl (hb hby at_38) k) ?_
      refine own_step (g' := (mkF m 40 #[.val (.long x0), .second, .val (.long x1), .second, .val (.int x2), .val (.long (x0 ||| (-9223372036854775808 : Int64))), .second, .val (.long (own_max x0 x1)), .second, .unset, .unset] [(.int (((x2.toUInt32 >>> ((1 : Int32) &&& 31).toUInt32).toInt32) &&& (3 : Int32))), (.long ((x0 ||| (-9223372036854775808 : Int64)) + (9223372036854775805 : Int64)))])) (fun _ k => XS.iand X2.here hx rfl (hb hby at_39) rfl k) ?_
      refine own_step (g' := (mkF m 41 #[.val (.long x0), .second, .val (.long x1), .second, .val (.int x2), .val (.long (x0 ||| (-9223372036854775808 : Int64))), .second, .val (.long (own_max x0 x1)), .second, .unset, .unset] [(.long ((((x2.toUInt32 >>> ((1 : Int32) &&& 31).toUInt32).toInt32) &&& (3 : Int32)).toInt64)), (.long ((x0 ||| (-9223372036854775808 : Int64)) + (9223372036854775805 : Int64)))])) (fun _ k => XS.i2l X2.here hx rfl (hb hby at_40) rfl k) ?_
      refine own_step (g' := (mkF m 42 #[.val (.long x0), .second, .val (.long x1), .second, .val (.int x2), .val (.long (x0 ||| (-9223372036854775808 : Int64))), .second, .val (.long (own_max x0 x1)), .second, .unset, .unset] [(.long (((x0 ||| (-9223372036854775808 : Int64)) + (9223372036854775805 : Int64)) + ((((x2.toUInt32 >>> ((1 : Int32) &&& 31).toUInt32).toInt32) &&& (3 : Int32)).toInt64)))])) (fun _ k => XS.ladd X2.here hx rfl (hb hby at_41) rfl k) ?_
      refine own_step (g' := (mkF m 44 #[.val (.long x0), .second, .val (.long x1), .second, .val (.int x2), .val (.long (x0 ||| (-9223372036854775808 : Int64))), .second, .val (.long (((x0 ||| (-9223372036854775808 : Int64)) + (9223372036854775805 : Int64)) + ((((x2.toUInt32 >>> ((1 : Int32) &&& 31).toUInt32).toInt32) &&& (3 : Int32)).toInt64))), .second, .unset, .unset] [])) (fun _ k => XS.lstore X2.here hx rfl (hb hby at_42) rfl (l' := #[.val (.long x0), .second, .val (.long x1), .second, .val (.int x2), .val (.long (x0 ||| (-9223372036854775808 : Int64))), .second, .val (.long (((x0 ||| (-9223372036854775808 : Int64)) + (9223372036854775805 : Int64)) + ((((x2.toUInt32 >>> ((1 : Int32) &&& 31).toUInt32).toInt32) &&& (3 : Int32)).toInt64))), .second, .unset, .unset]) rfl k) ?_
      exact kj (x0 ||| (-9223372036854775808 : Int64)) (((x0 ||| (-9223372036854775808 : Int64)) + (9223372036854775805 : Int64)) + ((((x2.toUInt32 >>> ((1 : Int32) &&& 31).toUInt32).toInt32) &&& (3 : Int32)).toInt64)) (own_near x0 _)
  refine kj3 fun z3_0 z3_1 hz3 => ?_
  show own_E p e below (own_F s 16 128) (own_Q0 Z x0 x1 x2 h0 n0) T2 (mkF m 44 #[.val (.long x0), .second, .val (.long x1), .second, .val (.int x2), .val (.long z3_0), .second, .val (.long z3_1), .second, .unset, .unset] [])
  refine own_step (g' := (mkF m 46 #[.val (.long x0), .second, .val (.long x1), .second, .val (.int x2), .val (.long z3_0), .second, .val (.long z3_1), .second, .unset, .unset] [(.long z3_0)])) (fun _ k => XS.lload X2.here hx rfl (hb hby at_44) rfl k) ?_
  refine own_step (g' := (mkF m 47 #[.val (.long x0), .second, .val (.long x1), .second, .val (.int x2), .val (.long z3_0), .second, .val (.long z3_1), .second, .unset, .unset] [(.long (0 : Int64)), (.long z3_0)])) (fun _ k => XS.lconst X2.here hx rfl (hb hby at_46) k) ?_
  refine own_step (g' := (mkF m 48 #[.val (.long x0), .second, .val (.long x1), .second, .val (.int x2), .val (.long z3_0), .second, .val (.long z3_1), .second, .unset, .unset] [(.int (lcmpW z3_0 (0 : Int64)))])) (fun _ k => XS.lcmp X2.here hx rfl (hb hby at_47) rfl k) ?_
  have kj4 : (∀ (z4_0 : Int64), z4_0 = (own_exp z3_0 z3_1) → own_E p e below (own_F s 16 128) (own_Q0 Z x0 x1 x2 h0 n0) T2 (mkF m 112 #[.val (.long x0), .second, .val (.long x1), .second, .val (.int x2), .val (.long z3_0), .second, .val (.long z3_1), .second, .val (.long z4_0), .second] [])) → own_E p e below (own_F s 16 128) (own_Q0 Z x0 x1 x2 h0 n0) T2 (mkF m 48 #[.val (.long x0), .second, .val (.long x1), .second, .val (.int x2), .val (.long z3_0), .second, .val (.long z3_1), .second, .unset, .unset] [(.int (lcmpW z3_0 (0 : Int64)))]) := by
    intro kj
    refine own_ifN X2 hx (P := (z3_0 < (0 : Int64))) (hb hby at_48) (own_l_ge z3_0 (0 : Int64)) (by decide) (pc1 := 81) (by decide) (fun hc48 => ?_) (fun hc48 => ?_)
    · show own_E p e below (own_F s 16 128) (own_Q0 Z x0 x1 x2 h0 n0) T2 (mkF m 51 #[.val (.long x0), .second, .val (.long x1), .second, .val (.int x2), .val (.long z3_0), .second, .val (.long z3_1), .second, .unset, .unset] [])
      refine own_step (g' := (mkF m 53 #[.val (.long x0), .second, .val (.long x1), .second, .val (.int x2), .val (.long z3_0), .second, .val (.long z3_1), .second, .unset, .unset] [(.long z3_1)])) (fun _ k => XS.lload X2.here hx rfl (hb hby at_51) rfl k) ?_
      refine own_step (g' := (mkF m 55 #[.val (.long x0), .second, .val (.long x1), .second, .val (.int x2), .val (.long z3_0), .second, .val (.long z3_1), .second, .unset, .unset] [(.long z3_0), (.long z3_1)])) (fun _ k => XS.lload X2.here hx rfl (hb hby at_53) rfl k) ?_
      refine own_step (g' := (mkF m 58 #[.val (.long x0), .second, .val (.long x1), .second, .val (.int x2), .val (.long z3_0), .second, .val (.long z3_1), .second, .unset, .unset] [(.long (9223372036854775806 : Int64)), (.long z3_0), (.long z3_1)])) (fun _ k => X2.ldc2Long hx hown (mvT hZ (hw _ (List.mem_of_getElem? (i := 32) rfl))) (g := (mkF m 55 #[.val (.long x0), .second, .val (.long x1), .second, .val (.int x2), .val (.long z3_0), .second, .val (.long z3_1), .second, .unset, .unset] [(.long z3_0), (.long z3_1)])) rfl (hb hby at_55) _ k) ?_
      refine own_step (g' := (mkF m 59 #[.val (.long x0), .second, .val (.long x1), .second, .val (.int x2), .val (.long z3_0), .second, .val (.long z3_1), .second, .unset, .unset] [(.long (z3_0 + (9223372036854775806 : Int64))), (.long z3_1)])) (fun _ k => XS.ladd X2.here hx rfl (hb hby at_58) rfl k) ?_
      refine own_step (g' := (mkF m 60 #[.val (.long x0), .second, .val (.long x1), .second, .val (.int x2), .val (.long z3_0), .second, .val (.long z3_1), .second, .unset, .unset] [(.int (lcmpW z3_1 (z3_0 + (9223372036854775806 : Int64))))])) (fun _ k => XS.lcmp X2.here hx rfl (hb hby at_59) rfl k) ?_
      refine own_ifN X2 hx (P := ((z3_0 + (9223372036854775806 : Int64)) < z3_1)) (hb hby at_60) (own_l_le z3_1 (z3_0 + (9223372036854775806 : Int64))) (by decide) (pc1 := 69) (by decide) (fun hc60 => ?_) (fun hc60 => ?_)
      · show own_E p e below (own_F s 16 128) (own_Q0 Z x0 x1 x2 h0 n0) T2 (mkF m 63 #[.val (.long x0), .second, .val (.long x1), .second, .val (.int x2), .val (.long z3_0), .second, .val (.long z3_1), .second, .unset, .unset] [])
        refine own_step (g' := (mkF m 66 #[.val (.long x0), .second, .val (.long x1), .second, .val (.int x2), .val (.long z3_0), .second, .val (.long z3_1), .second, .unset, .unset] [(.long (9223372036854775807 : Int64))])) (fun _ k => X2.ldc2Long hx hown (mvT hZ (hw _ (List.mem_of_getElem? (i := 33) rfl))) (g := (mkF m 63 #[.val (.long x0), .second, .val (.long x1), .second, .val (.int x2), .val (.long z3_0), .second, .val (.long z3_1), .second, .unset, .unset] [])) rfl (hb hby at_63) _ k) ?_
        refine own_step (g' := (mkF m 76 #[.val (.long x0), .second, .val (.long x1), .second, .val (.int x2), .val (.long z3_0), .second, .val (.long z3_1), .second, .unset, .unset] [(.long (9223372036854775807 : Int64))])) (fun _ k => XS.goto X2.here hx rfl (pc0 := 66) (pc' := 76) rfl (hb hby at_66) (by decide) (by decide) k) ?_
        refine own_step (g' := (mkF m 78 #[.val (.long x0), .second, .val (.long x1), .second, .val (.int x2), .val (.long z3_0), .second, .val (.long z3_1), .second, .val (.long (9223372036854775807 : Int64)), .second] [])) (fun _ k => XS.lstore X2.here hx rfl (hb hby at_76) rfl (l' := #[.val (.long x0), .second, .val (.long x1), .second, .val (.int x2), .val (.long z3_0), .second, .val (.long z3_1), .second, .val (.long (9223372036854775807 : Int64)), .second]) rfl k) ?_
        refine own_step (g' := (mkF m 112 #[.val (.long x0), .second, .val (.long x1), .second, .val (.int x2), .val (.long z3_0), .second, .val (.long z3_1), .second, .val (.long (9223372036854775807 : Int64)), .second] [])) (fun _ k => XS.goto X2.here hx rfl (pc0 := 78) (pc' := 112) rfl (hb hby at_78) (by decide) (by decide) k) ?_
        exact kj (9223372036854775807 : Int64) (by simp only [own_exp, if_pos hc48, if_pos hc60])
      · show own_E p e below (own_F s 16 128) (own_Q0 Z x0 x1 x2 h0 n0) T2 (mkF m 69 #[.val (.long x0), .second, .val (.long x1), .second, .val (.int x2), .val (.long z3_0), .second, .val (.long z3_1), .second, .unset, .unset] [])
        refine own_step (g' := (mkF m 71 #[.val (.long x0), .second, .val (.long x1), .second, .val (.int x2), .val (.long z3_0), .second, .val (.long z3_1), .second, .unset, .unset] [(.long z3_1)])) (fun _ k => XS.lload X2.here hx rfl (hb hby at_69) rfl k) ?_
        refine own_step (g' := (mkF m 73 #[.val (.long x0), .second, .val (.long x1), .second, .val (.int x2), .val (.long z3_0), .second, .val (.long z3_1), .second, .unset, .unset] [(.long z3_0), (.long z3_1)])) (fun _ k => XS.lload X2.here hx rfl (hb hby at_71) rfl k) ?_
        refine own_step (g' := (mkF m 74 #[.val (.long x0), .second, .val (.long x1), .second, .val (.int x2), .val (.long z3_0), .second, .val (.long z3_1), .second, .unset, .unset] [(.long (z3_1 - z3_0))])) (fun _ k => XS.lsub X2.here hx rfl (hb hby at_73) rfl k) ?_
        refine own_step (g' := (mkF m 75 #[.val (.long x0), .second, .val (.long x1), .second, .val (.int x2), .val (.long z3_0), .second, .val (.long z3_1), .second, .unset, .unset] [(.long (1 : Int64)), (.long (z3_1 - z3_0))])) (fun _ k => XS.lconst X2.here hx rfl (hb hby at_74) k) ?_
        refine own_step (g' := (mkF m 76 #[.val (.long x0), .second, .val (.long x1), .second, .val (.int x2), .val (.long z3_0), .second, .val (.long z3_1), .second, .unset, .unset] [(.long ((z3_1 - z3_0) + (1 : Int64)))])) (fun _ k => XS.ladd X2.here hx rfl (hb hby at_75) rfl k) ?_
        refine own_step (g' := (mkF m 78 #[.val (.long x0), .second, .val (.long x1), .second, .val (.int x2), .val (.long z3_0), .second, .val (.long z3_1), .second, .val (.long ((z3_1 - z3_0) + (1 : Int64))), .second] [])) (fun _ k => XS.lstore X2.here hx rfl (hb hby at_76) rfl (l' := #[.val (.long x0), .second, .val (.long x1), .second, .val (.int x2), .val (.long z3_0), .second, .val (.long z3_1), .second, .val (.long ((z3_1 - z3_0) + (1 : Int64))), .second]) rfl k) ?_
        refine own_step (g' := (mkF m 112 #[.val (.long x0), .second, .val (.long x1), .second, .val (.int x2), .val (.long z3_0), .second, .val (.long z3_1), .second, .val (.long ((z3_1 - z3_0) + (1 : Int64))), .second] [])) (fun _ k => XS.goto X2.here hx rfl (pc0 := 78) (pc' := 112) rfl (hb hby at_78) (by decide) (by decide) k) ?_
        exact kj ((z3_1 - z3_0) + (1 : Int64)) (by simp only [own_exp, if_pos hc48, if_neg hc60])
    · show own_E p e below (own_F s 16 128) (own_Q0 Z x0 x1 x2 h0 n0) T2 (mkF m 81 #[.val (.long x0), .second, .val (.long x1), .second, .val (.int x2), .val (.long z3_0), .second, .val (.long z3_1), .second, .unset, .unset] [])
      refine own_step (g' := (mkF m 83 #[.val (.long x0), .second, .val (.long x1), .second, .val (.int x2), .val (.long z3_0), .second, .val (.long z3_1), .second, .unset, .unset] [(.long z3_0)])) (fun _ k => XS.lload X2.here hx rfl (hb hby at_81) rfl k) ?_
      refine own_step (g' := (mkF m 84 #[.val (.long x0), .second, .val (.long x1), .second, .val (.int x2), .val (.long z3_0), .second, .val (.long z3_1), .second, .unset, .unset] [(.long (0 : Int64)), (.long z3_0)])) (fun _ k => XS.lconst X2.here hx rfl (hb hby at_83) k) ?_
      refine own_step (g' := (mkF m 85 #[.val (.long x0), .second, .val (.long x1), .second, .val (.int x2), .val (.long z3_0), .second, .val (.long z3_1), .second, .unset, .unset] [(.int (lcmpW z3_0 (0 : Int64)))])) (fun _ k => XS.lcmp X2.here hx rfl (hb hby at_84) rfl k) ?_
      refine own_ifN X2 hx (P := (z3_0 = (0 : Int64))) (hb hby at_85) (own_l_ne z3_0 (0 : Int64)) (by decide) (pc1 := 103) (by decide) (fun hc85 => ?_) (fun hc85 => ?_)
      · show own_E p e below (own_F s 16 128) (own_Q0 Z x0 x1 x2 h0 n0) T2 (mkF m 88 #[.val (.long x0), .second, .val (.long x1), .second, .val (.int x2), .val (.long z3_0), .second, .val (.long z3_1), .second, .unset, .unset] [])
        refine own_step (g' := (mkF m 90 #[.val (.long x0), .second, .val (.long x1), .second, .val (.int x2), .val (.long z3_0), .second, .val (.long z3_1), .second, .unset, .unset] [(.long z3_1)])) (fun _ k => XS.lload X2.here hx rfl (hb hby at_88) rfl k) ?_
        refine own_step (g' := (mkF m 93 #[.val (.long x0), .second, .val (.long x1), .second, .val (.int x2), .val (.long z3_0), .second, .val (.long z3_1), .second, .unset, .unset] [(.long (9223372036854775807 : Int64)), (.long z3_1)])) (fun _ k => X2.ldc2Long hx hown (mvT hZ (hw _ (List.mem_of_getElem? (i := 33) rfl))) (g := (mkF m 90 #[.val (.long x0), .second, .val (.long x1), .second, .val (.int x2), .val (.long z3_0), .second, .val (.long z3_1), .second, .unset, .unset] [(.long z3_1)])) rfl (hb hby at_90) _ k) ?_
        refine own_step (g' := (mkF m 94 #[.val (.long x0), .second, .val (.long x1), .second, .val (.int x2), .val (.long z3_0), .second, .val (.long z3_1), .second, .unset, .unset] [(.int (lcmpW z3_1 (9223372036854775807 : Int64)))])) (fun _ k => XS.lcmp X2.here hx rfl (hb hby at_93) rfl k) ?_
        refine own_ifN X2 hx (P := (z3_1 = (9223372036854775807 : Int64))) (hb hby at_94) (own_l_ne z3_1 (9223372036854775807 : Int64)) (by decide) (pc1 := 103) (by decide) (fun hc94 => ?_) (fun hc94 => ?_)
        · show own_E p e below (own_F s 16 128) (own_Q0 Z x0 x1 x2 h0 n0) T2 (mkF m 97 #[.val (.long x0), .second, .val (.long x1), .second, .val (.int x2), .val (.long z3_0), .second, .val (.long z3_1), .second, .unset, .unset] [])
          refine own_step (g' := (mkF m 100 #[.val (.long x0), .second, .val (.long x1), .second, .val (.int x2), .val (.long z3_0), .second, .val (.long z3_1), .second, .unset, .unset] [(.long (9223372036854775807 : Int64))])) (fun _ k => X2.ldc2Long hx hown (mvT hZ (hw _ (List.mem_of_getElem? (i := 33) rfl))) (g := (mkF m 97 #[.val (.long x0), .second, .val (.long x1), .second, .val (.int x2), .val (.long z3_0), .second, .val (.long z3_1), .second, .unset, .unset] [])) rfl (hb hby at_97) _ k) ?_
          refine own_step (g' := (mkF m 110 #[.val (.long x0), .second, .val (.long x1), .second, .val (.int x2), .val (.long z3_0), .second, .val (.long z3_1), .second, .unset, .unset] [(.long (9223372036854775807 : Int64))])) (fun _ k => XS.goto X2.here hx rfl (pc0 := 100) (pc' := 110) rfl (hb hby at_100) (by decide) (by decide) k) ?_
          refine own_step (g' := (mkF m 112 #[.val (.long x0), .second, .val (.long x1), .second, .val (.int x2), .val (.long z3_0), .second, .val (.long z3_1), .second, .val (.long (9223372036854775807 : Int64)), .second] [])) (fun _ k => XS.lstore X2.here hx rfl (hb hby at_110) rfl (l' := #[.val (.long x0), .second, .val (.long x1), .second, .val (.int x2), .val (.long z3_0), .second, .val (.long z3_1), .second, .val (.long (9223372036854775807 : Int64)), .second]) rfl k) ?_
          exact kj (9223372036854775807 : Int64) (by simp only [own_exp, if_neg hc48, if_pos hc85, if_pos hc94])
        · show own_E p e below (own_F s 16 128) (own_Q0 Z x0 x1 x2 h0 n0) T2 (mkF m 103 #[.val (.long x0), .second, .val (.long x1), .second, .val (.int x2), .val (.long z3_0), .second, .val (.long z3_1), .second, .unset, .unset] [])
          refine own_step (g' := (mkF m 105 #[.val (.long x0), .second, .val (.long x1), .second, .val (.int x2), .val (.long z3_0), .second, .val (.long z3_1), .second, .unset, .unset] [(.long z3_1)])) (fun _ k => XS.lload X2.here hx rfl (hb hby at_103) rfl k) ?_
          refine own_step (g' := (mkF m 107 #[.val (.long x0), .second, .val (.long x1), .second, .val (.int x2), .val (.long z3_0), .second, .val (.long z3_1), .second, .unset, .unset] [(.long z3_0), (.long z3_1)])) (fun _ k => XS.lload X2.here hx rfl (hb hby at_105) rfl k) ?_
          refine own_step (g' := (mkF m 108 #[.val (.long x0), .second, .val (.long x1), .second, .val (.int x2), .val (.long z3_0), .second, .val (.long z3_1), .second, .unset, .unset] [(.long (z3_1 - z3_0))])) (fun _ k => XS.lsub X2.here hx rfl (hb hby at_107) rfl k) ?_
          refine own_step (g' := (mkF m 109 #[.val (.long x0), .second, .val (.long x1), .second, .val (.int x2), .val (.long z3_0), .second, .val (.long z3_1), .second, .unset, .unset] [(.long (1 : Int64)), (.long (z3_1 - z3_0))])) (fun _ k => XS.lconst X2.here hx rfl (hb hby at_108) k) ?_
          refine own_step (g' := (mkF m 110 #[.val (.long x0), .second, .val (.long x1), .second, .val (.int x2), .val (.long z3_0), .second, .val (.long z3_1), .second, .unset, .unset] [(.long ((z3_1 - z3_0) + (1 : Int64)))])) (fun _ k => XS.ladd X2.here hx rfl (hb hby at_109) rfl k) ?_
          refine own_step (g' := (mkF m 112 #[.val (.long x0), .second, .val (.long x1), .second, .val (.int x2), .val (.long z3_0), .second, .val (.long z3_1), .second, .val (.long ((z3_1 - z3_0) + (1 : Int64))), .second] [])) (fun _ k => XS.lstore X2.here hx rfl (hb hby at_110) rfl (l' := #[.val (.long x0), .second, .val (.long x1), .second, .val (.int x2), .val (.long z3_0), .second, .val (.long z3_1), .second, .val (.long ((z3_1 - z3_0) + (1 : Int64))), .second]) rfl k) ?_
          exact kj ((z3_1 - z3_0) + (1 : Int64)) (by simp only [own_exp, if_neg hc48, if_pos hc85, if_neg hc94])
      · show own_E p e below (own_F s 16 128) (own_Q0 Z x0 x1 x2 h0 n0) T2 (mkF m 103 #[.val (.long x0), .second, .val (.long x1), .second, .val (.int x2), .val (.long z3_0), .second, .val (.long z3_1), .second, .unset, .unset] [])
        refine own_step (g' := (mkF m 105 #[.val (.long x0), .second, .val (.long x1), .second, .val (.int x2), .val (.long z3_0), .second, .val (.long z3_1), .second, .unset, .unset] [(.long z3_1)])) (fun _ k => XS.lload X2.here hx rfl (hb hby at_103) rfl k) ?_
        refine own_step (g' := (mkF m 107 #[.val (.long x0), .second, .val (.long x1), .second, .val (.int x2), .val (.long z3_0), .second, .val (.long z3_1), .second, .unset, .unset] [(.long z3_0), (.long z3_1)])) (fun _ k => XS.lload X2.here hx rfl (hb hby at_105) rfl k) ?_
        refine own_step (g' := (mkF m 108 #[.val (.long x0), .second, .val (.long x1), .second, .val (.int x2), .val (.long z3_0), .second, .val (.long z3_1), .second, .unset, .unset] [(.long (z3_1 - z3_0))])) (fun _ k => XS.lsub X2.here hx rfl (hb hby at_107) rfl k) ?_
        refine own_step (g' := (mkF m 109 #[.val (.long x0), .second, .val (.long x1), .second, .val (.int x2), .val (.long z3_0), .second, .val (.long z3_1), .second, .unset, .unset] [(.long (1 : Int64)), (.long (z3_1 - z3_0))])) (fun _ k => XS.lconst X2.here hx rfl (hb hby at_108) k) ?_
        refine own_step (g' := (mkF m 110 #[.val (.long x0), .second, .val (.long x1), .second, .val (.int x2), .val (.long z3_0), .second, .val (.long z3_1), .second, .unset, .unset] [(.long ((z3_1 - z3_0) + (1 : Int64)))])) (fun _ k => XS.ladd X2.here hx rfl (hb hby at_109) rfl k) ?_
        refine own_step (g' := (mkF m 112 #[.val (.long x0), .second, .val (.long x1), .second, .val (.int x2), .val (.long z3_0), .second, .val (.long z3_1), .second, .val (.long ((z3_1 - z3_0) + (1 : Int64))), .second] [])) (fun _ k => XS.lstore X2.here hx rfl (hb hby at_110) rfl (l' := #[.val (.long x0), .second, .val (.long x1), .second, .val (.int x2), .val (.long z3_0), .second, .val (.long z3_1), .second, .val (.long ((z3_1 - z3_0) + (1 : Int64))), .second]) rfl k) ?_
        exact kj ((z3_1 - z3_0) + (1 : Int64)) (by simp only [own_exp, if_neg hc48, if_neg hc85])
  refine kj4 fun z4_0 hz4 => ?_
  subst hz4
  show own_E p e below (own_F s 16 128) (own_Q0 Z x0 x1 x2 h0 n0) T2 (mkF m 112 #[.val (.long x0), .second, .val (.long x1), .second, .val (.int x2), .val (.long z3_0), .second, .val (.long z3_1), .second, .val (.long (own_exp z3_0 z3_1)), .second] [])
  obtain ⟨T5, h5, X5, e5, E5, A5, D5, -, st5⟩ := newO X2 hx hZ hown (hw _ (List.mem_of_getElem? (i := 7) rfl)) (hw _ (List.mem_of_getElem? (i := 8) rfl)) (hw _ (List.mem_of_getElem? (i := 9) rfl)) e2 (g := (mkF m 112 #[.val (.long x0), .second, .val (.long x1), .second, .val (.int x2), .val (.long z3_0), .second, .val (.long z3_1), .second, .val (.long (own_exp z3_0 z3_1)), .second] [])) rfl (hb hby at_112) (by decide) (by decide)
  obtain ⟨b5, g5⟩ : ∃ z, z = h0.size := ⟨_, rfl⟩
  rw [← g5] at A5 D5 st5
  have le_b5 : n0 ≤ b5 := Nat.le_trans Z0 (Nat.le_of_eq g5.symm)
  have sz_b5 : h0.size ≤ b5 := Nat.le_trans K0.1 (Nat.le_of_eq g5.symm)
  have Flow_b5 : Fld Z h5 b5 "com/example/triplesmith/triplesmith/script/Sampler$UniformInteger" "low" "J" (.long (0 : Int64)) := D5 (Or.inr (hw _ (List.mem_of_getElem? (i := 22) rfl))) (ty := .long) (by decide)
  have Fhigh_b5 : Fld Z h5 b5 "com/example/triplesmith/triplesmith/script/Sampler$UniformInteger" "high" "J" (.long (0 : Int64)) := D5 (Or.inr (hw _ (List.mem_of_getElem? (i := 24) rfl))) (ty := .long) (by decide)
  have K5 := K0.ext E5
  have Z5 := Nat.le_trans Z0 E5.1
  refine own_step (g' := (mkF m 115 #[.val (.long x0), .second, .val (.long x1), .second, .val (.int x2), .val (.long z3_0), .second, .val (.long z3_1), .second, .val (.long (own_exp z3_0 z3_1)), .second] [(.ref b5)])) st5 ?_
  refine own_step (g' := (mkF m 116 #[.val (.long x0), .second, .val (.long x1), .second, .val (.int x2), .val (.long z3_0), .second, .val (.long z3_1), .second, .val (.long (own_exp z3_0 z3_1)), .second] [(.ref b5), (.ref b5)])) (fun _ k => XS.dup X5.here hx rfl (hb hby at_115) rfl rfl k) ?_
  refine own_step (g' := (mkF m 118 #[.val (.long x0), .second, .val (.long x1), .second, .val (.int x2), .val (.long z3_0), .second, .val (.long z3_1), .second, .val (.long (own_exp z3_0 z3_1)), .second] [(.long z3_0), (.ref b5), (.ref b5)])) (fun _ k => XS.lload X5.here hx rfl (hb hby at_116) rfl k) ?_
  refine own_step (g' := (mkF m 120 #[.val (.long x0), .second, .val (.long x1), .second, .val (.int x2), .val (.long z3_0), .second, .val (.long z3_1), .second, .val (.long (own_exp z3_0 z3_1)), .second] [(.long z3_1), (.long z3_0), (.ref b5), (.ref b5)])) (fun _ k => XS.lload X5.here hx rfl (hb hby at_118) rfl k) ?_
  obtain ⟨_, _, ⟨T6, L6, k6, n6⟩, -, X6, ⟨Lc6, hQ6, l6, y6, z6⟩, st6⟩ := X5.specialBack hx (y := (⟨"com/example/triplesmith/triplesmith/script/Sampler$UniformInteger", "<init>", "(JJ)V"⟩ : MethodName)) rfl hown (mvT hZ (hw _ (List.mem_of_getElem? (i := 10) rfl))) (mvT hZ (hw _ (List.mem_of_getElem? (i := 11) rfl))) (mvT hZ (hw _ (List.mem_of_getElem? (i := 12) rfl))) (by decide) (backOf (W := 1) (own_rm3 l Z a0 hw [] b5 z3_0 z3_1 h5 n0 Z5 A5 le_b5 Flow_b5 Fhigh_b5) hZ (hw _ (List.mem_of_getElem? (i := 12) rfl)) (hw _ (List.mem_of_getElem? (i := 9) rfl)) (by decide) (by decide)) (g := (mkF m 120 #[.val (.long x0), .second, .val (.long x1), .second, .val (.int x2), .val (.long z3_0), .second, .val (.long z3_1), .second, .val (.long (own_exp z3_0 z3_1)), .second] [(.long z3_1), (.long z3_0), (.ref b5), (.ref b5)])) rfl (by rw [hml]; rfl) (Steps.refl _) (a := b5) (argsL := [(.long z3_0), (.long z3_1)]) (rest := [(.ref b5)]) (lenOf own_pd__28JJ_29V rfl) rfl (by show 2 * 0 + _ ≤ _; exact Nat.le_of_eq rfl) (hb hby at_120) (fun _ _ => ⟨rfl, e5, (by decide : 1 + 0 ≤ _), (by decide : 2 + 0 ≤ _)⟩)
  dsimp only [Pt.U, Pt.locs, Pt.cells, Pt.slots] at X6 l6 y6 z6 st6 hQ6
  subst l6 y6 z6
  obtain ⟨rfl, Nq6, Kc6, Q6_0, Q6_1, Q6_2⟩ := hQ6
  have N6 := Fr.app N2 Nq6
  have A5_6 := A5.keep Kc6
  have K6 := K5.trans Kc6 (allS (Or.inr sz_b5) all0)
  have Z6 := Nat.le_trans Z5 Kc6.1
  refine own_step (g' := (mkF m 123 #[.val (.long x0), .second, .val (.long x1), .second, .val (.int x2), .val (.long z3_0), .second, .val (.long z3_1), .second, .val (.long (own_exp z3_0 z3_1)), .second] [(.ref b5)])) (fun _ k => st6.trans k) ?_
  obtain ⟨cq7, kq7, q7a, q7b, q7c⟩ := isOf hZ rfl Q6_0
  obtain ⟨_, _, ⟨T7, L7, k7, n7⟩, -, X7, ⟨Lc7, hQ7, l7, y7, z7⟩, st7⟩ := X6.virtualBack hx (y := (⟨"com/example/triplesmith/triplesmith/script/Sampler$UniformInteger", "size", "()J"⟩ : MethodName)) (z := (⟨"com/example/triplesmith/triplesmith/script/Sampler$UniformInteger", "size", "()J"⟩ : MethodName)) hown (mvT hZ (hw _ (List.mem_of_getElem? (i := 25) rfl))) (mvT hZ (hw _ (List.mem_of_getElem? (i := 26) rfl))) (notFace_of_selects (args := #[]) (mvT hZ (hw _ (List.mem_of_getElem? (i := 28) rfl)))) (mvT hZ (hw _ (List.mem_of_getElem? (i := 28) rfl))) (mvT hZ (hw _ (List.mem_of_getElem? (i := 27) rfl))) (by decide) (backOf (W := 0) (own_rm6 l Z a0 hw [] b5 z3_0 z3_1 T6.heap n0 Z6 Q6_1 Q6_2) hZ (hw _ (List.mem_of_getElem? (i := 29) rfl)) (hw _ (List.mem_of_getElem? (i := 9) rfl)) (by decide) (by decide)) q7a q7c (g := (mkF m 123 #[.val (.long x0), .second, .val (.long x1), .second, .val (.int x2), .val (.long z3_0), .second, .val (.long z3_1), .second, .val (.long (own_exp z3_0 z3_1)), .second] [(.ref b5)])) rfl (by rw [hml]; rfl) (Steps.refl _) (argsL := []) (rest := []) (lenOf own_pd__28_29J rfl) rfl (by show 2 * 0 + _ ≤ _; exact Nat.le_of_eq rfl) (hb hby at_123) (fun _ _ => ⟨rfl, rfl, (by decide : 1 + 0 ≤ _), (by decide : 2 + 0 ≤ _)⟩)
  dsimp only [Pt.U, Pt.locs, Pt.cells, Pt.slots] at X7 l7 y7 z7 st7 hQ7
  subst l7 y7 z7
  obtain ⟨rfl, Nq7, e7⟩ := hQ7
  have N7 := Fr.app N6 Nq7
  refine own_step (g' := (mkF m 126 #[.val (.long x0), .second, .val (.long x1), .second, .val (.int x2), .val (.long z3_0), .second, .val (.long z3_1), .second, .val (.long (own_exp z3_0 z3_1)), .second] [(.long (own_size z3_0 z3_1))])) (fun _ k => st7.trans k) ?_
  refine own_step (g' := (mkF m 128 #[.val (.long x0), .second, .val (.long x1), .second, .val (.int x2), .val (.long z3_0), .second, .val (.long z3_1), .second, .val (.long (own_exp z3_0 z3_1)), .second] [(.long (own_exp z3_0 z3_1)), (.long (own_size z3_0 z3_1))])) (fun _ k => XS.lload X7.here hx rfl (hb hby at_126) rfl k) ?_
  refine own_step (g' := (mkF m 129 #[.val (.long x0), .second, .val (.long x1), .second, .val (.int x2), .val (.long z3_0), .second, .val (.long z3_1), .second, .val (.long (own_exp z3_0 z3_1)), .second] [(.int (lcmpW (own_size z3_0 z3_1) (own_exp z3_0 z3_1)))])) (fun _ k => XS.lcmp X7.here hx rfl (hb hby at_128) rfl k) ?_
  refine own_ifN X7 hx (P := ((own_size z3_0 z3_1) = (own_exp z3_0 z3_1))) (hb hby at_129) (own_l_ne (own_size z3_0 z3_1) (own_exp z3_0 z3_1)) (by decide) (pc1 := 136) (by decide) (fun hc129 => ?_) (fun hc129 => ?_)
  · show own_E p e below (own_F s 16 128) (own_Q0 Z x0 x1 x2 h0 n0) T7 (mkF m 132 #[.val (.long x0), .second, .val (.long x1), .second, .val (.int x2), .val (.long z3_0), .second, .val (.long z3_1), .second, .val (.long (own_exp z3_0 z3_1)), .second] [])
    refine own_step (g' := (mkF m 133 #[.val (.long x0), .second, .val (.long x1), .second, .val (.int x2), .val (.long z3_0), .second, .val (.long z3_1), .second, .val (.long (own_exp z3_0 z3_1)), .second] [(.int (1 : Int32))])) (fun _ k => XS.iconst X7.here hx rfl (hb hby at_132) k) ?_
    refine own_step (g' := (mkF m 137 #[.val (.long x0), .second, .val (.long x1), .second, .val (.int x2), .val (.long z3_0), .second, .val (.long z3_1), .second, .val (.long (own_exp z3_0 z3_1)), .second] [(.int (1 : Int32))])) (fun _ k => XS.goto X7.here hx rfl (pc0 := 133) (pc' := 137) rfl (hb hby at_133) (by decide) (by decide) k) ?_
    exact own_retI X7 hx hlk hret (by simp) (hb hby at_137) rfl (by decide) (by decide) (by show own_Q0 Z x0 x1 x2 h0 n0 (some (.int (1 : Int32))) T7.heap _; rw [e7]; exact ⟨rfl, N7⟩)
  · show own_E p e below (own_F s 16 128) (own_Q0 Z x0 x1 x2 h0 n0) T7 (mkF m 136 #[.val (.long x0), .second, .val (.long x1), .second, .val (.int x2), .val (.long z3_0), .second, .val (.long z3_1), .second, .val (.long (own_exp z3_0 z3_1)), .second] [])
    exact absurd (own_law _ _ hz3) hc129
set_option maxRecDepth 65536 in
set_option maxHeartbeats 40000000 in
theorem own_comes {Post : Tables → Env → Array Value → State → Outcome → State → Prop} (hpost : ∀ tb e args s v u, (limb_1_1.after args s (.returned v) u = true ∧ limb_1_2.after args s (.returned v) u = true ∧ True) → FrameEnd s (.returned v) u (Jvm.fieldLocs frame_1_writes args s ++ Jvm.arrayLocs frame_1_arrays args s ++ Jvm.staticLocs frame_1_statics s) 16 128 → Post tb e args s (.returned v) u) :
    ArmFor flags0 classFile x code maxLocals ret World_1 tables_1 room_1 Calls_1 rest_1 Pre_1 Post := by
  intro l hfl _ _ p e ha hc hk s m args below hf hA hF happ hP
  obtain ⟨hcalls, hrest, hpre⟩ := hP
  obtain ⟨-, -, -, hnamed, -, -, -, hat⟩ := (Spec.applies_iff hf).mp happ
  obtain ⟨hg, hn⟩ := and_e (Cond.before_iff.mp (show (Jvm.Cond.and given_1 narrow_1).before args s = true from hpre))
  obtain ⟨q0, r0⟩ := and_e hg
  obtain ⟨q1, r1⟩ := and_e r0
  obtain ⟨q2, r2⟩ := and_e r1
  obtain ⟨w0, w1, w2, rfl⟩ : ∃ w0 w1 w2 : Value, args = #[w0, w1, w2] := by
    have hs : args.size = 3 := by simpa [Cond.value, given_1] using q0
    obtain ⟨L⟩ := args
    match L, hs with
    | [w0, w1, w2], _ => exact ⟨w0, w1, w2, rfl⟩
  have hw := fun d (hd : d ∈ tables_1) => atoms_spec (ws := Jvm.Cond.code x code maxLocals ret :: tables_1) hat d (List.mem_cons_of_mem _ hd)
  obtain ⟨i0, ei0⟩ := isL_v q1
  obtain rfl : w0 = (.long i0) := Option.some.inj ei0
  obtain ⟨i1, ei1⟩ := isL_v q2
  obtain rfl : w1 = (.long i1) := Option.some.inj ei1
  obtain ⟨i2, ei2⟩ := is_v r2
  obtain rfl : w2 = (.int i2) := Option.some.inj ei2
  obtain ⟨n, o, h1, h2, h3, _, L, rfl, ⟨rfl, N⟩, hq⟩ := own_rm0 l s _ hw tables_1 i0 i1 i2 s.heap s.heap.size (Nat.le_refl _) p e ha hc hk s m _ below hf ((Spec.applies_iff_loose hf).mp happ).1 ⟨rfl, State.Warmed39.refl s, rfl⟩ trivial
  refine ⟨n, _, h1, h2, h3, hpost _ _ _ _ _ _ ⟨Cond.after_iff.mpr rfl, Cond.after_iff.mpr (eq_i res_at (Term.int_eval (1)) rfl), trivial⟩ ⟨hq.1, hq.2.1, (hq.2.2.sift fun y hy => Or.inr (N y hy)).mono (by decide) (by decide)⟩⟩
theorem main_1_1 : Claimed_1_1 := own_comes fun _ _ _ _ _ _ h hF => ⟨h.1, hF⟩
theorem main_1_2 : Claimed_1_2 := own_comes fun _ _ _ _ _ _ h hF => ⟨h.2.1, hF⟩
end Jvm.Pilot.@@N@@
namespace Jvm.Pilot.@@N@@
open Jvm Jvm.ClassFile Sem Op Lib Jvm.Free Jvm.Stand Jvm.Pilot.@@N@@.Jvm.D
/-! MADE BY PROGRAM (witnessworld.py) out of the Statement's table words and the real class files: 12 classes; the members and pool entries that the words name. The judged class is class 1, her method 1. -/
namespace start1
open Jvm.ClassFile
def u (s : String) : CpInfo := .utf8 (stringToUtf16 s)
/-- a pool by its gaps: so many unusable entries, then the entry; so many at the end -/
def gap : Nat → List CpInfo → List CpInfo
  | 0, r => r
  | n + 1, r => .unusable :: gap n r
def poolList (es : List (Nat × CpInfo)) (last : Nat) : List CpInfo := es.foldr (fun e r => gap e.1 (e.2 :: r)) (gap last [])
def pool (es : List (Nat × CpInfo)) (last : Nat) : Array CpInfo := ⟨poolList es last⟩
def fileOf (pool : Array CpInfo) (this : Nat) (attrs : Array Attribute := #[]) (ms : Array MethodInfo := #[]) (fl : Nat := 33) (sup : Nat := 0) (ifs : Array Nat := #[]) (fds : Array FieldInfo := #[]) : ClassFile where
  minorVersion := 0
  majorVersion := 65
  constantPool := pool
  accessFlags := fl
  thisClass := this
  superClass := sup
  interfaces := ifs
  fields := fds
  methods := ms
  attributes := attrs
def plain (name : String) (sup : Option ClassId) : Class where
  name := name
  kind := .ordinary
  loader := none
  accessFlags := 33
  super := sup
  interfaces := #[]
  cf := none
  fields := #[]
  methods := #[]
  instanceTypes := #[]
  staticTypes := #[]
  resolved := #[]
  callSites := []
  init := .initialized
  statics := none
  mirror := none

def pool0 : Array CpInfo := pool [(5, u "<init>"), (0, u "()V"), (1, .class_ 10), (1, u "java/lang/Object")] 113

def k0c0 : Code := { maxStack := 0, maxLocals := 1, code := object_method_1_code, exceptionTable := #[], attributes := #[] }
def k0m0 : Method := { name := "<init>", desc := "()V", sig := { parameters := [], returnType := none }, accessFlags := 1, code := some k0c0 }
/-- java/lang/Object -/
def k0 : Class := { plain "java/lang/Object" none with
  accessFlags := 33
  interfaces := #[]
  cf := some (fileOf pool0 8 #[] #[{ accessFlags := 1, nameIndex := 5, descriptorIndex := 6, attributes := #[] }] 33 0 #[] #[])
  fields := #[]
  methods := #[k0m0]
  instanceTypes := #[]
  staticTypes := #[]
  resolved := Array.replicate 124 none
  statics := none }

def pool1 : Array CpInfo := pool [(2, .class_ 4), (1, u "java/lang/Object"), (0, u "<init>"), (0, u "()V"), (0, .methodref 8 9), (0, .class_ 10), (0, .nameAndType 11 12), (0, u "java/lang/Math"), (0, u "min"), (0, u "(JJ)J"), (0, .methodref 8 14), (0, .nameAndType 15 12), (0, u "max"), (2, .long 9223372036854775808), (1, .long 9223372036854775805), (1, .long 9223372036854775806), (1, .long 9223372036854775807), (1, .class_ 27), (0, u "com/example/triplesmith/triplesmith/script/Sampler$UniformInteger"), (0, .methodref 26 29), (0, .nameAndType 5 30), (0, u "(JJ)V"), (0, .methodref 26 32), (0, .nameAndType 33 34), (0, u "size"), (0, u "()J"), (0, .class_ 36), (0, u "com/example/triplesmith/triplesmith/script/UniformIntegerSizePinLaw"), (2, u "law"), (0, u "(JJI)Z")] 7

def k1m0 : Method := { name := "<init>", desc := "()V", sig := { parameters := [], returnType := none }, accessFlags := 1, code := none }
def k1c1 : Code := { maxStack := 6, maxLocals := 11, code := code, exceptionTable := #[], attributes := #[] }
def k1m1 : Method := { name := "law", desc := "(JJI)Z", sig := { parameters := [.long, .long, .int], returnType := some .boolean }, accessFlags := 9, code := some k1c1 }
/-- com/example/triplesmith/triplesmith/script/UniformIntegerSizePinLaw -/
def k1 : Class := { plain "com/example/triplesmith/triplesmith/script/UniformIntegerSizePinLaw" (some 0) with
  accessFlags := 49
  interfaces := #[]
  cf := some (fileOf pool1 35 #[] #[{ accessFlags := 1, nameIndex := 5, descriptorIndex := 6, attributes := #[] }, { accessFlags := 9, nameIndex := 39, descriptorIndex := 40, attributes := #[] }] 49 2 #[] #[])
  fields := #[]
  methods := #[k1m0, k1m1]
  instanceTypes := #[]
  staticTypes := #[]
  resolved := Array.replicate 48 none
  statics := none }

def pool2 : Array CpInfo := pool [(1, .class_ 2), (0, u "java/lang/Math"), (1, .class_ 6), (1, u "java/lang/Object"), (0, u "<init>"), (0, u "()V"), (89, .class_ 100), (1, u "java/lang/Math$RandomNumberGeneratorHolder"), (20, u "(JJ)J"), (50, u "negativeZeroFloatBits"), (0, u "J"), (2, u "negativeZeroDoubleBits"), (21, u "max"), (2, u "min"), (43, u "$assertionsDisabled"), (0, u "Z"), (91, u "twoToTheDoubleScaleDown"), (0, u "D"), (4, u "twoToTheDoubleScaleUp"), (9, u "E"), (3, u "PI"), (2, u "TAU"), (2, u "DEGREES_TO_RADIANS"), (0, u "RADIANS_TO_DEGREES")] 94

def k2m0 : Method := { name := "<init>", desc := "()V", sig := { parameters := [], returnType := none }, accessFlags := 2, code := none }
def k2c1 : Code := { maxStack := 4, maxLocals := 4, code := jdk_29_method_66_code, exceptionTable := #[], attributes := #[] }
def k2m1 : Method := { name := "max", desc := "(JJ)J", sig := { parameters := [.long, .long], returnType := some .long }, accessFlags := 9, code := some k2c1 }
def k2c2 : Code := { maxStack := 4, maxLocals := 4, code := jdk_29_method_70_code, exceptionTable := #[], attributes := #[] }
def k2m2 : Method := { name := "min", desc := "(JJ)J", sig := { parameters := [.long, .long], returnType := some .long }, accessFlags := 9, code := some k2c2 }
/-- java/lang/Math -/
def k2 : Class := { plain "java/lang/Math" (some 0) with
  accessFlags := 49
  interfaces := #[]
  cf := some (fileOf pool2 1 #[.nestMembers #[98]] #[{ accessFlags := 2, nameIndex := 7, descriptorIndex := 8, attributes := #[] }, { accessFlags := 9, nameIndex := 198, descriptorIndex := 121, attributes := #[] }, { accessFlags := 9, nameIndex := 201, descriptorIndex := 121, attributes := #[] }] 49 4 #[] #[{ accessFlags := 25, nameIndex := 354, descriptorIndex := 339, attributes := #[] }, { accessFlags := 25, nameIndex := 358, descriptorIndex := 339, attributes := #[] }, { accessFlags := 25, nameIndex := 361, descriptorIndex := 339, attributes := #[] }, { accessFlags := 26, nameIndex := 364, descriptorIndex := 339, attributes := #[] }, { accessFlags := 26, nameIndex := 365, descriptorIndex := 339, attributes := #[] }, { accessFlags := 26, nameIndex := 172, descriptorIndex := 173, attributes := #[] }, { accessFlags := 26, nameIndex := 176, descriptorIndex := 173, attributes := #[] }, { accessFlags := 8, nameIndex := 344, descriptorIndex := 339, attributes := #[] }, { accessFlags := 8, nameIndex := 338, descriptorIndex := 339, attributes := #[] }, { accessFlags := 4120, nameIndex := 245, descriptorIndex := 246, attributes := #[] }])
  fields := #[{ name := "E", type := .double, accessFlags := 25, slot := 0, constantValue := 0 }, { name := "PI", type := .double, accessFlags := 25, slot := 1, constantValue := 0 }, { name := "TAU", type := .double, accessFlags := 25, slot := 2, constantValue := 0 }, { name := "DEGREES_TO_RADIANS", type := .double, accessFlags := 26, slot := 3, constantValue := 0 }, { name := "RADIANS_TO_DEGREES", type := .double, accessFlags := 26, slot := 4, constantValue := 0 }, { name := "negativeZeroFloatBits", type := .long, accessFlags := 26, slot := 5, constantValue := 0 }, { name := "negativeZeroDoubleBits", type := .long, accessFlags := 26, slot := 6, constantValue := 0 }, { name := "twoToTheDoubleScaleUp", type := .double, accessFlags := 8, slot := 7, constantValue := 0 }, { name := "twoToTheDoubleScaleDown", type := .double, accessFlags := 8, slot := 8, constantValue := 0 }, { name := "$assertionsDisabled", type := .boolean, accessFlags := 4120, slot := 9, constantValue := 0 }]
  methods := #[k2m0, k2m1, k2m2]
  instanceTypes := #[]
  staticTypes := #[.double, .double, .double, .double, .double, .long, .long, .double, .double, .boolean]
  resolved := Array.replicate 460 none
  statics := none }

def pool3 : Array CpInfo := pool [(1, .methodref 2 3), (0, .class_ 4), (0, .nameAndType 5 6), (0, u "java/lang/Object"), (0, u "<init>"), (0, u "()V"), (0, .class_ 8), (0, u "java/lang/Record")] 13

def k3c0 : Code := { maxStack := 1, maxLocals := 1, code := jdk_30_method_1_code, exceptionTable := #[], attributes := #[] }
def k3m0 : Method := { name := "<init>", desc := "()V", sig := { parameters := [], returnType := none }, accessFlags := 4, code := some k3c0 }
/-- java/lang/Record -/
def k3 : Class := { plain "java/lang/Record" (some 0) with
  accessFlags := 1057
  interfaces := #[]
  cf := some (fileOf pool3 7 #[] #[{ accessFlags := 4, nameIndex := 5, descriptorIndex := 6, attributes := #[] }] 1057 2 #[] #[])
  fields := #[]
  methods := #[k3m0]
  instanceTypes := #[]
  staticTypes := #[]
  resolved := Array.replicate 22 none
  statics := none }

def pool4 : Array CpInfo := pool [(1, .class_ 2), (0, u "com/example/triplesmith/triplesmith/script/Sampler"), (0, .class_ 4), (0, u "java/lang/Object"), (0, u "UNCOUNTED"), (0, u "J"), (12, .class_ 20), (0, u "com/example/triplesmith/triplesmith/script/Sampler$Distinct"), (0, .class_ 22), (0, u "com/example/triplesmith/triplesmith/script/Sampler$Dictionary"), (0, .class_ 24), (0, u "com/example/triplesmith/triplesmith/script/Sampler$Dates"), (0, .class_ 26), (0, u "com/example/triplesmith/triplesmith/script/Sampler$Normal"), (0, .class_ 28), (0, u "com/example/triplesmith/triplesmith/script/Sampler$UniformInteger"), (0, .class_ 30), (0, u "com/example/triplesmith/triplesmith/script/Sampler$Counter"), (0, .class_ 32), (0, u "com/example/triplesmith/triplesmith/script/Sampler$Counter$1"), (0, .class_ 34), (0, u "com/example/triplesmith/triplesmith/script/Sampler$Constant"), (0, .class_ 36), (0, u "com/example/triplesmith/triplesmith/script/Sampler$Source")] 10

/-- com/example/triplesmith/triplesmith/script/Sampler -/
def k4 : Class := { plain "com/example/triplesmith/triplesmith/script/Sampler" (some 0) with
  accessFlags := 1536
  interfaces := #[]
  cf := some (fileOf pool4 1 #[.nestMembers #[19, 21, 23, 25, 27, 29, 31, 33, 35]] #[] 1536 3 #[] #[{ accessFlags := 25, nameIndex := 5, descriptorIndex := 6, attributes := #[] }])
  fields := #[{ name := "UNCOUNTED", type := .long, accessFlags := 25, slot := 0, constantValue := 0 }]
  methods := #[]
  instanceTypes := #[]
  staticTypes := #[.long]
  resolved := Array.replicate 47 none
  statics := none }

def pool5 : Array CpInfo := pool [(1, .methodref 2 3), (0, .class_ 4), (0, .nameAndType 5 6), (0, u "java/lang/Record"), (0, u "<init>"), (0, u "()V"), (0, .fieldref 8 9), (0, .class_ 10), (0, .nameAndType 11 12), (0, u "com/example/triplesmith/triplesmith/script/Sampler$UniformInteger"), (0, u "low"), (0, u "J"), (0, .fieldref 8 14), (0, .nameAndType 15 12), (0, u "high"), (8, .long 9223372036854775807), (26, .class_ 52), (0, u "com/example/triplesmith/triplesmith/script/Sampler"), (0, u "(JJ)V"), (5, u "size"), (0, u "()J")] 45

def k5c0 : Code := { maxStack := 3, maxLocals := 5, code := prog_64_method_1_code, exceptionTable := #[], attributes := #[] }
def k5m0 : Method := { name := "<init>", desc := "(JJ)V", sig := { parameters := [.long, .long], returnType := none }, accessFlags := 1, code := some k5c0 }
def k5c1 : Code := { maxStack := 4, maxLocals := 3, code := prog_64_method_3_code, exceptionTable := #[], attributes := #[] }
def k5m1 : Method := { name := "size", desc := "()J", sig := { parameters := [], returnType := some .long }, accessFlags := 1, code := some k5c1 }
/-- com/example/triplesmith/triplesmith/script/Sampler$UniformInteger -/
def k5 : Class := { plain "com/example/triplesmith/triplesmith/script/Sampler$UniformInteger" (some 3) with
  accessFlags := 49
  interfaces := #[4]
  cf := some (fileOf pool5 8 #[.nestHost 51] #[{ accessFlags := 1, nameIndex := 5, descriptorIndex := 53, attributes := #[] }, { accessFlags := 1, nameIndex := 59, descriptorIndex := 60, attributes := #[] }] 49 2 #[51] #[{ accessFlags := 18, nameIndex := 11, descriptorIndex := 12, attributes := #[] }, { accessFlags := 18, nameIndex := 15, descriptorIndex := 12, attributes := #[] }])
  fields := #[{ name := "low", type := .long, accessFlags := 18, slot := 0, constantValue := 0 }, { name := "high", type := .long, accessFlags := 18, slot := 1, constantValue := 0 }]
  methods := #[k5m0, k5m1]
  instanceTypes := #[.long, .long]
  staticTypes := #[]
  resolved := Array.replicate 106 none
  statics := none }

def pool6 : Array CpInfo := pool [(1, u "java/lang/Cloneable"), (0, .class_ 1), (0, u "java/lang/Object"), (0, .class_ 3)] 3

/-- java/lang/Cloneable -/
def k6 : Class := { plain "java/lang/Cloneable" (some 0) with
  accessFlags := 1537
  interfaces := #[]
  cf := some (fileOf pool6 2 #[] #[] 1537 4 #[] #[])
  fields := #[]
  methods := #[]
  instanceTypes := #[]
  staticTypes := #[]
  resolved := Array.replicate 8 none
  statics := none }

def pool7 : Array CpInfo := pool [(1, u "java/io/Serializable"), (0, .class_ 1), (0, u "java/lang/Object"), (0, .class_ 3)] 3

/-- java/io/Serializable -/
def k7 : Class := { plain "java/io/Serializable" (some 0) with
  accessFlags := 1537
  interfaces := #[]
  cf := some (fileOf pool7 2 #[] #[] 1537 4 #[] #[])
  fields := #[]
  methods := #[]
  instanceTypes := #[]
  staticTypes := #[]
  resolved := Array.replicate 8 none
  statics := none }

/-- the primitive byte -/
def k8 : Class := { plain "byte" none with kind := .primitive 'B', accessFlags := 0x411 }
/-- [B -/
def k9 : Class := { plain "[B" (some 0) with kind := .array 8 .byte, interfaces := #[6, 7], accessFlags := 1041 }

/-- the primitive int -/
def k10 : Class := { plain "int" none with kind := .primitive 'I', accessFlags := 0x411 }
/-- [I -/
def k11 : Class := { plain "[I" (some 0) with kind := .array 10 .int, interfaces := #[6, 7], accessFlags := 1041 }

def heap : Heap := #[]
def classes : Array Class := #[k0, k1, k2, k3, k4, k5, k6, k7, k8, k9, k10, k11]
def interned : List (Array UInt16 × Addr) := []
def slotsUsed : Nat := 0
def theMethod : MethodId := ⟨1, 1⟩
def args0 : Array Value := #[.long 5, .long 7, .int 2]
def aboutOver (below : List Frame) : State where
  vm := { classes := classes, interned := interned.toArray }
  heap := heap
  slotsUsed := slotsUsed
  threads := #[{ frames := .invoking theMethod args0 :: below }]
def below0 : List Frame := [.native { method := ⟨0, 0⟩, args := #[] }]
def about1 : State := aboutOver below0
def p0 : Program := .bare "" "" ""
def e0 : Env := launch0.env 0 0 0
theorem w_frames : about1.frames = Frame.invoking theMethod args0 :: below0 := rfl
set_option maxRecDepth 65536 in
theorem w_args : argsFit about1.vm theMethod args0 = true := by decide +kernel
set_option maxRecDepth 65536 in
theorem w_heap : heapFits about1 = true := by decide +kernel
set_option maxRecDepth 65536 in
theorem w_runnable : about1.curStatus? = some .runnable := by decide +kernel
set_option maxRecDepth 65536 in
theorem w_alone : about1.alone = true := by decide +kernel
set_option maxRecDepth 65536 in
theorem w_named : about1.methodNamed? x = some theMethod := by decide +kernel
set_option maxRecDepth 65536 in
theorem w_hears : about1.hears theMethod below0 = true := by decide +kernel
set_option maxRecDepth 65536 in
theorem w_ripe : about1.ripe theMethod args0 below0 = true := by decide +kernel
theorem w_running : about1.status = .running := rfl
set_option maxRecDepth 65536 in
theorem w_room : about1.hasRoom e0.platform room_1 = true :=
  launch0.hasRoom_least _ room_1 (by decide +kernel) (by decide +kernel) (by decide +kernel) (by decide +kernel) (by decide +kernel) (by decide +kernel)
theorem allAtoms_all (ts : List Jvm.Cond) (a : Array Jvm.Value) (st : Jvm.State) : (allAtoms ts).before a st = ts.all (fun c => c.before a st) := by
  induction ts with
  | nil => rfl
  | cons c t ih =>
    show (Jvm.Cond.and c (allAtoms t)).before a st = _
    rw [Jvm.Cond.before_and, ih, List.all_cons]
def words1 : List Jvm.Cond := Jvm.Cond.code x code maxLocals ret :: tables_1
/-- a 'code' word, met by the world's own term for the bytes: nothing is compared byte by byte -/
theorem code_word {y : MethodName} {bytes : ByteArray} {mx : Nat} {rt : Option FieldType} {a : Array Value} {s : State} {m : MethodId} {meth : Method} {c : Code} (h1 : s.methodNamed? y = some m) (h2 : s.vm.method? m = some meth) (h3 : meth.code = some c) (h4 : c.code = bytes)
    (h5 : (c.maxLocals == mx && c.exceptionTable.isEmpty && decide (c.maxStack ≤ mostOperands) && decide (meth.sig.returnType = rt) && !meth.locks && decide (parseMethodDescriptor y.desc = some meth.sig)) = true) : (Jvm.Cond.code y bytes mx rt).before a s = true := by
  simp only [Bool.and_eq_true, beq_iff_eq, Bool.not_eq_true', decide_eq_true_eq] at h5
  obtain ⟨⟨⟨⟨⟨g1, g2⟩, g3⟩, g4⟩, g5⟩, g6⟩ := h5
  simp [Cond.before, Cond.holds, Cond.value, h1, h2, h3, h4, g1, g2, g3, g4, g5, g6]
def isCode : Jvm.Cond → Bool
  | .code _ _ _ _ => true
  | _ => false
theorem all_split {L : List Jvm.Cond} {P : Jvm.Cond → Bool} (h1 : L.all (fun c => isCode c || P c) = true) (h2 : ∀ c ∈ L.filter isCode, P c = true) : L.all P = true := by
  refine List.all_eq_true.mpr fun c hc => ?_
  have h := List.all_eq_true.mp h1 c hc
  rcases Bool.eq_false_or_eq_true (isCode c) with hi | hi
  · exact h2 c (List.mem_filter.mpr ⟨hc, hi⟩)
  · simpa [hi] using h
set_option maxRecDepth 65536 in
theorem w_c0 : (Jvm.Cond.code x code maxLocals ret).before args0 about1 = true := code_word (m := ⟨1, 1⟩) (meth := k1m1) (c := k1c1) (by decide +kernel) rfl rfl rfl (by decide +kernel)
set_option maxRecDepth 65536 in
theorem w_c1 : (Jvm.Cond.code ({ cls := "java/lang/Math", name := "min", desc := "(JJ)J" } : Jvm.MethodName) jdk_29_method_70_code (4 : Nat) (Option.some Jvm.ClassFile.FieldType.long)).before args0 about1 = true := code_word (m := ⟨2, 2⟩) (meth := k2m2) (c := k2c2) (by decide +kernel) rfl rfl rfl (by decide +kernel)
set_option maxRecDepth 65536 in
theorem w_c2 : (Jvm.Cond.code ({ cls := "java/lang/Math", name := "max", desc := "(JJ)J" } : Jvm.MethodName) jdk_29_method_66_code (4 : Nat) (Option.some Jvm.ClassFile.FieldType.long)).before args0 about1 = true := code_word (m := ⟨2, 1⟩) (meth := k2m1) (c := k2c1) (by decide +kernel) rfl rfl rfl (by decide +kernel)
set_option maxRecDepth 65536 in
theorem w_c3 : (Jvm.Cond.code ({ cls := "com/example/triplesmith/triplesmith/script/Sampler$UniformInteger", name := "<init>", desc := "(JJ)V" } : Jvm.MethodName) prog_64_method_1_code (5 : Nat) (Option.none : Option Jvm.ClassFile.FieldType)).before args0 about1 = true := code_word (m := ⟨5, 0⟩) (meth := k5m0) (c := k5c0) (by decide +kernel) rfl rfl rfl (by decide +kernel)
set_option maxRecDepth 65536 in
theorem w_c4 : (Jvm.Cond.code ({ cls := "java/lang/Record", name := "<init>", desc := "()V" } : Jvm.MethodName) jdk_30_method_1_code (1 : Nat) (Option.none : Option Jvm.ClassFile.FieldType)).before args0 about1 = true := code_word (m := ⟨3, 0⟩) (meth := k3m0) (c := k3c0) (by decide +kernel) rfl rfl rfl (by decide +kernel)
set_option maxRecDepth 65536 in
theorem w_c5 : (Jvm.Cond.code ({ cls := "java/lang/Object", name := "<init>", desc := "()V" } : Jvm.MethodName) object_method_1_code (1 : Nat) (Option.none : Option Jvm.ClassFile.FieldType)).before args0 about1 = true := code_word (m := ⟨0, 0⟩) (meth := k0m0) (c := k0c0) (by decide +kernel) rfl rfl rfl (by decide +kernel)
set_option maxRecDepth 65536 in
theorem w_c6 : (Jvm.Cond.code ({ cls := "com/example/triplesmith/triplesmith/script/Sampler$UniformInteger", name := "size", desc := "()J" } : Jvm.MethodName) prog_64_method_3_code (3 : Nat) (Option.some Jvm.ClassFile.FieldType.long)).before args0 about1 = true := code_word (m := ⟨5, 1⟩) (meth := k5m1) (c := k5c1) (by decide +kernel) rfl rfl rfl (by decide +kernel)
def codes1 : List Jvm.Cond := [Jvm.Cond.code x code maxLocals ret, Jvm.Cond.code ({ cls := "java/lang/Math", name := "min", desc := "(JJ)J" } : Jvm.MethodName) jdk_29_method_70_code (4 : Nat) (Option.some Jvm.ClassFile.FieldType.long), Jvm.Cond.code ({ cls := "java/lang/Math", name := "max", desc := "(JJ)J" } : Jvm.MethodName) jdk_29_method_66_code (4 : Nat) (Option.some Jvm.ClassFile.FieldType.long), Jvm.Cond.code ({ cls := "com/example/triplesmith/triplesmith/script/Sampler$UniformInteger", name := "<init>", desc := "(JJ)V" } : Jvm.MethodName) prog_64_method_1_code (5 : Nat) (Option.none : Option Jvm.ClassFile.FieldType), Jvm.Cond.code ({ cls := "java/lang/Record", name := "<init>", desc := "()V" } : Jvm.MethodName) jdk_30_method_1_code (1 : Nat) (Option.none : Option Jvm.ClassFile.FieldType), Jvm.Cond.code ({ cls := "java/lang/Object", name := "<init>", desc := "()V" } : Jvm.MethodName) object_method_1_code (1 : Nat) (Option.none : Option Jvm.ClassFile.FieldType), Jvm.Cond.code ({ cls := "com/example/triplesmith/triplesmith/script/Sampler$UniformInteger", name := "size", desc := "()J" } : Jvm.MethodName) prog_64_method_3_code (3 : Nat) (Option.some Jvm.ClassFile.FieldType.long)]
set_option maxRecDepth 65536 in
theorem codes_eq : words1.filter isCode = codes1 := rfl
theorem w_codes : ∀ c ∈ words1.filter isCode, c.before args0 about1 = true := by
  rw [codes_eq]
  intro c hc
  simp only [codes1, List.mem_cons, List.not_mem_nil, or_false] at hc
  rcases hc with rfl | rfl | rfl | rfl | rfl | rfl | rfl
  · exact w_c0
  · exact w_c1
  · exact w_c2
  · exact w_c3
  · exact w_c4
  · exact w_c5
  · exact w_c6
set_option maxRecDepth 65536 in
theorem w_t1 : (words1.take 24).all (fun c => isCode c || c.before args0 about1) = true := by decide +kernel
set_option maxRecDepth 65536 in
theorem w_t2 : (words1.drop 24).all (fun c => isCode c || c.before args0 about1) = true := by decide +kernel
theorem w_tables : (allAtoms (Jvm.Cond.code x code maxLocals ret :: tables_1)).before args0 about1 = true := by
  rw [allAtoms_all]
  show words1.all (fun c => c.before args0 about1) = true
  refine all_split ?_ w_codes
  rw [← List.take_append_drop 24 words1, List.all_append, w_t1, w_t2]
  rfl
set_option maxRecDepth 65536 in
theorem w_case : (Jvm.Cond.and given_1 narrow_1).before args0 about1 = true := by decide +kernel
theorem w_applies : (headSpec (Jvm.Cond.code x code maxLocals ret :: tables_1) room_1).applies x e0.platform about1 = true :=
  (Spec.applies_iff w_frames).mpr ⟨w_running, w_runnable, w_alone, w_named, w_hears, w_ripe, w_room, w_tables⟩
theorem atStart : AtStart classFile x code maxLocals ret World_1 tables_1 room_1 Calls_1 rest_1 Pre_1 launch0 p0 e0 about1 theMethod args0 below0 :=
  ⟨lists_1, trivial, launch0.admits_env _ _ _, launch0.least_env, fairChoices_fair.cas, fairChoices_fair.clock, w_frames, w_args, w_heap, w_applies, trivial, trivial, w_case⟩
end start1
theorem witness_1 : WitnessClaimed_1 := ⟨start1.p0, start1.e0, start1.about1, start1.theMethod, start1.args0, start1.below0, start1.atStart⟩
end Jvm.Pilot.@@N@@
